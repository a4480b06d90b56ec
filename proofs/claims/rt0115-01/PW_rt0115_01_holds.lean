import PyProof.Rows.All
import Lean
import Wide.All
import OpenK.AllK
import Wide.FinOn
import Open.Tops
import KE.KSortTup
import KE.KLam
import PySem.Challenge.RW_rt0115_01
open PySem PySem.Spec PySem.Calls PyProof.Rows PySem.W
open _root_.Array renaming length_toList->kh,getD_eq_getD_getElem?->lQ,toList_inj->nb,getElem?_toList->oH,getElem?_eq_getElem->oX,toList_append->o9,toList_map->pP,toArray_toList->p0,size_map->qF,toList_push->qR,mk->rZ,getElem?_eq_none->vk,getD->wc,ext'->wd,empty_append->we,getElem_mem->wm,toList_zip->wF,size_push->wY
open Array.Perm renaming refl->sR
open _root_.Bool renaming and_eq_true->kJ,rec->lf,false_ne_true->lg,noConfusion->lK,false_eq_true->nh,and_true->oE,not_eq_true'->oM,eq_false_iff->pG,eq_iff_iff->qf,or_eq_true->rN,or_eq_false_iff->sg,and_eq_true_iff->sh,true_and->sL,and_eq_false_iff->vM
open Classical renaming byContradiction->tR,not_imp->vp
open False renaming elim->ro
open ForInStep renaming yield->te,done->wb
open _root_.Int renaming toNat_natCast->kr,fdiv_eq_ediv_of_nonneg->kC,fmod_nonneg_of_pos->kK,fmod_eq_emod_of_nonneg->kQ,fmod_lt_of_pos->lh,ofNat_lt->mG,natCast_nonneg->oC,pow_nonneg->oV,eq_ofNat_of_zero_le->pv,ediv_nonneg->qm,zero_add->qD,add_zero->qE,le_of_lt->rM,pow_pos->sy,zero_mul->tF,ofNat_le->tG,mul_zero->tH,mul_comm->tI,lt_trans->tJ,mul_le_mul_of_nonneg_left->ul,mul_add->um,mul_nonneg->uW,ofNat->vo,neg_eq_neg_one_mul->vK,ne_of_gt->vL,natCast_emod->xl,min_eq_right->xm,max_eq_right->xn,natCast_mul->xD,natCast_add->xE,min_eq_left->xF
open Int.ofNat renaming inj->rR
open Lean renaming Syntax->qc
open Lean.Parser.Tactic renaming tacticSeq1Indented->wV,tacticSeq->wW,tacticRfl->wX
open Lean.Unhygienic renaming run->qU
open _root_.List renaming mem_cons->jG,mem_singleton->jH,length_map->jI,getElem?_eq_some_iff->jK,getElem?_eq_getElem->jP,mem_append->jU,length_append->jZ,length_cons->j7,getElem?_map->j8,mem_filter->j9,range->kd,toArray->ke,mem_map->kn,mem_of_getElem?->kt,all_eq_true->ky,map_append->kz,append_nil->kF,size_toArray->kI,map_cons->kM,take_add_one->kN,mem_append_right->kO,replicate->kW,length_take->lm,length_nil->ln,flatMap_cons->lq,mem_flatMap->lr,take_length->lz,all_cons->lC,length_range->lG,mem_append_left->lM,getElem?_set_self->lN,getElem?_set_ne->lO,map_congr_left->lS,append_assoc->l5,nodup_cons->md,find?_cons->me,getElem?_inj->mn,foldl_append->mq,mem_range->mr,map_map->ms,flatMap_append->mF,getD->mU,forIn_cons->mV,foldl_cons->mW,rec->mY,sum_replicate_nat->m9,pairwise_iff_getElem->nB,mem_of_find?_eq_some->nE,length_set->nJ,pairwise_append->nK,pairwise_singleton->nX,not_mem_nil->nY,flatMap_nil->nZ,pairwise_cons->ow,getElem?_mapIdx->oU,getElem?_append_left->o8,filter_sublist->pb,nil_append->ph,getElem_range->pk,pairwise_map->pE,pairwise_lt_range->pF,take_append_drop->pN,length_singleton->pO,eq_nil_of_length_eq_zero->p8,map_nil->qr,mem_filterMap->qJ,map->qK,getElem?_drop->qL,lookup_cons->q9,length_drop->rf,take_of_length_le->rq,range_succ->rK,map_const'->rL,contains_iff_mem->rQ,forall_mem_cons->sf,toList_toArray->sG,length_reverse->sH,zip_cons_cons->sO,forIn_toArray->sP,filter_append->sQ,nodup_append->tz,getElem_mem->tP,cons_append->tQ,nodup_nil->uG,isPrefixOf_iff_prefix->uH,getElem?_append_right->uI,forIn_nil->uJ,foldl_nil->uK,getElem?_zip_eq_some->uV,filterMap_cons_some->u8,filterMap_cons_none->va,any_cons->vb,length_eq_zero_iff->vj,all_nil->vn,perm_append_comm->vG,length_filter_le->vH,eq_replicate_iff->vJ,mem_iff_getElem->vR,replicate_succ->v9,filterMap_cons->wa,reverse_cons->wE,range'_succ->wN,mem_reverse->wO,map_snd_zip->wP,map_fst_zip->wQ,map_flatMap->wR,ext_getElem->wS,any_toArray->wT,any_eq_true->wU,of_mem_zip->xj,mem_mapIdx->xk,drop_zero->xC
open List.Nodup renaming sublist->p9
open List.Pairwise renaming filter->uf
open List.Perm renaming append_left->uL,trans->vT
open List.Sublist renaming map->pn
open List.cons renaming inj->wl
open _root_.Nat renaming le_refl->jN,le_of_ble_eq_true->jT,zero_le->kf,le_trans->kL,lt_irrefl->lp,ne_of_lt->lw,le_add_right->lY,lt_succ_self->mi,blt->mw,lt_of_lt_of_le->mP,mod_mul_right_div_self->nk,lt_of_le_of_lt->nq,eq_of_beq_eq_true->nu,pow_le_pow_right->nM,le_of_not_lt->og,sub_add_cancel->oB,add_comm->oZ,div_add_mod->pj,not_lt->pq,mod_lt->pr,lt_add_of_pos_right->pt,mul_comm->pH,le_succ_of_le->pJ,le_of_lt->pK,sub_le->pY,mod_eq_of_lt->pZ,mul_assoc->p7,div_lt_of_lt_mul->qd,testBit_and->qk,not_lt_zero->ql,beq->qC,mod_mod_of_dvd->qP,le_succ->qX,succ_ne_self->rh,le_add_left->rP,le_div_iff_mul_le->rX,ble_eq_true_of_le->rY,eq_of_testBit_eq->sx,add_lt_add_left->sK,add_sub_cancel->td,zero_add->tB,succ_mul->tC,le_of_eq->tD,add_zero->tE,succ_le_succ->ub,not_lt_of_le->uc,div_eq_of_lt->ud,div_add_mod'->ue,sub_mod_eq_zero_of_mod_eq->uk,mul_add_mod->uz,mul_add_div->uA,min_eq_left->uB,sub_zero->vE,lt_of_succ_lt_succ->vF,testBit->v4,one_pos->v5,mul_le_mul_right->v6,log2_lt->v7,add_mul->v8,sub_right_comm->wC,eq_zero_or_pos->wD,lt_succ_of_le->wK,le_of_lt_succ->wL,add_sub_assoc->wM,shiftLeft_eq->xh,min_eq_right->xi,le_antisymm->xB
open Nat.succ renaming inj->qW
open Ne renaming symm->ll
open OfNat renaming ofNat->vD
open _root_.Option renaming map_eq_some_iff->j6,bind_eq_some_iff->mT,toList_some->om,isSome_iff_exists->uF,rec->vQ,getD_none->wj
open Option.some renaming inj->kR
open PyProof renaming noPylong_of_log2->uy
open PyProof.Rows renaming MethodCall_->mh,get?_update_seq->oP,slot_tupleiter_next->pp,args_nil->pX,listUpdate_at->qq,Call_->qQ,Attribute_Name_->sF,IntsAre->tw,Subscript_->ua,IsTupIter->uU,seqEpoch_at->u0,bubble_size->u7,tail_any->vA,failedOf->vB,IsTup->vC,pairsOf->wz,listItems_at->wA,Assign_Tuple->wB,entry_tupleiter_next->xg,args_tupleiter_next->xA
open PyProof.Rows.SortSt renaming mk'->sD
open PySem renaming wpAny_bind->jA,Value->jB,Params->jC,Shared->jE,wpAny_pure->jJ,Addr->jL,PyData->jO,World->jW,Str->jX,Heap->jY,wpAny_execs_cons->kg,Builtin->km,Around->kA,wpAny_holding->kE,Expr->kH,callWith->kX,Keeps->kY,builtinLookup_eq_fast->kZ,keywordEach->lu,wpAny_of_eq->ly,Program->lD,wpAny_call_entry->lH,wpAny_assign_Name->lI,OsState->lJ,wpAny_mono->lR,typeLookup_type->lT,wpAny_execs_nil->lZ,bindArgs->l3,wpAny_Assign_Name->l6,backToKw->l8,Stmt->l9,Pos->mf,holding->ml,wpAny_loadName_local->mC,isSubtype_type->mJ,getMethod_builtin->mK,mainGlobals->mN,strKind->mO,standAt->mQ,wpAny_call->mS,wpAny_seqItems->mX,wpAny_callSpecial?_slot->mZ,slotArgs->nc,swappedStores->nt,getMethod->nv,DictEntry->ny,wpAny_Name->nF,wpAny_Expr_any->nG,Obj->nH,wpAny_truthy_bool->nO,wpAny_field->nQ,FuncData->nU,wpAny_loadName_cell->on,wpAny_loadPart->oz,wpAny_Assign_two->oA,wpAny_isTrue_value->oJ,wpAny_newObj_type->oW,callWith_type->oY,wpAny_eqBool_int->pf,wpAny_attempt->pA,codeAny_builtin->pD,intKind->pQ,wpAny_Return_some->pT,getAttr->pU,checkBoundCall->pV,wpAny_isTrue_Compare1->qe,treeTable->qg,builtinKind->qt,swapsWith->qV,wpAny_newFunctionEnv_cells->qY,strKind_is->qZ,wpAny_standAt->rt,wpAny_comprehension_free->rA,wpAny_assignInOrder_more->rB,wpAny_list_append_plain->rT,seqItems?->rU,entryFor_of_tree->rV,wpAny_typeOf->sk,wpAny_rule->so,wpAny_load->sq,wpAny_allTrue_And_cons->sr,argsOk->su,wpAny_updateSeq->sA,getAttrByItsOwn->sB,wpAny_setField->sT,firstArgMember->sU,codeAny_call_builtin->sV,Scope->sX,Result->sY,operate->th,swapsWithSole->tK,plainId_quiet->tL,Model->tM,wpAny_pyIter_tuple->tS,wpAny_List_spliced->tT,wpAny_Constant_str->tU,wpAny_isNot_plain->un,wpAny_If->uo,slot_list_getitem->uq,entryFor->ur,Tok->ut,BindsTo->ux,plainObj_wpAny_Assign_Attribute->uD,intKind_is->uM,TriplesOk->uP,Flow->uR,wpAny_letGo->uX,wpAny_specialOf->vc,letOwnedTupleGo->vd,codeAny_of_tree->ve,Sem->vg,wpAny_tryCatch->vq,wpAny_is_plain->vr,typeIs_str->vt,closureFor->vu,NameKind->vy,GenState->vz,codeAny_call_builtin_code->vN,wpAny_newList->vU,wpAny_getItem_list_slice->vV,signature?_of->vW,intBits_le_64->vX,assignInOrder->vY,updateSeq->wf,wpAny_mkText->wn,splitId->wo,meets_dict_get_default->wq,callAny->wt,bootBuiltins->wu,wpAny_Subscript_Slice->wG,codeAny_call_function->wH,wpAny_Slice->wZ,richCompare->w0,loadHead->w6,intItems->w7,compEnvC->w8,wpAny_isTrue_BoolOp->xq,wpAny_Tuple_spliced->xr,wpAny_Constant_none->xt,codeAny_forLoop_any->xu,builtinType_eq_fast->xv,bindSpecialIfBound?->xw,Env->xy
open PySem.Around renaming under_plainId->nz
open PySem.AutoSeq1 renaming wpAny_loadPart'->oI
open PySem.Bind renaming checkArgs->qI,madeBy->se,staticBase->uj
open PySem.Builtin renaming bitAnd->kc,bitOr->ou,bitXor->oK
open PySem.Builtin.Bytes renaming hexDigit->mv,toUpper->qO
open PySem.Builtin.Frozenset renaming withSetAsKey->xd,oneOther->xe,addrOf->xf
open PySem.Builtin.Int renaming intBits->rg
open PySem.Builtin.List renaming listExtendWith->pL,listUpdate->qp,listSameRef->tm,listItems->tO
open PySem.Builtin.ObjectAttr renaming attrName->wJ
open PySem.Builtin.Range renaming rangeSize->kG,small->mz,rangeFitsLong->sC
open PySem.Builtin.SmallTypes renaming nextOf->oa
open PySem.Calls renaming Name_function_global->sZ
open PySem.Challenge renaming pw_rt0115_01->jM,rw_rt0115_01->po
open PySem.ClassData renaming mk->uw
open PySem.Code renaming body->lE,quiet_builtin->sM
open PySem.Data renaming noConfusion->jS,plain->pS,func->sv,dict->vi,cls->xz
open PySem.DictEntry renaming val->wi
open PySem.Expr renaming Name->ku,Tuple->oq,Subscript->uE
open PySem.F renaming plain_extend_loop->oS,slot_set_getattribute->pM,slot_dict_setdefault->tA,entry_extend_loop->ui,slot_tuple_len->uS,entry_dict_get->uT,slot_tuple_lt->uY,slot_dict_get->uZ
open PySem.Flow renaming next->nI
open PySem.FuncBody renaming stmts->pi
open PySem.FuncData renaming mk->qB
open PySem.Heap renaming get?_push_of_some->jF,get?_push_size->jQ,lt_size->kq,get?_update_ne->mj,get?_update_self->mM,size_push->mR,SameBut->oo,dictOf_iff->pg,get?_none_of_le->sa,ExtBut->tZ
open PySem.Heap.DictOf renaming new->sJ
open PySem.Heap.IsSliceOf renaming new->q8
open PySem.Heap.SameBut renaming update->ma
open PySem.IsRange renaming new->vh
open PySem.Manifest renaming signature?->oQ,varargsMethods->uu
open PySem.NameKind renaming noConfusion->oh
open PySem.Obj renaming mapSeq->kB,mk->nN,data_mapFields->qN,isFreed_of_fields->vP,cls_mapFields->wI
open PySem.PyData renaming strOk->lV,int->lX,str->oN,keyHash->qo,canLayAll0->qM,eqv->ug,canLay0->uh,depthAll->wy,depth->xx
open PySem.Sem renaming wp_mono->vZ,wp_cmd_standAt->wx
open PySem.SeqAt renaming shaped->pB,canLay_of_shaped->pC
open PySem.SetTable renaming fresh->wh
open PySem.Str renaming ofString->jz,empty->mH,length->sW,append_empty->tY,ext'->uQ
open PySem.Txt renaming join->mE
open PySem.Value renaming none->jD,int->jR,type->jV,bool->ko,ref->kx,str->kT,builtin->lF,noConfusion->qA,bytes->vx
open PySem.W renaming behindTheImports->lU,Looks->mD,topFrame->nR,boot_o_1->pe,looks_findIn->pW,tabObj->qh,boot_heap->qj,piecesOf->qw,looks_mroIn->qz,typeIs_bytes->qS,boot_o_10->qT,segRunT->rp,boot_o_9->rC,boot_o_8->rD,boot_o_7->rE,boot_o_6->rF,boot_o_5->rG,boot_o_4->rH,boot_o_2->rI,boot_o_0->rJ,methodObj->rW,codeRec_of->tV,check_slot->tW,callWith_K->tX,segRun_of->uN,piece_app->uO,SharedT->vm,findIn->vv,boot_drawn->vw,boot_toks->wg,takerIn->wv,KTurns->ww,plainGet_of->w9,looks_clsIn->xa,kat_cons->xb,callWith_K0->xc
open PySem.W.BT renaming node->jy
open PySem.W.Fast renaming tw14364793385576792824->m0,tw10110043849684766642->m6,te14364793385576792824->m7,te10110043849684766642->m8,tw4202317264376624991->ng
open PySem.W.KTurns renaming ofWalks->rO
open PySem.W.Looks renaming ld->oO,of_pure->pR
open PySem.W.SharedT renaming abs->qH
open PySem.callAny renaming viaDunder->vO
open Std.Legacy.Range renaming forIn_eq_forIn_range'->qG,size->xo
open True renaming intro->uC
set_option Elab.async false
set_option maxRecDepth 100000
set_option maxHeartbeats 0
set_option linter.unusedVariables false
set_option genInjectivity false
set_option genSizeOf false
set_option backward.match.sparseCases false
set_option backward.eqns.nonrecursive false
set_option bootstrap.genMatcherCode false
set_option tactic.hygienic false
set_option compiler.extract_closed false
noncomputable section
namespace Mine
def tq (s:Lean.Syntax):Lean.Syntax:=.node .none `Lean.Parser.Tactic.tacticSeq #[.node .none `Lean.Parser.Tactic.tacticSeq1Indented #[.node .none `null #[s]]]
def aR:Lean.Syntax:=tq (.node .none `Lean.Parser.Tactic.tacticRfl #[.atom .none "rfl"])
def aK:Lean.Syntax:=tq (.node .none `tacticKernel_rfl #[.atom .none "kernel_rfl"])
def aN:Lean.Syntax:=tq (Lean.Unhygienic.run `(tactic| exact Nat.le_of_ble_eq_true rfl))
def aD:Lean.Syntax:=tq (Lean.Unhygienic.run `(tactic| decide +kernel))
def aI:Lean.Syntax:=tq (Lean.Unhygienic.run `(tactic| (intros;rfl)))
theorem B6{α:Type}{a:α}{P:Prop}(h:none=some a):P:=nomatch h
theorem XK{α:Type}{a:α}{P:Prop}(h:some a=none):P:=nomatch h
theorem si{α:Type}{a b:α}(h:some a=some b):a=b:=kR h
theorem sj{α:Type}{a b:α}(h:some a=some b):b=a:=(kR h).symm
theorem B0{α:Type}{o:Option α}{a:α}{P:Prop}(h:o=none)(k:o=some a):P:=B6 (h.symm.trans k)
theorem CQ{α:Type}{o:Option α}{a b:α}(h:o=some a)(k:o=some b):a=b:=si (h.symm.trans k)
set_option genSizeOf false in
set_option genInjectivity false in
inductive Tt where
 | v (i:Nat)|k (n:Nat)|b (o:Nat) (x y:Tt)
namespace Ar
noncomputable def F5 {α:Type} (d:α) (l:List α) (i:Nat):α:=mY (motive:=λ_=>Nat->α) (λ_=>d) (λx _ ih i=>Nat.rec x (λj _=>ih j) i) l i
noncomputable def sw {α:Sort _} (o n:Nat) (x y:α):α:=lf y x (qC o n)
theorem DE{α:Sort _}{o n:Nat}{x y:α}(P:α->Prop)(h:o=n->P x)(h':o≠n->P y):P (sw o n x y):=by
 unfold sw
 cases e:qC o n with
 | true=>exact h (nu e)
 | false=>exact h' (Nat.ne_of_beq_eq_false e)
noncomputable def ev (N:List Nat) (I:List Int) (t:Tt):Nat×Int:=
 Mine.Tt.rec (λi=>(F5 0 N i,F5 0 I i)) (λn=>(n,(n:Int))) (λo _ _ x y=>
  sw o 0 (x.1+y.1,x.2+y.2) <| sw o 1 (x.1-y.1,x.2-y.2) <| sw o 2 (x.1*y.1,x.2*y.2) <| sw o 3 (x.1/y.1,x.2/y.2) <|
  sw o 4 (x.1%y.1,x.2%y.2) <| sw o 5 (min x.1 y.1,min x.2 y.2) <| sw o 7 (0,(x.1:Int)) <| sw o 8 (x.2.toNat,0) (0,-x.2)) t
noncomputable def Hr (N:List Nat) (I:List Int) (t:Tt):Prop:=
 Mine.Tt.rec (λ_=>True) (λ_=>False) (λo x y p q=>
  sw o 0 ((ev N I x).1<=(ev N I y).1) <| sw o 1 ((ev N I x).1<(ev N I y).1) <| sw o 2 ((ev N I x).1=(ev N I y).1) <|
  sw o 3 ((ev N I x).2<=(ev N I y).2) <| sw o 4 ((ev N I x).2<(ev N I y).2) <| sw o 5 ((ev N I x).2=(ev N I y).2) <|
  sw o 6 (p/\q) <| sw o 7 (p\/q) (p->q)) t
noncomputable abbrev L:=Int×List Int
noncomputable def Id (c v:List Int):Int:=mY (motive:=λ_=>List Int->Int) (λ_=>0) (λa _ ih v=>mY 0 (λb v _=>a*b+ih v) v) c v
noncomputable def Xu (x y:List Int):List Int:=mY (motive:=λ_=>List Int->List Int) (λy=>y) (λa x ih y=>mY (a::x) (λb y _=>(a+b)::ih y) y) x y
noncomputable def fQ (k:Int) (x:List Int):List Int:=mY [] (λa _ ih=>k*a::ih) x
theorem Xi(x y v:List Int):Id (Xu x y) v=Id x v+Id y v:=by
 induction x generalizing y v with
 | nil=>exact(qD _).symm
 | cons a x ih=>cases y with
  | nil=>exact(qE _).symm
  | cons b y=>cases v with
   | nil=>rfl
   | cons c v=>
    show(a+b)*c+Id (Xu x y) v=(a*c+Id x v)+(b*c+Id y v)
    rw[ih y v,Int.add_mul];ac_rfl
theorem YW(k:Int)(x v:List Int):Id (fQ k x) v=k*Id x v:=by
 induction x generalizing v with
 | nil=>exact(tH _).symm
 | cons a x ih=>cases v with
  | nil=>exact(tH _).symm
  | cons c v=>
   show k*a*c+Id (fQ k x) v=k*(a*c+Id x v)
   rw[ih v,um,Int.mul_assoc]
noncomputable def V (v:List Int) (l:L):Int:=l.1+Id l.2 v
noncomputable def WH (x y:L):L:=(x.1+y.1,Xu x.2 y.2)
noncomputable def XM (k:Int) (x:L):L:=(k*x.1,fQ k x.2)
theorem XD(v:List Int)(x y:L):V v (WH x y)=V v x+V v y:=by
 show x.1+y.1+Id (Xu x.2 y.2) v=(x.1+Id x.2 v)+(y.1+Id y.2 v)
 rw[Xi];ac_rfl
theorem PP(v:List Int)(k:Int)(x:L):V v (XM k x)=k*V v x:=by
 show k*x.1+Id (fQ k x.2) v=k*(x.1+Id x.2 v)
 rw[YW,um]
noncomputable def FK (i:Int):Bool:=Int.rec (λ_=>false) (λ_=>true) i
noncomputable def GH (i:Int):Bool:=Int.rec (λn=>mw 0 n) (λ_=>false) i
theorem Ku{i:Int}(h:FK i=true):i<0:=by
 cases i with
 | ofNat n=>cases h
 | negSucc n=>exact Int.negSucc_lt_zero n
theorem U1{i:Int}(h:GH i=true):0<i:=by
 cases i with
 | ofNat n=>exact mG.mpr (jT h)
 | negSucc n=>cases h
noncomputable def hd (l:L):Int:=mY 0 (λa _ _=>a) l.2
noncomputable def tl (l:L):L:=(l.1,mY [] (λ_ x _=>x) l.2)
noncomputable def cg (x:List Int):Nat:=mY 0 (λa _ ih=>Nat.gcd a.natAbs ih) x
noncomputable def VX (l:L):L:=
 lf l (l.1/(cg l.2:Int),mY [] (λa _ ih=>a/(cg l.2:Int)::ih) l.2) (mw 1 (cg l.2))
theorem aP(g:Nat)(v:List Int):∀(x:List Int),g ∣ cg x->Id x v=g*Id (mY [] (λa _ ih=>a/(g:Int)::ih) x) v:=by
 intro x
 induction x generalizing v with
 | nil=>intro _;exact(tH _).symm
 | cons a x ih=>
  intro h
  have h1:g ∣ a.natAbs:=Nat.dvd_trans h (Nat.gcd_dvd_left _ _)
  have h2:g ∣ cg x:=Nat.dvd_trans h (Nat.gcd_dvd_right _ _)
  cases v with
  | nil=>exact(tH _).symm
  | cons c v=>
   show a*c+Id x v=g*(a/g*c+Id _ v)
   rw[um,<-ih v h2,<-Int.mul_assoc,Int.mul_ediv_cancel' (Int.ofNat_dvd_left.mpr h1)]
theorem VW{v:List Int}{l:L}(h:0<=V v l):0<=V v (VX l):=by
 unfold VX
 cases e:mw 1 (cg l.2) with
 | false=>exact h
 | true=>
  have g0:(0:Int)<(cg l.2:Nat):=mG.mpr (Nat.lt_of_succ_lt (jT e))
  have h':=aP (cg l.2) v l.2 (Nat.dvd_refl _)
  unfold V at h ⊢
  rw[h'] at h
  show 0<=l.1/(cg l.2:Int)+_
  have:=qm h (rM g0)
  rw[Int.add_mul_ediv_left _ _ (vL g0)] at this
  exact this
noncomputable def aO (p n:L):L:=VX (tl (WH (XM (-(hd n)) p) (XM (hd p) n)))
noncomputable def wk (l:L):Bool:=FK l.1 || l.2.any λa=>FK a || GH a
noncomputable def fH (p n:L):Bool:=!FK (p.1+n.1)&&!GH (p.1+n.1)&&(Xu p.2 n.2).all λa=>!FK a&&!GH a
noncomputable def iP (ps ns:List L):Option L->List L:=
 vQ (ps.flatMap λp=>ns.map λn=>aO p n)
  λp=>vQ [] (λn=>(ns.map λm=>aO p m)++ps.map λq=>aO q n) (ns.find? (fH p))
noncomputable def js (ps ns:List L):Option L:=(ps.filter λp=>!GH (hd p-1)).find? λp=>ns.any (fH p)
noncomputable def fm (k:Nat) (cs:List L):Bool:=
 Nat.rec (motive:=λ_=>List L->Bool) (λcs=>cs.any λl=>FK l.1)
  (λ_ ih cs=>ih (((cs.filter λl=>!GH (hd l)&&!FK (hd l)).map tl++iP (cs.filter λl=>GH (hd l)) (cs.filter λl=>FK (hd l)) (js (cs.filter λl=>GH (hd l)) (cs.filter λl=>FK (hd l)))).filter wk)) k cs
theorem Yi{ps ns:List L}{o:Option L}(ho:∀p,o=some p->p∈ps){l:L}(h:l∈iP ps ns o):∃p n,p∈ps/\n∈ns/\l=aO p n:=by
 cases o with
 | none=>
  obtain⟨p,hp,h⟩:=lr.mp h
  obtain⟨n,hn,rfl⟩:=kn.mp h
  exact⟨p,n,hp,hn,rfl⟩
 | some p=>
  have h:l∈(vQ [] (λn=>(ns.map λm=>aO p m)++ps.map λq=>aO q n) (ns.find? (fH p)):List L):=h
  cases e:ns.find? (fH p) with
  | none=>rw[e] at h;exact nomatch h
  | some n=>
   rw[e] at h
   rcases jU.mp h with h|h
   ·obtain⟨m,hm,rfl⟩:=kn.mp h
    exact⟨p,m,ho p rfl,hm,rfl⟩
   ·obtain⟨q,hq,rfl⟩:=kn.mp h
    exact⟨q,n,hq,nE e,rfl⟩
theorem Uv(c:Int)(v:List Int)(l:L):V (c::v) l=hd l*c+V v (tl l):=by
 obtain⟨z,x⟩:=l
 cases x with
 | nil=>show z+0=0*c+(z+0);rw[tF,qD]
 | cons a x=>show z+(a*c+Id x v)=a*c+(z+Id x v);ac_rfl
theorem iA(v:List Int)(l:L)(h:GH (hd l)=false)(h':FK (hd l)=false)(c:Int):V v (tl l)=V (c::v) l:=by
 rw[Uv]
 have:hd l=0:=by
  cases e:hd l with
  | ofNat n=>
   rw[e] at h
   cases n with
   | zero=>rfl
   | succ n=>exact absurd h (by show ¬mw 0 (n+1)=false;rw[show mw 0 (n+1)=true from rY (ub (kf n))];exact lK)
  | negSucc n=>rw[e] at h';cases h'
 rw[this,tF,qD]
theorem fj{c:Int}{v:List Int}{p n:L}(hp:0<hd p)(hn:hd n<0)(h1:0<=V (c::v) p)(h2:0<=V (c::v) n):0<=V v (aO p n):=by
 refine VW ?_
 have e:=Uv c v (WH (XM (-(hd n)) p) (XM (hd p) n))
 have e0:hd (WH (XM (-(hd n)) p) (XM (hd p) n))=0:=by
  obtain⟨z,x⟩:=p
  obtain⟨z',x'⟩:=n
  cases x with
  | nil=>exact absurd hp (Int.lt_irrefl 0)
  | cons a x=>
   cases x' with
   | nil=>exact absurd hn (Int.lt_irrefl 0)
   | cons b y=>
    show -b*a+a*b=0
    rw[Int.neg_mul,tI b a,Int.add_left_neg]
 rw[e0,tF,qD,XD,PP,PP] at e
 exact e▸Int.add_nonneg (uW (Int.neg_nonneg_of_nonpos (rM hn)) h1) (uW (rM hp) h2)
theorem ZE{k:Nat}{v:List Int}{cs:List L}(hv:v.length=k)(h:∀l∈cs,0<=V v l):fm k cs=false:=by
 induction k generalizing v cs with
 | zero=>
  obtain rfl:=p8 hv
  refine pG.mpr λe=>?_
  obtain⟨l,hl,e⟩:=wU.mp e
  have h1:=h l hl
  have:Id l.2 []=0:=by cases l.2<;>rfl
  unfold V at h1
  rw[this,qE] at h1
  exact absurd (Ku e) (Int.not_lt.mpr h1)
 | succ k ih=>cases v with
  | nil=>exact nomatch hv
  | cons c v=>
   refine ih (qW hv) λl hl=>?_
   rcases jU.mp (j9.mp hl).1 with hl|hl
   ·obtain⟨l',hl',rfl⟩:=kn.mp hl
    obtain⟨h1,h2⟩:=j9.mp hl'
    rw[kJ,oM,oM] at h2
    rw[iA v l' h2.1 h2.2 c];exact h _ h1
   ·obtain⟨p,n,hp,hn,rfl⟩:=Yi (λp e=>(j9.mp (nE e)).1) hl
    exact fj (U1 (j9.mp hp).2) (Ku (j9.mp hn).2) (h _ (j9.mp hp).1) (h _ (j9.mp hn).1)
noncomputable def bp (x:Tt):Tt->Bool:=Mine.Tt.rec (motive:=λ_=>Tt->Bool)
 (λi y=>Mine.Tt.rec (λj=>qC i j) (λ_=>false) (λ_ _ _ _ _=>false) y)
 (λi y=>Mine.Tt.rec (λ_=>false) (λj=>qC i j) (λ_ _ _ _ _=>false) y)
 (λo _ _ fx fy y=>Mine.Tt.rec (λ_=>false) (λ_=>false) (λp x y _ _=>qC o p&&(fx x&&fy y)) y) x
theorem bo:∀x y,bp x y=true->x=y:=by
 intro x
 induction x with
 | v i=>intro y h;cases y with
  | v j=>exact congrArg Tt.v (nu h)
  | k _=>cases h
  | b _ _ _=>cases h
 | k i=>intro y h;cases y with
  | k j=>exact congrArg Tt.k (nu h)
  | v _=>cases h
  | b _ _ _=>cases h
 | b o x y h1 h2=>intro z h;cases z with
  | v _=>cases h
  | k _=>cases h
  | b p x' y'=>
   have h:(qC o p&&(bp x x'&&bp y y'))=true:=h
   rw[kJ,kJ] at h
   rw[nu h.1,h1 _ h.2.1,h2 _ h.2.2]
noncomputable def uv (ks:List Tt) (t:Tt):Option (List Int):=mY none (λk _ ih=>lf (ih.map (0::·)) (some [1]) (bp k t)) ks
noncomputable def kk (s:Bool) (t:Tt):Tt:=lf t (.b 7 t (.k 0)) s
noncomputable def key (ks:List Tt) (s:Bool) (t:Tt):Option L:=(uv ks (kk s t)).map λl=>(0,l)
noncomputable def UT (x y:Option L):Option L:=x.bind λx=>y.map λy=>WH x y
noncomputable def Yl (k:Int) (x:Option L):Option L:=x.map (XM k)
noncomputable def Cj (x y:Option L):Option L:=UT x (Yl (-1) y)
noncomputable def oc (n:Int):Option L:=some (n,[])
noncomputable def eu (x y z:Option L):Option L:=x.bind λx=>y.bind λy=>mY (some (XM x.1 y)) (λ_ _ _=>mY (some (XM y.1 x)) (λ_ _ _=>z) y.2) x.2
noncomputable def Re (ks:List Tt) (t:Tt):Bool->Option L:=Mine.Tt.rec (motive:=λ_=>Bool->Option L) (λi s=>key ks s (.v i)) (λn s=>oc n) (λo x y fx fy s=>
 sw o 0 (UT (fx s) (fy s)) <| sw o 1 (lf (Cj (fx s) (fy s)) (key ks s (.b o x y)) s) <| sw o 2 (eu (fx s) (fy s) (key ks s (.b o x y))) <|
 sw o 7 (lf (fx true) (key ks s (.b o x y)) s) <| sw o 9 (lf (Yl (-1) (fx s)) (key ks s (.b o x y)) s) <| key ks s (.b o x y)) t
noncomputable def fL (t:Tt):Bool->List Tt:=Mine.Tt.rec (motive:=λ_=>Bool->List Tt) (λi s=>[kk s (.v i)]) (λ_ _=>[]) (λo x y fx fy s=>
 sw o 0 (fx s++fy s) <| sw o 1 (lf [] [kk s (.b o x y)] s++(fx s++fy s)) <| sw o 2 (fx s++(fy s++[kk s (.b o x y)])) <|
 sw o 3 (fx s++[kk s (.b 3 x y)]) <| sw o 4 (kk s (.b 4 x y)::(fx s++[kk s (.b 3 x y)])) <| sw o 7 (fx true) <| sw o 8 (kk s (.b o x y)::fx false) <|
 sw o 9 (fx s) <| kk s (.b o x y)::(fx s++fy s)) t
noncomputable abbrev D:=List (List (Option L))
noncomputable def WX (ks:List Tt) (s:Bool) (M:Option L) (o:Nat) (p q:Tt):List D:=
 let Xx:=Re ks p s
 let Y:=Re ks q s
 sw o 1 (lf [] [[[Cj Xx Y,Cj M (Cj Xx Y),Cj (Cj Xx Y) M],[Cj (Cj Y Xx) (oc 1),Yl (-1) M]]] s) <|
 sw o 3 (Mine.Tt.rec (λ_=>[]) (λn=>lf [] [[[Cj Xx (Yl n M),Cj (UT (Yl n M) (oc (n-1))) Xx]]] (mw 0 n)) (λ_ _ _ _ _=>[]) q) <|
 sw o 4 (Mine.Tt.rec (λ_=>[]) (λn=>lf [] [[[M,Cj (oc (n-1)) M,Cj Xx (UT (Yl n (key ks s (.b 3 p q))) M),Cj (UT (Yl n (key ks s (.b 3 p q))) M) Xx]]] (mw 0 n)) (λ_ _ _ _ _=>[]) q) <|
 sw o 5 [[[Cj Y Xx,Cj M Xx,Cj Xx M],[Cj Xx Y,Cj M Y,Cj Y M]]] <|
 sw o 8 (lf [] [[[Re ks p false,Cj M (Re ks p false),Cj (Re ks p false) M],[Cj (oc (-1)) (Re ks p false),Yl (-1) M]]] s) []
noncomputable def ax (ks:List Tt) (t:Tt):List D:=Mine.Tt.rec (λ_=>[]) (λ_=>[])
 (λo x y _ _=>sw o 7 ([[key ks true x]]::Mine.Tt.rec (λ_=>[]) (λ_=>[]) (λo p q _ _=>WX ks true (key ks true x) o p q) x) (WX ks false (key ks false t) o x y)) t
noncomputable def Q3 (x y:D):D:=x.flatMap λc=>y.map λd=>c++d
noncomputable def Vu (ks:List Tt) (o:Nat) (x y:Tt) (Xx Y:Option L) (s:Bool):D:=
 sw o 0 (lf [[Cj (Cj Xx Y) (oc 1)]] [[Cj Y Xx]] s) <| sw o 1 (lf [[Cj Xx Y]] [[Cj (Cj Y Xx) (oc 1)]] s) <|
 lf [[Cj (Cj Y Xx) (oc 1)],[Cj (Cj Xx Y) (oc 1)]] [[Cj Y Xx,Cj Xx Y]] s
noncomputable def Kr (ks:List Tt) (t:Tt):Bool->D:=Mine.Tt.rec (motive:=λ_=>Bool->D) (λ_ _=>[[]]) (λ_ s=>lf [[]] [] s) (λo x y fx fy s=>
 lf (lf (sw o 6 (lf (fx false++fy false) (Q3 (fx true) (fy true)) s) <| sw o 7 (lf (Q3 (fx false) (fy false)) (fx true++fy true) s) <|
  lf (Q3 (fx true) (fy false)) (fx false++fy true) s) (Vu ks (o-3) x y (Re ks x false) (Re ks y false) s) (mw o 6))
  (Vu ks o x y (Re ks x true) (Re ks y true) s) (mw o 3)) t
noncomputable def ZD (t:Tt):List Tt:=Mine.Tt.rec (λ_=>[]) (λ_=>[]) (λo x y fx fy=>
 lf (lf (fx++fy) (fL x false++fL y false) (mw o 6)) (fL x true++fL y true) (mw o 3)) t
noncomputable def fE (ks:List Tt) (t:Tt):List D:=Mine.Tt.rec (λi=>[]) (λn=>[]) (λo x y _ py=>lf [Kr ks (.b o x y) false] (Kr ks x true::py) (Nat.ble 8 o)) t
noncomputable def TL (c:List (Option L)):List L:=c.filterMap id
noncomputable def go (n:Nat) (ds:List D) (cs:List L):Bool:=mY (motive:=λ_=>List L->Bool) (λcs=>fm n cs) (λd _ ih cs=>fm n cs || d.all λc=>ih (TL c++cs)) ds cs
noncomputable def iR (d:D):Bool:=mY false (λ_ c _=>mY true (λ_ _ _=>false) c) d
noncomputable def dd (l:List Tt):List Tt:=mY [] (λt _ ih=>lf (t::ih) ih (ih.any λu=>bp u t)) l
noncomputable def jm (t:Tt):Nat:=Mine.Tt.rec (λ_=>4) (λ_=>4) (λo _ _ x _=>sw o 7 x (F5 4 [4,1,5,6,0,2,4,4,3] o)) t
noncomputable def ZA (l:List Tt):List Tt:=[0,1,2,3,4,5,6].flatMap λo=>l.filter λt=>qC o (jm t)
noncomputable def TT (ks:List Tt) (ds:List D):Bool:=go ks.length (ds.filter λd=>!iR d) ((ds.filter iR).flatMap λd=>TL d.flatten)
noncomputable def ju (t:Tt):Bool:=TT (ZA (dd (ZD t))) (fE (ZA (dd (ZD t))) t++(ZA (dd (ZD t))).flatMap (ax (ZA (dd (ZD t)))))
section
variable {N:List Nat} {I:List Int}
noncomputable def vS (N:List Nat) (I:List Int) (s:Bool) (t:Tt):Int:=lf (ev N I t).2 ((ev N I t).1:Int) s
noncomputable def vl (N:List Nat) (I:List Int) (ks:List Tt):List Int:=ks.map λt=>(ev N I t).2
noncomputable def Is (v:List Int) (o:Option L) (z:Int):Prop:=∀l,o=some l->V v l=z
theorem dY{t:Tt}(ks:List Tt)(l:List Int)(h:uv ks t=some l):Id l (vl N I ks)=(ev N I t).2:=by
 induction ks generalizing l with
 | nil=>exact nomatch h
 | cons k ks ih=>
  have h:lf ((uv ks t).map (0::·)) (some [1]) (bp k t)=some l:=h
  cases e:bp k t with
  | true=>
   rw[e] at h
   obtain rfl:=kR h
   rw[<-bo _ _ e]
   show 1*_+0=_
   rw[Int.one_mul,qE]
  | false=>
   rw[e] at h
   obtain⟨l',h',rfl⟩:=j6.mp h
   show 0*_+Id l' (vl N I ks)=_
   rw[tF,qD,ih l' h']
theorem D2{ks:List Tt}{s:Bool}{t:Tt}:Is (vl N I ks) (key ks s t) (vS N I s t):=λl h=>by
 obtain⟨u,h',rfl⟩:=j6.mp h
 refine(qD _).trans ((dY ks u h').trans ?_)
 cases s<;>rfl
theorem He{v:List Int}{x y:Option L}{a b:Int}(hx:Is v x a)(hy:Is v y b):Is v (UT x y) (a+b):=λl h=>by
 obtain⟨x',h1,h⟩:=mT.mp h
 obtain⟨y',h2,rfl⟩:=j6.mp h
 rw[XD,hx _ h1,hy _ h2]
theorem HV{v:List Int}{x:Option L}{a:Int}(k:Int)(hx:Is v x a):Is v (Yl k x) (k*a):=λl h=>by
 obtain⟨x',h1,rfl⟩:=j6.mp h
 rw[PP,hx _ h1]
theorem A2{v:List Int}{x y:Option L}{a b:Int}(hx:Is v x a)(hy:Is v y b):Is v (Cj x y) (a-b):=by
 rw[Int.sub_eq_add_neg,vK];exact He hx (HV _ hy)
theorem GG{v:List Int}(n:Int):Is v (oc n) n:=λl h=>by
 obtain rfl:=kR h;exact qE _
theorem WL{v:List Int}{x y z:Option L}{a b:Int}(hx:Is v x a)(hy:Is v y b)(hz:Is v z (a*b)):Is v (eu x y z) (a*b):=λl h=>by
 obtain⟨⟨c,x'⟩,h1,h⟩:=mT.mp h
 obtain⟨⟨d,y'⟩,h2,h⟩:=mT.mp h
 have hx:=hx _ h1
 have hy:=hy _ h2
 cases x' with
 | nil=>
  obtain rfl:=kR h
  rw[PP,hy,<-hx];show c*b=(c+0)*b;rw[qE]
 | cons e x'=>cases y' with
  | nil=>
   obtain rfl:=kR h
   rw[PP,hx,<-hy];show d*a=a*(d+0);rw[qE,tI]
  | cons f y'=>exact hz l h
theorem I0{ks:List Tt}:∀(t:Tt) (s:Bool),Is (vl N I ks) (Re ks t s) (vS N I s t):=by
 intro t
 induction t with
 | v i=>intro s;exact D2
 | k n=>intro s;cases s<;>exact GG _
 | b o x y hx hy=>
  intro s
  refine DE (P:=λu=>Is _ u _) (λe=>?_) λ_=>DE (P:=λu=>Is _ u _) (λe=>?_) λ_=>DE (P:=λu=>Is _ u _) (λe=>?_) λ_=>DE (P:=λu=>Is _ u _) (λe=>?_) λ_=>DE (P:=λu=>Is _ u _) (λe=>?_) λ_=>D2
  ·subst e;cases s
   ·exact He (hx _) (hy _)
   ·have e:vS N I true (.b 0 x y)=vS N I true x+vS N I true y:=xE _ _
    rw[e];exact He (hx _) (hy _)
  ·subst e;cases s
   ·exact A2 (hx _) (hy _)
   ·exact D2
  ·subst e
   have hk:=D2 (N:=N) (I:=I) (ks:=ks) (s:=s) (t:=.b 2 x y)
   cases s
   ·exact WL (hx _) (hy _) hk
   ·have e:vS N I true (.b 2 x y)=vS N I true x*vS N I true y:=xD _ _
    rw[e] at hk ⊢
    exact WL (hx _) (hy _) hk
  ·subst e;cases s
   ·exact hx true
   ·exact D2
  ·subst e;cases s
   ·have:=HV (-1) (hx false)
    rw[<-vK] at this;exact this
   ·exact D2
noncomputable def ZK (v:List Int) (o:Option L):Prop:=∀l,o=some l->0<=V v l
noncomputable def Ok (v:List Int) (d:D):Prop:=∃c∈d,∀o∈c,ZK v o
theorem Is.sat{v:List Int}{o:Option L}{z:Int}(h:Is v o z)(hz:0<=z):ZK v o:=λl e=>(h l e).symm▸hz
theorem OG{v:List Int}{c:List (Option L)}{d:D}(h:∀o∈c,ZK v o):Ok v (c::d):=⟨c,.head _,h⟩
theorem fJ{v:List Int}{c:List (Option L)}{d:D}(h:Ok v d):Ok v (c::d):=let ⟨c,m,h⟩:=h;⟨c,.tail _ m,h⟩
theorem OK{v:List Int}:∀o∈([]:List (Option L)),ZK v o:=λ_ h=>nomatch h
theorem EN{v:List Int}{o:Option L}{c:List (Option L)}(h:ZK v o)(h':∀u∈c,ZK v u):∀u∈o::c,ZK v u:=λu m=>(jG.mp m).elim (λe=>by rw[e];exact h) (h' u)
theorem Pn{ks:List Tt}{s:Bool}{M:Option L}{o:Nat}{p q:Tt}(hM:Is (vl N I ks) M (vS N I s (.b o p q))):∀d∈WX ks s M o p q,Ok (vl N I ks) d:=by
 have hX:=I0 (N:=N) (I:=I) (ks:=ks) p s
 have hY:=I0 (N:=N) (I:=I) (ks:=ks) q s
 refine DE (P:=λ(u:List D)=>∀d∈u,Ok (vl N I ks) d) (λe=>?_) λ_=>DE (P:=λ(u:List D)=>∀d∈u,Ok (vl N I ks) d) (λe=>?_) λ_=>DE (P:=λ(u:List D)=>∀d∈u,Ok (vl N I ks) d) (λe=>?_) λ_=>DE (P:=λ(u:List D)=>∀d∈u,Ok (vl N I ks) d) (λe=>?_) λ_=>DE (P:=λ(u:List D)=>∀d∈u,Ok (vl N I ks) d) (λe=>?_) λ_=>λ_ h=>nomatch h
 ·subst e;cases s
  ·exact λ_ h=>nomatch h
  ·intro d hd
   obtain rfl:=jH.mp hd
   have e:vS N I true (.b 1 p q)=(((ev N I p).1-(ev N I q).1:Nat):Int):=rfl
   have e1:vS N I true p=((ev N I p).1:Int):=rfl
   have e2:vS N I true q=((ev N I q).1:Int):=rfl
   rw[e] at hM;rw[e1] at hX;rw[e2] at hY
   by_cases h:(ev N I q).1<=(ev N I p).1
   ·exact OG (EN ((A2 hX hY).sat (by omega)) (EN ((A2 hM (A2 hX hY)).sat (by omega)) (EN ((A2 (A2 hX hY) hM).sat (by omega)) OK)))
   ·exact fJ (OG (EN ((A2 (A2 hY hX) (GG _)).sat (by omega)) (EN ((HV _ hM).sat (by omega)) OK)))
 ·subst e
  cases q with
  | v _=>exact λ_ h=>nomatch h
  | b _ _ _=>exact λ_ h=>nomatch h
  | k n=>
   intro d hd
   have hd:d∈(lf [] _ (mw 0 n):List D):=hd
   cases e:mw 0 n with
   | false=>rw[e] at hd;exact nomatch hd
   | true=>
    rw[e] at hd
    obtain rfl:=jH.mp hd
    have n0:(0:Int)<n:=mG.mpr (jT e)
    have e:vS N I s (.b 3 p (.k n))=vS N I s p/n:=by cases s<;>rfl
    rw[e] at hM
    have a1:=Int.ediv_mul_le (vS N I s p) (vL n0)
    have a2:=Int.lt_ediv_add_one_mul_self (vS N I s p) n0
    rw[tI] at a1
    rw[tI,um,Int.mul_one] at a2
    exact OG (EN ((A2 hX (HV _ hM)).sat (by omega)) (EN ((A2 (He (HV _ hM) (GG _)) hX).sat (by omega)) OK))
 ·subst e
  cases q with
  | v _=>exact λ_ h=>nomatch h
  | b _ _ _=>exact λ_ h=>nomatch h
  | k n=>
   intro d hd
   have hd:d∈(lf [] _ (mw 0 n):List D):=hd
   cases e:mw 0 n with
   | false=>rw[e] at hd;exact nomatch hd
   | true=>
    rw[e] at hd
    obtain rfl:=jH.mp hd
    have n0:(0:Int)<n:=mG.mpr (jT e)
    have hQ:=D2 (N:=N) (I:=I) (ks:=ks) (s:=s) (t:=.b 3 p (.k n))
    have e:vS N I s (.b 4 p (.k n))=vS N I s p%n:=by cases s<;>rfl
    have e':vS N I s (.b 3 p (.k n))=vS N I s p/n:=by cases s<;>rfl
    rw[e] at hM;rw[e'] at hQ
    have a1:=Int.emod_nonneg (vS N I s p) (vL n0)
    have a2:=Int.emod_lt_of_pos (vS N I s p) n0
    have a3:=Int.mul_ediv_add_emod (vS N I s p) n
    exact OG (EN (hM.sat a1) (EN ((A2 (GG _) hM).sat (by omega)) (EN ((A2 hX (He (HV _ hQ) hM)).sat (by omega)) (EN ((A2 (He (HV _ hQ) hM) hX).sat (by omega)) OK))))
 ·subst e
  intro d hd
  obtain rfl:=jH.mp hd
  have e:vS N I s (.b 5 p q)=min (vS N I s p) (vS N I s q):=by
   cases s
   ·rfl
   ·show((min (ev N I p).1 (ev N I q).1:Nat):Int)=min ((ev N I p).1:Int) ((ev N I q).1:Int)
    omega
  rw[e] at hM
  by_cases h:vS N I s p<=vS N I s q
  ·rw[xF h] at hM
   exact OG (EN ((A2 hY hX).sat (by omega)) (EN ((A2 hM hX).sat (by omega)) (EN ((A2 hX hM).sat (by omega)) OK)))
  ·rw[xm (by omega)] at hM
   exact fJ (OG (EN ((A2 hX hY).sat (by omega)) (EN ((A2 hM hY).sat (by omega)) (EN ((A2 hY hM).sat (by omega)) OK))))
 ·subst e;cases s
  ·exact λ_ h=>nomatch h
  ·intro d hd
   obtain rfl:=jH.mp hd
   have hZ:=I0 (N:=N) (I:=I) (ks:=ks) p false
   have e:vS N I true (.b 8 p q)=((vS N I false p).toNat:Int):=rfl
   rw[e] at hM
   by_cases h:0<=vS N I false p
   ·exact OG (EN (hZ.sat h) (EN ((A2 hM hZ).sat (by omega)) (EN ((A2 hZ hM).sat (by omega)) OK)))
   ·exact fJ (OG (EN ((A2 (GG _) hZ).sat (by omega)) (EN ((HV _ hM).sat (by omega)) OK)))
theorem YS{ks:List Tt}(t:Tt):∀d∈ax ks t,Ok (vl N I ks) d:=by
 cases t with
 | v _=>exact λ_ h=>nomatch h
 | k _=>exact λ_ h=>nomatch h
 | b o x y=>
  refine DE (P:=λ(u:List D)=>∀d∈u,Ok (vl N I ks) d) (λe=>?_) λ_=>Pn D2
  intro d hd
  rcases jG.mp hd with rfl|hd
  ·exact OG (EN (D2.sat (oC _)) OK)
  ·cases x with
   | v _=>exact nomatch hd
   | k _=>exact nomatch hd
   | b o p q=>exact Pn D2 d hd
theorem Q5{v:List Int}{d e:D}(h:Ok v d\/Ok v e):Ok v (d++e):=by
 rcases h with⟨c,m,h⟩|⟨c,m,h⟩
 ·exact⟨c,lM _ m,h⟩
 ·exact⟨c,kO _ m,h⟩
theorem N7{v:List Int}{d e:D}(h:Ok v d)(h':Ok v e):Ok v (Q3 d e):=by
 obtain⟨c,m,h⟩:=h
 obtain⟨c',m',h'⟩:=h'
 exact⟨c++c',lr.mpr ⟨c,m,kn.mpr ⟨c',m',rfl⟩⟩,λo ho=>(jU.mp ho).elim (h o) (h' o)⟩
noncomputable def gA (o:Nat) (a b:Int):Prop:=sw o 0 (a<=b) <| sw o 1 (a<b) (a=b)
theorem Us{ks:List Tt}{v:List Int}{o:Nat}{x y:Tt}{Xx Y:Option L}{a b:Int}(hX:Is v Xx a)(hY:Is v Y b)(s:Bool)(h:lf (¬gA o a b) (gA o a b) s):Ok v (Vu ks o x y Xx Y s):=by
 by_cases e:o=0
 ·subst e
  cases s
  ·have h:¬a<=b:=h
   exact OG (EN ((A2 (A2 hX hY) (GG _)).sat (by omega)) OK)
  ·have h:a<=b:=h
   exact OG (EN ((A2 hY hX).sat (by omega)) OK)
 ·by_cases e':o=1
  ·subst e'
   cases s
   ·have h:¬a<b:=h
    exact OG (EN ((A2 hX hY).sat (by omega)) OK)
   ·have h:a<b:=h
    exact OG (EN ((A2 (A2 hY hX) (GG _)).sat (by omega)) OK)
  ·have e1:∀{α:Sort _} {x y z:α},sw o 0 x (sw o 1 y z)=z:=λ{α x y z}=>DE (P:=λu=>u=z) (λw=>absurd w e) λ_=>DE (P:=λu=>u=z) (λw=>absurd w e') λ_=>rfl
   unfold Vu;rw[e1]
   unfold gA at h;rw[e1] at h
   cases s
   ·have h:¬a=b:=h
    by_cases h':a<b
    ·exact OG (EN ((A2 (A2 hY hX) (GG _)).sat (by omega)) OK)
    ·exact fJ (OG (EN ((A2 (A2 hX hY) (GG _)).sat (by omega)) OK))
   ·have h:a=b:=h
    exact OG (EN ((A2 hY hX).sat (by omega)) (EN ((A2 hX hY).sat (by omega)) OK))
theorem Ww{ks:List Tt}:∀(t:Tt) (s:Bool),lf (¬Hr N I t) (Hr N I t) s->Ok (vl N I ks) (Kr ks t s):=by
 intro t
 induction t with
 | v i=>intro s _;exact OG OK
 | k n=>intro s h;cases s with
  | false=>exact OG OK
  | true=>exact(h:False).elim
 | b o x y hx hy=>
  intro s h
  have hX:=I0 (N:=N) (I:=I) (ks:=ks) x
  have hY:=I0 (N:=N) (I:=I) (ks:=ks) y
  by_cases h3:mw o 3=true
  ·have e:Kr ks (.b o x y) s=Vu ks o x y (Re ks x true) (Re ks y true) s:=by
    show lf (motive:=λ_=>D) _ _ (mw o 3)=_
    rw[h3]
   rw[e]
   refine Us (hX true) (hY true) s ?_
   have h3:o<3:=jT h3
   clear hx hy hX hY e
   rcases o with _|_|_|o
   ·cases s
    ·exact λq=>h (tG.mp q)
    ·exact tG.mpr h
   ·cases s
    ·exact λq=>h (mG.mp q)
    ·exact mG.mpr h
   ·cases s
    ·exact λq=>h (Int.ofNat_inj.mp q)
    ·exact Int.ofNat_inj.mpr h
   ·exact absurd h3 (uc (rP 3 o))
  ·have h3:=pG.mpr h3
   by_cases h6:mw o 6=true
   ·have e:Kr ks (.b o x y) s=Vu ks (o-3) x y (Re ks x false) (Re ks y false) s:=by
     show lf (motive:=λ_=>D) (lf (motive:=λ_=>D) _ _ (mw o 6)) _ (mw o 3)=_
     rw[h3,h6]
    rw[e]
    refine Us (hX false) (hY false) s ?_
    have h6:o<6:=jT h6
    clear hx hy hX hY e
    obtain⟨k,rfl⟩:∃k,o=k+3:=⟨o-3,(oB (og λw=>lg (h3.symm.trans (rY w)))).symm⟩
    rcases k with _|_|_|k
    ·cases s<;>exact h
    ·cases s<;>exact h
    ·cases s<;>exact h
    ·exact absurd h6 (uc (rP 6 k))
   ·have h6:=pG.mpr h6
    have n6:∀k,k<6->o≠k:=λk hk e=>by
     subst e
     rw[show mw o 6=true from rY hk] at h6;exact lK h6
    have e:∀s,Kr ks (.b o x y) s=sw o 6 (lf (Kr ks x false++Kr ks y false) (Q3 (Kr ks x true) (Kr ks y true)) s) (sw o 7 (lf (Q3 (Kr ks x false) (Kr ks y false)) (Kr ks x true++Kr ks y true) s) (lf (Q3 (Kr ks x true) (Kr ks y false)) (Kr ks x false++Kr ks y true) s)):=by
     intro s
     show lf (motive:=λ_=>D) (lf (motive:=λ_=>D) _ _ (mw o 6)) _ (mw o 3)=_
     rw[h3,h6];rfl
    have e0:∀{k:Nat} {α:Sort _} {x y:α},o≠k->sw o k x y=y:=λ{k α x y} n=>DE (P:=λu=>u=y) (λw=>absurd w n) λ_=>rfl
    have e2:Hr N I (.b o x y)=sw o 6 (Hr N I x/\Hr N I y) (sw o 7 (Hr N I x\/Hr N I y) (Hr N I x->Hr N I y)):=by
     show sw o 0 _ (sw o 1 _ (sw o 2 _ (sw o 3 _ (sw o 4 _ (sw o 5 _ _)))))=_
     rw[e0 (n6 0 (by decide)),e0 (n6 1 (by decide)),e0 (n6 2 (by decide)),e0 (n6 3 (by decide)),e0 (n6 4 (by decide)),e0 (n6 5 (by decide))]
     rfl
    rw[e s]
    rw[e2] at h
    by_cases o6:o=6
    ·subst o6
     cases s
     ·have h:¬(Hr N I x/\Hr N I y):=h
      exact Q5 ((Classical.not_and_iff_not_or_not.mp h).imp (hx false) (hy false))
     ·have h:Hr N I x/\Hr N I y:=h
      exact N7 (hx true h.1) (hy true h.2)
    ·rw[e0 o6] at h ⊢
     by_cases o7:o=7
     ·subst o7
      cases s
      ·have h:¬(Hr N I x\/Hr N I y):=h
       exact N7 (hx false λq=>h (.inl q)) (hy false λq=>h (.inr q))
      ·have h:Hr N I x\/Hr N I y:=h
       exact Q5 (h.imp (hx true) (hy true))
     ·rw[e0 o7] at h ⊢
      cases s
      ·have h:¬(Hr N I x->Hr N I y):=h
       obtain⟨p,q⟩:=vp.mp h
       exact N7 (hx true p) (hy false q)
      ·have h:Hr N I x->Hr N I y:=h
       refine Q5 ?_
       by_cases p:Hr N I x
       ·exact .inr (hy true (h p))
       ·exact .inl (hx false p)
theorem Z0{ks:List Tt}:∀(t:Tt),¬Hr N I t->∀d∈fE ks t,Ok (vl N I ks) d:=by
 intro t
 induction t with
 | v i=>intro _ _ h;exact nomatch h
 | k n=>intro _ _ h;exact nomatch h
 | b o x y hx hy=>
  intro h d hd
  have hd:d∈(lf [Kr ks (.b o x y) false] (Kr ks x true::fE ks y) (Nat.ble 8 o):List D):=hd
  cases e:Nat.ble 8 o with
  | false=>
   rw[e] at hd
   obtain rfl:=jH.mp hd
   exact Ww _ false h
  | true=>
   rw[e] at hd
   have h8:=jT e
   have e0:∀{k:Nat} {α:Sort _} {x y:α},k<8->sw o k x y=y:=λ{k α x y} n=>DE (P:=λu=>u=y) (λw=>absurd w (by omega)) λ_=>rfl
   have e2:Hr N I (.b o x y)=(Hr N I x->Hr N I y):=by
    show sw o 0 _ (sw o 1 _ (sw o 2 _ (sw o 3 _ (sw o 4 _ (sw o 5 _ (sw o 6 _ (sw o 7 _ _)))))))=_
    rw[e0 (by decide),e0 (by decide),e0 (by decide),e0 (by decide),e0 (by decide),e0 (by decide),e0 (by decide),e0 (by decide)]
    rfl
   rw[e2] at h
   obtain⟨p,q⟩:=vp.mp h
   rcases jG.mp hd with rfl|hd
   ·exact Ww _ true p
   ·exact hy q d hd
theorem OP{v:List Int}{c:List (Option L)}(h:∀o∈c,ZK v o):∀l∈TL c,0<=V v l:=λl hl=>by
 obtain⟨o,ho,e⟩:=qJ.mp hl
 exact h o ho l e
theorem eG{v:List Int}{n:Nat}(hn:v.length=n):∀(ds:List D) (cs:List L),(∀d∈ds,Ok v d)->(∀l∈cs,0<=V v l)->go n ds cs=false:=by
 intro ds
 induction ds with
 | nil=>exact λcs _ h=>ZE hn h
 | cons d ds ih=>
  intro cs hd h
  show(fm n cs || d.all λc=>go n ds (TL c++cs))=false
  rw[ZE hn h,Bool.false_or]
  obtain⟨c,m,hc⟩:=hd d (.head _)
  refine List.all_eq_false.mpr ⟨c,m,?_⟩
  rw[ih _ (λe he=>hd e (.tail _ he)) λl hl=>(jU.mp hl).elim (OP hc l) (h l)]
  exact lg
theorem G8{ks:List Tt}{ds:List D}(h:∀d∈ds,Ok (vl N I ks) d):TT ks ds=false:=by
 refine eG (jI _) _ _ (λd hd=>h d (j9.mp hd).1) λl hl=>?_
 obtain⟨d,hd,hl⟩:=lr.mp hl
 obtain⟨hd,h1⟩:=j9.mp hd
 refine OP (λo ho=>?_) l hl
 obtain⟨c,m,hc⟩:=h d hd
 cases d with
 | nil=>exact nomatch m
 | cons c' d=>cases d with
  | cons _ _=>exact nomatch h1
  | nil=>
   obtain rfl:=jH.mp m
   obtain⟨c',m',ho'⟩:=List.mem_flatten.mp ho
   obtain rfl:=jH.mp m'
   exact hc o ho'
end
end Ar
open Ar in
theorem ar(N:List Nat)(I:List Int)(t:Tt)(h:ju t=true):Hr N I t:=by
 refine tR λn=>?_
 have:=G8 (ks:=ZA (dd (ZD t))) (N:=N) (I:=I) (ds:=fE (ZA (dd (ZD t))) t++(ZA (dd (ZD t))).flatMap (ax (ZA (dd (ZD t))))) λd hd=>?_
 ·exact absurd (h.symm.trans this) (by decide)
 ·rcases jU.mp hd with hd|hd
  ·exact Z0 t n d hd
  ·obtain⟨k,_,hd⟩:=lr.mp hd
   exact YS k d hd
noncomputable def Xx (N:List Nat) (I:List Int) {α:Type} (x:α) (t:Tt):Prop:=True
section
variable (N:List Nat) (I:List Int)
inductive Rr:{α:Type}->α->Tt->Prop
 | im {x y:Prop} {a b:Tt}:Xx N I x a->Xx N I y b->Rr (x->y) (.b 8 a b)
 | le {i:LE Nat} {x y:Nat} {a b:Tt}:Xx N I x a->Xx N I y b->Rr (@LE.le Nat i x y) (.b 0 a b)
 | lt {i:LT Nat} {x y:Nat} {a b:Tt}:Xx N I x a->Xx N I y b->Rr (@LT.lt Nat i x y) (.b 1 a b)
 | eq {x y:Nat} {a b:Tt}:Xx N I x a->Xx N I y b->Rr (@Eq Nat x y) (.b 2 a b)
 | an {x y:Prop} {a b:Tt}:Xx N I x a->Xx N I y b->Rr (x/\y) (.b 6 a b)
 | f:Rr False (.k 0)
 | no {x:Prop} {a:Tt}:Xx N I x a->Rr (¬x) (.b 8 a (.k 0))
 | le' {i:LE Int} {x y:Int} {a b:Tt}:Xx N I x a->Xx N I y b->Rr (@LE.le Int i x y) (.b 3 a b)
 | lt' {i:LT Int} {x y:Int} {a b:Tt}:Xx N I x a->Xx N I y b->Rr (@LT.lt Int i x y) (.b 4 a b)
 | eq' {x y:Int} {a b:Tt}:Xx N I x a->Xx N I y b->Rr (@Eq Int x y) (.b 5 a b)
 | or {x y:Prop} {a b:Tt}:Xx N I x a->Xx N I y b->Rr (x\/y) (.b 7 a b)
 | ge {α:Type} {i:LE α} {x y:α} {a:Tt}:Xx N I (@LE.le α i y x) a->Rr (@GE.ge α i x y) a
 | gt {α:Type} {i:LT α} {x y:α} {a:Tt}:Xx N I (@LT.lt α i y x) a->Rr (@GT.gt α i x y) a
 | nil {α:Type}:Rr ([]:List α) (.k 0)
 | cons {α:Type} {x:α} {l:List α}:Xx N I l (.k 0)->Rr (x::l) (.k 0)
 | k {α:Type} {n:Nat} {i:OfNat α n}:Rr (@vD α n i) (.k n)
 | c0 {α:Type} {i:HAdd α α α} {x y:α} {a b:Tt}:Xx N I x a->Xx N I y b->Rr (@HAdd.hAdd α α α i x y) (.b 0 a b)
 | c1 {α:Type} {i:HSub α α α} {x y:α} {a b:Tt}:Xx N I x a->Xx N I y b->Rr (@HSub.hSub α α α i x y) (.b 1 a b)
 | c7 {i:NatCast Int} {x:Nat} {a:Tt}:Xx N I x a->Rr (@Nat.cast Int i x) (.b 7 a (.k 0))
 | c2 {α:Type} {i:HMul α α α} {x y:α} {a b:Tt}:Xx N I x a->Xx N I y b->Rr (@HMul.hMul α α α i x y) (.b 2 a b)
 | c3 {α:Type} {i:HDiv α α α} {x y:α} {a b:Tt}:Xx N I x a->Xx N I y b->Rr (@HDiv.hDiv α α α i x y) (.b 3 a b)
 | c4 {α:Type} {i:HMod α α α} {x y:α} {a b:Tt}:Xx N I x a->Xx N I y b->Rr (@HMod.hMod α α α i x y) (.b 4 a b)
 | w {α:Type} {i:HPow α Nat α} {m n:Nat} {j:OfNat α m} {l:OfNat Nat n}:Rr (@HPow.hPow α Nat α i (@vD α m j) (@vD Nat n l)) (.k (m^n))
 | c8 {x:Int} {a:Tt}:Xx N I x a->Rr x.toNat (.b 8 a (.k 0))
 | c5 {α:Type} {i:Min α} {x y:α} {a b:Tt}:Xx N I x a->Xx N I y b->Rr (@Min.min α i x y) (.b 5 a b)
 | c9 {i:Neg Int} {x:Int} {a:Tt}:Xx N I x a->Rr (@Neg.neg Int i x) (.b 9 a (.k 0))
 | s {x:Nat} {a:Tt}:Xx N I x a->Rr (Nat.succ x) (.b 0 a (.k 1))
 | v {x i:Nat}:Xx N I (N,x) (.k i)->Rr x (.v i)
 | u {x:Int} {i:Nat}:Xx N I (I,x) (.k i)->Rr x (.v i)
 | hd {α:Type} {x:α} {l:List α}:Rr (x::l,x) (.k 0)
 | tl {α:Type} {x y:α} {l:List α} {i:Nat}:Xx N I (l,x) (.k i)->Rr (y::l,x) (.k (i+1))
 | go {x:Prop} {t:Tt}:Xx N I x t->Xx N I N (.k 0)->Xx N I I (.k 0)->Rr (x,()) t
end
theorem wr{N:List Nat}{I:List Int}{α:Type}{x:α}{t:Tt}(h:Rr N I x t):Xx N I x t:=trivial
local macro_rules | `(tactic| rwa[$[$hs:term],*])=>`(tactic| (revert $hs*;refine(letI G:Prop:=_;(?_:G));exact(letI N:=_;letI I:=_;letI t:=_;haveI:Xx N I (G,()) t:=(by unfold G;with_reducible repeat' (apply wr;constructor));(by exact ar N I t (by kernel_rfl)))))
section
variable {α β γ δ ε ζ η:Type} {G:Prop}
theorem gn{h:jY}{a:jL}(f:∀o,h.get? a=some o->False):h.get? a=none:=by
 cases e:h.get? a with
 | none=>rfl
 | some o=>exact(f o e).elim
theorem Cg{P Q:Prop}:(P/\Q)->(P->Q->G)->G:=
 λh k=>k  h.1 h.2
theorem C1{P Q R:Prop}:(P/\Q/\R)->(P->Q->R->G)->G:=
 λh k=>k  h.1 h.2.1 h.2.2
theorem CU{P Q R S:Prop}:(P/\Q/\R/\S)->(P->Q->R->S->G)->G:=
 λh k=>k  h.1 h.2.1 h.2.2.1 h.2.2.2
theorem Ue{P Q R S T:Prop}:(P/\Q/\R/\S/\T)->(P->Q->R->S->T->G)->G:=
 λh k=>k  h.1 h.2.1 h.2.2.1 h.2.2.2.1 h.2.2.2.2
theorem AR{P:α->Prop}:(∃x,P x)->(∀x,P x->G)->G:=
 λh k=>h.elim λx h=>k x h
theorem Af{P Q:α->Prop}:(∃x,P x/\Q x)->(∀x,P x->Q x->G)->G:=
 λh k=>h.elim λx h=>k x h.1 h.2
theorem Bu{P Q R:α->Prop}:(∃x,P x/\Q x/\R x)->(∀x,P x->Q x->R x->G)->G:=
 λh k=>h.elim λx h=>k x h.1 h.2.1 h.2.2
theorem H0{P Q R S:α->Prop}:(∃x,P x/\Q x/\R x/\S x)->(∀x,P x->Q x->R x->S x->G)->G:=
 λh k=>h.elim λx h=>k x h.1 h.2.1 h.2.2.1 h.2.2.2
theorem W3{P Q R S T:α->Prop}:(∃x,P x/\Q x/\R x/\S x/\T x)->(∀x,P x->Q x->R x->S x->T x->G)->G:=
 λh k=>h.elim λx h=>k x h.1 h.2.1 h.2.2.1 h.2.2.2.1 h.2.2.2.2
theorem W2{P Q R S T U:α->Prop}:(∃x,P x/\Q x/\R x/\S x/\T x/\U x)->(∀x,P x->Q x->R x->S x->T x->U x->G)->G:=
 λh k=>h.elim λx h=>k x h.1 h.2.1 h.2.2.1 h.2.2.2.1 h.2.2.2.2.1 h.2.2.2.2.2
theorem B1{P:α->β->Prop}:(∃x y,P x y)->(∀x y,P x y->G)->G:=
 λh k=>h.elim λx h=>h.elim λy h=>k x y h
theorem Ao{P Q:α->β->Prop}:(∃x y,P x y/\Q x y)->(∀x y,P x y->Q x y->G)->G:=
 λh k=>h.elim λx h=>h.elim λy h=>k x y h.1 h.2
theorem BD{P Q R:α->β->Prop}:(∃x y,P x y/\Q x y/\R x y)->(∀x y,P x y->Q x y->R x y->G)->G:=
 λh k=>h.elim λx h=>h.elim λy h=>k x y h.1 h.2.1 h.2.2
theorem E8{P Q R S:α->β->Prop}:(∃x y,P x y/\Q x y/\R x y/\S x y)->(∀x y,P x y->Q x y->R x y->S x y->G)->G:=
 λh k=>h.elim λx h=>h.elim λy h=>k x y h.1 h.2.1 h.2.2.1 h.2.2.2
theorem C9{P Q R S T:α->β->Prop}:(∃x y,P x y/\Q x y/\R x y/\S x y/\T x y)->(∀x y,P x y->Q x y->R x y->S x y->T x y->G)->G:=
 λh k=>h.elim λx h=>h.elim λy h=>k x y h.1 h.2.1 h.2.2.1 h.2.2.2.1 h.2.2.2.2
theorem FN{P:α->β->γ->Prop}:(∃x y z,P x y z)->(∀x y z,P x y z->G)->G:=
 λh k=>h.elim λx h=>h.elim λy h=>h.elim λz h=>k x y z h
theorem CG{P Q:α->β->γ->Prop}:(∃x y z,P x y z/\Q x y z)->(∀x y z,P x y z->Q x y z->G)->G:=
 λh k=>h.elim λx h=>h.elim λy h=>h.elim λz h=>k x y z h.1 h.2
theorem Ec{P Q R:α->β->γ->Prop}:(∃x y z,P x y z/\Q x y z/\R x y z)->(∀x y z,P x y z->Q x y z->R x y z->G)->G:=
 λh k=>h.elim λx h=>h.elim λy h=>h.elim λz h=>k x y z h.1 h.2.1 h.2.2
theorem Cf{P Q R S:α->β->γ->Prop}:(∃x y z,P x y z/\Q x y z/\R x y z/\S x y z)->(∀x y z,P x y z->Q x y z->R x y z->S x y z->G)->G:=
 λh k=>h.elim λx h=>h.elim λy h=>h.elim λz h=>k x y z h.1 h.2.1 h.2.2.1 h.2.2.2
theorem HZ{P Q R S T:α->β->γ->Prop}:(∃x y z,P x y z/\Q x y z/\R x y z/\S x y z/\T x y z)->(∀x y z,P x y z->Q x y z->R x y z->S x y z->T x y z->G)->G:=
 λh k=>h.elim λx h=>h.elim λy h=>h.elim λz h=>k x y z h.1 h.2.1 h.2.2.1 h.2.2.2.1 h.2.2.2.2
theorem CR{P Q R S T U:α->β->γ->Prop}:(∃x y z,P x y z/\Q x y z/\R x y z/\S x y z/\T x y z/\U x y z)->(∀x y z,P x y z->Q x y z->R x y z->S x y z->T x y z->U x y z->G)->G:=
 λh k=>h.elim λx h=>h.elim λy h=>h.elim λz h=>k x y z h.1 h.2.1 h.2.2.1 h.2.2.2.1 h.2.2.2.2.1 h.2.2.2.2.2
theorem Eb{P:α->β->γ->δ->Prop}:(∃x y z u,P x y z u)->(∀x y z u,P x y z u->G)->G:=
 λh k=>h.elim λx h=>h.elim λy h=>h.elim λz h=>h.elim λu h=>k x y z u h
theorem E7{P Q R:α->β->γ->δ->Prop}:(∃x y z u,P x y z u/\Q x y z u/\R x y z u)->(∀x y z u,P x y z u->Q x y z u->R x y z u->G)->G:=
 λh k=>h.elim λx h=>h.elim λy h=>h.elim λz h=>h.elim λu h=>k x y z u h.1 h.2.1 h.2.2
theorem Cz{P Q R S:α->β->γ->δ->Prop}:(∃x y z u,P x y z u/\Q x y z u/\R x y z u/\S x y z u)->(∀x y z u,P x y z u->Q x y z u->R x y z u->S x y z u->G)->G:=
 λh k=>h.elim λx h=>h.elim λy h=>h.elim λz h=>h.elim λu h=>k x y z u h.1 h.2.1 h.2.2.1 h.2.2.2
theorem Pp{P Q R S T U V:α->β->γ->δ->Prop}:(∃x y z u,P x y z u/\Q x y z u/\R x y z u/\S x y z u/\T x y z u/\U x y z u/\V x y z u)->(∀x y z u,P x y z u->Q x y z u->R x y z u->S x y z u->T x y z u->U x y z u->V x y z u->G)->G:=
 λh k=>h.elim λx h=>h.elim λy h=>h.elim λz h=>h.elim λu h=>k x y z u h.1 h.2.1 h.2.2.1 h.2.2.2.1 h.2.2.2.2.1 h.2.2.2.2.2.1 h.2.2.2.2.2.2
theorem ay{P Q R S T U V W X Y Z A B C D E F H:α->β->γ->δ->Prop}:(∃x y z u,P x y z u/\Q x y z u/\R x y z u/\S x y z u/\T x y z u/\U x y z u/\V x y z u/\W x y z u/\X x y z u/\Y x y z u/\Z x y z u/\A x y z u/\B x y z u/\C x y z u/\D x y z u/\E x y z u/\F x y z u/\H x y z u)->(∀x y z u,P x y z u->Q x y z u->R x y z u->S x y z u->T x y z u->U x y z u->V x y z u->W x y z u->X x y z u->Y x y z u->Z x y z u->A x y z u->B x y z u->C x y z u->D x y z u->E x y z u->F x y z u->H x y z u->G)->G:=
 λh k=>h.elim λx h=>h.elim λy h=>h.elim λz h=>h.elim λu h=>k x y z u h.1 h.2.1 h.2.2.1 h.2.2.2.1 h.2.2.2.2.1 h.2.2.2.2.2.1 h.2.2.2.2.2.2.1 h.2.2.2.2.2.2.2.1 h.2.2.2.2.2.2.2.2.1 h.2.2.2.2.2.2.2.2.2.1 h.2.2.2.2.2.2.2.2.2.2.1 h.2.2.2.2.2.2.2.2.2.2.2.1 h.2.2.2.2.2.2.2.2.2.2.2.2.1 h.2.2.2.2.2.2.2.2.2.2.2.2.2.1 h.2.2.2.2.2.2.2.2.2.2.2.2.2.2.1 h.2.2.2.2.2.2.2.2.2.2.2.2.2.2.2.1 h.2.2.2.2.2.2.2.2.2.2.2.2.2.2.2.2.1 h.2.2.2.2.2.2.2.2.2.2.2.2.2.2.2.2.2
theorem W1{P Q R S T U V:α->β->γ->δ->ε->Prop}:(∃x y z u v,P x y z u v/\Q x y z u v/\R x y z u v/\S x y z u v/\T x y z u v/\U x y z u v/\V x y z u v)->(∀x y z u v,P x y z u v->Q x y z u v->R x y z u v->S x y z u v->T x y z u v->U x y z u v->V x y z u v->G)->G:=
 λh k=>h.elim λx h=>h.elim λy h=>h.elim λz h=>h.elim λu h=>h.elim λv h=>k x y z u v h.1 h.2.1 h.2.2.1 h.2.2.2.1 h.2.2.2.2.1 h.2.2.2.2.2.1 h.2.2.2.2.2.2
theorem WZ{P Q R S T:α->β->γ->δ->ε->ζ->Prop}:(∃x y z u v w,P x y z u v w/\Q x y z u v w/\R x y z u v w/\S x y z u v w/\T x y z u v w)->(∀x y z u v w,P x y z u v w->Q x y z u v w->R x y z u v w->S x y z u v w->T x y z u v w->G)->G:=
 λh k=>h.elim λx h=>h.elim λy h=>h.elim λz h=>h.elim λu h=>h.elim λv h=>h.elim λw h=>k x y z u v w h.1 h.2.1 h.2.2.1 h.2.2.2.1 h.2.2.2.2
theorem ZF{P Q R S T U V:α->β->γ->δ->ε->ζ->Prop}:(∃x y z u v w,P x y z u v w/\Q x y z u v w/\R x y z u v w/\S x y z u v w/\T x y z u v w/\U x y z u v w/\V x y z u v w)->(∀x y z u v w,P x y z u v w->Q x y z u v w->R x y z u v w->S x y z u v w->T x y z u v w->U x y z u v w->V x y z u v w->G)->G:=
 λh k=>h.elim λx h=>h.elim λy h=>h.elim λz h=>h.elim λu h=>h.elim λv h=>h.elim λw h=>k x y z u v w h.1 h.2.1 h.2.2.1 h.2.2.2.1 h.2.2.2.2.1 h.2.2.2.2.2.1 h.2.2.2.2.2.2
theorem Ud{P Q R S:α->β->γ->δ->ε->ζ->η->Prop}:(∃x y z u v w t,P x y z u v w t/\Q x y z u v w t/\R x y z u v w t/\S x y z u v w t)->(∀x y z u v w t,P x y z u v w t->Q x y z u v w t->R x y z u v w t->S x y z u v w t->G)->G:=
 λh k=>h.elim λx h=>h.elim λy h=>h.elim λz h=>h.elim λu h=>h.elim λv h=>h.elim λw h=>h.elim λt h=>k x y z u v w t h.1 h.2.1 h.2.2.1 h.2.2.2
end
section
variable {α:Sort _} {β:Sort _} {γ:Sort _} {δ:Sort _} {ε:Sort _} {ζ:Sort _} {η:Sort _} {θ:Sort _}
theorem Ag{P:α->Prop}(x:α)(h1:P x):∃x,P x:=⟨x,h1⟩
theorem Ac{P Q:α->Prop}(x:α)(h1:P x)(h2:Q x):∃x,P x/\Q x:=⟨x,h1,h2⟩
theorem Ba{P Q R:α->Prop}(x:α)(h1:P x)(h2:Q x)(h3:R x):∃x,P x/\Q x/\R x:=⟨x,h1,h2,h3⟩
theorem H5{P Q R S:α->Prop}(x:α)(h1:P x)(h2:Q x)(h3:R x)(h4:S x):∃x,P x/\Q x/\R x/\S x:=⟨x,h1,h2,h3,h4⟩
theorem Xh{P Q R S T:α->Prop}(x:α)(h1:P x)(h2:Q x)(h3:R x)(h4:S x)(h5:T x):∃x,P x/\Q x/\R x/\S x/\T x:=⟨x,h1,h2,h3,h4,h5⟩
theorem eX{P Q R S T U:α->Prop}(x:α)(h1:P x)(h2:Q x)(h3:R x)(h4:S x)(h5:T x)(h6:U x):∃x,P x/\Q x/\R x/\S x/\T x/\U x:=⟨x,h1,h2,h3,h4,h5,h6⟩
theorem AS{P:α->β->Prop}(x:α)(y:β)(h1:P x y):∃x y,P x y:=⟨x,y,h1⟩
theorem AT{P Q:α->β->Prop}(x:α)(y:β)(h1:P x y)(h2:Q x y):∃x y,P x y/\Q x y:=⟨x,y,h1,h2⟩
theorem FQ{P Q R:α->β->Prop}(x:α)(y:β)(h1:P x y)(h2:Q x y)(h3:R x y):∃x y,P x y/\Q x y/\R x y:=⟨x,y,h1,h2,h3⟩
theorem C6{P Q R S:α->β->Prop}(x:α)(y:β)(h1:P x y)(h2:Q x y)(h3:R x y)(h4:S x y):∃x y,P x y/\Q x y/\R x y/\S x y:=⟨x,y,h1,h2,h3,h4⟩
theorem C5{P Q R S T:α->β->Prop}(x:α)(y:β)(h1:P x y)(h2:Q x y)(h3:R x y)(h4:S x y)(h5:T x y):∃x y,P x y/\Q x y/\R x y/\S x y/\T x y:=⟨x,y,h1,h2,h3,h4,h5⟩
theorem Uh{P Q R S T U:α->β->Prop}(x:α)(y:β)(h1:P x y)(h2:Q x y)(h3:R x y)(h4:S x y)(h5:T x y)(h6:U x y):∃x y,P x y/\Q x y/\R x y/\S x y/\T x y/\U x y:=⟨x,y,h1,h2,h3,h4,h5,h6⟩
theorem Jd{P:α->β->γ->Prop}(x:α)(y:β)(z:γ)(h1:P x y z):∃x y z,P x y z:=⟨x,y,z,h1⟩
theorem KC{P Q:α->β->γ->Prop}(x:α)(y:β)(z:γ)(h1:P x y z)(h2:Q x y z):∃x y z,P x y z/\Q x y z:=⟨x,y,z,h1,h2⟩
theorem Pw{P Q R:α->β->γ->Prop}(x:α)(y:β)(z:γ)(h1:P x y z)(h2:Q x y z)(h3:R x y z):∃x y z,P x y z/\Q x y z/\R x y z:=⟨x,y,z,h1,h2,h3⟩
theorem FP{P Q R S:α->β->γ->Prop}(x:α)(y:β)(z:γ)(h1:P x y z)(h2:Q x y z)(h3:R x y z)(h4:S x y z):∃x y z,P x y z/\Q x y z/\R x y z/\S x y z:=⟨x,y,z,h1,h2,h3,h4⟩
theorem KB{P Q R S T:α->β->γ->Prop}(x:α)(y:β)(z:γ)(h1:P x y z)(h2:Q x y z)(h3:R x y z)(h4:S x y z)(h5:T x y z):∃x y z,P x y z/\Q x y z/\R x y z/\S x y z/\T x y z:=⟨x,y,z,h1,h2,h3,h4,h5⟩
theorem CA{P Q R S T U:α->β->γ->Prop}(x:α)(y:β)(z:γ)(h1:P x y z)(h2:Q x y z)(h3:R x y z)(h4:S x y z)(h5:T x y z)(h6:U x y z):∃x y z,P x y z/\Q x y z/\R x y z/\S x y z/\T x y z/\U x y z:=⟨x,y,z,h1,h2,h3,h4,h5,h6⟩
theorem eW{P Q R S T U V W X:α->β->γ->Prop}(x:α)(y:β)(z:γ)(h1:P x y z)(h2:Q x y z)(h3:R x y z)(h4:S x y z)(h5:T x y z)(h6:U x y z)(h7:V x y z)(h8:W x y z)(h9:X x y z):∃x y z,P x y z/\Q x y z/\R x y z/\S x y z/\T x y z/\U x y z/\V x y z/\W x y z/\X x y z:=⟨x,y,z,h1,h2,h3,h4,h5,h6,h7,h8,h9⟩
theorem aH{P Q R S T U V W X Y:α->β->γ->Prop}(x:α)(y:β)(z:γ)(h1:P x y z)(h2:Q x y z)(h3:R x y z)(h4:S x y z)(h5:T x y z)(h6:U x y z)(h7:V x y z)(h8:W x y z)(h9:X x y z)(h10:Y x y z):∃x y z,P x y z/\Q x y z/\R x y z/\S x y z/\T x y z/\U x y z/\V x y z/\W x y z/\X x y z/\Y x y z:=⟨x,y,z,h1,h2,h3,h4,h5,h6,h7,h8,h9,h10⟩
theorem aG{P Q R S T U V W X Y Z:α->β->γ->Prop}(x:α)(y:β)(z:γ)(h1:P x y z)(h2:Q x y z)(h3:R x y z)(h4:S x y z)(h5:T x y z)(h6:U x y z)(h7:V x y z)(h8:W x y z)(h9:X x y z)(h10:Y x y z)(h11:Z x y z):∃x y z,P x y z/\Q x y z/\R x y z/\S x y z/\T x y z/\U x y z/\V x y z/\W x y z/\X x y z/\Y x y z/\Z x y z:=⟨x,y,z,h1,h2,h3,h4,h5,h6,h7,h8,h9,h10,h11⟩
theorem EH{P:α->β->γ->δ->Prop}(x:α)(y:β)(z:γ)(u:δ)(h1:P x y z u):∃x y z u,P x y z u:=⟨x,y,z,u,h1⟩
theorem eV{P Q:α->β->γ->δ->Prop}(x:α)(y:β)(z:γ)(u:δ)(h1:P x y z u)(h2:Q x y z u):∃x y z u,P x y z u/\Q x y z u:=⟨x,y,z,u,h1,h2⟩
theorem Ug{P Q R:α->β->γ->δ->Prop}(x:α)(y:β)(z:γ)(u:δ)(h1:P x y z u)(h2:Q x y z u)(h3:R x y z u):∃x y z u,P x y z u/\Q x y z u/\R x y z u:=⟨x,y,z,u,h1,h2,h3⟩
theorem GR{P Q R S:α->β->γ->δ->Prop}(x:α)(y:β)(z:γ)(u:δ)(h1:P x y z u)(h2:Q x y z u)(h3:R x y z u)(h4:S x y z u):∃x y z u,P x y z u/\Q x y z u/\R x y z u/\S x y z u:=⟨x,y,z,u,h1,h2,h3,h4⟩
theorem eU{P Q R S T U V:α->β->γ->δ->Prop}(x:α)(y:β)(z:γ)(u:δ)(h1:P x y z u)(h2:Q x y z u)(h3:R x y z u)(h4:S x y z u)(h5:T x y z u)(h6:U x y z u)(h7:V x y z u):∃x y z u,P x y z u/\Q x y z u/\R x y z u/\S x y z u/\T x y z u/\U x y z u/\V x y z u:=⟨x,y,z,u,h1,h2,h3,h4,h5,h6,h7⟩
theorem eT{P Q R S T U V W:α->β->γ->δ->Prop}(x:α)(y:β)(z:γ)(u:δ)(h1:P x y z u)(h2:Q x y z u)(h3:R x y z u)(h4:S x y z u)(h5:T x y z u)(h6:U x y z u)(h7:V x y z u)(h8:W x y z u):∃x y z u,P x y z u/\Q x y z u/\R x y z u/\S x y z u/\T x y z u/\U x y z u/\V x y z u/\W x y z u:=⟨x,y,z,u,h1,h2,h3,h4,h5,h6,h7,h8⟩
theorem Xg{P Q R S T U V W X Y Z A B C D E F H:α->β->γ->δ->Prop}(x:α)(y:β)(z:γ)(u:δ)(h1:P x y z u)(h2:Q x y z u)(h3:R x y z u)(h4:S x y z u)(h5:T x y z u)(h6:U x y z u)(h7:V x y z u)(h8:W x y z u)(h9:X x y z u)(h10:Y x y z u)(h11:Z x y z u)(h12:A x y z u)(h13:B x y z u)(h14:C x y z u)(h15:D x y z u)(h16:E x y z u)(h17:F x y z u)(h18:H x y z u):∃x y z u,P x y z u/\Q x y z u/\R x y z u/\S x y z u/\T x y z u/\U x y z u/\V x y z u/\W x y z u/\X x y z u/\Y x y z u/\Z x y z u/\A x y z u/\B x y z u/\C x y z u/\D x y z u/\E x y z u/\F x y z u/\H x y z u:=⟨x,y,z,u,h1,h2,h3,h4,h5,h6,h7,h8,h9,h10,h11,h12,h13,h14,h15,h16,h17,h18⟩
theorem eS{P:α->β->γ->δ->ε->Prop}(x:α)(y:β)(z:γ)(u:δ)(v:ε)(h1:P x y z u v):∃x y z u v,P x y z u v:=⟨x,y,z,u,v,h1⟩
theorem eQ{P Q R S T U V:α->β->γ->δ->ε->Prop}(x:α)(y:β)(z:γ)(u:δ)(v:ε)(h1:P x y z u v)(h2:Q x y z u v)(h3:R x y z u v)(h4:S x y z u v)(h5:T x y z u v)(h6:U x y z u v)(h7:V x y z u v):∃x y z u v,P x y z u v/\Q x y z u v/\R x y z u v/\S x y z u v/\T x y z u v/\U x y z u v/\V x y z u v:=⟨x,y,z,u,v,h1,h2,h3,h4,h5,h6,h7⟩
theorem eP{P Q R S T:α->β->γ->δ->ε->ζ->Prop}(x:α)(y:β)(z:γ)(u:δ)(v:ε)(w:ζ)(h1:P x y z u v w)(h2:Q x y z u v w)(h3:R x y z u v w)(h4:S x y z u v w)(h5:T x y z u v w):∃x y z u v w,P x y z u v w/\Q x y z u v w/\R x y z u v w/\S x y z u v w/\T x y z u v w:=⟨x,y,z,u,v,w,h1,h2,h3,h4,h5⟩
theorem ZG{P Q R S T U:α->β->γ->δ->ε->ζ->Prop}(x:α)(y:β)(z:γ)(u:δ)(v:ε)(w:ζ)(h1:P x y z u v w)(h2:Q x y z u v w)(h3:R x y z u v w)(h4:S x y z u v w)(h5:T x y z u v w)(h6:U x y z u v w):∃x y z u v w,P x y z u v w/\Q x y z u v w/\R x y z u v w/\S x y z u v w/\T x y z u v w/\U x y z u v w:=⟨x,y,z,u,v,w,h1,h2,h3,h4,h5,h6⟩
theorem eO{P:α->β->γ->δ->ε->ζ->η->Prop}(x:α)(y:β)(z:γ)(u:δ)(v:ε)(w:ζ)(t:η)(h1:P x y z u v w t):∃x y z u v w t,P x y z u v w t:=⟨x,y,z,u,v,w,t,h1⟩
theorem eN{P Q R:α->β->γ->δ->ε->ζ->η->Prop}(x:α)(y:β)(z:γ)(u:δ)(v:ε)(w:ζ)(t:η)(h1:P x y z u v w t)(h2:Q x y z u v w t)(h3:R x y z u v w t):∃x y z u v w t,P x y z u v w t/\Q x y z u v w t/\R x y z u v w t:=⟨x,y,z,u,v,w,t,h1,h2,h3⟩
theorem eM{P Q R S:α->β->γ->δ->ε->ζ->η->Prop}(x:α)(y:β)(z:γ)(u:δ)(v:ε)(w:ζ)(t:η)(h1:P x y z u v w t)(h2:Q x y z u v w t)(h3:R x y z u v w t)(h4:S x y z u v w t):∃x y z u v w t,P x y z u v w t/\Q x y z u v w t/\R x y z u v w t/\S x y z u v w t:=⟨x,y,z,u,v,w,t,h1,h2,h3,h4⟩
end
section
noncomputable def CM:jL:=135
mutual
inductive Ak (h:jY):jB->jO->List jL->Prop
 | none:Ak h .none .none []
 | bool (b):Ak h (.bool b) (.bool b) []
 | int (i t):Ak h (.int i t) (.int i) []
 | str (x t):Ak h (.str x t) (.str x) []
 | list {a o vs n xs as}:h.get? a=some o->o.cls=.type "list"->o.data=.seq vs n->Ae h vs.toList xs as->Ak h (.ref a) (.list xs) (a::as)
 | tuple {a o vs n xs as}:h.get? a=some o->o.cls=.type "tuple"->o.data=.seq vs n->Ae h vs.toList xs as->Ak h (.ref a) (.tuple xs) as
 | mt {a o vs n xs as}:h.get? a=some o->o.cls=.ref CM->o.data=.seq vs n->Ae h vs.toList xs as->Ak h (.ref a) (.dict [(.tuple xs,.none)]) (a::as)
inductive Ae (h:jY):List jB->List jO->List jL->Prop
 | nil:Ae h [] [] []
 | cons {v vs d ds as bs}:Ak h v d as->Ae h vs ds bs->Ae h (v::vs) (d::ds) (as++bs)
end
theorem Ak.keeps{h h':jY}(k:∀b o,h.get? b=some o->h'.get? b=some o):∀{v:jB} {d:jO} {as:List jL},Ak h v d as->Ak h' v d as:=by
 intro v d as r
 refine Ak.rec (motive_1:=λv d as _=>Ak h' v d as) (motive_2:=λvs ds as _=>Ae h' vs ds as) ?_ ?_ ?_ ?_ ?_ ?_ ?_ ?_ ?_ r
 ·exact .none
 ·exact .bool
 ·exact .int
 ·exact .str
 ·intro a o vs n xs as e1 e2 e3 _ ih;exact .list (k _ _ e1) e2 e3 ih
 ·intro a o vs n xs as e1 e2 e3 _ ih;exact .tuple (k _ _ e1) e2 e3 ih
 ·intro a o vs n xs as e1 e2 e3 _ ih;exact .mt (k _ _ e1) e2 e3 ih
 ·exact .nil
 ·intro v vs d ds as bs _ _ ih1 ih2;exact .cons ih1 ih2
theorem Ae.ind{h:jY}{P:List jB->List jO->List jL->Prop}(n:P [] [] [])(c:∀{v:jB} {vs:List jB} {d:jO} {ds:List jO} {as bs:List jL},Ak h v d as->Ae h vs ds bs->P vs ds bs->P (v::vs) (d::ds) (as++bs)){vs:List jB}{ds:List jO}{as:List jL}(r:Ae h vs ds as):P vs ds as:=
 Ae.rec (motive_1:=λ_ _ _ _=>True) (motive_2:=λvs ds as _=>P vs ds as) trivial (λ_=>trivial) (λ_ _=>trivial) (λ_ _=>trivial) (λ_ _ _ _ _=>trivial) (λ_ _ _ _ _=>trivial) (λ_ _ _ _ _=>trivial) n (λr rs _ ih=>c r rs ih) r
theorem Ae.keeps{h h':jY}(k:∀b o,h.get? b=some o->h'.get? b=some o){vs:List jB}{ds:List jO}{as:List jL}(r:Ae h vs ds as):Ae h' vs ds as:=
 Ae.ind (P:=Ae h') .nil (λr _ ih=>.cons (Ak.keeps k r) ih) r
theorem Ak.lib{h:jY}:∀{v:jB} {d:jO} {as:List jL},Ak h v d as->d.canLay0=true->PySem.Reads h v d as:=by
 intro v d as r
 refine Ak.rec (motive_1:=λv d as _=>d.canLay0=true->PySem.Reads h v d as) (motive_2:=λvs ds as _=>qM ds=true->PySem.ReadsAll h vs ds as) ?_ ?_ ?_ ?_ ?_ ?_ ?_ ?_ ?_ r
 ·intro _;exact .none
 ·intro b _;exact .bool b
 ·intro i t _;exact .int i t
 ·intro x t _;exact .str x t
 ·intro a o vs n xs as e1 e2 e3 _ ih c;exact .list e1 e2 e3 (ih (by simpa only[uh] using c))
 ·intro a o vs n xs as e1 e2 e3 _ ih c;exact .tuple e1 e2 e3 (ih (by simpa only[uh] using c))
 ·intro a o vs n xs as e1 e2 e3 _ ih c;simp only[uh] at c;exact lK c
 ·intro _;exact .nil
 ·intro v vs d ds as bs _ _ ih1 ih2 c
  rw[qM,kJ] at c
  exact .cons (ih1 c.1) (ih2 c.2)
noncomputable def FV (o:nH):Prop:=(∀c,o.data≠.cell c)/\∀f,o.data≠.fields f
structure Fg (R:jY->jB->List jL->Prop):Prop where
 keepBy:∀{h h':jY} {v:jB} {as:List jL},R h v as->(∀b∈as,∀o,h.get? b=some o->h'.get? b=some o)->
  (∀b o,h.get? b=some o->(o.cls=.type "tuple"/\∃vs n,o.data=.seq vs n)->h'.get? b=some o)->R h' v as
 solid:∀{h:jY} {v:jB} {as:List jL},R h v as->∀b∈as,∃o,h.get? b=some o/\FV o
theorem Fg.keeps{R:jY->jB->List jL->Prop}(S:Fg R){h h':jY}{v:jB}{as:List jL}(r:R h v as)(k:∀b o,h.get? b=some o->h'.get? b=some o):R h' v as:=
 S.keepBy r (λb _ o e=>k b o e) λb o e _=>k b o e
theorem Fg.live{R:jY->jB->List jL->Prop}(S:Fg R){h:jY}{v:jB}{as:List jL}(r:R h v as):∀b∈as,∃o,h.get? b=some o:=λb hb=>Af (S.solid r b hb) λo e _=>(Ag o e)
inductive AV where
 | py (d:jO)
 | by(b:Array UInt8)
 | raw (v:jB)
 | obj (P:nH->Prop)
 | st (R:jY->jB->List jL->Prop) (ok:Fg R)
noncomputable abbrev Ap:=List (jX×jL)
noncomputable def Ap.has (O:Ap) (a:jL):Prop:=∃p∈O,p.2=a
noncomputable def VR (O:Ap) (h:jY):AV->jB->Prop
 | .py d,v=>∃as,Ak h v d as/\∀a∈as,¬O.has a
 | .by b,v=>∃t,v=.bytes b t
 | .raw u,v=>v=u
 | .obj P,v=>∃a o,v=.ref a/\h.get? a=some o/\P o/\¬O.has a/\FV o
 | .st R _,v=>∃as,R h v as/\∀a∈as,¬O.has a
inductive Bd where
 | val (a:AV)
 | own (ds:List jO)
 | at (a:jL) (P:nH->Prop)
noncomputable def XJ (L:jL) (xG:jY) (O:Ap) (h:jY) (x:jX):Bd->jB->Prop
 | .val a,v=>VR O h a v
 | .own ds,v=>∃a vs as,v=.ref a/\(x,a)∈O/\h.PlainList a vs/\Ae h vs.toList ds as/\(∀b∈as,¬O.has b)/\xG.get? a=none
 | .at a P,v=>v=.ref a/\(x,a)∈O/\(∃o,h.get? a=some o/\P o/\FV o/\o.cls≠.type "tuple")/\xG.get? a=none/\a≠L
noncomputable abbrev AX:=List (Option Bd)
noncomputable def Gk (h:jY) (env:xy) (m:jX->Option jB) (x:jX) (v:jB):Prop:=
 (env.kindOf x=some .local/\m x=some v)\/(env.kindOf x=some .cell/\∃c,env.cells.lookup x=some c/\h.IsCell c (some v))
structure Cx where
 prog:lD
 w:jW
 A:kA
 s₀:jE
 env:xy
 ns:List jX
 V:Ap
structure St (Γ:Cx) (O:Ap) (σ:AX) (s:jE):Prop where
 keep:∀b o,Γ.s₀.heap.get? b=some o->s.heap.get? b=some o
 ex:∃m,s.heap.Ns Γ.env.locals m/\∀(i:Nat) (x:jX) (b:Bd),Γ.ns[i]?=some x->σ[i]?=some (some b)->∃v,Gk s.heap Γ.env m x v/\XJ Γ.env.locals Γ.s₀.heap O s.heap x b v
 cells:∀(x:jX) (a:jL),Γ.env.cells.lookup x=some a->∃v,s.heap.IsCell a v
 nodup:(O.map (·.2)).Nodup
 live:∀p∈O,∃o,s.heap.get? p.2=some o
 sub:∀a,Ap.has Γ.V a->O.has a
 frame:Ap.has Γ.V Γ.env.locals
 fresh:Γ.s₀.heap.get? Γ.env.locals=none
theorem IsList.kept{h h':jY}{a:jL}{vs:Array jB}(x:h.IsList a vs)(k:∀b o,h.get? b=some o->h'.get? b=some o):h'.IsList a vs:=
 Af x λo ho r=>(Ac o (k _ _ ho) r)
theorem VR.keeps{O:Ap}{h h':jY}{a:AV}{v:jB}(r:VR O h a v)(k:∀b o,h.get? b=some o->h'.get? b=some o):VR O h' a v:=by
 cases a with
 | py d=>refine Af r λas r q=>?_;exact Ac as (Ak.keeps k r) q
 | «by» b=>exact r
 | raw u=>exact r
 | obj P=>refine C9 r λa o e g p q z=>?_;exact C5 a o e (k _ _ g) p q z
 | st R ok=>refine Af r λas r q=>?_;exact Ac as (ok.keeps r k) q
theorem XJ.keeps{L:jL}{xG:jY}{O:Ap}{h h':jY}{x:jX}{a:Bd}{v:jB}(r:XJ L xG O h x a v)(k:∀b o,h.get? b=some o->h'.get? b=some o):XJ L xG O h' x a v:=by
 cases a with
 | val a=>exact VR.keeps (O:=O) r k
 | own ds=>
  refine HZ r λa vs as e m l r q=>?_
  exact KB a vs as e m (AR l λn e=>(Ag n (k _ _ e))) (Ae.keeps k r) q
 | «at» a P=>refine CU r λe m zz1 f=>?_;obtain⟨o,g,p,z⟩:=zz1;exact⟨e,m,(Ba o (k _ _ g) p z),f⟩
theorem Gk.keeps{h h':jY}{env:xy}{m:jX->Option jB}{x:jX}{v:jB}(q:Gk h env m x v)(k:∀b o,h.get? b=some o->h'.get? b=some o):Gk h' env m x v:=
 q.imp id λ⟨a,c,e,l⟩=>⟨a,c,e,l.keeps k⟩
theorem St.keeps{Γ:Cx}{O:Ap}{σ:AX}{s:jE}(t:St Γ O σ s){h':jY}{tk:Nat}
 (k:∀b o,s.heap.get? b=some o->h'.get? b=some o):St Γ O σ {s with heap:=h',toks:=tk}:=by
 obtain⟨kp,⟨m,n,vs⟩,cl,nd,lv,sb,fr,fs⟩:=t
 exact⟨λb o e=>k b o (kp b o e),(Ac m (n.keeps k) λi x b e e'=>Af (vs i x b e e') λv hd r=>(Ac v (hd.keeps k) (r.keeps k))),λx c e=>AR (cl x c e) λv q=>(Ag v (q.keeps k)),nd,λp hp=>AR (lv p hp) λo e=>(Ag o (k _ _ e)),sb,fr,fs⟩
theorem St.notNew{Γ:Cx}{O:Ap}{σ:AX}{s:jE}(t:St Γ O σ s):¬O.has s.heap.objs.size:=by
 rintro⟨p,hp,e⟩
 obtain⟨o,ho⟩:=t.live p hp
 rw[e] at ho
 exact absurd (kq ho) (lp _)
theorem St.of_keeps{Γ:Cx}{O:Ap}{σ:AX}{s s':jE}(t:St Γ O σ s)(k:kY s s'):St Γ O σ s':=by
 obtain⟨h',tk,rfl,k⟩:=k
 exact t.keeps k
theorem Keeps.rfl'{s:jE}{tk:Nat}:kY s {s with toks:=tk}:=AT s.heap tk rfl λ_ _ e=>e
theorem Keeps.tr{a b c:jE}(x:kY a b)(y:kY b c):kY a c:=by
 refine Ao x λh t zz1 k=>?_;clear x;obtain rfl:=zz1
 refine Ao y λh' t' zz1 k'=>?_;clear y;obtain rfl:=zz1
 exact AT h' t' rfl λb o e=>k' b o (k b o e)
theorem Keeps.re(s:jE):kY s s:=AT s.heap s.toks rfl λ_ _ e=>e
section
variable (Γ:Cx)
noncomputable def Ev (σ:AX) (e:kH) (av:AV):Prop:=
 ∀(O:Ap) (s:jE) (Q:jB->jE->Prop) (E:jB->jE->Prop),St Γ O σ s->
  (∀v s',St Γ O σ s'->kY s s'->VR O s'.heap av v->Q v s')->wpAny (model Γ.prog Γ.w) Γ.A (eval e Γ.env) Q E s
noncomputable def Tv (σ:AX) (e:kH) (b:Bool):Prop:=
 ∀(O:Ap) (s:jE) (Q:Bool->jE->Prop) (E:jB->jE->Prop),St Γ O σ s->
  (∀s',St Γ O σ s'->kY s s'->Q b s')->wpAny (model Γ.prog Γ.w) Γ.A (isTrue e Γ.env (eval e Γ.env)) Q E s
end
section
variable {Γ:Cx} {σ:AX}
theorem Aa(i:Nat){x:jX}{pos:mf}{a:AV}(hi:autoParam (Γ.ns[i]?=some x) aR)(h:autoParam (σ[i]?=some (some (.val a))) aR)(hk:autoParam (Γ.env.scope.kind=.function) aR)(hd:autoParam ((x == ("__debug__":jX))=false) aK) :
 Ev Γ σ (.Name x pos) a:=by
 intro O s Q E t q
 refine Af t.ex λm n vs=>?_
 refine Af (vs i x _ hi h) λv hd' r=>?_
 rcases hd' with⟨k1,e⟩|⟨k1,c,hc,e⟩
 ·exact nF (mC hk k1 n e (q v s t (Keeps.re s) r)) hd
 ·exact nF (on hk k1 hc e (q v s t (Keeps.re s) r)) hd
theorem Ai{i:Int}{k:Nat}{pos:mf}:Ev Γ σ (.Constant (.int i) k pos) (.py (.int i)):=by
 intro O s Q E t q
 exact wpAny_Constant_int (q _ _ (t.keeps λ_ _ e=>e) Keeps.rfl' (Ac [] (.int _ _) λ_ h=>nomatch h))
theorem BF{x:jX}{k:Nat}{pos:mf}:Ev Γ σ (.Constant (.str x) k pos) (.py (.str x)):=by
 intro O s Q E t q
 exact tU (q _ _ (t.keeps λ_ _ e=>e) Keeps.rfl' (Ac [] (.str _ _) λ_ h=>nomatch h))
theorem Uf{x:Bool}{k:Nat}{pos:mf}:Ev Γ σ (.Constant (.bool x) k pos) (.py (.bool x)):=by
 intro O s Q E t q
 exact wpAny_Constant_bool (q _ _ t (Keeps.re s) (Ac [] (.bool _) λ_ h=>nomatch h))
theorem Fu{k:Nat}{pos:mf}:Ev Γ σ (.Constant .none k pos) (.py .none):=by
 intro O s Q E t q
 exact xt (q _ _ t (Keeps.re s) (Ac [] .none λ_ h=>nomatch h))
theorem VR.int_inv{O:Ap}{h:jY}{i:Int}{v:jB}(r:VR O h (.py (.int i)) v):∃t,v=.int i t:=by
 obtain⟨as,r,_⟩:=r;cases r;exact Ag _ rfl
theorem VR.str_inv{O:Ap}{h:jY}{i:jX}{v:jB}(r:VR O h (.py (.str i)) v):∃t,v=.str i t:=by
 obtain⟨as,r,_⟩:=r;cases r;exact Ag _ rfl
theorem VR.bool_inv{O:Ap}{h:jY}{i:Bool}{v:jB}(r:VR O h (.py (.bool i)) v):v=.bool i:=by
 obtain⟨as,r,_⟩:=r;cases r;rfl
theorem VR.int(O:Ap)(h:jY)(i:Int)(t:ut):VR O h (.py (.int i)) (.int i t):=Ac [] (.int _ _) λ_ h=>nomatch h
theorem VR.str(O:Ap)(h:jY)(i:jX)(t:ut):VR O h (.py (.str i)) (.str i t):=Ac [] (.str _ _) λ_ h=>nomatch h
theorem VR.bool(O:Ap)(h:jY)(i:Bool):VR O h (.py (.bool i)) (.bool i):=Ac [] (.bool _) λ_ h=>nomatch h
theorem De{l r:kH}{op:Operator}{pos:mf}{a b d:AV}(hl:Ev Γ σ l a)(hr:Ev Γ σ r b)
 (h:∀(O:Ap) (s:jE) (x y:jB) (Q:jB->jE->Prop) (E:jB->jE->Prop),VR O s.heap a x->VR O s.heap b y->
  (∀v s',kY s s'->VR O s'.heap d v->Q v s')->wpAny (model Γ.prog Γ.w) Γ.A (binaryOp op x y) Q E s) :
 Ev Γ σ (.BinOp l op r pos) d:=by
 intro O s Q E t q
 refine wpAny_BinOp (hl O s _ E t λx s1 t1 k1 r1=>hr O s1 _ E t1 λy s2 t2 k2 r2=>?_)
 have r1':VR O s2.heap a x:=by refine Ao k2 λh' tk zz1 k=>?_;clear k2;obtain rfl:=zz1;exact r1.keeps k
 exact h O s2 x y Q E r1' r2 λv s' k rv=>q v s' (t2.of_keeps k) (Keeps.tr (Keeps.tr k1 k2) k) rv
end
end
structure Gl (mg mb:jX->Option jB) (h:jY):Prop where
 g:h.Ns mN mg
 b:h.Ns builtinsNs mb
 bt:∀x:jX,x≠"__name__"->mb x=wu x
 nolimit:h.NoLimit
theorem Gl.keeps{mg mb:jX->Option jB}{h h':jY}(G:Gl mg mb h)(k:∀b o,h.get? b=some o->h'.get? b=some o):Gl mg mb h':=
 ⟨G.g.keeps k,G.b.keeps k,G.bt,G.nolimit.keeps k⟩
structure A0 (A:kA) (n:Nat):Prop where
 handled:A.handled=none
 depth:A.depth+n<recursionLimit
 units:A.units+8*n+200<cLine
theorem A0.deeper{A:kA}{n:Nat}{env:xy}(r:A0 A (n+1)):A0 (A.deeper env) n:=
 ⟨r.handled,by have:=r.depth;show A.depth+1+n<_;rwa[this],by have:=r.units;show A.units+3+8*n+200<_;rwa[this]⟩
theorem A0.in1{A:kA}{n:Nat}(r:A0 A (n+1)):A0 A.in1 n:=
 ⟨r.handled,by have:=r.depth;show A.depth+n<_;rwa[this],by have:=r.units;show A.units+1+8*n+200<_;rwa[this]⟩
theorem A0.le{A:kA}{n k:Nat}(r:A0 A n)(h:k<=n):A0 A k:=
 ⟨r.handled,by have:=r.depth;rwa[h,this],by have:=r.units;rwa[h,this]⟩
theorem VR.kept{O:Ap}{s s':jE}{a:AV}{v:jB}(r:VR O s.heap a v)(k:kY s s'):VR O s'.heap a v:=by
 obtain⟨h',tk,rfl,k⟩:=k;exact r.keeps k
section
variable {Γ:Cx} {σ:AX} {l r:kH} {pos:mf} {a b:Int}
theorem Bl(hl:Ev Γ σ l (.py (.int a)))(hr:Ev Γ σ r (.py (.int b))):Ev Γ σ (.BinOp l .Add r pos) (.py (.int (a+b))):=
 De hl hr λO s x y Q E rx ry q=>by
  obtain⟨tx,rfl⟩:=rx.int_inv;obtain⟨ty,rfl⟩:=ry.int_inv
  exact P.add_int (q _ _ Keeps.rfl' (VR.int ..))
theorem Dd(hl:Ev Γ σ l (.py (.int a)))(hr:Ev Γ σ r (.py (.int b))):Ev Γ σ (.BinOp l .Sub r pos) (.py (.int (a-b))):=
 De hl hr λO s x y Q E rx ry q=>by
  obtain⟨tx,rfl⟩:=rx.int_inv;obtain⟨ty,rfl⟩:=ry.int_inv
  exact P.sub_int (q _ _ Keeps.rfl' (VR.int ..))
theorem Gd(hl:Ev Γ σ l (.py (.int a)))(hr:Ev Γ σ r (.py (.int b)))(hb:b.natAbs<2^64\/a.natAbs<2^64):Ev Γ σ (.BinOp l .Mult r pos) (.py (.int (a*b))):=
 De hl hr λO s x y Q E rx ry q=>by
  obtain⟨tx,rfl⟩:=rx.int_inv;obtain⟨ty,rfl⟩:=ry.int_inv
  exact P.mul_int (q _ _ Keeps.rfl' (VR.int ..)) (by
   rcases hb with hb|hb
   ·exact IntMulOk.of_right (vX (by omega) (by omega))
   ·exact IntMulOk.of_left (vX (by omega) (by omega)))
theorem Dz(hl:Ev Γ σ l (.py (.int a)))(hr:Ev Γ σ r (.py (.int b)))(hb:b≠0)(hs:b.natAbs<2^200):Ev Γ σ (.BinOp l .FloorDiv r pos) (.py (.int (a.fdiv b))):=
 De hl hr λO s x y Q E rx ry q=>by
  obtain⟨tx,rfl⟩:=rx.int_inv;obtain⟨ty,rfl⟩:=ry.int_inv
  exact floordiv_int hb (q _ _ Keeps.rfl' (VR.int ..)) (.inl (uy (by
   have h0:b.natAbs≠0:=by lia
   have:=(v7 h0).mpr hs
   rwa[this])))
theorem CB(hl:Ev Γ σ l (.py (.int a)))(hr:Ev Γ σ r (.py (.int b)))(hb:b≠0):Ev Γ σ (.BinOp l .Mod r pos) (.py (.int (a.fmod b))):=
 De hl hr λO s x y Q E rx ry q=>by
  obtain⟨tx,rfl⟩:=rx.int_inv;obtain⟨ty,rfl⟩:=ry.int_inv
  exact mod_int hb (q _ _ Keeps.rfl' (VR.int ..))
theorem Gc(hl:Ev Γ σ l (.py (.int a)))(hr:Ev Γ σ r (.py (.int b)))(h0:0<=b)(hb:b<=1000)(ha:a.natAbs<2^64):Ev Γ σ (.BinOp l .Pow r pos) (.py (.int (a^b.toNat))):=
 De hl hr λO s x y Q E rx ry q=>by
  obtain⟨tx,rfl⟩:=rx.int_inv;obtain⟨ty,rfl⟩:=ry.int_inv
  exact pow_int h0 (by
   have h64:rg a<=64:=vX (by lia) (by lia)
   have:(rg a:Int)<=64:=by rwa[h64]
   calc (rg a:Int)*b<=64*b:=Int.mul_le_mul_of_nonneg_right this h0
    _<=64*1000:=by rwa[hb]
    _<=2^27:=by decide) (q _ _ Keeps.rfl' (VR.int ..))
theorem W6(hl:Ev Γ σ l (.py (.int a)))(hr:Ev Γ σ r (.py (.int b))):Ev Γ σ (.BinOp l .BitXor r pos) (.py (.int (oK a b))):=
 De hl hr λO s x y Q E rx ry q=>by
  obtain⟨tx,rfl⟩:=rx.int_inv;obtain⟨ty,rfl⟩:=ry.int_inv
  exact xor_int (q _ _ Keeps.rfl' (VR.int ..))
theorem Hm(hl:Ev Γ σ l (.py (.int a)))(hr:Ev Γ σ r (.py (.int b))):Ev Γ σ (.BinOp l .BitAnd r pos) (.py (.int (kc a b))):=
 De hl hr λO s x y Q E rx ry q=>by
  obtain⟨tx,rfl⟩:=rx.int_inv;obtain⟨ty,rfl⟩:=ry.int_inv
  exact and_int (q _ _ Keeps.rfl' (VR.int ..))
theorem eJ(hl:Ev Γ σ l (.py (.int a)))(hr:Ev Γ σ r (.py (.int b))):Ev Γ σ (.BinOp l .BitOr r pos) (.py (.int (ou a b))):=
 De hl hr λO s x y Q E rx ry q=>by
  obtain⟨tx,rfl⟩:=rx.int_inv;obtain⟨ty,rfl⟩:=ry.int_inv
  exact or_int (q _ _ Keeps.rfl' (VR.int ..))
theorem Rn(hl:Ev Γ σ l (.py (.int a)))(hr:Ev Γ σ r (.py (.int b)))(h0:0<=b)(hb:b<=1000)(ha:a.natAbs<2^64):Ev Γ σ (.BinOp l .LShift r pos) (.py (.int (a*2^b.toNat))):=
 De hl hr λO s x y Q E rx ry q=>by
  obtain⟨tx,rfl⟩:=rx.int_inv;obtain⟨ty,rfl⟩:=ry.int_inv
  exact lshift_int_small h0 (by rwa[hb]) ha (q _ _ Keeps.rfl' (VR.int ..))
theorem aA(hl:Ev Γ σ l (.py (.int a)))(hr:Ev Γ σ r (.py (.int b)))(h0:0<=b):Ev Γ σ (.BinOp l .RShift r pos) (.py (.int (a.fdiv (2^b.toNat)))):=
 De hl hr λO s x y Q E rx ry q=>by
  obtain⟨tx,rfl⟩:=rx.int_inv;obtain⟨ty,rfl⟩:=ry.int_inv
  exact rshift_int h0 (q _ _ Keeps.rfl' (VR.int ..))
theorem Hk(hl:Ev Γ σ l (.py (.int a))):Ev Γ σ (.UnaryOp .USub l pos) (.py (.int (-a))):=by
 intro O s Q E t q
 refine wpAny_UnaryOp (hl O s _ E t λx s1 t1 k1 r1=>?_)
 obtain⟨tx,rfl⟩:=r1.int_inv
 exact P.neg_int (q _ _ (t1.keeps λ_ _ e=>e) (Keeps.tr k1 Keeps.rfl') (VR.int ..))
theorem HL{x:jX}(h:(x.length == 0)=true):x=mH:=by
 have hx:x.cps.size=0:=by simpa[sW] using h
 exact uQ (by simpa[mH] using hx)
theorem Hn{x y:jX}(hl:Ev Γ σ l (.py (.str x)))(hr:Ev Γ σ r (.py (.str y)))(hs:x.length+y.length<=100000):Ev Γ σ (.BinOp l .Add r pos) (.py (.str (x++y))):=
 De hl hr λO s u v Q E rx ry q=>by
  obtain⟨tx,rfl⟩:=rx.str_inv;obtain⟨ty,rfl⟩:=ry.str_inv
  refine P.add_str ?_
  split
  ·rename_i h0
   obtain rfl:=HL h0
   exact q _ _ (Keeps.re s) (by rw[Str.empty_append];exact VR.str ..)
  ·split
   ·rename_i h0
    obtain rfl:=HL h0
    exact q _ _ (Keeps.re s) (by rw[tY];exact VR.str ..)
   ·refine⟨?_,q _ _ Keeps.rfl' (VR.str ..)⟩
    show(x++y).length<=sizeLine
    rw[Str.length_append,sizeLine_eq];rwa[hs]
theorem Eh{op:CmpOp}{u v:AV}{c:Bool}(hl:Ev Γ σ l u)(hr:Ev Γ σ r v)
 (h:∀(O:Ap) (s:jE) (x y:jB) (Q:jB->jE->Prop) (E:jB->jE->Prop),VR O s.heap u x->VR O s.heap v y->
  (∀s',kY s s'->Q (.bool c) s')->wpAny (model Γ.prog Γ.w) Γ.A (compareOp op x y) Q E s)(hm:behindInMarks op r=false) :
 Tv Γ σ (.Compare l [op] [r] pos) c:=by
 intro O s Q E t q
 refine qe (hl O s _ E t λx s1 t1 k1 r1=>hr O s1 _ E t1 λy s2 t2 k2 r2=>?_) hm
 exact h O s2 x y _ E (r1.kept k2) r2 λs' k=>nO (q s' (t2.of_keeps k) (Keeps.tr (Keeps.tr k1 k2) k))
noncomputable def bz (op:CmpOp) (a b:Int):Option Bool:=match op with
 | .Lt=>some (decide (a<b)) | .LtE=>some (decide (a<=b)) | .Gt=>some (decide (b<a)) | .GtE=>some (decide (b<=a)) | .Eq=>some (decide (a=b)) | .NotEq=>some (!decide (a=b))
 | _=>none
theorem Xn{op:CmpOp}{c:Bool}(hc:bz op a b=some c)(O:Ap)(s:jE)(x y:jB)(Q:jB->jE->Prop)(E:jB->jE->Prop)(rx:VR O s.heap (.py (.int a)) x)(ry:VR O s.heap (.py (.int b)) y)
 (q:∀s',kY s s'->Q (.bool c) s'):wpAny (model Γ.prog Γ.w) Γ.A (compareOp op x y) Q E s:=by
 obtain⟨tx,rfl⟩:=rx.int_inv;obtain⟨ty,rfl⟩:=ry.int_inv
 have q:=q s (Keeps.re s)
 cases op<;>simp only[bz,Option.some.injEq] at hc<;>(try cases hc)
 ·refine P.eq_int ?_;rw[show(a == b)=decide (a=b) from rfl];exact q
 ·refine P.ne_int ?_;rw[show(a != b)=!decide (a=b) from rfl];exact q
 ·exact P.lt_int q
 ·exact P.le_int q
 ·exact P.gt_int q
 ·exact P.ge_int q
theorem An{op:CmpOp}{c:Bool}(hl:Ev Γ σ l (.py (.int a)))(hr:Ev Γ σ r (.py (.int b)))(hc:autoParam (bz op a b=some c) aR)(hm:autoParam (behindInMarks op r=false) aR) :
 Tv Γ σ (.Compare l [op] [r] pos) c:=Eh hl hr (Xn hc) hm
theorem TN(x y:jX):(x.cps.toList == y.cps.toList)=decide (x=y):=by
 rw[qf,beq_iff_eq,decide_eq_true_eq]
 exact⟨λh=>uQ (nb.mp h),λh=>by rw[h]⟩
theorem Vn{x y:jX}(O:Ap)(s:jE)(u v:jB)(Q:jB->jE->Prop)(E:jB->jE->Prop)(rx:VR O s.heap (.py (.str x)) u)(ry:VR O s.heap (.py (.str y)) v)
 (q:∀s',kY s s'->Q (.bool (decide (x=y))) s'):wpAny (model Γ.prog Γ.w) Γ.A (compareOp .Eq u v) Q E s:=by
 obtain⟨tx,rfl⟩:=rx.str_inv;obtain⟨ty,rfl⟩:=ry.str_inv
 refine P.eq_str ?_;rw[TN];exact q s (Keeps.re s)
theorem Vm{x y:jX}(O:Ap)(s:jE)(u v:jB)(Q:jB->jE->Prop)(E:jB->jE->Prop)(rx:VR O s.heap (.py (.str x)) u)(ry:VR O s.heap (.py (.str y)) v)
 (q:∀s',kY s s'->Q (.bool (!decide (x=y))) s'):wpAny (model Γ.prog Γ.w) Γ.A (compareOp .NotEq u v) Q E s:=by
 obtain⟨tx,rfl⟩:=rx.str_inv;obtain⟨ty,rfl⟩:=ry.str_inv
 refine P.ne_str ?_;rw[show(x.cps.toList != y.cps.toList)=!(x.cps.toList == y.cps.toList) from rfl,TN];exact q s (Keeps.re s)
theorem IC{x y:jX}(hl:Ev Γ σ l (.py (.str x)))(hr:Ev Γ σ r (.py (.str y)))(hm:autoParam (behindInMarks .Eq r=false) aR) :
 Tv Γ σ (.Compare l [.Eq] [r] pos) (decide (x=y)):=Eh hl hr Vn hm
theorem VM{x y:jX}(hl:Ev Γ σ l (.py (.str x)))(hr:Ev Γ σ r (.py (.str y)))(hm:autoParam (behindInMarks .NotEq r=false) aR) :
 Tv Γ σ (.Compare l [.NotEq] [r] pos) (!decide (x=y)):=Eh hl hr Vm hm
theorem VN{e:kH}{c:Bool}(h:Tv Γ σ e c):Tv Γ σ (.UnaryOp .Not e pos) (!c):=by
 intro O s Q E t q
 exact wpAny_isTrue_Not (h O s _ E t λs' t' k=>q s' t' k)
theorem ID{e:kH}(h:Ev Γ σ e (.py (.int a)))(he:autoParam (isTrue e Γ.env (eval e Γ.env)=(do let v<-eval e Γ.env;mQ e.pos;ml [v] (truthy v))) aR):Tv Γ σ e (a != 0):=by
 intro O s Q E t q
 refine oJ (h O s _ E t λv s' t' k r=>?_) he
 obtain⟨tx,rfl⟩:=r.int_inv
 exact P.truthy_int (q s' t' k)
theorem Fi{e:kH}{c:Bool}(h:Ev Γ σ e (.py (.bool c)))(he:autoParam (isTrue e Γ.env (eval e Γ.env)=(do let v<-eval e Γ.env;mQ e.pos;ml [v] (truthy v))) aR):Tv Γ σ e c:=by
 intro O s Q E t q
 refine oJ (h O s _ E t λv s' t' k r=>?_) he
 obtain rfl:=r.bool_inv
 exact nO (q s' t' k)
noncomputable def bv (Γ:Cx) (σ:AX) (op:BoolOp) (es:List kH) (b:Bool):Prop:=
 ∀(O:Ap) (s:jE) (Q:Bool->jE->Prop) (E:jB->jE->Prop),St Γ O σ s->
  (∀s',St Γ O σ s'->kY s s'->Q b s')->wpAny (model Γ.prog Γ.w) Γ.A (allTrue op es Γ.env) Q E s
theorem BC:bv Γ σ .And [] true:=λO s Q E t q=>wpAny_allTrue_And_nil (q s t (Keeps.re s))
theorem QR:bv Γ σ .Or [] false:=λO s Q E t q=>wpAny_allTrue_Or_nil (q s t (Keeps.re s))
theorem AP{e:kH}{es:List kH}{c d:Bool}(h:Tv Γ σ e c)(hs:c=true->bv Γ σ .And es d):bv Γ σ .And (e::es) (c&&d):=by
 intro O s Q E t q
 refine sr (h O s _ E t λs' t' k=>?_)
 cases c with
 | true=>exact hs rfl O s' Q E t' λs'' t'' k'=>q s'' t'' (Keeps.tr k k')
 | false=>exact q s' t' k
theorem IB{e:kH}{es:List kH}{c d:Bool}(h:Tv Γ σ e c)(hs:c=false->bv Γ σ .Or es d):bv Γ σ .Or (e::es) (c || d):=by
 intro O s Q E t q
 refine wpAny_allTrue_Or_cons (h O s _ E t λs' t' k=>?_)
 cases c with
 | false=>exact hs rfl O s' Q E t' λs'' t'' k'=>q s'' t'' (Keeps.tr k k')
 | true=>exact q s' t' k
theorem By{op:BoolOp}{es:List kH}{c:Bool}(h:bv Γ σ op es c):Tv Γ σ (.BoolOp op es pos) c:=
 λO s Q E t q=>xq (h O s Q E t q)
theorem I8{e x y:kH}{c:Bool}{u:AV}(h:Tv Γ σ e c)(hx:c=true->Ev Γ σ x u)(hy:c=false->Ev Γ σ y u):Ev Γ σ (.IfExp e x y pos) u:=by
 intro O s Q E t q
 refine wpAny_IfExp (h O s _ E t λs' t' k=>?_)
 cases c with
 | true=>exact hx rfl O s' Q E t' λv s'' t'' k' r=>q v s'' t'' (Keeps.tr k k') r
 | false=>exact hy rfl O s' Q E t' λv s'' t'' k' r=>q v s'' t'' (Keeps.tr k k') r
theorem Tv.cast{e:kH}{c d:Bool}(h:Tv Γ σ e c)(q:c=d):Tv Γ σ e d:=q▸h
theorem Ev.cast{e:kH}{c d:AV}(h:Ev Γ σ e c)(q:c=d):Ev Γ σ e d:=q▸h
end
noncomputable def DD (O:Ap) (h:jY):List AV->List jB->Prop
 | [],[]=>True
 | a::as,v::vs=>VR O h a v/\DD O h as vs
 | _,_=>False
theorem DD.keeps{O:Ap}{h h':jY}(k:∀b o,h.get? b=some o->h'.get? b=some o){as:List AV}{vs:List jB}(r:DD O h as vs):DD O h' as vs:=by
 induction as generalizing vs with
 | nil=>cases vs with
  | nil=>exact uC
  | cons _ _=>exact ro r
 | cons a as ih=>cases vs with
  | nil=>exact ro r
  | cons v vs=>exact⟨r.1.keeps k,ih r.2⟩
theorem DD.kept{O:Ap}{s s':jE}{as:List AV}{vs:List jB}(r:DD O s.heap as vs)(k:kY s s'):DD O s'.heap as vs:=by
 obtain⟨h',tk,rfl,k⟩:=k;exact r.keeps k
theorem DD.ni{O:Ap}{h:jY}{vs:List jB}(r:DD O h [] vs):vs=[]:=by
 cases vs with
 | nil=>rfl
 | cons _ _=>exact ro r
theorem DD.ci{O:Ap}{h:jY}{a:AV}{as:List AV}{vs:List jB}(r:DD O h (a::as) vs):∃v ws,vs=v::ws/\VR O h a v/\DD O h as ws:=by
 cases vs with
 | nil=>exact ro r
 | cons v ws=>exact FQ v ws rfl r.1 r.2
theorem DD.length{O:Ap}{h:jY}{as:List AV}{vs:List jB}(r:DD O h as vs):vs.length=as.length:=by
 induction as generalizing vs with
 | nil=>rw[r.ni];rfl
 | cons a as ih=>exact BD r.ci λv ws e _ y=>e▸congrArg (· + 1) (ih y)
theorem DD.one{O:Ap}{h:jY}{a:AV}{vs:List jB}(r:DD O h [a] vs):∃v,vs=[v]/\VR O h a v:=
 BD r.ci λv ws e r1 r2=>Ac v (e.trans (congrArg _ r2.ni)) r1
theorem DD.two{O:Ap}{h:jY}{a b:AV}{vs:List jB}(r:DD O h [a,b] vs):∃v u,vs=[v,u]/\VR O h a v/\VR O h b u:=
 BD r.ci λv ws e r1 r2=>Af r2.one λu e2 r3=>FQ v u (e.trans (congrArg _ e2)) r1 r3
theorem DD.three{O:Ap}{h:jY}{a b c:AV}{vs:List jB}(r:DD O h [a,b,c] vs):∃v u x,vs=[v,u,x]/\VR O h a v/\VR O h b u/\VR O h c x:=
 BD r.ci λv ws e r1 r2=>BD r2.two λu x e2 r3 r4=>FP v u x (e.trans (congrArg _ e2)) r1 r3 r4
theorem DD.reads{O:Ap}{h:jY}{ds:List jO}{vs:List jB}(r:DD O h (ds.map .py) vs):∃as,Ae h vs ds as/\∀a∈as,¬O.has a:=by
 induction ds generalizing vs with
 | nil=>rw[r.ni];exact Ac [] .nil λ_ h=>nomatch h
 | cons d ds ih=>
  refine BD r.ci λv ws e r1 r2=>Af r1 λas r q=>Af (ih r2) λbs rs qs=>?_
  rw[e];exact Ac (as++bs) (.cons r rs) λa ha=>(jU.mp ha).elim (q a) (qs a)
section
variable (Γ:Cx)
noncomputable def XI (σ:AX) (es:List kH) (avs:List AV):Prop:=
 ∀(O:Ap) (s:jE) (pos:mf) (Q:List jB->jE->Prop) (E:jB->jE->Prop),St Γ O σ s->
  (∀vs s',St Γ O σ s'->kY s s'->DD O s'.heap avs vs->Q vs s')->wpAny (model Γ.prog Γ.w) Γ.A (spliced (backTo pos (starEach es Γ.env))) Q E s
end
noncomputable def AE:kH->Bool
 | .Starred ..=>false
 | _=>true
theorem CC{e:kH}{es:List kH}{env:xy}(h:AE e=true):starEach (e::es) env=(false,eval e env)::starEach es env:=by
 cases e<;>first|rfl|cases h
theorem Bh{es:List kH}{env:xy}{pos:mf}(h:es.all AE=true):(backTo pos (starEach es env)).any (·.1)=false:=by
 induction es with
 | nil=>rfl
 | cons e es ih=>
  rw[lC,kJ] at h
  rw[CC h.1]
  show(false || _)=false
  rw[Bool.false_or]
  exact ih h.2
section
variable {Γ:Cx} {σ:AX} {pos:mf}
theorem Ah:XI Γ σ [] []:=λO s p Q E t q=>pX (q [] s t (Keeps.re s) trivial)
theorem Ab{e:kH}{es:List kH}{a:AV}{as:List AV}(h:Ev Γ σ e a)(hs:XI Γ σ es as)(hp:autoParam (AE e=true) aR):XI Γ σ (e::es) (a::as):=by
 intro O s p Q E t q
 exact args_cons (h O s _ E t λv s1 t1 k1 r1=>hs O s1 p _ E t1 λvs s2 t2 k2 r2=>q _ s2 t2 (Keeps.tr k1 k2) ⟨r1.kept k2,r2⟩) (CC hp)
theorem Ve{mg mb:jX->Option jB}{x:jX}{v:jB}(G:Gl mg mb Γ.s₀.heap)(hg:Γ.env.globals=mN)(h:mg x=some v)(hk:autoParam (Γ.env.scope.kind=.function) aR)(hx:autoParam (Γ.env.kindOf x=some .globalImplicit) aR)
 (hd:autoParam ((x == ("__debug__":jX))=false) aD):Ev Γ σ (.Name x pos) (.raw v):=by
 intro O s Q E t q
 exact sZ hk hx (loadGlobal_global (by rw[hg];exact G.g.keeps t.keep) h (q v s t (Keeps.re s) rfl)) hd
theorem I9{mg mb:jX->Option jB}{x:jX}{v:jB}{d:AV}(G:Gl mg mb Γ.s₀.heap)(hg:Γ.env.globals=mN)(h:mg x=some v)(hr:∀O,VR O Γ.s₀.heap d v)(hk:autoParam (Γ.env.scope.kind=.function) aR)(hx:autoParam (Γ.env.kindOf x=some .globalImplicit) aR)
 (hd:autoParam ((x == ("__debug__":jX))=false) aD):Ev Γ σ (.Name x pos) d:=by
 intro O s Q E t q
 exact sZ hk hx (loadGlobal_global (by rw[hg];exact G.g.keeps t.keep) h (q v s t (Keeps.re s) ((hr O).keeps t.keep))) hd
theorem Ro{mg mb:jX->Option jB}{x:jX}{v:jB}(G:Gl mg mb Γ.s₀.heap)(hg:Γ.env.globals=mN)(hb:Γ.env.builtins=builtinsNs)(h:mg x=none)(hv:wu x=some v)(hn:autoParam (x≠"__name__") aD)(hk:autoParam (Γ.env.scope.kind=.function) aR)(hx:autoParam (Γ.env.kindOf x=some .globalImplicit) aR)
 (hd:autoParam ((x == ("__debug__":jX))=false) aD):Ev Γ σ (.Name x pos) (.raw v):=by
 intro O s Q E t q
 exact sZ hk hx (loadGlobal_builtin (by rw[hg];exact G.g.keeps t.keep) h (by rw[hb];exact G.b.keeps t.keep) ((G.bt x hn).trans hv) (q v s t (Keeps.re s) rfl)) hd
theorem Dy{es:List kH}{ds:List jO}(h:XI Γ σ es (ds.map .py))(hs:autoParam (ds.length<=100000) aN):Ev Γ σ (.List es pos) (.py (.list ds)):=by
 intro O s Q E t q
 refine tT (h O s _ _ E t λvs s1 t1 k1 r1=>?_)
 refine Af r1.reads λas rs qs=>?_
 have hl:=r1.length
 rw[jI] at hl
 refine⟨by rw[hl,sizeLine_eq];rwa[hs],q _ _ (t1.keeps λ_ _ e=>jF _ e) (Keeps.tr k1 (AT _ s1.toks rfl λ_ _ e=>jF _ e)) ?_⟩
 refine Ac (s1.heap.objs.size::as) (.list (jQ _ rfl) rfl rfl (Ae.keeps (λ_ _ e=>jF _ e) rs)) λa ha=>?_
 rcases jG.mp ha with rfl|ha
 ·exact t1.notNew
 ·exact qs a ha
theorem Au{es:List kH}{ds:List jO}{k:Nat}(h:XI Γ σ es (ds.map .py))(hs:autoParam (ds.length<=100000) aN):Ev Γ σ (.Tuple es k pos) (.py (.tuple ds)):=by
 intro O s Q E t q
 refine xr (h O s _ _ E t λvs s1 t1 k1 r1=>?_)
 refine Af r1.reads λas rs qs=>?_
 have hl:=r1.length
 rw[jI] at hl
 refine⟨by rw[hl,sizeLine_eq];rwa[hs],q _ _ (t1.keeps λ_ _ e=>jF _ e) (Keeps.tr k1 (AT _ s1.toks rfl λ_ _ e=>jF _ e)) ?_⟩
 exact Ac as (.tuple (jQ _ rfl) rfl rfl (Ae.keeps (λ_ _ e=>jF _ e) rs)) qs
end
theorem VR.list_inv{O:Ap}{h:jY}{ds:List jO}{v:jB}(r:VR O h (.py (.list ds)) v):∃a vs as,v=.ref a/\h.IsList a vs/\Ae h vs.toList ds as/\¬O.has a/\∀b∈as,¬O.has b:=by
 refine Af r λas r q=>?_
 cases r with
 | list h1 h2 h3 h4=>exact KB _ _ _ rfl ⟨_,h1,h2,_,h3⟩ h4 (q _ (.head _)) λb hb=>q b (.tail _ hb)
theorem VR.tuple_inv{O:Ap}{h:jY}{ds:List jO}{v:jB}(r:VR O h (.py (.tuple ds)) v):∃a vs as,v=.ref a/\vC h a vs/\Ae h vs.toList ds as/\∀b∈as,¬O.has b:=by
 refine Af r λas r q=>?_
 cases r with
 | tuple h1 h2 h3 h4=>exact FP _ _ _ rfl ⟨_,h1,h2,_,h3⟩ h4 q
theorem Al{h:jY}{vs:List jB}{ds:List jO}{as:List jL}(r:Ae h vs ds as):vs.length=ds.length:=
 Ae.ind (P:=λvs ds _=>vs.length=ds.length) rfl (λ_ _ ih=>congrArg (· + 1) ih) r
theorem B4{h:jY}{vs:List jB}{ds:List jO}{as:List jL}(r:Ae h vs ds as):∀{i:Nat} {d:jO},ds[i]?=some d->∃v bs,vs[i]?=some v/\Ak h v d bs/\∀b∈bs,b∈as:=by
 refine Ae.ind (P:=λvs ds as=>∀{i:Nat} {d:jO},ds[i]?=some d->∃v bs,vs[i]?=some v/\Ak h v d bs/\∀b∈bs,b∈as) (λe=>nomatch e) (λ{v vs d ds as bs} r _ ih {i e} he=>?_) r
 cases i with
 | zero=>obtain rfl:=kR he;exact FQ v as rfl r λb hb=>lM _ hb
 | succ i=>
  refine BD (ih (i:=i) he) λv bs e1 r q=>?_
  exact FQ v bs e1 r λb hb=>kO _ (q b hb)
section
variable {Γ:Cx} {σ:AX} {pos:mf} {l r:kH} {i:Int}
theorem Ay{ds:List jO}{d:jO}(hl:Ev Γ σ l (.py (.list ds)))(hr:Ev Γ σ r (.py (.int i)))(h0:0<=i)(h1:i<2^63)(hd:ds[i.toNat]?=some d)
 (hs:autoParam (∀o x,subscripted r false o x=th [o,x] (getItem o x)) aI):Ev Γ σ (.Subscript l r pos) (.py d):=by
 intro O s Q E t q
 refine ua (hl O s _ E t λx s1 t1 k1 r1=>hr O s1 _ E t1 λy s2 t2 k2 r2=>?_)
 refine HZ ((r1.kept k2).list_inv) λa vs as zz1 hl' rs _ qs=>?_;obtain rfl:=zz1
 obtain⟨ty,rfl⟩:=r2.int_inv
 refine BD (B4 rs hd) λv bs e1 rv qb=>?_
 exact vA hl'.typeIs uq.lookup (wpAny_getItem_list hl' h0 h1 (by simpa using e1) (q v s2 t2 (Keeps.tr k1 k2) (Ac bs rv λb hb=>qs b (qb b hb)))) (hs _ _)
theorem V8{i:Int}{n:Nat}(h0:0<=i)(h:i.toNat<n):seqIndex? i n=some i.toNat:=by
 unfold seqIndex?
 have h1:¬i<0:=by rwa[h0]
 have h2:(0<=i&&i<(n:Int))=true:=by
  rw[kJ];exact⟨decide_eq_true h0,decide_eq_true (by rwa[h0,h])⟩
 simp only[h1,if_false]
 rw[if_pos (by simpa using h2)]
theorem A7{ds:List jO}{d:jO}(hl:Ev Γ σ l (.py (.tuple ds)))(hr:Ev Γ σ r (.py (.int i)))(h0:0<=i)(h1:i<2^63)(hd:ds[i.toNat]?=some d)
 (hs:autoParam (∀o x,subscripted r false o x=th [o,x] (getItem o x)) aI):Ev Γ σ (.Subscript l r pos) (.py d):=by
 intro O s Q E t q
 refine ua (hl O s _ E t λx s1 t1 k1 r1=>hr O s1 _ E t1 λy s2 t2 k2 r2=>?_)
 refine Cf ((r1.kept k2).tuple_inv) λa vs as zz1 hl' rs qs=>?_;obtain rfl:=zz1
 obtain⟨ty,rfl⟩:=r2.int_inv
 refine BD (B4 rs hd) λv bs e1 rv qb=>?_
 have hlt:i.toNat<vs.size:=by
  have:=(jK.mp e1).1
  simpa using this
 exact vA hl'.typeIs slot_tuple_getitem.lookup (getItem_tuple hl' (by rwa[h0]) h1 (V8 h0 hlt) (by simpa using e1) (q v s2 t2 (Keeps.tr k1 k2) (Ac bs rv λb hb=>qs b (qb b hb)))) (hs _ _)
theorem H3{x:jX}{c:Nat}(hl:Ev Γ σ l (.py (.str x)))(hr:Ev Γ σ r (.py (.int i)))(h0:0<=i)(h1:i<2^63)(hd:x.cps[i.toNat]?=some c)
 (hs:autoParam (∀o x,subscripted r false o x=th [o,x] (getItem o x)) aI):Ev Γ σ (.Subscript l r pos) (.py (.str ⟨#[c]⟩)):=by
 intro O s Q E t q
 refine ua (hl O s _ E t λx s1 t1 k1 r1=>hr O s1 _ E t1 λy s2 t2 k2 r2=>?_)
 obtain⟨tx,rfl⟩:=(r1.kept k2).str_inv
 obtain⟨ty,rfl⟩:=r2.int_inv
 have hlt:i.toNat<x.cps.size:=(Array.getElem?_eq_some_iff.mp hd).1
 refine vA (vt _ _ _) F.slot_str_getitem.lookup (P.getItem_str ?_ (by rw[show x.length=x.cps.size from rfl,V8 h0 hlt];exact hd) (q _ _ (t2.keeps λ_ _ e=>e) (Keeps.tr (Keeps.tr k1 k2) Keeps.rfl') (VR.str ..))) (hs _ _)
 rw[sg];exact⟨decide_eq_false (by rwa[h0]),decide_eq_false (by rwa[h1])⟩
theorem AL{M:tM}{A:kA}{env:xy}{E:jB->jE->Prop}{s:jE}{f:jB}{e:kH}{es:List kH}{Q:Args->jE->Prop}(hp:(e::es).all AE=true)
 (h:wpAny M A (spliced (backTo pos (starEach (e::es) env))) (λvs s'=>Q ⟨vs,[]⟩ s') E s):wpAny M A (evalArgs f true (backTo pos (starEach (e::es) env)) []) Q E s:=by
 rw[lC,kJ] at hp
 rw[CC hp.1] at h ⊢
 exact evalArgs_plain h
theorem CN{f e:kH}{id:String}{es:List kH}{avs:List AV}{c:AV}(hf:Ev Γ σ f (.raw (.builtin id)))(ha:XI Γ σ (e::es) avs)
 (h:∀(O:Ap) (s:jE) (vs:List jB) (Q:jB->jE->Prop) (E:jB->jE->Prop),¬O.has s.heap.objs.size->DD O s.heap avs vs->(∀v s',kY s s'->VR O s'.heap c v->Q v s')->wpAny (model Γ.prog Γ.w) Γ.A (call (.builtin id) vs) Q E s)
 (hp:autoParam ((e::es).all AE=true) aR)
 (he:autoParam (eval (.Call f (e::es) [] pos) Γ.env=(do kX pos (<-eval f Γ.env) [] (backTo pos (starEach (e::es) Γ.env)) (l8 pos (lu [] Γ.env)))) aR):Ev Γ σ (.Call f (e::es) [] pos) c:=by
 intro O s Q E t q
 refine qQ (hf O s _ E t λv s1 t1 k1 r1=>?_) he
 obtain rfl:v=.builtin id:=r1
 exact callWith_builtin (Bh hp) (AL hp (ha O s1 _ _ E t1 λvs s2 t2 k2 r2=>h O s2 vs Q E t2.notNew r2 λv s3 k3 r3=>q v s3 (t2.of_keeps k3) (Keeps.tr (Keeps.tr k1 k2) k3) r3))
theorem Et{f e:kH}{id:String}{es:List kH}{avs:List AV}{c:AV}(hf:Ev Γ σ f (.raw (.type id)))(ha:XI Γ σ (e::es) avs)
 (h:∀(O:Ap) (s:jE) (vs:List jB) (Q:jB->jE->Prop) (E:jB->jE->Prop),¬O.has s.heap.objs.size->DD O s.heap avs vs->(∀v s',kY s s'->VR O s'.heap c v->Q v s')->wpAny (model Γ.prog Γ.w) Γ.A (call (.type id) vs) Q E s)
 (hp:autoParam ((e::es).all AE=true) aR)
 (he:autoParam (eval (.Call f (e::es) [] pos) Γ.env=(do kX pos (<-eval f Γ.env) [] (backTo pos (starEach (e::es) Γ.env)) (l8 pos (lu [] Γ.env)))) aR):Ev Γ σ (.Call f (e::es) [] pos) c:=by
 intro O s Q E t q
 refine qQ (hf O s _ E t λv s1 t1 k1 r1=>?_) he
 obtain rfl:v=.type id:=r1
 exact oY (Bh hp) (AL hp (ha O s1 _ _ E t1 λvs s2 t2 k2 r2=>h O s2 vs Q E t2.notNew r2 λv s3 k3 r3=>q v s3 (t2.of_keeps k3) (Keeps.tr (Keeps.tr k1 k2) k3) r3))
noncomputable def IX:AV->Option Nat
 | .py (.list ds)=>some ds.length
 | .py (.tuple ds)=>some ds.length
 | .py (.str x)=>some x.length
 | _=>none
theorem Xs{u:AV}{n:Nat}(hn:IX u=some n)(hs:n<2^60)(O:Ap)(s:jE)(vs:List jB)(Q:jB->jE->Prop)(E:jB->jE->Prop)(hO:¬O.has s.heap.objs.size)(rv:DD O s.heap [u] vs)
 (q:∀v s',kY s s'->VR O s'.heap (.py (.int n)) v->Q v s'):wpAny (model Γ.prog Γ.w) Γ.A (call (.builtin "len") vs) Q E s:=by
 refine Af rv.one λv zz1 r=>?_;obtain rfl:=zz1
 cases u with
 | py d=>
  cases d with
  | list ds=>
   obtain rfl:ds.length=n:=kR hn
   refine Cf r.list_inv λa vs as zz1 hl rs _=>?_;obtain rfl:=zz1
   have e:=Al rs
   have e':vs.size=ds.length:=by rw[<-e];simp
   refine len_list hl (by rw[e'];rwa[hs]) ?_
   rw[e'];exact q _ _ Keeps.rfl' (VR.int ..)
  | tuple ds=>
   obtain rfl:ds.length=n:=kR hn
   refine Cf r.tuple_inv λa vs as zz1 hl rs _=>?_;obtain rfl:=zz1
   have e:=Al rs
   have e':vs.size=ds.length:=by rw[<-e];simp
   refine len_tuple hl (by rw[e'];rwa[hs]) ?_
   rw[e'];exact q _ _ Keeps.rfl' (VR.int ..)
  | str x=>
   obtain rfl:x.length=n:=kR hn
   obtain⟨t,rfl⟩:=r.str_inv
   exact P.len_str (by rwa[hs]) (q _ _ Keeps.rfl' (VR.int ..))
  | _=>exact B6 hn
 | _=>exact B6 hn
theorem Ds{f e:kH}{u:AV}{n:Nat}(hf:Ev Γ σ f (.raw (.builtin "len")))(he:Ev Γ σ e u)(hn:autoParam (IX u=some n) aR)(hs:n<2^60)
 (hp:autoParam (AE e=true) aR)
 (hc:autoParam (eval (.Call f [e] [] pos) Γ.env=(do kX pos (<-eval f Γ.env) [] (backTo pos (starEach [e] Γ.env)) (l8 pos (lu [] Γ.env)))) aR):Ev Γ σ (.Call f [e] [] pos) (.py (.int n)):=
 CN hf (Ab he Ah hp) (Xs hn hs) (by rw[lC,hp];rfl) hc
end
inductive AF where
 | next|brk|cont
 | ret (a:AV)
noncomputable def FR (O:Ap) (h:jY):AF->uR->Prop
 | .next,f=>f=.next
 | .brk,f=>f=.brk
 | .cont,f=>f=.cont
 | .ret a,f=>∃v,f=.ret v/\VR O h a v
noncomputable def AI (s s':jE):Prop:=∃h tk,s'={s with heap:=h,toks:=tk}
theorem AI.re(s:jE):AI s s:=AS _ _ rfl
theorem AI.tr{a b c:jE}(x:AI a b)(y:AI b c):AI a c:=by
 refine B1 x λh t zz1=>?_;clear x;obtain rfl:=zz1;refine B1 y λh' t' zz1=>?_;clear y;obtain rfl:=zz1;exact AS h' t' rfl
structure Fx (Γ:Cx) (O:Ap) (s:jE) (O':Ap) (s':jE):Prop where
 alike:AI s s'
 own:∀a,O'.has a->O.has a\/s.heap.get? a=none
 dom:∀b o,s.heap.get? b=some o->∃o',s'.heap.get? b=some o'
 kept:∀b o,s.heap.get? b=some o->¬O.has b->¬(∃x,(x,b)∈Γ.env.cells)->s'.heap.get? b=some o
 tups:∀b o,s.heap.get? b=some o->(o.cls=.type "tuple"/\∃vs n,o.data=.seq vs n)->s'.heap.get? b=some o
theorem Fx.re(Γ:Cx)(O:Ap)(s:jE):Fx Γ O s O s:=⟨AI.re s,λ_ h=>.inl h,λ_ o e=>(Ag o e),λ_ _ e _ _=>e,λ_ _ e _=>e⟩
theorem Fx.tr{Γ:Cx}{O O' O'':Ap}{s s' s'':jE}(x:Fx Γ O s O' s')(y:Fx Γ O' s' O'' s''):Fx Γ O s O'' s'':=by
 refine⟨x.alike.tr y.alike,λa h=>?_,λb o e=>?_,λb o e h1 h2=>?_,λb o e q=>y.tups b o (x.tups b o e q) q⟩
 ·rcases y.own a h with h|h
  ·exact x.own a h
  ·cases q:s.heap.get? a with
   | none=>exact .inr rfl
   | some o=>obtain⟨o',e'⟩:=x.dom _ _ q;exact B0 h e'
 ·obtain⟨o',e'⟩:=x.dom b o e
  exact y.dom b o' e'
 ·refine y.kept b o (x.kept b o e h1 h2) (λh=>?_) h2
  rcases x.own b h with h|h
  ·exact h1 h
  ·exact B0 h e
theorem Fx.of_keeps{Γ:Cx}{O:Ap}{s s':jE}(k:kY s s'):Fx Γ O s O s':=by
 obtain⟨h,t,rfl,k⟩:=k
 exact⟨(AS h t rfl),λ_ h=>.inl h,λb o e=>(Ag o (k b o e)),λb o e _ _=>k b o e,λb o e _=>k b o e⟩
theorem Fx.new{Γ:Cx}{O:Ap}{s s':jE}{x:jX}{a:jL}(k:kY s s')(hn:s.heap.get? a=none):Fx Γ O s ((x,a)::O) s':=by
 obtain⟨h,t,rfl,k⟩:=k
 refine⟨(AS h t rfl),λb ⟨p,hp,e⟩=>?_,λb o e=>(Ag o (k b o e)),λb o e _ _=>k b o e,λb o e _=>k b o e⟩
 rcases jG.mp hp with rfl|hp
 ·have e:a=b:=e
  exact .inr (e▸hn)
 ·exact .inl (Ac p hp e)
noncomputable def X1 (Γ:Cx) (σ:AX) (st:l9) (P:AF->AX->Prop):Prop:=
 ∀(O:Ap) (s:jE) (Q:uR->jE->Prop) (E:jB->jE->Prop),St Γ O σ s->
  (∀O' fl af σ' s',Fx Γ O s O' s'->St Γ O' σ' s'->FR O' s'.heap af fl->P af σ'->Q fl s')->wpAny (model Γ.prog Γ.w) Γ.A (exec st Γ.env) Q E s
noncomputable def Ex (Γ:Cx) (σ:AX) (ss:List l9) (P:AF->AX->Prop):Prop:=
 ∀(O:Ap) (s:jE) (Q:uR->jE->Prop) (E:jB->jE->Prop),St Γ O σ s->
  (∀O' fl af σ' s',Fx Γ O s O' s'->St Γ O' σ' s'->FR O' s'.heap af fl->P af σ'->Q fl s')->wpAny (model Γ.prog Γ.w) Γ.A (execs ss Γ.env) Q E s
theorem Aj{Γ:Cx}{σ:AX}{P:AF->AX->Prop}(h:P .next σ):Ex Γ σ [] P:=
 λO s Q E t q=>lZ (q O .next .next σ s (Fx.re Γ O s) t rfl h)
theorem Ad{Γ:Cx}{σ:AX}{st:l9}{ss:List l9}{P:AF->AX->Prop}(h:X1 Γ σ st λaf σ'=>match af with | .next=>Ex Γ σ' ss P|af=>P af σ'):Ex Γ σ (st::ss) P:=by
 intro O s Q E t q
 refine kg (h O s _ E t λO' fl af σ' s' a t' f p=>?_)
 cases af with
 | next=>
  obtain rfl:fl=.next:=f
  exact p O' s' Q E t' λO'' fl af σ'' s'' a' t'' f' p'=>q O'' fl af σ'' s'' (a.tr a') t'' f' p'
 | brk=>obtain rfl:fl=.brk:=f;exact q O' _ .brk σ' s' a t' rfl p
 | cont=>obtain rfl:fl=.cont:=f;exact q O' _ .cont σ' s' a t' rfl p
 | ret u=>refine Af f λv zz1 r=>?_;clear f;obtain rfl:=zz1;exact q O' _ (.ret u) σ' s' a t' (Ac v rfl r) p
structure Nm (Γ:Cx):Prop where
 nodup:Γ.ns.Nodup
 kind:Γ.env.scope.kind=.function
 apart:Γ.env.cells.Pairwise λx y=>x.2≠y.2
 names:(Γ.env.cells.map (·.1)).Nodup
 outer:∀a,Ap.has Γ.V a->a=Γ.env.locals\/∃o,Γ.s₀.heap.get? a=some o
theorem Bo{h h':jY}{L:jL}(hs:∀b,b≠L->∀o,h.get? b=some o->h'.get? b=some o)(hT:∀o,h.get? L=some o->¬(o.cls=.type "tuple"/\∃vs n,o.data=.seq vs n)) :
 (∀{v:jB} {d:jO} {as:List jL},Ak h v d as->L∉as->Ak h' v d as):=by
 intro v d as r
 refine Ak.rec (motive_1:=λv d as _=>L∉as->Ak h' v d as) (motive_2:=λvs ds as _=>L∉as->Ae h' vs ds as) ?_ ?_ ?_ ?_ ?_ ?_ ?_ ?_ ?_ r
 ·intro _;exact .none
 ·intro b _;exact .bool b
 ·intro i t _;exact .int i t
 ·intro x t _;exact .str x t
 ·intro a o vs n xs as e1 e2 e3 _ ih hn
  rw[jG,not_or] at hn
  exact .list (hs _ (ll hn.1) _ e1) e2 e3 (ih hn.2)
 ·intro a o vs n xs as e1 e2 e3 _ ih hn
  refine .tuple (hs a ?_ _ e1) e2 e3 (ih hn)
  rintro rfl
  exact hT _ e1 ⟨e2,_,_,e3⟩
 ·intro a o vs n xs as e1 e2 e3 _ ih hn
  rw[jG,not_or] at hn
  exact .mt (hs _ (ll hn.1) _ e1) e2 e3 (ih hn.2)
 ·intro _;exact .nil
 ·intro v vs d ds as bs _ _ ih1 ih2 hn
  rw[jU,not_or] at hn
  exact .cons (ih1 hn.1) (ih2 hn.2)
theorem Aq{h h':jY}{L:jL}(hs:∀b,b≠L->∀o,h.get? b=some o->h'.get? b=some o)(hT:∀o,h.get? L=some o->¬(o.cls=.type "tuple"/\∃vs n,o.data=.seq vs n))
 {vs:List jB}{ds:List jO}{as:List jL}(r:Ae h vs ds as):L∉as->Ae h' vs ds as:=
 Ae.ind (P:=λvs ds as=>L∉as->Ae h' vs ds as) (λ_=>.nil) (λr _ ih hn=>.cons (Bo hs hT r λz=>hn (lM _ z)) (ih λz=>hn (kO _ z))) r
theorem VR.avoid{O:Ap}{h h':jY}{L:jL}{a:AV}{v:jB}(r:VR O h a v)(hL:O.has L)(hs:∀b,b≠L->∀o,h.get? b=some o->h'.get? b=some o)
 (hT:∀o,h.get? L=some o->¬(o.cls=.type "tuple"/\∃vs n,o.data=.seq vs n)):VR O h' a v:=by
 cases a with
 | py d=>refine Af r λas r q=>?_;exact Ac as (Bo hs hT r λhm=>q _ hm hL) q
 | «by» b=>exact r
 | raw u=>exact r
 | obj P=>refine C9 r λa o e g p q z=>?_;exact C5 a o e (hs a (λw=>q (w▸hL)) _ g) p q z
 | st R ok=>refine Af r λas r q=>?_;exact Ac as (ok.keepBy r (λb hb o e=>hs b (λz=>q _ hb (z▸hL)) o e) (λb o e t=>hs b (λz=>hT o (z▸e) t) o e)) q
theorem A5{h:jY}{L:jL}{m:jX->Option jB}(n:h.Ns L m):∀o,h.get? L=some o->¬(o.cls=.type "tuple"/\∃vs n,o.data=.seq vs n):=by
 refine Ec n λo es ep e hd _=>?_
 rintro o' e' ⟨_,vs,k,hd'⟩
 (replace e':=CQ e e';subst e')
 rw[hd] at hd';exact jS hd'
theorem En{h:jY}{L a:jL}{m:jX->Option jB}{vs:Array jB}(n:h.Ns L m)(l:h.IsList a vs):a≠L:=by
 rintro rfl
 refine Ec n λo es ep e hd _=>?_
 refine Bu l λo' e' _ zr0=>AR zr0 λk hd'=>?_
 (replace e':=CQ e e';subst e')
 rw[hd] at hd';exact jS hd'
theorem Gf{h:jY}{L a:jL}{m:jX->Option jB}{v:Option jB}(n:h.Ns L m)(l:h.IsCell a v):a≠L:=by
 rintro rfl
 refine Ec n λo es ep e hd _=>?_
 obtain⟨o',e',hd'⟩:=l
 (replace e':=CQ e e';subst e')
 rw[hd] at hd';exact jS hd'
theorem Cq{h:jY}{c a:jL}{v:Option jB}{vs:Array jB}(n:h.IsCell c v)(l:h.IsList a vs):a≠c:=by
 rintro rfl
 obtain⟨o,e,hd⟩:=n
 refine Bu l λo' e' _ zr0=>AR zr0 λk hd'=>?_
 (replace e':=CQ e e';subst e')
 rw[hd] at hd';exact jS hd'
section
variable {Γ:Cx} {σ:AX} {pos:mf}
theorem AJ{h h':jY}{L:jL}(hs:oo L h h'):∀b,b≠L->∀o,h.get? b=some o->h'.get? b=some o:=λb hb o e=>(hs.2 b hb).trans e
theorem XJ.avoidNs{xG:jY}{O:Ap}{h h':jY}{L:jL}{m:jX->Option jB}{x:jX}{b:Bd}{v:jB}(r:XJ L xG O h x b v)(n:h.Ns L m)(hL:O.has L)(hs:∀b,b≠L->∀o,h.get? b=some o->h'.get? b=some o):XJ L xG O h' x b v:=by
 cases b with
 | val a=>exact VR.avoid (O:=O) r hL hs (A5 n)
 | own ds=>
  refine CR r λa' vs' as e1 m1 l1 r1 q1 f1=>?_
  have hne:=En n l1.isList
  exact CA a' vs' as e1 m1 (AR l1 λo ho=>(Ag o (hs _ hne _ ho))) (Aq hs (A5 n) r1 λhm=>q1 _ hm hL) q1 f1
 | «at» a P=>refine CU r λe m zz1 f=>?_;obtain⟨o,g,p,z⟩:=zz1;exact⟨e,m,(Ba o (hs a f.2 _ g) p z),f⟩
theorem AG{O:Ap}{s:jE}(N:Nm Γ){i:Nat}{x:jX}{b:Bd}{v:jB}{Q:Unit->jE->Prop}{E:jB->jE->Prop}(hi:Γ.ns[i]?=some x)(hlt:i<σ.length)(hk:Γ.env.kindOf x=some .local)(t:St Γ O σ s)(r:XJ Γ.env.locals Γ.s₀.heap O s.heap x b v)
 (q:∀s',AI s s'->(∀b o,b≠Γ.env.locals->s.heap.get? b=some o->s'.heap.get? b=some o)->St Γ O (σ.set i (some b)) s'->Q () s'):wpAny (model Γ.prog Γ.w) Γ.A (storeName Γ.env x v) Q E s:=by
 obtain⟨kp,⟨m,n,vs⟩,cl,nd,lv,sb,fr,fs⟩:=t
 refine wpAny_storeName_local hk n (λh' hn hs=>q _ (AS _ _ rfl) (λb o h1 e=>AJ hs b h1 o e) ?_) (by rw[N.kind];rfl)
 have hO:O.has Γ.env.locals:=sb _ fr
 have hget:=AJ hs
 refine⟨λb o e=>hget b (λz=>by rw[z,fs] at e;exact B6 e) o (kp b o e),(Ac _ hn λj y b' e e'=>?_),λy c e=>?_,nd,λp hp=>?_,sb,fr,fs⟩
 ·by_cases hj:j=i
  ·subst hj
   (replace e:=CQ hi e;subst e)
   rw[lN hlt] at e'
   cases e'
   exact Ac v (.inl ⟨hk,by simp⟩) (XJ.avoidNs r n hO hget)
  ·rw[lO (ll hj)] at e'
   refine Af (vs j y b' e e') λu hd r'=>?_
   have hy:y≠x:=by
    rintro rfl
    exact hj ((mn (jK.mp e).1 N.nodup).mp (e.trans hi.symm))
   refine Ac u ?_ (XJ.avoidNs r' n hO hget)
   rcases hd with⟨k1,e1⟩|⟨k1,c,hc,ic⟩
   ·exact .inl ⟨k1,by simp[hy,e1]⟩
   ·exact .inr ⟨k1,c,hc,ic.sameBut hs (Gf n ic)⟩
 ·obtain⟨u,ic⟩:=cl y c e
  exact Ag u (ic.sameBut hs (Gf n ic))
 ·obtain⟨o,e⟩:=lv p hp
  by_cases hp':p.2=Γ.env.locals
  ·refine CG hn λo' _ _ e' _=>?_
   exact Ag o' (hp'▸e')
  ·exact Ag o (hget _ hp' _ e)
theorem Fx.ofBut{O:Ap}{σ':AX}{s s':jE}(t:St Γ O σ s)(a:AI s s')(k:∀b o,b≠Γ.env.locals->s.heap.get? b=some o->s'.heap.get? b=some o)(t':St Γ O σ' s'):Fx Γ O s O s':=by
 refine Af t.ex λm n _=>?_
 refine Af t'.ex λm' n' _=>?_
 refine⟨a,λ_ h=>.inl h,λb o e=>?_,λb o e h1 _=>k b o (λz=>h1 (z▸t.sub _ t.frame)) e,λb o e q=>k b o (λz=>A5 n o (z▸e) q) e⟩
 by_cases hb:b=Γ.env.locals
 ·refine CG n' λo' _ _ e' _=>?_;exact Ag o' (hb▸e')
 ·exact Ag o (k b o hb e)
theorem G4{O:Ap}{s:jE}(N:Nm Γ){i:Nat}{x:jX}{b:Bd}{v:jB}{Q:Unit->jE->Prop}{E:jB->jE->Prop}(hi:Γ.ns[i]?=some x)(hlt:i<σ.length)(hk:Γ.env.kindOf x=some .local)(t:St Γ O σ s)(r:XJ Γ.env.locals Γ.s₀.heap O s.heap x b v)
 (q:∀s',Fx Γ O s O s'->St Γ O (σ.set i (some b)) s'->Q () s'):wpAny (model Γ.prog Γ.w) Γ.A (storeName Γ.env x v) Q E s:=
 AG N hi hlt hk t r λs' a k t'=>q s' (Fx.ofBut t a k t') t'
theorem OR{O:Ap}{s:jE}(N:Nm Γ){i:Nat}{x:jX}{a:AV}{v:jB}{Q:Unit->jE->Prop}{E:jB->jE->Prop}(hi:Γ.ns[i]?=some x)(hlt:i<σ.length)(hk:Γ.env.kindOf x=some .local)(t:St Γ O σ s)(r:VR O s.heap a v)
 (q:∀s',Fx Γ O s O s'->St Γ O (σ.set i (some (.val a))) s'->Q () s'):wpAny (model Γ.prog Γ.w) Γ.A (storeName Γ.env x v) Q E s:=
 G4 N (b:=.val a) hi hlt hk t r q
theorem Di{h:jY}{c:jL}{v:Option jB}(n:h.IsCell c v):∀o,h.get? c=some o->¬(o.cls=.type "tuple"/\∃vs n,o.data=.seq vs n):=by
 refine Af n λo e hd=>?_
 rintro o' e' ⟨_,vs,k,hd'⟩
 (replace e':=CQ e e';subst e')
 rw[hd] at hd';exact jS hd'
theorem Gv{h:jY}{c:jL}{u:Option jB}(ic:h.IsCell c u):∀{v:jB} {d:jO} {as:List jL},Ak h v d as->c∉as:=by
 intro v d as r
 obtain⟨oc,ec,dc⟩:=ic
 refine Ak.rec (motive_1:=λv d as _=>c∉as) (motive_2:=λvs ds as _=>c∉as) ?_ ?_ ?_ ?_ ?_ ?_ ?_ ?_ ?_ r
 ·exact λh=>nomatch h
 ·exact λ_ h=>nomatch h
 ·exact λ_ _ h=>nomatch h
 ·exact λ_ _ h=>nomatch h
 ·intro a o vs n xs as e1 e2 e3 _ ih hm
  rcases jG.mp hm with rfl|hm
  ·(replace e1:=CQ ec e1;subst e1);rw[dc] at e3;exact jS e3
  ·exact ih hm
 ·intro a o vs n xs as e1 e2 e3 _ ih hm;exact ih hm
 ·intro a o vs n xs as e1 e2 e3 _ ih hm
  rcases jG.mp hm with rfl|hm
  ·(replace e1:=CQ ec e1;subst e1);rw[dc] at e3;exact jS e3
  ·exact ih hm
 ·exact λh=>nomatch h
 ·intro v vs d ds as bs _ _ ih1 ih2 hm
  exact(jU.mp hm).elim ih1 ih2
theorem ED{h:jY}{c:jL}{u:Option jB}(ic:h.IsCell c u){v:List jB}{d:List jO}{as:List jL}(r:Ae h v d as):c∉as:=
 Ae.ind (P:=λ_ _ as=>c∉as) (λh=>nomatch h) (λr _ ih h=>(jU.mp h).elim (Gv ic r) ih) r
theorem VR.avoidCell{O:Ap}{h h':jY}{c:jL}{u:Option jB}{a:AV}{v:jB}(r:VR O h a v)(ic:h.IsCell c u)(hs:∀b,b≠c->∀o,h.get? b=some o->h'.get? b=some o):VR O h' a v:=by
 cases a with
 | py d=>refine Af r λas r q=>?_;exact Ac as (Bo hs (Di ic) r (Gv ic r)) q
 | «by» b=>exact r
 | raw u=>exact r
 | obj P=>refine C9 r λa o e g p q z=>?_;exact C5 a o e (hs a (λw=>by obtain⟨o',e',d⟩:=ic;rw[<-w,g] at e';(replace e':=si e';subst e');exact z.1 _ d) _ g) p q z
 | st R ok=>refine Af r λas r q=>?_;exact Ac as (ok.keepBy r (λb hb o e=>hs b (λw=>by obtain⟨o',e',d⟩:=ic;obtain⟨o2,e2,z2⟩:=ok.solid r b hb;rw[w,e'] at e2;(replace e2:=si e2;subst e2);exact z2.1 _ d) o e) (λb o e t=>hs b (λw=>Di ic o (w▸e) t) o e)) q
theorem NZ{O:Ap}{s:jE}(N:Nm Γ){i:Nat}{x:jX}{c:jL}{a:AV}{v:jB}{Q:Unit->jE->Prop}{E:jB->jE->Prop}(hi:Γ.ns[i]?=some x)(hlt:i<σ.length)(hk:Γ.env.kindOf x=some .cell)
 (hc:Γ.env.cells.lookup x=some c)(hf:Γ.s₀.heap.get? c=none)(t:St Γ O σ s)(r:VR O s.heap a v)
 (q:∀s',Fx Γ O s O s'->St Γ O (σ.set i (some (.val a))) s'->Q () s'):wpAny (model Γ.prog Γ.w) Γ.A (storeName Γ.env x v) Q E s:=by
 obtain⟨kp,⟨m,n,vs⟩,cl,nd,lv,sb,fr,fs⟩:=t
 obtain⟨ye,ic⟩:=cl x c hc
 refine wpAny_storeName_cell N.kind hk hc ic λh' ic' hs=>q _ ⟨(AS _ _ rfl),λ_ h=>.inl h,λb o e=>?_,λb o e _ h2=>AJ hs b (λz=>h2 (Ag x (z▸mem_of_lookup hc))) o e,λb o e q=>AJ hs b (λz=>Di ic o (z▸e) q) o e⟩ ?_
 ·by_cases hb:b=c
  ·refine Af ic' λo' e' _=>?_;exact Ag o' (hb▸e')
  ·exact Ag o (AJ hs b hb o e)
 have hget:=AJ hs
 have hLc:Γ.env.locals≠c:=ll (Gf n ic)
 refine⟨λb o e=>hget b (λz=>by rw[z,hf] at e;exact B6 e) o (kp b o e),(Ac m (n.sameBut hs hLc) λj y b e e'=>?_),λy c' e=>?_,nd,λp hp=>?_,sb,fr,fs⟩
 ·by_cases hj:j=i
  ·subst hj
   (replace e:=CQ hi e;subst e)
   rw[lN hlt] at e'
   cases e'
   exact Ac v (.inr ⟨hk,c,hc,ic'⟩) (VR.avoidCell r ic hget)
  ·rw[lO (ll hj)] at e'
   refine Af (vs j y b e e') λu hd r'=>?_
   have hy:y≠x:=by
    rintro rfl
    exact hj ((mn (jK.mp e).1 N.nodup).mp (e.trans hi.symm))
   refine Ac u ?_ ?_
   ·rcases hd with⟨k1,e1⟩|⟨k1,c',hc',ic1⟩
    ·exact .inl ⟨k1,e1⟩
    ·refine .inr ⟨k1,c',hc',ic1.sameBut hs λz=>hy ?_⟩
     exact name_of_addr N.apart (mem_of_lookup hc') (z▸mem_of_lookup hc)
   ·cases b with
    | val a=>exact VR.avoidCell (O:=O) r' ic hget
    | own ds=>
     refine CR r' λa' vs' as e1 m1 l1 r1 q1 f1=>?_
     have hne:=Cq ic l1.isList
     exact CA a' vs' as e1 m1 (AR l1 λo ho=>(Ag o (hget _ hne _ ho))) (Aq hget (Di ic) r1 (ED ic r1)) q1 f1
    | «at» a2 P=>
     refine CU r' λe1 m1 zz1 f1=>?_;obtain⟨o,g,p,z⟩:=zz1
     exact⟨e1,m1,(Ba o (hget a2 (λw=>by obtain⟨o',e',d⟩:=ic;rw[<-w,g] at e';(replace e':=si e';subst e');exact z.1.1 _ d) _ g) p z),f1⟩
 ·by_cases hz:c'=c
  ·subst hz;exact Ag _ ic'
  ·obtain⟨u,ic1⟩:=cl y c' e
   exact Ag u (ic1.sameBut hs hz)
 ·obtain⟨o,e⟩:=lv p hp
  by_cases hp':p.2=c
  ·refine Af ic' λo' e' _=>?_
   exact Ag o' (hp'▸e')
  ·exact Ag o (hget _ hp' _ e)
theorem CX{h h':jY}:(∀{v:jB} {d:jO} {as:List jL},Ak h v d as->(∀b∈as,∀o,h.get? b=some o->h'.get? b=some o)->
 (∀b o,h.get? b=some o->(o.cls=.type "tuple"/\∃vs n,o.data=.seq vs n)->h'.get? b=some o)->Ak h' v d as):=by
 intro v d as r
 refine Ak.rec (motive_1:=λv d as _=>(∀b∈as,∀o,h.get? b=some o->h'.get? b=some o)->(∀b o,h.get? b=some o->(o.cls=.type "tuple"/\∃vs n,o.data=.seq vs n)->h'.get? b=some o)->Ak h' v d as)
  (motive_2:=λvs ds as _=>(∀b∈as,∀o,h.get? b=some o->h'.get? b=some o)->(∀b o,h.get? b=some o->(o.cls=.type "tuple"/\∃vs n,o.data=.seq vs n)->h'.get? b=some o)->Ae h' vs ds as) ?_ ?_ ?_ ?_ ?_ ?_ ?_ ?_ ?_ r
 ·intro _ _;exact .none
 ·intro b _ _;exact .bool b
 ·intro i t _ _;exact .int i t
 ·intro x t _ _;exact .str x t
 ·intro a o vs n xs as e1 e2 e3 _ ih k t
  exact .list (k _ (.head _) _ e1) e2 e3 (ih (λb hb=>k b (.tail _ hb)) t)
 ·intro a o vs n xs as e1 e2 e3 _ ih k t
  exact .tuple (t _ _ e1 ⟨e2,_,_,e3⟩) e2 e3 (ih k t)
 ·intro a o vs n xs as e1 e2 e3 _ ih k t
  exact .mt (k _ (.head _) _ e1) e2 e3 (ih (λb hb=>k b (.tail _ hb)) t)
 ·intro _ _;exact .nil
 ·intro v vs d ds as bs _ _ ih1 ih2 k t
  exact .cons (ih1 (λb hb=>k b (lM _ hb)) t) (ih2 (λb hb=>k b (kO _ hb)) t)
theorem Dq{h h':jY}(t:∀b o,h.get? b=some o->(o.cls=.type "tuple"/\∃vs n,o.data=.seq vs n)->h'.get? b=some o){v:List jB}{d:List jO}{as:List jL}(r:Ae h v d as):(∀b∈as,∀o,h.get? b=some o->h'.get? b=some o)->Ae h' v d as:=
 Ae.ind (P:=λv d as=>(∀b∈as,∀o,h.get? b=some o->h'.get? b=some o)->Ae h' v d as) (λ_=>.nil) (λr _ ih k=>.cons (CX r (λb hb=>k b (lM _ hb)) t) (ih λb hb=>k b (kO _ hb))) r
theorem DP{O O':Ap}{s s':jE}(t:St Γ O σ s)(nd:(Γ.env.cells.map (·.1)).Nodup)(f:Fx Γ O s O' s'){v:List jB}{d:List jO}{as:List jL}(r:Ae s.heap v d as)(q:∀b∈as,¬O.has b):Ae s'.heap v d as:=
 Dq f.tups r λb hb o e=>f.kept b o e (q b hb) λEM=>AR EM λx hx=>by
  obtain⟨u,ic⟩:=t.cells x b (by
   have:∀(l:List (jX×jL)),(l.map (·.1)).Nodup->(x,b)∈l->l.lookup x=some b:=by
    intro l nd hm
    induction l with
    | nil=>cases hm
    | cons p l ih=>
     rw[kM,md] at nd
     rw[q9]
     rcases jG.mp hm with e|hm
     ·rw[<-e];simp
     ·have:(x == p.1)=false:=by
       rw[beq_eq_false_iff_ne]
       rintro rfl
       exact nd.1 (kn.mpr (Ac _ hm rfl))
      rw[this];exact ih nd.2 hm
   exact this _ nd hx)
  exact ED ic r hb
end
theorem nW:Nonempty jW:=⟨aWorld 0⟩
theorem nP:Nonempty jC:=⟨(aWorld 0).params⟩
theorem nA:Nonempty kA:=⟨{}⟩
theorem nS:Nonempty jE:=⟨{}⟩
theorem nD:Nonempty jO:=⟨.none⟩
theorem nV:Nonempty AV:=⟨.py .none⟩
theorem nC:Nonempty Cx:=⟨⟨default,aWorld 0,{},{},default,[],[]⟩⟩
noncomputable def bx:List Type->Type
 | []=>Prop
 | α::l=>α->bx l
noncomputable def fV:List Type->Type
 | []=>Unit
 | α::l=>α×fV l
noncomputable def iE:(l:List Type)->bx l->Prop
 | [],p=>p
 | _::l,p=>∀a,iE l (p a)
noncomputable def fB:(l:List Type)->bx l->fV l->Prop
 | [],p,_=>p
 | _::l,p,x=>fB l (p x.1) x.2
noncomputable def fu:List Type->Prop
 | []=>True
 | α::l=>Nonempty α/\fu l
theorem EN:∀(l:List Type) (p:bx l),(∀x,fB l p x)->iE l p
 | [],_,h=>h ()
 | _::l,p,h=>λa=>EN l (p a) λx=>h (a,x)
theorem ne1:∀(l:List Type),fu l->Nonempty (fV l)
 | [],_=>⟨()⟩
 | _::l,h=>h.1.elim λa=>(ne1 l h.2).elim λx=>⟨(a,x)⟩
noncomputable def iX {l:List Type} (n:fu l) (p:bx l):fV l:=@Classical.epsilon _ (ne1 l n) λx=>¬fB l p x
theorem ip{l:List Type}{n:fu l}{p:bx l}(h:fB l p (iX n p)):iE l p:=
 EN l p λx=>tR λq=>@Classical.epsilon_spec _ (λx=>¬fB l p x) ⟨x,q⟩ h
local macro_rules
 | `(tactic| delta $ds* at $[$hs:term]*)=>do
  let l<-ds.foldrM (λ_ b=>`(_::$b)) (<-`([]))
  let mut x<-`(iX N P)
  let mut ls:=#[]
  for d in ds do
   ls:=ls.push (d,<-`(Prod.fst $x))
   x<-`(Prod.snd $x)
  let b<-ls.foldrM (λ(d,v) b=>`(@(letI $d :=$v;$b))) (<-`(@((?_:P $ds*))))
  `(tactic| (revert $hs*;revert $ds*;haveI:=nW;haveI:=nP;haveI:=nA;haveI:=nS;haveI:=nD;haveI:=nV;haveI:=nC;refine @(letI P:bx $l :=_;letI N:fu $l :=(by(repeat refine And.intro inferInstance ?_);exact uC);@(ip (n:=N) (p:=P) $b));intro $hs*))
section
variable {Γ:Cx} {σ:AX} {pos:mf} {P:AF->AX->Prop}
theorem At(N:Nm Γ)(i:Nat){x:jX}{p:mf}{e:kH}{a:AV}(h:Ev Γ σ e a)(hP:P .next (σ.set i (some (.val a))))(hi:autoParam (Γ.ns[i]?=some x) aR)(hlt:autoParam (i<σ.length) aN)(hk:autoParam (Γ.env.kindOf x=some .local) aR)
 (hs:autoParam (qV e (some (.Name x p)) pos.line Γ.env=pure false) aR):X1 Γ σ (.Assign [.Name x p] e pos) P:=by
 intro O s Q E t q
 exact l6 (h O s _ E t λv s1 t1 k1 r1=>OR N hi hlt hk t1 r1 λs2 a2 t2=>q O .next .next _ s2 ((Fx.of_keeps k1).tr a2) t2 rfl hP) hs
theorem CP(N:Nm Γ)(i:Nat){x:jX}{c:jL}{p:mf}{e:kH}{a:AV}(h:Ev Γ σ e a)(hP:P .next (σ.set i (some (.val a))))(hc:Γ.env.cells.lookup x=some c)(hf:Γ.s₀.heap.get? c=none)(hi:autoParam (Γ.ns[i]?=some x) aR)(hlt:autoParam (i<σ.length) aN)(hk:autoParam (Γ.env.kindOf x=some .cell) aR)
 (hs:autoParam (qV e (some (.Name x p)) pos.line Γ.env=pure false) aR):X1 Γ σ (.Assign [.Name x p] e pos) P:=by
 intro O s Q E t q
 exact l6 (h O s _ E t λv s1 t1 k1 r1=>NZ N hi hlt hk hc hf t1 r1 λs2 a2 t2=>q O .next .next _ s2 ((Fx.of_keeps k1).tr a2) t2 rfl hP) hs
theorem AQ{e:kH}{a:AV}(h:Ev Γ σ e a)(hP:P (.ret a) σ):X1 Γ σ (.Return (some e) pos) P:=by
 intro O s Q E t q
 exact pT (h O s _ E t λv s1 t1 k1 r1=>q O _ (.ret a) σ s1 (Fx.of_keeps k1) t1 (Ac v rfl r1) hP)
theorem L4(hP:P .brk σ):X1 Γ σ (.Break pos) P:=
 λO s Q E t q=>wpAny_Break (q O _ .brk σ s (Fx.re Γ O s) t rfl hP)
theorem BI{e:kH}{b:Bool}{ss us:List l9}(h:Tv Γ σ e b)(h1:b=true->Ex Γ σ ss P)(h0:b=false->Ex Γ σ us P):X1 Γ σ (.If e ss us pos) P:=by
 intro O s Q E t q
 refine uo (h O s _ E t λs1 t1 k1=>?_)
 cases b with
 | true=>exact h1 rfl O s1 Q E t1 λO' fl af σ' s' a t' f p=>q O' fl af σ' s' ((Fx.of_keeps k1).tr a) t' f p
 | false=>exact h0 rfl O s1 Q E t1 λO' fl af σ' s' a t' f p=>q O' fl af σ' s' ((Fx.of_keeps k1).tr a) t' f p
theorem Iz{x:jX}{k:Nat}{p:mf}(hP:P .next σ)(hi:autoParam (interactive Γ.env=false) aR):X1 Γ σ (.Expr (.Constant (.str x) k p) pos) P:=by
 intro O s Q E t q
 exact nG (tU (q O .next .next σ _ (Fx.of_keeps Keeps.rfl') (t.keeps λ_ _ e=>e) rfl hP)) hi
theorem VG(N:Nm Γ)(i:Nat){x:jX}{p:mf}{e:kH}{a b:Int}(ha:autoParam (σ[i]?=some (some (.val (.py (.int a))))) aR)(h:Ev Γ σ e (.py (.int b)))(hP:P .next (σ.set i (some (.val (.py (.int (a+b)))))))(hi:autoParam (Γ.ns[i]?=some x) aR)(hlt:autoParam (i<σ.length) aN)(hk:autoParam (Γ.env.kindOf x=some .local) aR) :
 X1 Γ σ (.AugAssign (.Name x p) .Add e pos) P:=by
 intro O s Q E t q
 refine Af t.ex λm n vs=>?_
 refine Af (vs i x _ hi ha) λv hd' r=>?_
 rcases hd' with⟨k1,e1⟩|⟨k1,_⟩
 ·refine wpAny_AugAssign_Name (mC N.kind k1 n e1 (h O s _ E t λu s1 t1 k2 r1=>?_))
  obtain⟨tv,rfl⟩:=VR.int_inv (O:=O) r
  obtain⟨tu,rfl⟩:=r1.int_inv
  exact PySem.P.iadd_int (OR N hi hlt hk (t1.keeps λ_ _ e=>e) (VR.int O _ _ _) λs2 a2 t2=>q O .next .next _ s2 ((Fx.of_keeps k2).tr (Fx.tr (Fx.of_keeps Keeps.rfl') a2)) t2 rfl hP)
 ·rw[hk] at k1;exact oh (si k1)
theorem Ap.mem_inj{O:Ap}(nd:(O.map (·.2)).Nodup){x y:jX}{a:jL}(h:(x,a)∈O)(h':(y,a)∈O):x=y:=by
 induction O with
 | nil=>cases h
 | cons p O ih=>
  rw[kM,md] at nd
  rcases jG.mp h with e|h<;>rcases jG.mp h' with e'|h'
  ·rw[<-e'] at e;exact(Prod.mk.inj e).1
  ·exact absurd (kn.mpr ⟨_,h',by rw[<-e]⟩) nd.1
  ·exact absurd (kn.mpr ⟨_,h,by rw[<-e']⟩) nd.1
  ·exact ih nd.2 h h'
theorem au(N:Nm Γ){O:Ap}{s:jE}{i:Nat}{x:jX}{ds:List jO}(t:St Γ O σ s)(hi:Γ.ns[i]?=some x)(h:σ[i]?=some (some (.own ds))):∃O',Fx Γ O s O' s/\St Γ O' (σ.set i (some (.val (.py (.list ds))))) s:=by
 delta Γ σ O s i x ds at N t hi h
 obtain⟨kp,⟨m,n,vs⟩,cl,nd,lv,sb,fr,fs⟩:=t
 refine Af (vs i x _ hi h) λv hd zr0=>CR zr0 λa ws as zz1 m1 l1 r1 q1 f1=>?_;obtain rfl:=zz1
 have hlt:i<σ.length:=(jK.mp h).1
 have hsub:∀b,Ap.has (O.filter λp=>!decide (p.2=a)) b->O.has b:=λb ⟨p,hp,e⟩=>Ac p ((j9.mp hp).1) e
 have hna:¬Ap.has (O.filter λp=>!decide (p.2=a)) a:=by
  intro zz1;refine Af zz1 λp hp e=>?_
  have:=(j9.mp hp).2
  simp[e] at this
 have haL:a≠Γ.env.locals:=En n l1.isList
 refine⟨O.filter λp=>!decide (p.2=a),⟨AI.re s,λb hb=>.inl (hsub b hb),λ_ o e=>(Ag o e),λ_ _ e _ _=>e,λ_ _ e _=>e⟩,kp,(Ac m n λj y b e e'=>?_),cl,?_,λp hp=>lv p (j9.mp hp).1,λb hb=>?_,fr,fs⟩
 ·by_cases hj:j=i
  ·subst hj
   (replace e:=CQ hi e;subst e)
   rw[lN hlt] at e'
   cases e'
   refine⟨_,hd,a::as,?_,?_⟩
   ·obtain⟨n,e⟩:=l1
    exact .list e rfl rfl r1
   ·intro b hb
    rcases jG.mp hb with rfl|hb
    ·exact hna
    ·exact λz=>q1 b hb (hsub b z)
  ·rw[lO (ll hj)] at e'
   refine Af (vs j y b e e') λu hd' r'=>?_
   refine Ac u hd' ?_
   cases b with
   | val w=>
    cases w with
    | py d=>refine Af r' λbs r q=>?_;exact Ac bs r λb hb z=>q b hb (hsub b z)
    | «by» b=>exact r'
    | raw w=>exact r'
    | obj P=>refine C9 r' λa1 o e1 g p q z=>?_;exact C5 a1 o e1 g p (λh=>q (hsub a1 h)) z
    | st R ok=>refine Af r' λbs r q=>?_;exact Ac bs r λb hb z=>q b hb (hsub b z)
   | own es=>
    refine CR r' λa' ws' as' e1 m1' l1' r1' q1' f1'=>?_
    refine CA a' ws' as' e1 (j9.mpr ⟨m1',?_⟩) l1' r1' (λb hb z=>q1' b hb (hsub b z)) f1'
    have:a'≠a:=by
     rintro rfl
     have:=Ap.mem_inj nd m1 m1'
     subst this
     exact hj ((mn (jK.mp e).1 N.nodup).mp (e.trans hi.symm))
    simp[this]
   | «at» a' P=>
    refine CU r' λe1 m1' g1 f1'=>?_
    refine⟨e1,j9.mpr ⟨m1',?_⟩,g1,f1'⟩
    have:a'≠a:=by
     rintro rfl
     have:=Ap.mem_inj nd m1 m1'
     subst this
     exact hj ((mn (jK.mp e).1 N.nodup).mp (e.trans hi.symm))
    simp[this]
 ·exact p9 (pn _ pb) nd
 ·refine Af (sb b hb) λp hp e=>?_
  refine Ac p (j9.mpr ⟨hp,?_⟩) e
  have:p.2≠a:=by
   rw[e]
   rcases N.outer b hb with rfl|⟨o,ho⟩
   ·exact ll haL
   ·rintro rfl;exact B0 f1 ho
  simp[this]
theorem Ct(N:Nm Γ)(i:Nat){x:jX}{ds:List jO}{ss:List l9}(h:Ex Γ (σ.set i (some (.val (.py (.list ds))))) ss P)(hi:autoParam (Γ.ns[i]?=some x) aR)(hs:autoParam (σ[i]?=some (some (.own ds))) aR):Ex Γ σ ss P:=by
 intro O s Q E t q
 refine Af (au N t hi hs) λO' f' t'=>?_
 exact h O' s Q E t' λO'' fl af σ' s' a=>q O'' fl af σ' s' (f'.tr a)
noncomputable def XN (Γ:Cx) (σ:AX) (e:kH) (ds:List jO):Prop:=
 ∀(O:Ap) (s:jE) (Q:jB->jE->Prop) (E:jB->jE->Prop),St Γ O σ s->
  (∀a vs as s',kY s s'->s.heap.get? a=none->s'.heap.PlainList a vs->Ae s'.heap vs.toList ds as->(∀b∈as,¬O.has b)->a∉as->Q (.ref a) s')->wpAny (model Γ.prog Γ.w) Γ.A (eval e Γ.env) Q E s
theorem BA{h:jY}:∀{v:jB} {d:jO} {as:List jL},Ak h v d as->∀b∈as,∃o,h.get? b=some o:=by
 intro v d as r
 refine Ak.rec (motive_1:=λv d as _=>∀b∈as,∃o,h.get? b=some o) (motive_2:=λvs ds as _=>∀b∈as,∃o,h.get? b=some o) ?_ ?_ ?_ ?_ ?_ ?_ ?_ ?_ ?_ r
 ·exact λ_ h=>nomatch h
 ·exact λ_ _ h=>nomatch h
 ·exact λ_ _ _ h=>nomatch h
 ·exact λ_ _ _ h=>nomatch h
 ·intro a o vs n xs as e1 e2 e3 _ ih b hm
  rcases jG.mp hm with rfl|hm
  ·exact Ag _ e1
  ·exact ih b hm
 ·intro a o vs n xs as e1 e2 e3 _ ih;exact ih
 ·intro a o vs n xs as e1 e2 e3 _ ih b hm
  rcases jG.mp hm with rfl|hm
  ·exact Ag _ e1
  ·exact ih b hm
 ·exact λ_ h=>nomatch h
 ·intro v vs d ds as bs _ _ ih1 ih2 b hm
  exact(jU.mp hm).elim (ih1 b) (ih2 b)
theorem Bv{h:jY}{v:List jB}{d:List jO}{as:List jL}(r:Ae h v d as):∀b∈as,∃o,h.get? b=some o:=
 Ae.ind (P:=λ_ _ as=>∀b∈as,∃o,h.get? b=some o) (λ_ h=>nomatch h) (λr _ ih b h=>(jU.mp h).elim (BA r b) (ih b)) r
theorem CH{es:List kH}{ds:List jO}{p:mf}(h:XI Γ σ es (ds.map .py))(hs:ds.length<=100000):XN Γ σ (.List es p) ds:=by
 intro O s Q E t q
 refine tT (h O s _ _ E t λvs s1 t1 k1 r1=>?_)
 refine Af r1.reads λas rs qs=>?_
 have hl:=r1.length
 rw[jI] at hl
 refine⟨by rw[hl,sizeLine_eq];rwa[hs],q s1.heap.objs.size vs.toArray as _ (Keeps.tr k1 (AT _ s1.toks rfl λ_ _ e=>jF _ e)) ?_ (Ag 0 (jQ _ rfl)) (Ae.keeps (λ_ _ e=>jF _ e) rs) qs λhm=>?_⟩
 ·cases e:s.heap.get? s1.heap.objs.size with
  | none=>rfl
  | some o=>
   refine Ao k1 λh' tk zz1 k=>?_;clear k1;obtain rfl:=zz1
   exact absurd (kq (k _ _ e)) (lp _)
 ·obtain⟨o,e⟩:=Bv rs _ hm
  exact absurd (kq e) (lp _)
theorem ET{O:Ap}{s s':jE}{a:jL}{x:jX}(t:St Γ O σ s)(k:kY s s')(h:s.heap.get? a=none)(h':∃o,s'.heap.get? a=some o):St Γ ((x,a)::O) σ s':=by
 delta Γ σ O s at s' a x t k h h'
 have t':=t.of_keeps k
 obtain⟨kp,⟨m,n,vs⟩,cl,nd,lv,sb,fr,fs⟩:=t
 obtain⟨hh,tk,rfl,k⟩:=k
 have hna:¬O.has a:=by
  rintro⟨p,hp,e⟩
  obtain⟨o,ho⟩:=lv p hp
  rw[e,h] at ho;exact B6 ho
 have hav:∀(as:List jL),(∀b∈as,∃o,s.heap.get? b=some o)->(∀b∈as,¬O.has b)->∀b∈as,¬Ap.has ((x,a)::O) b:=by
  rintro as hl hq b hb ⟨p,hp,e⟩
  rcases jG.mp hp with rfl|hp
  ·obtain⟨o,ho⟩:=hl b hb
   have e:a=b:=e
   rw[<-e,h] at ho;exact B6 ho
  ·exact hq b hb (Ac p hp e)
 refine⟨t'.keep,(Ac m (n.keeps k) λi y b e e'=>?_),t'.cells,?_,λp hp=>?_,λb hb=>?_,fr,fs⟩
 ·obtain⟨v,hd,r⟩:=vs i y b e e'
  refine Ac v (hd.keeps k) ?_
  cases b with
  | val w=>
   cases w with
   | py d=>obtain⟨bs,r,q⟩:=r;exact Ac bs (Ak.keeps k r) (hav bs (BA r) q)
   | «by» b=>exact r
   | raw w=>exact r
   | obj P=>obtain⟨a1,o,e1,g,p,q,z⟩:=r;exact C5 a1 o e1 (k _ _ g) p (hav [a1] (λb hb=>by rw[jH.mp hb];exact Ag o g) (λb hb=>by rw[jH.mp hb];exact q) a1 (.head _)) z
   | st R ok=>obtain⟨bs,r,q⟩:=r;exact Ac bs (ok.keeps r k) (hav bs (ok.live r) q)
  | own ds=>
   obtain⟨a',ws',as',e1,m1',l1',r1',q1',f1'⟩:=r
   exact CA a' ws' as' e1 (.tail _ m1') (AR l1' λn e=>(Ag n (k _ _ e))) (Ae.keeps k r1') (hav as' (Bv r1') q1') f1'
  | «at» a' P=>obtain⟨e1,m1',⟨o,g,p,z⟩,f1'⟩:=r;exact⟨e1,.tail _ m1',(Ba o (k _ _ g) p z),f1'⟩
 ·rw[kM,md]
  refine⟨λhm=>?_,nd⟩
  obtain⟨p,hp,e⟩:=kn.mp hm
  exact hna (Ac p hp e)
 ·rcases jG.mp hp with rfl|hp
  ·exact h'
  ·exact t'.live p hp
 ·obtain⟨p,hp,e⟩:=sb b hb
  exact Ac p (.tail _ hp) e
theorem Gn(N:Nm Γ)(i:Nat){x:jX}{p:mf}{e:kH}{ds:List jO}(h:XN Γ σ e ds)(hP:P .next (σ.set i (some (.own ds))))(hi:autoParam (Γ.ns[i]?=some x) aR)(hlt:autoParam (i<σ.length) aN)(hk:autoParam (Γ.env.kindOf x=some .local) aR)
 (hs:autoParam (qV e (some (.Name x p)) pos.line Γ.env=pure false) aR):X1 Γ σ (.Assign [.Name x p] e pos) P:=by
 intro O s Q E t q
 refine l6 (h O s _ E t λa vs as s1 k1 hn l1 r1 q1 hna=>?_) hs
 have t1:=ET (x:=x) t k1 hn (AR l1 λn e=>(Ag _ e))
 refine G4 N (b:=.own ds) hi hlt hk t1 (CA a vs as rfl (.head _) l1 r1 ?_ ?_) λs2 a2 t2=>q _ .next .next _ s2 (Fx.tr (Fx.new k1 hn) a2) t2 rfl hP
 ·rintro b hb ⟨p,hp,e⟩
  rcases jG.mp hp with rfl|hp
  ·have e:a=b:=e
   exact hna (e▸hb)
  ·exact q1 b hb (Ac p hp e)
 ·exact gn λo e=>by have:=t.keep _ _ e;exact B0 hn this
end
theorem DZ{h:jY}{v:jB}{d:jO}{bs:List jL}(r:Ak h v d bs){vs:List jB}{ds:List jO}{as:List jL}(rs:Ae h vs ds as):Ae h (vs++[v]) (ds++[d]) (as++bs):=
 Ae.ind (P:=λvs ds as=>Ae h (vs++[v]) (ds++[d]) (as++bs)) (by have:=Ae.cons r (.nil (h:=h));rw[kF] at this;exact this) (λr' _ ih=>by rw[l5];exact .cons r' ih) rs
theorem UU{h:jY}{L:jL}{m m':jX->Option jB}(n:h.Ns L m)(n':h.Ns L m'):m=m':=by
 refine Cf n λo es ep e hd hk hm=>?_
 refine Cf n' λo' es' ep' e' hd' hk' hm'=>?_
 (replace e':=CQ e e';subst e')
 rw[hd] at hd';cases hd'
 funext x
 rw[<-hm x,<-hm' x]
theorem Pg{h:jY}{env:xy}{m:jX->Option jB}{x:jX}{v v':jB}(q:Gk h env m x v)(q':Gk h env m x v'):v=v':=by
 rcases q with⟨k,e⟩|⟨k,c,hc,o,ho,hd⟩<;>rcases q' with⟨k',e'⟩|⟨k',c',hc',o',ho',hd'⟩
 ·rw[e] at e';exact kR e'
 ·rw[k] at k';exact oh (si k')
 ·rw[k] at k';exact oh (si k')
 ·(replace hc':=CQ hc hc';subst hc')
  (replace ho':=CQ ho ho';subst ho')
  rw[hd] at hd';cases hd'
  rfl
section
variable {Γ:Cx} {σ:AX} {pos:mf} {P:AF->AX->Prop}
theorem UI(N:Nm Γ){O:Ap}{s:jE}{i:Nat}{x:jX}{a:jL}{ds:List jO}{d:jO}{v:jB}{Q:jB->jE->Prop}{E:jB->jE->Prop}(t:St Γ O σ s)(hi:Γ.ns[i]?=some x)(hσ:σ[i]?=some (some (.own ds)))
 (hm:∃m,s.heap.Ns Γ.env.locals m/\Gk s.heap Γ.env m x (.ref a))(hs:ds.length<=100000)(r:VR O s.heap (.py d) v)
 (q:∀s',Fx Γ O s O s'->St Γ O (σ.set i (some (.own (ds++[d])))) s'->Q .none s'):wpAny (model Γ.prog Γ.w) Γ.A (call (.builtin "list.append") [.ref a,v]) Q E s:=by
 delta Γ σ O s Q E at N i x a ds d v t hi hσ hm hs r q
 obtain⟨kp,⟨m,n,vs⟩,cl,nd,lv,sb,fr,fs⟩:=t
 have hlt:i<σ.length:=(jK.mp hσ).1
 refine Af (vs i x _ hi hσ) λv0 hd zr0=>CR zr0 λa' ws as zz1 m1 l1 r1 q1 f1=>?_;obtain rfl:=zz1
 obtain rfl:a'=a:=by
  refine Af hm λm' n' hd'=>?_
  obtain rfl:=UU n n'
  exact Value.ref.inj (Pg hd hd')
 refine Af r λbs rv qv=>?_
 have hsz:ws.size<=sizeLine:=by
  have:=Al r1
  have e:ws.size=ds.length:=by rw[<-this];simp
  rw[e,sizeLine_eq];rwa[hs]
 have hT0:∀o,s.heap.get? a'=some o->¬(o.cls=.type "tuple"/\∃vs n,o.data=.seq vs n):=by
  obtain⟨n,e⟩:=l1
  rintro o e' ⟨hc,_⟩
  (replace e':=CQ e e';subst e');exact absurd (show jV "list"=jV "tuple" from hc) (by decide)
 refine rT (hsz:=hsz) l1 λh' hl' hs'=>q _ ⟨(AS _ _ rfl),λ_ h=>.inl h,λb o e=>?_,λb o e h1 _=>AJ hs' b (λz=>h1 (z▸(Ac _ m1 rfl))) o e,λb o e q=>AJ hs' b (λz=>hT0 o (z▸e) q) o e⟩ ?_
 ·by_cases hb:b=a'
  ·obtain⟨k,e'⟩:=hl';exact Ag _ (hb▸e')
  ·exact Ag o (AJ hs' b hb o e)
 have hget:=AJ hs'
 have haO:O.has a':=Ac _ m1 rfl
 have hT:∀o,s.heap.get? a'=some o->¬(o.cls=.type "tuple"/\∃vs n,o.data=.seq vs n):=by
  obtain⟨n,e⟩:=l1
  rintro o e' ⟨hc,_⟩
  (replace e':=CQ e e';subst e');exact absurd (show jV "list"=jV "tuple" from hc) (by decide)
 have hLa:=En n l1.isList
 refine⟨λb o e=>hget b (λz=>by rw[z,f1] at e;exact B6 e) o (kp b o e),(Ac m (n.sameBut hs' (ll hLa)) λj y b e e'=>?_),λy c e=>?_,nd,λp hp=>?_,sb,fr,fs⟩
 ·have held:∀{y:jX} {u:jB},Gk s.heap Γ.env m y u->Gk h' Γ.env m y u:=λz=>z.imp id λ⟨k,c,hc,ic⟩=>⟨k,c,hc,ic.sameBut hs' (ll (Cq ic l1.isList))⟩
  by_cases hj:j=i
  ·subst hj
   (replace e:=CQ hi e;subst e)
   rw[lN hlt] at e'
   cases e'
   refine⟨.ref a',held hd,a',ws.push v,as++bs,rfl,m1,hl',?_,λb hb=>(jU.mp hb).elim (q1 b) (qv b),f1⟩
   rw[qR]
   exact DZ (Bo hget hT rv λhm=>qv _ hm haO) (Aq hget hT r1 λhm=>q1 _ hm haO)
  ·rw[lO (ll hj)] at e'
   refine Af (vs j y b e e') λu hd' r'=>?_
   refine Ac u (held hd') ?_
   cases b with
   | val w=>exact VR.avoid (O:=O) r' haO hget hT
   | own es=>
    refine CR r' λa2 ws' as' e1 m1' l1' r1' q1' f1'=>?_
    have hne:a2≠a':=by
     rintro rfl
     have:=Ap.mem_inj nd m1 m1'
     subst this
     exact hj ((mn (jK.mp e).1 N.nodup).mp (e.trans hi.symm))
    exact CA a2 ws' as' e1 m1' (AR l1' λn e=>(Ag n (hget _ hne _ e))) (Aq hget hT r1' λhm=>q1' _ hm haO) q1' f1'
   | «at» a2 P=>
    refine CU r' λe1 m1' zz1 f1'=>?_;obtain⟨o,g,p,z⟩:=zz1
    have hne:a2≠a':=by
     rintro rfl
     have:=Ap.mem_inj nd m1 m1'
     subst this
     exact hj ((mn (jK.mp e).1 N.nodup).mp (e.trans hi.symm))
    exact⟨e1,m1',(Ba o (hget _ hne _ g) p z),f1'⟩
 ·obtain⟨u,ic⟩:=cl y c e
  exact Ag u (ic.sameBut hs' (ll (Cq ic l1.isList)))
 ·obtain⟨o,e⟩:=lv p hp
  by_cases hp':p.2=a'
  ·obtain⟨k,e'⟩:=hl'
   exact Ag _ (hp'▸e')
  ·exact Ag o (hget _ hp' _ e)
theorem AO(N:Nm Γ)(i:Nat){x:jX}{p ap cp:mf}{e:kH}{pl:vg Bool}{ds:List jO}{d:jO}(h:Ev Γ σ e (.py d))(hs:ds.length<=100000)(hP:P .next (σ.set i (some (.own (ds++[d])))))(hσ:autoParam (σ[i]?=some (some (.own ds))) aR)(hi:autoParam (Γ.ns[i]?=some x) aR)(hp:autoParam (AE e=true) aR)
 (hd:autoParam ((x == ("__debug__":jX))=false) aK)(hin:autoParam (interactive Γ.env=false) aR)
 (he:autoParam (eval (.Call (.Attribute (.Name x p) "append" ap) [e] [] cp) Γ.env=(do
  let ov<-eval (.Name x p) Γ.env
  mQ ap.atName
  let (f,first)<-ml [ov] (nv ov "append" pl)
  kX cp f first (backTo cp (starEach [e] Γ.env)) [])) aR) :
 X1 Γ σ (.Expr (.Call (.Attribute (.Name x p) "append" ap) [e] [] cp) pos) P:=by
 intro O s Q E t q
 refine nG (mh ?_ he) hin
 refine Af t.ex λm n vs=>?_
 refine Af (vs i x _ hi hσ) λv0 hd' zr0=>CR zr0 λa ws as zz1 m1 l1 r1 q1 f1=>?_;obtain rfl:=zz1
 have key:∀(Q':jB->jE->Prop),Q' (.ref a) s->wpAny (model Γ.prog Γ.w) Γ.A (eval (.Name x p) Γ.env) Q' E s:=by
  intro Q' hq
  rcases hd' with⟨k1,e1⟩|⟨k1,c,hc,ic⟩
  ·exact nF (mC N.kind k1 n e1 hq) hd
  ·exact nF (on N.kind k1 hc ic hq) hd
 refine key _ ?_
 refine mK l1.isList.typeIs F.plainAttrs_list F.slot_list_append F.type_list_append (λb hb=>?_) ?_
 ·cases hb
  obtain⟨k,e⟩:=l1
  exact Ac _ e rfl
 ·refine callWith_builtin (Bh (by rw[lC,hp];rfl)) (AL (by rw[lC,hp];rfl) (Ab h Ah hp O s _ _ E t λus s1 t1 k1 r1=>?_))
  refine Af r1.one λv zz1 rv=>?_;obtain rfl:=zz1
  refine UI N t1 hi hσ ?_ hs rv λs2 a2 t2=>q O .next .next _ s2 ((Fx.of_keeps k1).tr a2) t2 rfl hP
  refine Ao k1 λh' tk zz1 k=>?_;clear k1;obtain rfl:=zz1
  exact Ac m (n.keeps k) (hd'.keeps k)
end
section
variable {Γ:Cx} {σ:AX} {pos:mf} {P:AF->AX->Prop}
noncomputable def As (Γ:Cx) (σ:AX) (tgt:kH) (d:jO) (σ':AX):Prop:=
 ∀(O:Ap) (s:jE) (v:jB) (Q:Unit->jE->Prop) (E:jB->jE->Prop),St Γ O σ s->VR O s.heap (.py d) v->
  (∀s',AI s s'->(∀b o,b≠Γ.env.locals->s.heap.get? b=some o->s'.heap.get? b=some o)->St Γ O σ' s'->Q () s')->wpAny (model Γ.prog Γ.w) Γ.A (assign tgt Γ.env v) Q E s
theorem BH(N:Nm Γ)(i:Nat){x:jX}{p:mf}{d:jO}(hi:autoParam (Γ.ns[i]?=some x) aR)(hlt:autoParam (i<σ.length) aN)(hk:autoParam (Γ.env.kindOf x=some .local) aR):As Γ σ (.Name x p) d (σ.set i (some (.val (.py d)))):=by
 intro O s v Q E t r q
 exact lI (AG N (b:=.val (.py d)) hi hlt hk t r q)
noncomputable def DY (Γ:Cx):List Nat->List kH->Prop
 | [],[]=>True
 | i::is,.Name x _::es=>Γ.ns[i]?=some x/\Γ.env.kindOf x=some .local/\DY Γ is es
 | _,_=>False
noncomputable def F2 (σ:AX):List Nat->List jO->AX
 | i::is,d::ds=>F2 (σ.set i (some (.val (.py d)))) is ds
 | _,_=>σ
theorem E2:∀{is:List Nat} {es:List kH},DY Γ is es->(assignEach es Γ.env).length=is.length/\(assignEach es Γ.env).findIdx? (·.1)=none:=by
 intro is
 delta Γ at is
 induction is with
 | nil=>
  intro es h
  cases es with
  | nil=>exact⟨rfl,rfl⟩
  | cons=>exact h.elim
 | cons i is ih=>
  intro es h
  cases es with
  | nil=>exact h.elim
  | cons e es=>
   obtain⟨x,p,rfl,hn⟩:∃x p,e=.Name x p/\DY Γ is es:=by
    cases e with
    | Name x p=>exact AT x p rfl h.2.2
    | _=>exact h.elim
   obtain⟨h1,h2⟩:=ih hn
   have e:assignEach (.Name x p::es) Γ.env=(false,assign (.Name x p) Γ.env)::assignEach es Γ.env:=rfl
   rw[e]
   refine⟨by rw[j7,j7,h1],?_⟩
   rw[List.findIdx?_cons]
   simp[h2]
theorem Bg{h:jY}{vs:List jB}{as:List jL}(r:Ae h vs [] as):vs=[]:=by
 generalize e:([]:List jO)=ds at r
 cases r with
 | nil=>rfl
 | cons=>cases e
theorem AK{h:jY}{vs:List jB}{d:jO}{ds:List jO}{as:List jL}(r:Ae h vs (d::ds) as):∃v ws bs cs,vs=v::ws/\Ak h v d bs/\Ae h ws ds cs/\as=bs++cs:=by
 generalize e:d::ds=es at r
 cases r with
 | nil=>cases e
 | cons r rs=>cases e;exact GR _ _ _ _ rfl r rs rfl
theorem HS(N:Nm Γ)(Q:Unit->jE->Prop)(E:jB->jE->Prop):∀(is:List Nat) (es:List kH) (ds:List jO),DY Γ is es->∀(σ:AX) (O:Ap) (s:jE) (vs:List jB) (as:List jL),(∀i∈is,i<σ.length)->is.length=ds.length->
 St Γ O σ s->Ae s.heap vs ds as->(∀b∈as,¬O.has b)->(∀s',AI s s'->(∀b o,b≠Γ.env.locals->s.heap.get? b=some o->s'.heap.get? b=some o)->St Γ O (F2 σ is ds) s'->Q () s')->wpAny (model Γ.prog Γ.w) Γ.A (vY ((assignEach es Γ.env).map (·.2)) vs) Q E s:=by
 intro is
 delta Γ Q E at N is
 induction is with
 | nil=>
  intro es ds hn σ O s vs as hlt hl t r qa q
  cases es with
  | cons=>exact hn.elim
  | nil=>
   cases ds with
   | cons=>cases hl
   | nil=>
    obtain rfl:=Bg r
    exact jJ (q s (AI.re s) (λ_ _ _ e=>e) t)
 | cons i is ih=>
  intro es ds hn σ O s vs as hlt hl t r qa q
  cases es with
  | nil=>exact hn.elim
  | cons e es=>
   cases e with
   | Name x p=>
    refine C1 hn λhi hk h=>?_
    cases ds with
    | nil=>cases hl
    | cons d ds=>
     refine Cz (AK r) λv ws bs cs zz1 r1 rs zz2=>?_;obtain rfl:=zz1;obtain rfl:=zz2
     have e:assignEach (.Name x p::es) Γ.env=(false,assign (.Name x p) Γ.env)::assignEach es Γ.env:=rfl
     rw[e]
     refine rB (lI (AG N (b:=.val (.py d)) hi (hlt i (.head _)) hk t (Ac _ r1 λb hb=>qa b (lM _ hb)) λs1 a1 u1 t1=>?_))
     have f1:=Fx.ofBut t a1 u1 t1
     exact ih es ds h _ O s1 ws cs (λj hj=>by rw[nJ];exact hlt j (.tail _ hj)) (qW hl) t1 (DP t N.names f1 rs λb hb=>qa b (kO _ hb)) (λb hb=>qa b (kO _ hb)) λs2 a2 u2 t2=>q s2 (a1.tr a2) (λb o hb e=>u2 b o hb (u1 b o hb e)) t2
   | _=>exact hn.elim
theorem BV(N:Nm Γ)(hh:Γ.A.handled=none)(is:List Nat){es:List kH}{k:Nat}{p:mf}{ds:List jO}(hn:DY Γ is es)(hlt':autoParam ((is.all λi=>mw i σ.length)=true) aR)(hl:autoParam (is.length=ds.length) aR):As Γ σ (.Tuple es k p) (.tuple ds) (F2 σ is ds):=by
 intro O s v Q E t r q
 have hlt:∀i∈is,i<σ.length:=λi hi=>jT (ky.mp hlt' i hi)
 refine Cf r.tuple_inv λa vs as zz1 ht rs qs=>?_;obtain rfl:=zz1
 obtain⟨h1,h2⟩:=E2 hn
 have hsz:vs.size=ds.length:=by rw[<-Al rs];simp
 refine wpAny_assign_Tuple hh ht (by rw[h1,hl,hsz]) h2 λh' he=>?_
 have k:kY s {s with heap:=h'}:=AT h' s.toks rfl λb o e=>he b o (lw (kq e)) e
 exact HS N _ _ is es ds hn _ _ _ _ _ hlt hl (t.of_keeps k) (Ae.keeps (λb o e=>he b o (lw (kq e)) e) rs) qs λs2 a2 u2 t2=>q s2 (AI.tr (AS h' s.toks rfl) a2) (λb o hb e=>u2 b o hb (he b o (lw (kq e)) e)) t2
theorem Gm{es:List kH}{k:Nat}{p:mf}{e:kH}{d:jO}{σ':AX}(h:Ev Γ σ e (.py d))(ha:As Γ σ (.Tuple es k p) d σ')(hP:P .next σ')
 (hs:autoParam (tK [oq es k p] e pos.line Γ.env=pure false) aR)(hw:autoParam (nt [oq es k p] e Γ.env=pure none) aR):X1 Γ σ (.Assign [.Tuple es k p] e pos) P:=by
 intro O s Q E t q
 exact wB (h O s _ E t λv s1 t1 k1 r1=>ha O s1 v _ E t1 r1 λs2 a2 u2 t2=>q O .next .next σ' s2 ((Fx.of_keeps k1).tr (Fx.ofBut t1 a2 u2 t2)) t2 rfl hP) hs hw
theorem St.butFields{O:Ap}{s:jE}{h':jY}{tk:Nat}{wr:List jL}(t:St Γ O σ s)(k:∀b o,b∉wr->s.heap.get? b=some o->h'.get? b=some o)(hf:∀b∈wr,∃o fs,s.heap.get? b=some o/\o.data=.fields fs)(hO:∀b∈wr,¬O.has b)(h0:∀b∈wr,Γ.s₀.heap.get? b=none) :
 St Γ O σ {s with heap:=h',toks:=tk}:=by
 delta Γ σ O s h' tk wr at t k hf hO h0
 obtain⟨kp,⟨m,n,vs⟩,cl,nd,lv,sb,fr,fs⟩:=t
 have nf:∀{b:jL} {o:nH},s.heap.get? b=some o->(∀f,o.data≠.fields f)->h'.get? b=some o:=λ{b o} e hn=>k b o (λhb=>by
  refine Ao (hf b hb) λo' f e' d'=>?_
  (replace e':=CQ e e';subst e')
  exact hn _ d') e
 have rd:∀{v:jB} {d:jO} {as:List jL},Ak s.heap v d as->Ak h' v d as:=by
  intro v d as r
  refine Ak.rec (motive_1:=λv d as _=>Ak h' v d as) (motive_2:=λvs ds as _=>Ae h' vs ds as) ?_ ?_ ?_ ?_ ?_ ?_ ?_ ?_ ?_ r
  ·exact .none
  ·exact .bool
  ·exact .int
  ·exact .str
  ·intro a o vs n xs as e1 e2 e3 _ ih;exact .list (nf e1 (λf z=>by rw[e3] at z;exact jS z)) e2 e3 ih
  ·intro a o vs n xs as e1 e2 e3 _ ih;exact .tuple (nf e1 (λf z=>by rw[e3] at z;exact jS z)) e2 e3 ih
  ·intro a o vs n xs as e1 e2 e3 _ ih;exact .mt (nf e1 (λf z=>by rw[e3] at z;exact jS z)) e2 e3 ih
  ·exact .nil
  ·intro v vs d ds as bs _ _ ih1 ih2;exact .cons ih1 ih2
 have rdA:∀{v:List jB} {d:List jO} {as:List jL},Ae s.heap v d as->Ae h' v d as:=by
  intro v d as r
  induction v generalizing d as with
  | nil=>cases r;exact .nil
  | cons v vs ih=>cases r with|cons r rs=>exact .cons (rd r) (ih rs)
 have ce:∀{c:jL} {u:Option jB},s.heap.IsCell c u->h'.IsCell c u:=λ{c u} ⟨o,e,d⟩=>Ac o (nf e (λf z=>by rw[d] at z;exact jS z)) d
 refine⟨λb o e=>k b o (λhb=>by exact B0 (h0 b hb) e) (kp b o e),(Ac m ?_ λi x b e e'=>?_),λx c e=>?_,nd,λp hp=>?_,sb,fr,fs⟩
 ·refine Ec n λo es ep e hd r=>?_
  exact Pw o es ep (nf e (λf z=>by rw[hd] at z;exact jS z)) hd r
 ·refine Af (vs i x b e e') λv hd r=>?_
  refine Ac v (hd.imp id λ⟨k1,c,hc,ic⟩=>⟨k1,c,hc,ce ic⟩) ?_
  cases b with
  | val a=>
   cases a with
   | py d=>refine Af r λas r q=>?_;exact Ac as (rd r) q
   | «by» b=>exact r
   | raw u=>exact r
   | obj P=>refine C9 r λa1 o e1 g p q z=>?_;exact C5 a1 o e1 (nf g z.2) p q z
   | st R ok=>refine Af r λas r q=>?_;exact Ac as (ok.keepBy r (λb hb o e=>Af (ok.solid r b hb) λo' e' z=>nf e (λf d=>by(replace e':=CQ e e';subst e');exact z.2 _ d)) (λb o e ⟨_,vs,n,d⟩=>nf e (λf z=>by rw[d] at z;exact jS z))) q
  | own ds=>
   refine CR r λa' ws' as' e1 m1' l1' r1' q1' f1'=>?_
   exact CA a' ws' as' e1 m1' (AR l1' λn e=>(Ag n (nf e (λf z=>by cases z)))) (rdA r1') q1' f1'
  | «at» a' P=>refine CU r λe1 m1' zz1 f1'=>?_;obtain⟨o,g,p,z⟩:=zz1;exact⟨e1,m1',(Ba o (nf g z.1.2) p z),f1'⟩
 ·obtain⟨u,ic⟩:=cl x c e
  exact Ag u (ce ic)
 ·obtain⟨o,e⟩:=lv p hp
  exact Ag o (k _ _ (λhb=>hO _ hb (Ac p hp rfl)) e)
end
section
variable {Γ:Cx} {σ:AX} {pos:mf} {P:AF->AX->Prop}
noncomputable def Do (Γ:Cx) (O:Ap) (h:jY) (b:jL):Prop:=
 (∃o,h.get? b=some o/\o.cls=.type "tuple"/\∃vs n,o.data=.seq vs n)\/(¬O.has b/\(∀x,(x,b)∉Γ.env.cells)/\∃o,h.get? b=some o)
theorem Do.fx{O O':Ap}{s s':jE}{b:jL}(h:Do Γ O s.heap b)(f:Fx Γ O s O' s'):Do Γ O' s'.heap b/\∀o,s.heap.get? b=some o->s'.heap.get? b=some o:=by
 rcases h with⟨o,e,c,d⟩|⟨h1,h2,o,e⟩
 ·have e':=f.tups b o e ⟨c,d⟩
  exact⟨.inl (Ba o e' c d),λo' q=>by(replace q:=CQ e q;subst q);exact e'⟩
 ·have k:∀o,s.heap.get? b=some o->s'.heap.get? b=some o:=λo q=>f.kept b o q h1 λEM=>AR EM λx hx=>h2 x hx
  refine⟨.inr ⟨λz=>?_,h2,o,k o e⟩,k⟩
  rcases f.own b z with z|z
  ·exact h1 z
  ·exact B0 z e
theorem Do.but{O:Ap}{h h':jY}{wr:List jL}{b:jL}(x:Do Γ O h b)(k:∀b o,b∉wr->h.get? b=some o->h'.get? b=some o)(hf:∀b∈wr,∃o fs,h.get? b=some o/\o.data=.fields fs)(hl:∀b∈wr,∃o,h'.get? b=some o):Do Γ O h' b:=by
 rcases x with⟨o,e,c,vs,n,d⟩|⟨h1,h2,o,e⟩
 ·refine .inl ⟨o,k b o (λhb=>?_) e,c,vs,n,d⟩
  refine Ao (hf b hb) λo' fs e' d'=>?_
  (replace e':=CQ e e';subst e');rw[d] at d';exact jS d'
 ·refine .inr ⟨h1,h2,?_⟩
  by_cases hb:b∈wr
  ·exact hl b hb
  ·exact Ag o (k b o hb e)
theorem Do.rec{O:Ap}{h:jY}{b:jL}(x:Do Γ O h b)(hf:∃o fs,h.get? b=some o/\o.data=.fields fs):¬O.has b:=by
 rcases x with⟨o,e,c,vs,n,d⟩|⟨h1,_⟩
 ·refine Ao hf λo' fs e' d'=>?_
  (replace e':=CQ e e';subst e');rw[d] at d';exact jS d'
 ·exact h1
noncomputable def RO (Γ:Cx) (σ:AX) (tgt e:kH) (ds:List jO):Prop:=
 ∀(O:Ap) (s:jE) (Q:jB->jE->Prop) (E:jB->jE->Prop),St Γ O σ s->
 (∀I fp wr R Md T (s':jE) (vs:List jB) (es:List jO) (as:List jL),kY s s'->ww Γ.prog Γ.w Γ.A tgt I fp wr ds.length R Md T->T 0 s'.heap->
  St Γ O σ s'->(∀i (s:jE) (Q:jB->jE->Prop) (E:jB->jE->Prop),T i s.heap->Q (.ref I) s->wpAny (model Γ.prog Γ.w) Γ.A (pyIter (.ref I)) Q E s)->(∀b∈fp,Do Γ O s'.heap b)->(∀b∈wr,s.heap.get? b=none)->
  (∀i h,T i h->∀b∈wr,∃o fs,h.get? b=some o/\o.data=.fields fs)->
  Ae s'.heap vs es as->(∀b∈as,¬O.has b)->
  (∀i v h d,ds[i]?=some d->R i v h->Ae h vs es as->∃bs,Ak h v d bs/\∀b∈bs,b∈as)->
  Q (.ref I) s')->wpAny (model Γ.prog Γ.w) Γ.A (eval e Γ.env) (λx xJ=>wpAny (model Γ.prog Γ.w) Γ.A (pyIter x) Q E xJ) E s
theorem DR(N:Nm Γ){x:jX}{b:jL}(h:(x,b)∈Γ.env.cells):Γ.env.cells.lookup x=some b:=by
 have:∀(l:List (jX×jL)),(l.map (·.1)).Nodup->(x,b)∈l->l.lookup x=some b:=by
  intro l nd hm
  induction l with
  | nil=>cases hm
  | cons p l ih=>
   rw[kM,md] at nd
   rw[q9]
   rcases jG.mp hm with e|hm
   ·rw[<-e];simp
   ·have:(x == p.1)=false:=by
     rw[beq_eq_false_iff_ne]
     rintro rfl
     exact nd.1 (kn.mpr (Ac _ hm rfl))
    rw[this];exact ih nd.2 hm
 exact this _ N.names h
theorem Wu(N:Nm Γ){O:Ap}{s:jE}(t:St Γ O σ s){b:jL}(h:∀v,¬s.heap.IsCell b v):∀x,(x,b)∉Γ.env.cells:=by
 intro x hx
 obtain⟨v,ic⟩:=t.cells x b (DR N hx)
 exact h v ic
theorem Bt{h h':jY}{wr:List jL}(k:∀b o,b∉wr->h.get? b=some o->h'.get? b=some o)(hf:∀b∈wr,∃o fs,h.get? b=some o/\o.data=.fields fs){v:List jB}{d:List jO}{as:List jL}(r:Ae h v d as):Ae h' v d as:=by
 have nf:∀{b:jL} {o:nH},h.get? b=some o->(∀f,o.data≠.fields f)->h'.get? b=some o:=λ{b o} e hn=>k b o (λhb=>by
  refine Ao (hf b hb) λo' f e' d'=>?_
  (replace e':=CQ e e';subst e')
  exact hn _ d') e
 have rd:∀{v:jB} {d:jO} {as:List jL},Ak h v d as->Ak h' v d as:=by
  intro v d as r
  refine Ak.rec (motive_1:=λv d as _=>Ak h' v d as) (motive_2:=λvs ds as _=>Ae h' vs ds as) ?_ ?_ ?_ ?_ ?_ ?_ ?_ ?_ ?_ r
  ·exact .none
  ·exact .bool
  ·exact .int
  ·exact .str
  ·intro a o vs n xs as e1 e2 e3 _ ih;exact .list (nf e1 (λf z=>by rw[e3] at z;exact jS z)) e2 e3 ih
  ·intro a o vs n xs as e1 e2 e3 _ ih;exact .tuple (nf e1 (λf z=>by rw[e3] at z;exact jS z)) e2 e3 ih
  ·intro a o vs n xs as e1 e2 e3 _ ih;exact .mt (nf e1 (λf z=>by rw[e3] at z;exact jS z)) e2 e3 ih
  ·exact .nil
  ·intro v vs d ds as bs _ _ ih1 ih2;exact .cons ih1 ih2
 induction v generalizing d as with
 | nil=>cases r;exact .nil
 | cons v vs ih=>cases r with|cons r rs=>exact .cons (rd r) (ih rs)
noncomputable def fz (Γ:Cx) (σ:AX) (tgt:kH) (ds:List jO) (O:Ap) (s:jE) (Q:jB->jE->Prop):Prop:=
 (∀I fp wr R Md T (s':jE) (vs:List jB) (es:List jO) (as:List jL),kY s s'->ww Γ.prog Γ.w Γ.A tgt I fp wr ds.length R Md T->T 0 s'.heap->
  St Γ O σ s'->(∀i (s:jE) (Q:jB->jE->Prop) (E:jB->jE->Prop),T i s.heap->Q (.ref I) s->wpAny (model Γ.prog Γ.w) Γ.A (pyIter (.ref I)) Q E s)->(∀b∈fp,Do Γ O s'.heap b)->(∀b∈wr,s.heap.get? b=none)->
  (∀i h,T i h->∀b∈wr,∃o fs,h.get? b=some o/\o.data=.fields fs)->
  Ae s'.heap vs es as->(∀b∈as,¬O.has b)->
  (∀i v h d,ds[i]?=some d->R i v h->Ae h vs es as->∃bs,Ak h v d bs/\∀b∈bs,b∈as)->
  Q (.ref I) s')
theorem VF(N:Nm Γ){tgt iter:kH}{body orelse:List l9}{ds:List jO}{O:Ap}{s0:jE}{Q:uR->jE->Prop}{E:jB->jE->Prop}(R:jE->Prop)
 (hI:∀Q,(∀s,St Γ O σ s->R s->fz Γ σ tgt ds O s Q)->wpAny (model Γ.prog Γ.w) Γ.A (eval iter Γ.env) (λx xJ=>wpAny (model Γ.prog Γ.w) Γ.A (pyIter x) Q E xJ) E s0)(Inv:Nat->AX->Prop)(h0:Inv 0 σ)
 (step:∀i d σ1,ds[i]?=some d->Inv i σ1->∃σ2,As Γ σ1 tgt d σ2/\Ex Γ σ2 body (λaf σ3=>match af with | .next=>Inv (i+1) σ3 | .cont=>Inv (i+1) σ3 | .brk=>P .next σ3 | .ret a=>P (.ret a) σ3))
 (hend:∀σ1,Inv ds.length σ1->Ex Γ σ1 orelse P)
 (q:∀s O' fl af σ' s',R s->Fx Γ O s O' s'->St Γ O' σ' s'->FR O' s'.heap af fl->P af σ'->Q fl s')
 (hs:autoParam (∀x,foldedSetIterable iter Γ.env x=pure x) aI):wpAny (model Γ.prog Γ.w) Γ.A (exec (.For tgt iter body orelse pos) Γ.env) Q E s0:=by
 delta Γ σ pos P tgt iter body orelse ds O s0 Q E R Inv at N hI h0 step hend q hs
 refine wpAny_For (hI _ λs t Rs I fp wr R Md T s1 vs es as k1 W hT _ _ hfp hwr hfd rs qs rd=>?_) hs
 have t1:=t.of_keeps k1
 have h0':∀b∈wr,Γ.s₀.heap.get? b=none:=λb hb=>gn λo e=>by have:=t.keep _ _ e;exact B0 (hwr b hb) this
 refine xu
  (λk s'=>∃i O1 σ1,k=ds.length+1-i/\i<=ds.length/\St Γ O1 σ1 s'/\Inv i σ1/\Fx Γ O s O1 s'/\T i s'.heap/\Ae s'.heap vs es as/\(∀b∈as,¬O1.has b)/\(∀b∈fp,Do Γ O1 s'.heap b)) ?_ (ds.length+1)
  (eW 0 O σ rfl (kf _) t1 h0 (Fx.of_keeps k1) hT rs qs hfp)
 rintro k s' ⟨i,O1,σ1,rfl,hi,t',hInv,f',hT',rs',qs',hO1⟩
 have hwrs:∀b o,s.heap.get? b=some o->b∉wr:=λb o e hb=>by exact B0 (hwr b hb) e
 by_cases hlt:i<ds.length
 ·refine W.item i _ _ _ hlt hT' λv xI xM hMd xL=>?_
  refine W.go i v _ _ _ hMd λxK hR xQ xP=>?_
  dsimp only
  have hk:∀b o,b∉wr->s'.heap.get? b=some o->xK.get? b=some o:=λb o hb e=>xP b o hb (xL b o hb e)
  have hfd':=hfd i _ hT'
  have t2:St Γ O1 σ1 {s' with heap:=xK,toks:=xM}:=t'.butFields hk hfd' (λb hb=>(hO1 b (W.sub b hb)).rec (hfd' b hb)) h0'
  have rs2:Ae xK vs es as:=Bt hk hfd' rs'
  obtain⟨d,hd⟩:∃d,ds[i]?=some d:=Ag _ (jP hlt)
  refine Af (rd i v xK d hd hR rs2) λbs rv qv=>?_
  refine Af (step i d σ1 hd hInv) λσ2 ha hb=>?_
  have hlive:∀b o,s'.heap.get? b=some o->∃o',xK.get? b=some o':=λb o e=>by
   by_cases hb:b∈wr
   ·refine Ao (hfd _ _ xQ b hb) λo' fs e' _=>?_
    exact Ag o' e'
   ·exact Ag o (hk b o hb e)
  have f2:Fx Γ O s O1 {s' with heap:=xK,toks:=xM}:=
   ⟨f'.alike.tr (AS _ _ rfl),f'.own,λb o e=>AR (f'.dom b o e) λo' e'=>hlive b o' e',λb o e h1 h2=>hk b o (hwrs b o e) (f'.kept b o e h1 h2),λb o e h1=>hk b o (hwrs b o e) (f'.tups b o e h1)⟩
  have hO2:∀b∈fp,Do Γ O1 xK b:=λb hb=>(hO1 b hb).but hk hfd' λb hb=>Ao (hfd _ _ xQ b hb) λo _ e _=>(Ag o e)
  refine ha O1 _ v _ _ t2 (Ac bs rv λb hb=>qs' b (qv b hb)) λs3 a3 u3 t3=>?_
  have f3:=Fx.ofBut t2 a3 u3 t3
  refine hb O1 s3 _ _ t3 λO2 fl af σ3 s4 f4 t4 hfl hP=>?_
  have f24:=f3.tr f4
  have next:Inv (i+1) σ3->∃m,m<ds.length+1-i/\∃i O1 σ1,m=ds.length+1-i/\i<=ds.length/\St Γ O1 σ1 s4/\Inv i σ1/\Fx Γ O s O1 s4/\T i s4.heap/\Ae s4.heap vs es as/\(∀b∈as,¬O1.has b)/\(∀b∈fp,Do Γ O1 s4.heap b):=by
   intro hI'
   have own4:∀b,(∃o,xK.get? b=some o)->¬O1.has b->¬O2.has b:=λb ⟨o,e⟩ h1 h2=>by
    rcases f24.own b h2 with z|z
    ·exact h1 z
    ·have z:xK.get? b=none:=z
     exact B0 z e
   refine⟨ds.length+1-(i+1),by rwa[hlt],i+1,O2,σ3,rfl,hlt,t4,hI',f2.tr f24,?_,DP t2 N.names f24 rs2 qs',λb hb=>?_,λb hb=>(Do.fx (s:={s' with heap:=xK,toks:=xM}) (hO2 b hb) f24).1⟩
   ·exact W.frame _ _ _ xQ λb hb o e=>(Do.fx (s:={s' with heap:=xK,toks:=xM}) (hO2 b hb) f24).2 o e
   ·exact own4 b (Bv rs2 b hb) (qs' b hb)
  cases af with
  | next=>obtain rfl:fl=.next:=hfl;exact next hP
  | cont=>obtain rfl:fl=.cont:=hfl;exact next hP
  | brk=>obtain rfl:fl=.brk:=hfl;exact q s O2 .next .next σ3 s4 Rs (f2.tr f24) t4 rfl hP
  | ret a=>refine Af hfl λv zz1 r=>?_;clear hfl;obtain rfl:=zz1;exact q s O2 _ (.ret a) σ3 s4 Rs (f2.tr f24) t4 (Ac v rfl r) hP
 ·have hin:i=ds.length:=by rwa[hi,hlt]
  subst hin
  refine W.done _ _ _ hT' λxI xM xL=>?_
  have hfd':=hfd _ _ hT'
  have t2:St Γ O1 σ1 {s' with heap:=xI,toks:=xM}:=t'.butFields xL hfd' (λb hb=>(hO1 b (W.sub b hb)).rec (hfd' b hb)) h0'
  have f2:Fx Γ O s O1 {s' with heap:=xI,toks:=xM}:=
   ⟨f'.alike.tr (AS _ _ rfl),f'.own,λb o e=>AR (f'.dom b o e) λo' e'=>(Ag o' (xL b o' (hwrs b o e) e')),λb o e h1 h2=>xL b o (hwrs b o e) (f'.kept b o e h1 h2),λb o e h1=>xL b o (hwrs b o e) (f'.tups b o e h1)⟩
  exact hend σ1 hInv O1 _ _ _ t2 λO2 fl af σ3 s4 f4 t4 hfl hP=>q s O2 fl af σ3 s4 Rs (f2.tr f4) t4 hfl hP
theorem EO(N:Nm Γ){tgt iter:kH}{body orelse:List l9}{ds:List jO}(hI:RO Γ σ tgt iter ds)(Inv:Nat->AX->Prop)(h0:Inv 0 σ)
 (step:∀i d σ1,ds[i]?=some d->Inv i σ1->∃σ2,As Γ σ1 tgt d σ2/\Ex Γ σ2 body (λaf σ3=>match af with | .next=>Inv (i+1) σ3 | .cont=>Inv (i+1) σ3 | .brk=>P .next σ3 | .ret a=>P (.ret a) σ3))
 (hend:∀σ1,Inv ds.length σ1->Ex Γ σ1 orelse P)
 (hs:autoParam (∀x,foldedSetIterable iter Γ.env x=pure x) aI):X1 Γ σ (.For tgt iter body orelse pos) P:=by
 intro O s Q E t q
 exact VF N (λs'=>s'=s) (λQ' hQ=>hI O s Q' E t (hQ s t rfl)) Inv h0 step hend (λs' O' fl af σ' s'' hs' fx t' fr p=>by subst hs';exact q O' fl af σ' s'' fx t' fr p) hs
end
theorem DS{prog:lD}{w:jW}{A:kA}{s:jE}{E:jB->jE->Prop}{target:kH}{I:jL}{v:jB}{Q:Unit->jE->Prop}{T:String}{fs:Array jB}(hit:∃o,s.heap.get? I=some o/\o.cls=.type T/\o.data=.fields fs)
 (hT:["enumerate","zip","dict_itemiterator","dict_reverseitemiterator","odict_iterator","itertools.zip_longest","itertools.pairwise"].contains T=false)(h:Q () s):wpAny (model prog w) A (vd target (.ref I) v) Q E s:=by
 refine Bu hit λo ho hc hd=>?_
 unfold vd
 cases target<;>first
  | exact jJ h
  | (cases v<;>first
   | exact jJ h
   | (refine jA (sq ho ?_)
      rw[hc,hd]
      dsimp only
      rw[hT]
      exact jJ h))
theorem AW{s s':jE}{a:jL}(k:kY s s')(h:s'.heap.objs.size<=a):s.heap.get? a=none:=by
 cases e:s.heap.get? a with
 | none=>rfl
 | some o=>
  obtain⟨h',tk,rfl,k⟩:=k
  exact absurd (kq (k _ _ e)) (pq.mpr h)
theorem Keeps.push(s:jE)(o:nH):kY s {s with heap:=s.heap.push o}:=AT _ s.toks rfl λ_ _ e=>jF _ e
section
variable {Γ:Cx} {σ:AX} {pos:mf} {tgt e:kH}
theorem O7(N:Nm Γ){O:Ap}{s:jE}(t:St Γ O σ s){b:jL}(h:s.heap.objs.size<=b):∀x,(x,b)∉Γ.env.cells:=by
 intro x hx
 obtain⟨v,o,ho,_⟩:=t.cells x b (DR N hx)
 exact absurd (kq ho) (pq.mpr h)
theorem Q8{O:Ap}{s:jE}(t:St Γ O σ s){b:jL}(h:s.heap.objs.size<=b):¬O.has b:=by
 rintro⟨p,hp,e⟩
 obtain⟨o,ho⟩:=t.live p hp
 rw[e] at ho
 exact absurd (kq ho) (pq.mpr h)
theorem E6(N:Nm Γ){O:Ap}{s:jE}(t:St Γ O σ s){h:jY}{b:jL}(hb:s.heap.objs.size<=b)(hl:∃o,h.get? b=some o):Do Γ O h b:=
 .inr ⟨Q8 t hb,O7 N t hb,hl⟩
theorem T7(N:Nm Γ){O:Ap}{s:jE}(t:St Γ O σ s){a:jL}{vs:Array jB}(hl:s.heap.IsList a vs)(hO:¬O.has a):Do Γ O s.heap a:=
 .inr ⟨hO,Wu N t λv ic=>Cq ic hl rfl,Af hl λo e _=>(Ag o e)⟩
theorem I6{v:jB}{O:Ap}{s1:jE}{ds:List jO}{Q:jB->jE->Prop}{E:jB->jE->Prop}(N:Nm Γ)(hh:Γ.A.handled=none)(t1:St Γ O σ s1)(r1:VR O s1.heap (.py (.list ds)) v)(q:fz Γ σ tgt ds O s1 Q):wpAny (model Γ.prog Γ.w) Γ.A (pyIter v) Q E s1:=by
 refine HZ r1.list_inv λa vs as zz1 hl rs ha qs=>?_;obtain rfl:=zz1
 refine wpAny_pyIter_list hl ?_
 have hlen:vs.size=ds.length:=by rw[<-Al rs];simp
 have hne:a≠s1.heap.objs.size:=by refine Af hl λo e _=>?_;exact lw (kq e)
 have W0:=Walks.list (prog:=Γ.prog) (w:=Γ.w) hh s1.heap.objs.size a hne vs
 have W:=rO (target:=tgt) W0 (λi v s Q E st q=>DS (Bu st.1 λo e c d=>(Ba o e c d)) rfl q)
 rw[hlen] at W
 have k2:=Keeps.push s1 {cls:=.type "list_iterator",data:=.fields #[.ref a,.int 0 0]}
 have t2:=t1.of_keeps k2
 refine q _ _ _ _ _ _ _ _ ds as k2 W ⟨(Ba _ (jQ _ rfl) rfl rfl),IsList.kept hl λ_ _ e=>jF _ e⟩ t2 W0.self (λb hb=>?_) (λb hb=>?_) ?_ (Ae.keeps (λ_ _ e=>jF _ e) rs) qs ?_
 ·rcases jG.mp hb with rfl|hb
  ·exact E6 N t1 (jN _) (Ag _ (jQ _ rfl))
  ·obtain rfl:=jH.mp hb
   exact T7 N t2 (IsList.kept hl λ_ _ e=>jF _ e) ha
 ·obtain rfl:=jH.mp hb
  exact AW (Keeps.re s1) (jN _)
 ·rintro i h ⟨⟨o,e,c,d⟩,_⟩ b hb
  obtain rfl:=jH.mp hb
  exact AT o _ e d
 ·intro i v h d hd hv r
  refine BD (B4 r hd) λv' bs e1 r1 q1=>?_
  have hv:vs[i]?=some v:=hv
  have:vs.toList[i]?=some v:=by simpa using hv
  (replace e1:=CQ this e1;subst e1)
  exact Ac bs r1 q1
theorem C3(N:Nm Γ)(hh:Γ.A.handled=none){ds:List jO}(h:Ev Γ σ e (.py (.list ds))):RO Γ σ tgt e ds:=by
 intro O s Q E t q
 exact h O s _ E t λv s1 t1 k1 r1=>I6 N hh t1 r1 λI fp wr R Md T s' vs es as k W hT t2 self hfp hwr=>q I fp wr R Md T s' vs es as (Keeps.tr k1 k) W hT t2 self hfp λb hb=>gn λo e=>by obtain⟨h1,tk,rfl,k1⟩:=k1;have:=k1 _ _ e;exact B0 (hwr b hb) this
theorem Ft(N:Nm Γ)(hh:Γ.A.handled=none){ds:List jO}(h:Ev Γ σ e (.py (.tuple ds))):RO Γ σ tgt e ds:=by
 intro O s Q E t q
 refine h O s _ E t λv s1 t1 k1 r1=>?_
 refine Cf r1.tuple_inv λa vs as zz1 hl rs qs=>?_;obtain rfl:=zz1
 refine tS hl ?_
 have hlen:vs.size=ds.length:=by rw[<-Al rs];simp
 have hne:a≠s1.heap.objs.size:=by refine Af hl λo e _=>?_;exact lw (kq e)
 have W0:=Walks.tuple (prog:=Γ.prog) (w:=Γ.w) hh s1.heap.objs.size a hne vs
 have W:=rO (target:=tgt) W0 (λi v s Q E st q=>DS (Bu st.1 λo e c d=>(Ba o e c d)) rfl q)
 rw[hlen] at W
 have k2:=Keeps.push s1 {cls:=.type "tuple_iterator",data:=.fields #[.ref a,.int 0 0]}
 have t2:=t1.of_keeps k2
 have hl2:vC (s1.heap.push {cls:=.type "tuple_iterator",data:=.fields #[.ref a,.int 0 0]}) a vs:=Af hl λo e r=>(Ac o (jF _ e) r)
 refine q _ _ _ _ _ _ _ _ ds as (Keeps.tr k1 k2) W ⟨(Ba _ (jQ _ rfl) rfl rfl),hl2⟩ t2 W0.self (λb hb=>?_) (λb hb=>?_) ?_ (Ae.keeps (λ_ _ e=>jF _ e) rs) qs ?_
 ·rcases jG.mp hb with rfl|hb
  ·exact E6 N t1 (jN _) (Ag _ (jQ _ rfl))
  ·obtain rfl:=jH.mp hb
   refine Bu hl2 λo e c zr0=>AR zr0 λn d=>?_
   exact .inl ⟨o,e,c,_,n,d⟩
 ·obtain rfl:=jH.mp hb
  exact AW k1 (jN _)
 ·rintro i h ⟨⟨o,e,c,d⟩,_⟩ b hb
  obtain rfl:=jH.mp hb
  exact AT o _ e d
 ·intro i v h d hd hv r
  refine BD (B4 r hd) λv' bs e1 r1 q1=>?_
  have hv:vs[i]?=some v:=hv
  have:vs.toList[i]?=some v:=by simpa using hv
  (replace e1:=CQ this e1;subst e1)
  exact Ac bs r1 q1
noncomputable def DK (b:Array UInt8):List jO:=b.toList.map λc=>.int c.toNat
theorem Ky(N:Nm Γ)(hh:Γ.A.handled=none){b:Array UInt8}(h:Ev Γ σ e (.by b)):RO Γ σ tgt e (DK b):=by
 intro O s Q E t q
 refine h O s _ E t λv s1 t1 k1 r1=>?_
 obtain⟨tk,rfl⟩:=r1
 refine KBw.pyIter_bytes ?_
 have hlen:b.size=(DK b).length:=by simp[DK]
 have W0:=KBw.walks (prog:=Γ.prog) (w:=Γ.w) hh s1.heap.objs.size b tk
 have W:=rO (target:=tgt) W0 (λi v s Q E st q=>DS (Bu st λo e c d=>(Ba o e c d)) rfl q)
 rw[hlen] at W
 have k2:=Keeps.push s1 {cls:=.type "bytes_iterator",data:=.fields #[.bytes b tk,.int 0 0]}
 refine q _ _ _ _ _ _ _ [] [] [] (Keeps.tr k1 k2) W (Ba _ (jQ _ rfl) rfl rfl) (t1.of_keeps k2) W0.self (λb hb=>?_) (λb hb=>?_) ?_ .nil (λ_ h=>nomatch h) ?_
 ·obtain rfl:=jH.mp hb
  exact E6 N t1 (jN _) (Ag _ (jQ _ rfl))
 ·obtain rfl:=jH.mp hb
  exact AW k1 (jN _)
 ·intro i h zz1 b hb;refine Bu zz1 λo e c d=>?_
  obtain rfl:=jH.mp hb
  exact AT o _ e d
 ·intro i v h d hd zz1 r;refine Ao zz1 λc u hc zz2=>?_;clear zz1;obtain rfl:=zz2
  obtain rfl:d=.int c.toNat:=by
   simp only[DK,j8,oH,hc] at hd
   simpa using hd.symm
  exact Ac [] (.int _ _) λ_ h=>nomatch h
noncomputable def AN (a b c:Int):List jO:=(kd (kG a b c).toNat).map λi=>.int (a+(i:Nat)*c)
theorem Fa(N:Nm Γ)(hh:Γ.A.handled=none){a b c:Int}(hs:mz a b c=true){O:Ap}{s s1:jE}{r:jL}{tu u v:ut}{Q:jB->jE->Prop}{E:jB->jE->Prop}(t1:St Γ O σ s1)(k1:kY s s1)(hr:IsRange s1.heap r a b c tu u v)
 (q:∀I fp wr R Md T (s':jE) (vs:List jB) (es:List jO) (as:List jL),kY s s'->ww Γ.prog Γ.w Γ.A tgt I fp wr (AN a b c).length R Md T->T 0 s'.heap->St Γ O σ s'->(∀i (s:jE) (Q:jB->jE->Prop) (E:jB->jE->Prop),T i s.heap->Q (.ref I) s->wpAny (model Γ.prog Γ.w) Γ.A (pyIter (.ref I)) Q E s)->(∀b∈fp,Do Γ O s'.heap b)->(∀b∈wr,s.heap.get? b=none)->
  (∀i h,T i h->∀b∈wr,∃o fs,h.get? b=some o/\o.data=.fields fs)->
  Ae s'.heap vs es as->(∀b∈as,¬O.has b)->
  (∀i v h d,(AN a b c)[i]?=some d->R i v h->Ae h vs es as->∃bs,Ak h v d bs/\∀b∈bs,b∈as)->
  Q (.ref I) s'):wpAny (model Γ.prog Γ.w) Γ.A (pyIter (.ref r)) Q E s1:=by
 refine wpAny_pyIter_range hr hs ?_
 have hlen:(kG a b c).toNat=(AN a b c).length:=by simp[AN]
 have W0:=Walks.range (prog:=Γ.prog) (w:=Γ.w) hh s1.heap.objs.size a c (kG a b c).toNat
 have W:=rO (target:=tgt) W0 (λi v s Q E st q=>DS (Ba _ st rfl rfl) rfl q)
 have WS:=W0.self
 rw[hlen] at W WS
 have k2:=Keeps.push s1 {cls:=.type "range_iterator",data:=.fields #[rawInt a,rawInt (kG a b c),rawInt c]}
 refine q _ _ _ _ _ _ _ [] [] [] (Keeps.tr k1 k2) W ?_ (t1.of_keeps k2) WS (λb hb=>?_) (λb hb=>?_) ?_ .nil (λ_ h=>nomatch h) ?_
 ·have hn:0<=kG a b c:=by
   unfold kG
   split
   ·split
    ·rename_i h1 h2;have:=qm (a:=b-a-1) (b:=c) (by rwa[h2]) (by rwa[h1]);rwa[this]
    ·rwa[]
   ·split
    ·rename_i h1 h2;have:=qm (a:=a-b-1) (b:=-c) (by rwa[h2]) (by rwa[h1]);rwa[this]
    ·rwa[]
  have e1:a+((0:Nat):Int)*c=a:=by simp
  have e2:(((AN a b c).length:Nat):Int)-((0:Nat):Int)=kG a b c:=by rw[<-hlen];rwa[hn]
  show IsRangeIter _ _ (a+((0:Nat):Int)*c) ((((AN a b c).length:Nat):Int)-((0:Nat):Int)) c
  rw[e1,e2];exact jQ _ rfl
 ·obtain rfl:=jH.mp hb
  exact E6 N t1 (jN _) (Ag _ (jQ _ rfl))
 ·obtain rfl:=jH.mp hb
  exact AW k1 (jN _)
 ·intro i h st b hb
  obtain rfl:=jH.mp hb
  exact AT _ _ st rfl
 ·rintro i v h d hd ⟨t,rfl⟩ r
  obtain rfl:d=.int (a+i*c):=by
   simp only[AN,j8] at hd
   cases q:(kd (kG a b c).toNat)[i]? with
   | none=>rw[q] at hd;exact B6 hd
   | some j=>
    rw[q] at hd
    have:i=j:=by rw[List.getElem?_range] at q<;>first|(exact kR q)|(have:=(jK.mp q).1;simpa using this)
    subst this
    simpa using hd.symm
  exact Ac [] (.int _ _) λ_ h=>nomatch h
theorem Bz{M:tM}{A:kA}{s:jE}{env:xy}{E:jB->jE->Prop}{pos:mf}{id:String}{e:kH}{es:List kH}{Q:jB->jE->Prop}(hp:(e::es).all AE=true)
 (h:wpAny M A (spliced (backTo pos (starEach (e::es) env))) (λvs s'=>wpAny M A (call (.type id) vs) Q E s') E s) :
 wpAny M A (kX pos (.type id) [] (backTo pos (starEach (e::es) env)) []) Q E s:=
 oY (Bh hp) (AL hp h)
theorem Ga(N:Nm Γ)(hh:Γ.A.handled=none){f x:kH}{b:Int}(hf:Ev Γ σ f (.raw (.type "range")))(h1:Ev Γ σ x (.py (.int b)))(hs:mz 0 b 1=true)(hp:autoParam ([x].all AE=true) aR)
 (he:autoParam (eval (.Call f [x] [] pos) Γ.env=(do kX pos (<-eval f Γ.env) [] (backTo pos (starEach [x] Γ.env)) (l8 pos (lu [] Γ.env)))) aR):RO Γ σ tgt (.Call f [x] [] pos) (AN 0 b 1):=by
 intro O s Q E t q
 refine qQ (hf O s _ E t λv s1 t1 k1 r1=>?_) he
 obtain rfl:v=.type "range":=r1
 refine Bz hp (Ab h1 Ah (by simpa using hp) O s1 _ _ E t1 λvs s2 t2 k2 r2=>?_)
 refine Af r2.one λv zz1 rv=>?_;obtain rfl:=zz1
 obtain⟨tv,rfl⟩:=rv.int_inv
 refine call_range_1 ?_
 have k3:kY s2 {s2 with heap:=s2.heap.push {cls:=.type "range",data:=.fields #[.int 0 s2.toks,.int b tv,.int 1 (s2.toks+1)]},toks:=s2.toks+1+1}:=AT _ _ rfl λ_ _ e=>jF _ e
 exact Fa N hh hs (t2.of_keeps k3) (Keeps.tr (Keeps.tr k1 k2) k3) (vh ..) q
theorem I5(N:Nm Γ)(hh:Γ.A.handled=none){f x y:kH}{a b:Int}(hf:Ev Γ σ f (.raw (.type "range")))(h1:Ev Γ σ x (.py (.int a)))(h2:Ev Γ σ y (.py (.int b)))(hs:mz a b 1=true)(hp:autoParam ([x,y].all AE=true) aR)
 (he:autoParam (eval (.Call f [x,y] [] pos) Γ.env=(do kX pos (<-eval f Γ.env) [] (backTo pos (starEach [x,y] Γ.env)) (l8 pos (lu [] Γ.env)))) aR):RO Γ σ tgt (.Call f [x,y] [] pos) (AN a b 1):=by
 intro O s Q E t q
 refine qQ (hf O s _ E t λv s1 t1 k1 r1=>?_) he
 obtain rfl:v=.type "range":=r1
 have hp':AE x=true/\AE y=true:=by simpa using hp
 refine Bz hp (Ab h1 (Ab h2 Ah hp'.2) hp'.1 O s1 _ _ E t1 λvs s2 t2 k2 r2=>?_)
 refine BD r2.two λv u zz1 rv ru=>?_;obtain rfl:=zz1
 obtain⟨tv,rfl⟩:=rv.int_inv
 obtain⟨tu,rfl⟩:=ru.int_inv
 refine call_range_2 ?_
 have k3:kY s2 {s2 with heap:=s2.heap.push {cls:=.type "range",data:=.fields #[.int a tv,.int b tu,.int 1 s2.toks]},toks:=s2.toks+1}:=AT _ _ rfl λ_ _ e=>jF _ e
 exact Fa N hh hs (t2.of_keeps k3) (Keeps.tr (Keeps.tr k1 k2) k3) (vh ..) q
theorem F9(N:Nm Γ)(hh:Γ.A.handled=none){f x y z:kH}{a b c:Int}(hf:Ev Γ σ f (.raw (.type "range")))(h1:Ev Γ σ x (.py (.int a)))(h2:Ev Γ σ y (.py (.int b)))(h3:Ev Γ σ z (.py (.int c)))(hs:mz a b c=true)(hc:c≠0)(hc':c.natAbs<2^200)(hp:autoParam ([x,y,z].all AE=true) aR)
 (he:autoParam (eval (.Call f [x,y,z] [] pos) Γ.env=(do kX pos (<-eval f Γ.env) [] (backTo pos (starEach [x,y,z] Γ.env)) (l8 pos (lu [] Γ.env)))) aR):RO Γ σ tgt (.Call f [x,y,z] [] pos) (AN a b c):=by
 intro O s Q E t q
 refine qQ (hf O s _ E t λv s1 t1 k1 r1=>?_) he
 obtain rfl:v=.type "range":=r1
 have hp':AE x=true/\AE y=true/\AE z=true:=by simpa using hp
 refine Bz hp (Ab h1 (Ab h2 (Ab h3 Ah hp'.2.2) hp'.2.1) hp'.1 O s1 _ _ E t1 λvs s2 t2 k2 r2=>?_)
 refine Cf r2.three λv u x zz1 rv ru rx=>?_;obtain rfl:=zz1
 obtain⟨tv,rfl⟩:=rv.int_inv
 obtain⟨tu,rfl⟩:=ru.int_inv
 obtain⟨tx,rfl⟩:=rx.int_inv
 refine call_range_3 hc ?_ (.inl (uy (by
  have h0:c.natAbs≠0:=by lia
  have:=(v7 h0).mpr hc'
  rwa[this])))
 have k3:kY s2 {s2 with heap:=s2.heap.push {cls:=.type "range",data:=.fields #[.int a tv,.int b tu,.int c tx]},toks:=s2.toks}:=AT _ _ rfl λ_ _ e=>jF _ e
 exact Fa N hh hs (t2.of_keeps k3) (Keeps.tr (Keeps.tr k1 k2) k3) (vh ..) q
end
section
set_option tactic.hygienic true
open Sem (wp)
open Builtin
section
variable {prog:lD} {w:jW} {A:kA} {E:jB->jE->Prop} {s:jE}
theorem GB{it l:jL}{i:Nat}{items}{x:jB}{Q:jB->jE->Prop}(hit:s.heap.IsTupleIter it l i)
 (hl:s.heap.IsTuple l items)(hx:items[i]?=some x)
 (hQ:∀h',h'.IsTupleIter it l (i+1)->oo it s.heap h'->Q x {s with heap:=h'}) :
 wpAny (model prog w) A (oa (.ref it)) Q E s:=by
 refine Bu (id hit) λo ho hc hd=>?_
 refine Bu hl λol hol _ zr0=>AR zr0 λnl hdl=>?_
 unfold oa
 refine jA (mZ (name:=jz "__next__") hit.typeIs F.slot_tuple_iterator_next
  (lH F.slot_tuple_iterator_next hit.typeIs F.entry_tuple_iterator_next ?_ (F.args_tuple_iterator_next_1 _)))
 show wpAny _ _ (field (.ref it) 0>>=_) _ _ s
 refine jA (nQ ho hd (x:=.ref l) rfl ?_)
 show wpAny _ _ (if(kx l == jD)=true then _ else _) _ _ s
 rw[if_neg (show ¬((kx l == jD)=true) from lg)]
 show wpAny _ _ (field (.ref it) 1>>=_) _ _ s
 refine jA (nQ ho hd (x:=.int i 0) rfl ?_)
 show wpAny _ _ (rU (.ref l)>>=_) _ _ s
 refine jA (mX hol hdl ?_)
 simp only[kr,hx]
 refine jA (sT ho hd (by simp) (jJ (Ac x rfl (jJ (hQ _ ?_ (ma ..))))))
 exact Ba _ (mM _ ho (vP (qN hd _))) ((wI ..).trans hc) (by
  rw[qN hd];simp[rawInt])
theorem Hd{it l:jL}{i:Nat}{items}{Q:jB->jE->Prop}(hh:A.handled=none)
 (hit:s.heap.IsTupleIter it l i)(hl:s.heap.IsTuple l items)(hx:items[i]?=none)
 (hE:∀h' e,tZ it s.heap h'->(∃o,h'.get? e=some o/\o.cls=.type "StopIteration")->E (.ref e) {s with heap:=h'}) :
 wpAny (model prog w) A (oa (.ref it)) Q E s:=by
 delta prog w A E s it l i items Q at hh hit hl hx hE
 refine Bu (id hit) λo ho hc hd=>?_
 refine Bu hl λol hol _ zr0=>AR zr0 λnl hdl=>?_
 unfold oa
 refine jA (mZ (name:=jz "__next__") hit.typeIs F.slot_tuple_iterator_next
  (lH F.slot_tuple_iterator_next hit.typeIs F.entry_tuple_iterator_next ?_ (F.args_tuple_iterator_next_1 _)))
 show wpAny _ _ (field (.ref it) 0>>=_) _ _ s
 refine jA (nQ ho hd (x:=.ref l) rfl ?_)
 show wpAny _ _ (if(kx l == jD)=true then _ else _) _ _ s
 rw[if_neg (show ¬((kx l == jD)=true) from lg)]
 show wpAny _ _ (field (.ref it) 1>>=_) _ _ s
 refine jA (nQ ho hd (x:=.int i 0) rfl ?_)
 show wpAny _ _ (rU (.ref l)>>=_) _ _ s
 refine jA (mX hol hdl ?_)
 simp only[kr,hx]
 refine jA (so (jA (sT ho hd (by simp) ?_)))
 show wpAny _ _ (newExc (.type "StopIteration") []>>=_) _ _ _
 refine jA ?_
 simp only[newExc,newTuple]
 refine jA (oW ?_ (by size_fits))
 refine jA (m:=sU _ _) (ly (a:=jD) (by first|rfl|(simp only[sU];rfl)) ?_)
 refine oW ?_ (by size_fits)
 unfold raiseNew
 refine jA (wpAny_handled ?_)
 first|rw[show A.in1.handled=none from hh]|rw[hh]
 refine jA (jJ (wpAny_throw ?_))
 exact hE _ _ (((ma ..).extBut.push _).push _) (Ac _ (jQ _ rfl) rfl)
end
theorem Rv{prog:lD}{w:jW}{A:kA}(hh:A.handled=none)(it l:jL)(hne:l≠it)(items:Array jB) :
 Draws prog w A it [it,l] items.size (λi v=>items[i]?=some v) (λi h=>h.IsTupleIter it l i/\h.IsTuple l items) where
 live:=λ_ _ st=>Af st.1 λo ho _=>(Ag o ho)
 frame:=λ_ _ _ st hk=>⟨st.1.at λo e=>hk it (by simp) o e,st.2.at λo e=>hk l (by simp) o e⟩
 item:=λi s Q E hi st hQ=>by
  refine GB st.1 st.2 (x:=items[i]) (by simp[hi]) λh' hit' hs'=>?_
  exact hQ _ h' s.toks (by simp[hi]) ⟨hit',st.2.extBut hs'.extBut hne⟩ hs'
 done:=λs Q E st hE=>Hd hh st.1 st.2 (by simp) hE
theorem gz{M:tM}{A:kA}{E:jB->jE->Prop}{s:jE}{f:List (Code×mf)->Bool}{Q:Bool->jE->Prop}(h:∀b,Q b s):wpAny M A stack (λst s=>wpAny M A (pure (f st)) Q E s) E s:=wpAny_stack_any λ_=>jJ (h _)
theorem E3(l:jL)(items:Array jB)(n:Nat)(dct:Option jL)(sl:Array (Option jB)) :
 Meets (km.«enumerate.__new__» ⟨[.type "enumerate",.ref l],[]⟩) (λ_ R s=>s.heap.get? l=some {cls:=.type "tuple",dict:=dct,data:=.seq items n,slots:=sl}/\
  R (.ok (.ret (.ref (s.heap.push {cls:=.type "tuple_iterator",data:=.fields #[.ref l,.int 0 0]}).objs.size)))
   {s with heap:=(s.heap.push {cls:=.type "tuple_iterator",data:=.fields #[.ref l,.int 0 0]}).push {cls:=.type "enumerate",data:=.fields #[.none,.bool false,.ref s.heap.objs.size,rawInt 0,.none,.none]}}):=
 .of_wp λprog w A R s h=>by
  obtain⟨hp,g,d,tk,os⟩:=s;refine Cg h λhl h=>?_
  have hsub:=sub_enumerate
  have hL:Heap.IsTuple (Shared.heap ⟨hp,g,d,tk,os⟩) l items:=⟨_,hl,rfl,n,rfl⟩
  wp_walk using oI hl
  refine gz λb=>?_
  cases b
  ·wp_walk using oI hl,tS hL
   exact Ac _ rfl h
  ·wp_walk using oI hl,tS hL
   exact Ac _ rfl h
theorem Fd{prog:lD}{w:jW}{A:kA}{E:jB->jE->Prop}{s:jE}{l:jL}{items:Array jB}{Q:jB->jE->Prop}(hL:s.heap.IsTuple l items)
 (h:∀h',IsEnum h' (s.heap.objs.size+1) s.heap.objs.size 0 .none->h'.IsTupleIter s.heap.objs.size l 0->h'.objs.size=s.heap.objs.size+2->
  (∀b o,s.heap.get? b=some o->h'.get? b=some o)->Q (.ref (s.heap.objs.size+1)) {s with heap:=h'}) :
 wpAny (model prog w) A (call (.type "enumerate") [.ref l]) Q E s:=by
 obtain⟨⟨c,dct,dt,sl⟩,hl,hc,n,hd⟩:=hL
 replace hc:c=.type "tuple":=hc
 replace hd:dt=.seq items n:=hd
 subst hc hd
 refine callType_new F.called_enumerate (by decide) (F.typeCall_enumerate_1 _) (F.newCall_enumerate_1 _) (λobj=>F.args_object_init_2 obj _) F.entry_enumerate_new
  (E3 l items n dct sl) ⟨hl,?_⟩
 have hz:(s.heap.push {cls:=.type "tuple_iterator",data:=.fields #[.ref l,.int 0 0]}).objs.size=s.heap.objs.size+1:=mR ..
 show _/\_
 rw[hz]
 have he:IsEnum ((s.heap.push {cls:=.type "tuple_iterator",data:=.fields #[.ref l,.int 0 0]}).push
  {cls:=.type "enumerate",data:=.fields #[.none,.bool false,.ref s.heap.objs.size,rawInt 0,.none,.none]}) (s.heap.objs.size+1) s.heap.objs.size 0 .none:=by
  have:=jQ (s.heap.push {cls:=.type "tuple_iterator",data:=.fields #[.ref l,.int 0 0]})
   (o:={cls:=.type "enumerate",data:=.fields #[.none,.bool false,.ref s.heap.objs.size,rawInt 0,.none,.none]}) rfl
  rw[hz] at this;exact this
 refine⟨(Ac _ he rfl),h _ he (Ba _ (jF _ (jQ _ rfl)) rfl rfl) (by rw[mR,hz]) λb o x=>jF _ (jF _ x)⟩
section
variable {Γ:Cx} {σ:AX} {pos:mf} {e:kH}
noncomputable def Ce (ds:List jO):List jO:=ds.mapIdx λi d=>.tuple [.int i,d]
theorem Eu{ds:List jO}{i:Nat}{d:jO}(h:(Ce ds)[i]?=some d):∃d',ds[i]?=some d'/\d=.tuple [.int i,d']:=by
 simp only[Ce,oU] at h
 cases q:ds[i]? with
 | none=>rw[q] at h;exact B6 h
 | some d'=>rw[q] at h;exact⟨d',rfl,by simpa using h.symm⟩
theorem QX{h:jY}{T:jL}{i:Int}{t:ut}{x:jB}{d:jO}{bs:List jL}(hT:h.IsTuple T #[.int i t,x])(r:Ak h x d bs):Ak h (.ref T) (.tuple [.int i,d]) bs:=by
 refine Bu hT λo e c zr0=>AR zr0 λn dd=>?_
 have:=Ak.tuple e c dd (.cons (.int i t) (.cons r .nil))
 simpa using this
theorem Gb(N:Nm Γ){O:Ap}{s s1 s2:jE}{elts:List kH}{k:Nat}{p:mf}{it:jL}{fp:List jL}{n:Nat}{P:Nat->jB->Prop}{T:Nat->jY->Prop}{Q:jB->jE->Prop}{E:jB->jE->Prop}{ds es:List jO}{vs:List jB}{as:List jL}
 (D:Draws Γ.prog Γ.w Γ.A.in1 it fp n P T)(t1:St Γ O σ s1)(k1:kY s s1)(k2:kY s1 s2)(hz:s1.heap.objs.size<=it)(hei:it≠it+1)(hef:it+1∉fp)(hif:it∈fp)(hn:n=ds.length)
 (he:IsEnum s2.heap (it+1) it 0 .none)(hT:T 0 s2.heap)(hfp:∀b∈fp,Do Γ O s2.heap b)(hrec:∀i h,T i h->∃o fs,h.get? it=some o/\o.data=.fields fs)
 (rs:Ae s2.heap vs es as)(qs:∀b∈as,¬O.has b)(rd:∀i v h d,ds[i]?=some d->P i v->Ae h vs es as->∃bs,Ak h v d bs/\∀b∈bs,b∈as)
 (q:∀I fp wr R Md T (s':jE) (vs:List jB) (es:List jO) (as:List jL),kY s s'->ww Γ.prog Γ.w Γ.A (.Tuple elts k p) I fp wr (Ce ds).length R Md T->T 0 s'.heap->St Γ O σ s'->(∀i (s:jE) (Q:jB->jE->Prop) (E:jB->jE->Prop),T i s.heap->Q (.ref I) s->wpAny (model Γ.prog Γ.w) Γ.A (pyIter (.ref I)) Q E s)->(∀b∈fp,Do Γ O s'.heap b)->(∀b∈wr,s.heap.get? b=none)->
  (∀i h,T i h->∀b∈wr,∃o fs,h.get? b=some o/\o.data=.fields fs)->
  Ae s'.heap vs es as->(∀b∈as,¬O.has b)->
  (∀i v h d,(Ce ds)[i]?=some d->R i v h->Ae h vs es as->∃bs,Ak h v d bs/\∀b∈bs,b∈as)->
  Q (.ref I) s'):wpAny (model Γ.prog Γ.w) Γ.A (pyIter (.ref (it+1))) Q E s2:=by
 refine wpAny_pyIter_enum he ?_
 have W0:=(WalksT.enumerateD D (it+1) (ll hei) hef hif).toU
 have W:=KTurns.ofWalksU (elts:=elts) (k:=k) (pos:=p) W0
 have hlen:(Ce ds).length=ds.length:=by simp[Ce]
 rw[hn,<-hlen] at W
 refine q _ _ _ _ _ _ _ vs es as (Keeps.tr k1 k2) W ⟨(Ag _ he),hT⟩ (t1.of_keeps k2) W0.self (λb hb=>?_) (λb hb=>?_) ?_ rs qs ?_
 ·rcases jG.mp hb with rfl|hb
  ·exact E6 N t1 (pJ hz) (Ag _ he)
  ·exact hfp b hb
 ·rcases jG.mp hb with rfl|hb
  ·exact AW k1 (pJ hz)
  ·rw[jH.mp hb];exact AW k1 hz
 ·rintro i h ⟨⟨old,he⟩,hT⟩ b hb
  rcases jG.mp hb with rfl|hb
  ·exact AT _ _ he rfl
  ·rw[jH.mp hb];exact hrec i h hT
 ·intro i v h d hd zz1 r;refine BD zz1 λT' vals zz2 zz3 hT'=>?_;clear zz1;obtain rfl:=zz2;obtain⟨t,x,hP,rfl⟩:=zz3
  refine Af (Eu hd) λd' hd' zz1=>?_;obtain rfl:=zz1
  refine Af (rd i x h d' hd' hP r) λbs r1 q1=>?_
  exact Ac bs (QX hT' r1) q1
variable {elts:List kH} {k:Nat} {p:mf}
theorem Vc(N:Nm Γ)(hh:Γ.A.handled=none){f x:kH}{ds:List jO}(hf:Ev Γ σ f (.raw (.type "enumerate")))(h1:Ev Γ σ x (.py (.list ds)))(hp:autoParam ([x].all AE=true) aR)
 (he:autoParam (eval (.Call f [x] [] pos) Γ.env=(do kX pos (<-eval f Γ.env) [] (backTo pos (starEach [x] Γ.env)) (l8 pos (lu [] Γ.env)))) aR):RO Γ σ (.Tuple elts k p) (.Call f [x] [] pos) (Ce ds):=by
 intro O s Q E t q
 refine qQ (hf O s _ E t λv s1 t1 k1 r1=>?_) he
 obtain rfl:v=.type "enumerate":=r1
 refine Bz hp (Ab h1 Ah (by simpa using hp) O s1 _ _ E t1 λvs s2 t2 k2 r2=>?_)
 refine Af r2.one λv zz1 rv=>?_;obtain rfl:=zz1
 refine HZ rv.list_inv λa vs as zz1 hl rs ha qs=>?_;obtain rfl:=zz1
 refine call_enumerate_list hl λh' hE hI hsz hk=>?_
 have hlt:a<s2.heap.objs.size:=by refine Af hl λo e _=>?_;exact kq e
 have k3:kY s2 {s2 with heap:=h'}:=AT h' s2.toks rfl hk
 have hl':h'.IsList a vs:=IsList.kept hl hk
 refine Gb N (Draws.list (A:=Γ.A.in1) hh s2.heap.objs.size a (lw hlt) vs) t2 (Keeps.tr k1 k2) k3 (jN _) (lw (mi _)) ?_ (.head _) (by rw[<-Al rs];simp) hE ⟨hI,hl'⟩ (λb hb=>?_) ?_ (Ae.keeps hk rs) qs ?_ q
 ·intro hm
  rcases jG.mp hm with e|hm
  ·exact absurd e (rh _)
  ·have:=jH.mp hm;exact absurd hlt (by rw[<-this];exact pq.mpr (qX _))
 ·rcases jG.mp hb with rfl|hb
  ·exact E6 N t2 (jN _) (Af hI λo e _=>(Ag o e))
  ·obtain rfl:=jH.mp hb
   exact T7 N (t2.of_keeps k3) hl' ha
 ·rintro i h ⟨⟨o,e,c,d⟩,_⟩
  exact AT o _ e d
 ·intro i v h d hd hv r
  refine BD (B4 r hd) λv' bs e1 r1 q1=>?_
  have hv:vs[i]?=some v:=hv
  have:vs.toList[i]?=some v:=by simpa using hv
  (replace e1:=CQ this e1;subst e1)
  exact Ac bs r1 q1
theorem Vb(N:Nm Γ)(hh:Γ.A.handled=none){f x:kH}{ds:List jO}(hf:Ev Γ σ f (.raw (.type "enumerate")))(h1:Ev Γ σ x (.py (.tuple ds)))(hp:autoParam ([x].all AE=true) aR)
 (he:autoParam (eval (.Call f [x] [] pos) Γ.env=(do kX pos (<-eval f Γ.env) [] (backTo pos (starEach [x] Γ.env)) (l8 pos (lu [] Γ.env)))) aR):RO Γ σ (.Tuple elts k p) (.Call f [x] [] pos) (Ce ds):=by
 intro O s Q E t q
 refine qQ (hf O s _ E t λv s1 t1 k1 r1=>?_) he
 obtain rfl:v=.type "enumerate":=r1
 refine Bz hp (Ab h1 Ah (by simpa using hp) O s1 _ _ E t1 λvs s2 t2 k2 r2=>?_)
 refine Af r2.one λv zz1 rv=>?_;obtain rfl:=zz1
 refine Cf rv.tuple_inv λa vs as zz1 hl rs qs=>?_;obtain rfl:=zz1
 refine Fd hl λh' hE hI hsz hk=>?_
 have hlt:a<s2.heap.objs.size:=by refine Af hl λo e _=>?_;exact kq e
 have k3:kY s2 {s2 with heap:=h'}:=AT h' s2.toks rfl hk
 have hl':h'.IsTuple a vs:=Af hl λo e r=>(Ac o (hk _ _ e) r)
 refine Gb N (Rv (A:=Γ.A.in1) hh s2.heap.objs.size a (lw hlt) vs) t2 (Keeps.tr k1 k2) k3 (jN _) (lw (mi _)) ?_ (.head _) (by rw[<-Al rs];simp) hE ⟨hI,hl'⟩ (λb hb=>?_) ?_ (Ae.keeps hk rs) qs ?_ q
 ·intro hm
  rcases jG.mp hm with e|hm
  ·exact absurd e (rh _)
  ·have:=jH.mp hm;exact absurd hlt (by rw[<-this];exact pq.mpr (qX _))
 ·rcases jG.mp hb with rfl|hb
  ·exact E6 N t2 (jN _) (Af hI λo e _=>(Ag o e))
  ·obtain rfl:=jH.mp hb
   refine Bu hl' λo e c zr0=>AR zr0 λn d=>?_
   exact .inl ⟨o,e,c,_,n,d⟩
 ·rintro i h ⟨⟨o,e,c,d⟩,_⟩
  exact AT o _ e d
 ·intro i v h d hd hv r
  refine BD (B4 r hd) λv' bs e1 r1 q1=>?_
  have hv:vs[i]?=some v:=hv
  have:vs.toList[i]?=some v:=by simpa using hv
  (replace e1:=CQ this e1;subst e1)
  exact Ac bs r1 q1
noncomputable def Dv (x:jX):List jO:=x.cps.toList.map λc=>.str ⟨#[c]⟩
theorem Kx(N:Nm Γ)(hh:Γ.A.handled=none){f x:kH}{u:jX}(hf:Ev Γ σ f (.raw (.type "enumerate")))(h1:Ev Γ σ x (.py (.str u)))(hp:autoParam ([x].all AE=true) aR)
 (he:autoParam (eval (.Call f [x] [] pos) Γ.env=(do kX pos (<-eval f Γ.env) [] (backTo pos (starEach [x] Γ.env)) (l8 pos (lu [] Γ.env)))) aR):RO Γ σ (.Tuple elts k p) (.Call f [x] [] pos) (Ce (Dv u)):=by
 intro O s Q E t q
 refine qQ (hf O s _ E t λv s1 t1 k1 r1=>?_) he
 obtain rfl:v=.type "enumerate":=r1
 refine Bz hp (Ab h1 Ah (by simpa using hp) O s1 _ _ E t1 λvs s2 t2 k2 r2=>?_)
 refine Af r2.one λv zz1 rv=>?_;obtain rfl:=zz1
 obtain⟨tv,rfl⟩:=rv.str_inv
 refine call_enumerate_str λh' hE hI hsz hk=>?_
 have k3:kY s2 {s2 with heap:=h'}:=AT h' s2.toks rfl hk
 have hD:Draws Γ.prog Γ.w Γ.A.in1 s2.heap.objs.size [s2.heap.objs.size] u.cps.size (λi v=>∃c t,u.cps[i]?=some c/\v=.str ⟨#[c]⟩ t) (λi h=>h.IsStrIter s2.heap.objs.size (strIterType u) u tv i):=by
  unfold strIterType
  split
  ·exact Draws.strAscii (A:=Γ.A.in1) hh _ _ _
  ·exact Draws.strWide (A:=Γ.A.in1) hh _ _ _
 refine Gb N hD t2 (Keeps.tr k1 k2) k3 (jN _) (lw (mi _)) ?_ (.head _) (by simp[Dv]) hE hI (λb hb=>?_) ?_ .nil (λ_ h=>nomatch h) ?_ q
 ·intro hm
  exact absurd (jH.mp hm) (rh _)
 ·obtain rfl:=jH.mp hb
  exact E6 N t2 (jN _) (Af hI λo e _=>(Ag o e))
 ·intro i h zz1;refine Bu zz1 λo e c d=>?_
  exact AT o _ e d
 ·intro i v h d hd zz1 r;refine Ao zz1 λc t hc zz2=>?_;clear zz1;obtain rfl:=zz2
  obtain rfl:d=.str ⟨#[c]⟩:=by
   simp only[Dv,j8,oH,hc] at hd
   simpa using hd.symm
  exact Ac [] (.str _ _) λ_ h=>nomatch h
end
end
noncomputable def Le (σ0 σ1:AX):Prop:=∀(i:Nat) (b:Bd),σ0[i]?=some (some b)->σ1[i]?=some (some b)
theorem St.le{Γ:Cx}{O:Ap}{σ0 σ1:AX}{s:jE}(h:Le σ0 σ1)(t:St Γ O σ1 s):St Γ O σ0 s:=by
 delta Γ O σ0 σ1 s at h t
 obtain⟨kp,⟨m,n,vs⟩,cl,nd,lv,sb,fr,fs⟩:=t
 exact⟨kp,(Ac m n λi x b e e'=>vs i x b e (h i b e')),cl,nd,lv,sb,fr,fs⟩
section
variable {Γ:Cx} {σ:AX} {pos:mf} {P:AF->AX->Prop}
theorem Ef{test:kH}{body orelse:List l9}(Inv:Nat->AX->Prop){n:Nat}(h0:Inv n σ)
 (step:∀n σ1,Inv n σ1->∃b,Tv Γ σ1 test b/\(b=true->Ex Γ σ1 body (λaf σ3=>match af with | .next=>∃k,k<n/\Inv k σ3 | .cont=>∃k,k<n/\Inv k σ3 | .brk=>P .next σ3 | .ret a=>P (.ret a) σ3))/\(b=false->Ex Γ σ1 orelse P)):X1 Γ σ (.While test body orelse pos) P:=by
 intro O s Q E t q
 delta Γ σ pos P test body orelse Inv n O s Q E at h0 step t q
 refine wpAny_While (codeAny_whileLoop (λn s'=>∃O1 σ1,St Γ O1 σ1 s'/\Inv n σ1/\Fx Γ O s O1 s') ?_ n (FQ O σ t h0 (Fx.re Γ O s)))
 intro n s' zz1;refine BD zz1 λO1 σ1 t1 hI f1=>?_
 refine Bu (step n σ1 hI) λb hb h1 h2=>?_
 refine hb O1 s' _ _ t1 λs2 t2 k2=>?_
 have f2:=f1.tr (Fx.of_keeps k2)
 cases b with
 | true=>
  rw[if_pos rfl]
  refine h1 rfl O1 s2 _ _ t2 λO3 fl af σ3 s3 f3 t3 hfl hP=>?_
  cases af with
  | next=>obtain rfl:fl=.next:=hfl;refine Af hP λk hk hi=>?_;exact⟨k,hk,O3,σ3,t3,hi,f2.tr f3⟩
  | cont=>obtain rfl:fl=.cont:=hfl;refine Af hP λk hk hi=>?_;exact⟨k,hk,O3,σ3,t3,hi,f2.tr f3⟩
  | brk=>obtain rfl:fl=.brk:=hfl;exact q O3 .next .next σ3 s3 (f2.tr f3) t3 rfl hP
  | ret a=>refine Af hfl λv zz1 r=>?_;clear hfl;obtain rfl:=zz1;exact q O3 _ (.ret a) σ3 s3 (f2.tr f3) t3 (Ac v rfl r) hP
 | false=>
  rw[if_neg lg]
  exact h2 rfl O1 s2 _ _ t2 λO3 fl af σ3 s3 f3 t3 hfl hP=>q O3 fl af σ3 s3 (f2.tr f3) t3 hfl hP
theorem L3(N:Nm Γ){tgt iter:kH}{body orelse:List l9}{ds:List jO}(hI:RO Γ σ tgt iter ds)(Inv:Nat->AX->Prop)(h0:Inv 0 σ)
 (step:∀i d,ds[i]?=some d->∀R:AF->AX->Prop,(∀af σ3,(match af with | .next=>Inv (i+1) σ3 | .cont=>Inv (i+1) σ3 | .brk=>P .next σ3 | .ret a=>P (.ret a) σ3)->R af σ3)->∀σ1,Inv i σ1->∃σ2,As Γ σ1 tgt d σ2/\Ex Γ σ2 body R)
 (hend:∀σ1,Inv ds.length σ1->Ex Γ σ1 orelse P)
 (hs:autoParam (∀x,foldedSetIterable iter Γ.env x=pure x) aI):X1 Γ σ (.For tgt iter body orelse pos) P:=
 EO N hI Inv h0 (λi d σ1 hd h=>step i d hd _ (λ_ _ h=>h) σ1 h) hend hs
theorem VD{test:kH}{body orelse:List l9}(Inv:Nat->AX->Prop){n:Nat}(h0:Inv n σ)
 (step:∀n,∀R R':AF->AX->Prop,(∀af σ3,(match af with | .next=>∃k,k<n/\Inv k σ3 | .cont=>∃k,k<n/\Inv k σ3 | .brk=>P .next σ3 | .ret a=>P (.ret a) σ3)->R af σ3)->(∀af σ3,P af σ3->R' af σ3)->
  ∀σ1,Inv n σ1->∃b,Tv Γ σ1 test b/\(b=true->Ex Γ σ1 body R)/\(b=false->Ex Γ σ1 orelse R')):X1 Γ σ (.While test body orelse pos) P:=
 Ef Inv h0 λn σ1 h=>step n _ _ (λ_ _ h=>h) (λ_ _ h=>h) σ1 h
theorem Iu{O:Ap}{s:jE}{h':jY}{tk:Nat}{a:jL}{y:jX}(N:Nm Γ)(t:St Γ O σ s)(ha:(y,a)∈O)(hy:y∉Γ.ns)(haL:a≠Γ.env.locals)(hac:∀x,(x,a)∉Γ.env.cells)(h0:Γ.s₀.heap.get? a=none)
 (hT:∀o,s.heap.get? a=some o->¬(o.cls=.type "tuple"/\∃vs n,o.data=.seq vs n))(k:∀b o,b≠a->s.heap.get? b=some o->h'.get? b=some o)(hl:∃o,h'.get? a=some o):St Γ O σ {s with heap:=h',toks:=tk}:=by
 delta Γ σ O s h' tk a y at N t ha hy haL hac h0 hT k hl
 obtain⟨kp,⟨m,n,vs⟩,cl,nd,lv,sb,fr,fs⟩:=t
 have haO:O.has a:=Ac _ ha rfl
 have hget:∀b,b≠a->∀o,s.heap.get? b=some o->h'.get? b=some o:=λb hb o e=>k b o hb e
 have hcell:∀{x:jX} {c:jL} {u:Option jB},Γ.env.cells.lookup x=some c->s.heap.IsCell c u->h'.IsCell c u:=λ{x c u} e ⟨o,ho,d⟩=>Ac o (hget c (λz=>hac x (z▸mem_of_lookup e)) o ho) d
 refine⟨λb o e=>k b o (λz=>by rw[z,h0] at e;exact B6 e) (kp b o e),(Ac m (n.at' λo e=>hget _ (ll haL) o e) λi x b e e'=>?_),λx c e=>?_,nd,λp hp=>?_,sb,fr,fs⟩
 ·refine Af (vs i x b e e') λv hd r=>?_
  refine Ac v (hd.imp id λ⟨k1,c,hc,ic⟩=>⟨k1,c,hc,hcell hc ic⟩) ?_
  cases b with
  | val w=>exact VR.avoid (O:=O) r haO hget hT
  | own ds=>
   refine CR r λa' ws' as' e1 m1' l1' r1' q1' f1'=>?_
   have hne:a'≠a:=by
    rintro rfl
    have:=Ap.mem_inj nd m1' ha
    subst this
    exact hy (kt e)
   exact CA a' ws' as' e1 m1' (AR l1' λn e=>(Ag n (hget _ hne _ e))) (Aq hget hT r1' λhm=>q1' _ hm haO) q1' f1'
  | «at» a' P=>
   refine CU r λe1 m1' zz1 f1'=>?_;obtain⟨o,g,p,z⟩:=zz1
   have hne:a'≠a:=by
    rintro rfl
    have:=Ap.mem_inj nd m1' ha
    subst this
    exact hy (kt e)
   exact⟨e1,m1',(Ba o (hget _ hne _ g) p z),f1'⟩
 ·obtain⟨u,ic⟩:=cl x c e
  exact Ag u (hcell e ic)
 ·obtain⟨o,e⟩:=lv p hp
  by_cases hp':p.2=a
  ·rw[hp'];exact hl
  ·exact Ag o (hget _ hp' _ e)
theorem X3{O:Ap}{s:jE}{h':jY}{tk:Nat}{a:jL}{y:jX}(N:Nm Γ)(t:St Γ O σ s)(ha:(y,a)∈O)(hy:y∉Γ.ns)(hV:¬Ap.has Γ.V a)(hac:∀x,(x,a)∉Γ.env.cells)(h0:Γ.s₀.heap.get? a=none)
 (hT:∀o,s.heap.get? a=some o->¬(o.cls=.type "tuple"/\∃vs n,o.data=.seq vs n))(k:∀b o,b≠a->s.heap.get? b=some o->h'.get? b=some o):St Γ (O.filter λp=>!decide (p.2=a)) σ {s with heap:=h',toks:=tk}:=by
 delta Γ σ O s h' tk a y at N t ha hy hV hac h0 hT k
 obtain⟨kp,⟨m,n,vs⟩,cl,nd,lv,sb,fr,fs⟩:=t
 have haO:O.has a:=Ac _ ha rfl
 have hsub:∀b,Ap.has (O.filter λp=>!decide (p.2=a)) b->O.has b:=λb ⟨p,hp,e⟩=>Ac p ((j9.mp hp).1) e
 have haL:a≠Γ.env.locals:=λe=>hV (e▸fr)
 have hget:∀b,b≠a->∀o,s.heap.get? b=some o->h'.get? b=some o:=λb hb o e=>k b o hb e
 have hcell:∀{x:jX} {c:jL} {u:Option jB},Γ.env.cells.lookup x=some c->s.heap.IsCell c u->h'.IsCell c u:=λ{x c u} e ⟨o,ho,d⟩=>Ac o (hget c (λz=>hac x (z▸mem_of_lookup e)) o ho) d
 refine⟨λb o e=>k b o (λz=>by rw[z,h0] at e;exact B6 e) (kp b o e),(Ac m (n.at' λo e=>hget _ (ll haL) o e) λi x b e e'=>?_),λx c e=>?_,?_,λp hp=>?_,λb hb=>?_,fr,fs⟩
 ·refine Af (vs i x b e e') λv hd r=>?_
  refine Ac v (hd.imp id λ⟨k1,c,hc,ic⟩=>⟨k1,c,hc,hcell hc ic⟩) ?_
  cases b with
  | val w=>
   have r':=VR.avoid (O:=O) r haO hget hT
   cases w with
   | py d=>refine Af r' λbs r q=>?_;exact Ac bs r λb hb z=>q b hb (hsub b z)
   | «by» b=>exact r'
   | raw w=>exact r'
   | obj P=>refine C9 r' λa1 o e1 g p q z=>?_;exact C5 a1 o e1 g p (λh=>q (hsub a1 h)) z
   | st R ok=>refine Af r' λbs r q=>?_;exact Ac bs r λb hb z=>q b hb (hsub b z)
  | own ds=>
   refine CR r λa' ws' as' e1 m1' l1' r1' q1' f1'=>?_
   have hne:a'≠a:=by
    rintro rfl
    have:=Ap.mem_inj nd m1' ha
    subst this
    exact hy (kt e)
   exact CA a' ws' as' e1 (j9.mpr ⟨m1',by simp[hne]⟩) (AR l1' λn e=>(Ag n (hget _ hne _ e))) (Aq hget hT r1' λhm=>q1' _ hm haO) (λb hb z=>q1' b hb (hsub b z)) f1'
  | «at» a' P=>
   refine CU r λe1 m1' zz1 f1'=>?_;obtain⟨o,g,p,z⟩:=zz1
   have hne:a'≠a:=by
    rintro rfl
    have:=Ap.mem_inj nd m1' ha
    subst this
    exact hy (kt e)
   exact⟨e1,j9.mpr ⟨m1',by simp[hne]⟩,(Ba o (hget _ hne _ g) p z),f1'⟩
 ·obtain⟨u,ic⟩:=cl x c e
  exact Ag u (hcell e ic)
 ·exact p9 (pn _ pb) nd
 ·obtain⟨h1,h2⟩:=j9.mp hp
  obtain⟨o,e⟩:=lv p h1
  exact Ag o (hget _ (by simpa using h2) _ e)
 ·refine Af (sb b hb) λp hp e=>?_
  refine Ac p (j9.mpr ⟨hp,?_⟩) e
  have:p.2≠a:=by rw[e];rintro rfl;exact hV hb
  simp[this]
end
section
variable {prog:lD} {w:jW} {A:kA} {E:jB->jE->Prop} {R:sY->jE->Prop} {s:jE}
theorem Ou{elt target iter:kH}{scope:sX}{pos:mf}{it acc:jB}{env:xy}(I:Nat->jE->Prop)
 (turn:∀n s,I n s->wpAny (model prog w) A (pyNext it) (λr xJ=>match r with
  | none=>R (.ok .next) xJ
  | some v=>wpAny (model prog w) A (vd target it v) (λ_ xJ=>wpAny (model prog w) A (assign target env v) (λ_ xO=>wpAny (model prog w) A (eval elt env) (λx xR=>
   wpAny (model prog w) A (call (.builtin "list.append") [acc,x]) (λ_ xZ=>∃m,m<n/\I m xZ) (notedBy (model prog w) A env λe s'=>R (.error e) s') xR) (notedBy (model prog w) A env λe s'=>R (.error e) s') xO) (notedBy (model prog w) A env λe s'=>R (.error e) s') xJ) (notedBy (model prog w) A env λe s'=>R (.error e) s') xJ) (notedBy (model prog w) A env λe s'=>R (.error e) s') s)
 (n:Nat)(h:I n s):codeAny (model prog w) A (.compLoop (.ListComp elt [⟨target,iter,[],0⟩] scope pos) 0 it acc env) R s:=by
 delta prog w A R s elt target iter scope pos it acc env I n at turn h
 refine codeAny_loop rfl I (λn s hI=>?_) n h
 show wpAny _ A ((compTurn (.ListComp elt [⟨target,iter,[],0⟩] scope pos) 0 it acc env).onRaise (λx=>do noteFrame x env;theTreesLotGoes x)) _ _ s
 refine wpAny_noted ?_
 rw[compTurn_list]
 refine jA (rt (jA (lR (turn n s hI) (λr xJ xI=>?_) λ_ _ h'=>h')))
 cases r with
 | none=>exact jJ xI
 | some v=>
  refine jA (lR xI (λ_ yf x4=>jA (lR x4 (λ_ xH xK=>jA (wpAny_tests_nil ?_)) λ_ _ h'=>h')) λ_ _ h'=>h')
  exact jA (jA (lR xK (λx xR x5=>jA (lR x5 (λ_ xZ x6=>jJ (jJ ⟨rfl,x6⟩)) λ_ _ h'=>h')) λ_ _ h'=>h'))
end
noncomputable def bD (Γ:Cx) (X:jL->Prop) (J:jY->Prop) (O:Ap) (σ:AX) (e:kH) (av:AV):Prop:=
 ∀(s:jE) (Q:jB->jE->Prop) (E:jB->jE->Prop),St Γ O σ s->(∀b,X b->O.has b)->J s.heap->
  (∀v s',St Γ O σ s'->AI s s'->(∀b o,¬X b->s.heap.get? b=some o->s'.heap.get? b=some o)->J s'.heap->VR O s'.heap av v->Q v s')->wpAny (model Γ.prog Γ.w) Γ.A (eval e Γ.env) Q E s
noncomputable def Cx.comp (Γ:Cx) (scope:sX) (cl:List (jX×jL)) (ns:List jX) (C:jL):Cx:={Γ with env:=w8 scope cl C Γ.env,ns:=ns,V:=[("",C)]}
section
variable {Γ:Cx} {σ:AX} {pos:mf}
structure BS (Γ:Cx) (σ:AX) (scope:sX) (cl:List (jX×jL)) (ns:List jX) (σ0:AX):Prop where
 clos:vu scope Γ.env=pure cl
 cell:∀y∈scope.names,y.2≠.cell
 kind:scope.kind=.function
 names:∀y∈scope.names,y.2=.local->scope.names.lookup y.1=some .local
 nm:∀C,Nm (Γ.comp scope cl ns C)
 empty:("":jX)∉ns
 sub:∀x c,(x,c)∈cl->Γ.env.cells.lookup x=some c
 held:∀(C:jL) (i:Nat) (x:jX) (b:Bd),ns[i]?=some x->σ0[i]?=some (some b)->∃(j:Nat) (av:AV) (c:jL),b=.val av/\Γ.ns[j]?=some x/\σ[j]?=some (some (.val av))/\Γ.env.kindOf x=some .cell/\Γ.env.cells.lookup x=some c/\cl.lookup x=some c/\(w8 scope cl C Γ.env).kindOf x=some .cell
theorem H7{elt tgt iter:kH}{scope:sX}{cl:List (jX×jL)}{ns:List jX}{σ0:AX}{pos:mf}{ds rs:List jO}{O:Ap}{s xH:jE}{E:jB->jE->Prop}{RR:jB->jL->sY->jE->Prop}(X':jL->Prop)(J:jL->jL->jY->Prop)
 {I:jL}{fp wr:List jL}{Rr Md:Nat->jB->jY->Prop}{T:Nat->jY->Prop}{vs:List jB}{es:List jO}{as:List jL}
 (N:Nm Γ)(X:BS Γ σ scope cl ns σ0)(hlen:ds.length=rs.length)(hsz:rs.length<=100000)
 (body:∀C D,Γ.s₀.heap.get? C=none->Nm (Γ.comp scope cl ns C)->∀(i:Nat) (d:jO),ds[i]?=some d->∃σ1 r,rs[i]?=some r/\Le σ0 σ1/\As (Γ.comp scope cl ns C) σ0 tgt d σ1/\bD (Γ.comp scope cl ns C) X' (J C D) (("",C)::("",D)::O) σ1 elt (.py r))
 (hXO:∀b,X' b->O.has b)(hX2:∀b,X' b->∀o,xH.heap.get? b=some o->¬(o.cls=.type "tuple"/\∃vs n,o.data=.seq vs n))(hJ0:∀C D h,xH.heap.get? C=none->xH.heap.get? D=none->(∃o,h.get? C=some o)->(∃o,h.get? D=some o)->(∀b o,xH.heap.get? b=some o->h.get? b=some o)->J C D h)
 (hJ:∀C D h h',(∀b o,h.get? b=some o->b≠C->b≠D->b∉wr->h'.get? b=some o)->(∀b o,h.get? b=some o->∃o',h'.get? b=some o')->J C D h->J C D h')(hJX:∀C D h,J C D h->∀b,X' b->∀o,h.get? b=some o->¬(o.cls=.type "tuple"/\∃vs n,o.data=.seq vs n))
 (k0:kY s xH)(W:ww Γ.prog Γ.w Γ.A tgt I fp wr ds.length Rr Md T)(hT:T 0 xH.heap)(t:St Γ O σ xH)
 (self:∀i (s:jE) (Q:jB->jE->Prop) (E:jB->jE->Prop),T i s.heap->Q (.ref I) s->wpAny (model Γ.prog Γ.w) Γ.A (pyIter (.ref I)) Q E s)
 (hfp:∀b∈fp,Do Γ O xH.heap b)(hwr:∀b∈wr,s.heap.get? b=none)(hs0:∀b o,Γ.s₀.heap.get? b=some o->s.heap.get? b=some o)(hfd:∀i h,T i h->∀b∈wr,∃o fs,h.get? b=some o/\o.data=.fields fs)
 (hrs:Ae xH.heap vs es as)(has:∀b∈as,¬O.has b)
 (rd:∀(i:Nat) (v:jB) (h:jY) (d:jO),ds[i]?=some d->Rr i v h->Ae h vs es as->∃bs,Ak h v d bs/\∀b∈bs,b∈as)
 (hRR:∀D C (s':jE) ys bs,AI xH s'->(∀b o,b∉wr->¬X' b->xH.heap.get? b=some o->s'.heap.get? b=some o)->(∃h0,J C D h0/\∀b o,b∉wr->h0.get? b=some o->s'.heap.get? b=some o)->(∀b∈wr,∃o,xH.heap.get? b=some o)->xH.heap.get? D=none->xH.heap.get? C=none->D≠C->(∃m,s'.heap.Ns C m)->s'.heap.PlainList D ys->Ae s'.heap ys.toList rs bs->
  (∀b∈bs,¬O.has b/\b≠C/\b≠D)->RR (.ref D) C (.ok .next) s') :
 wpAny (model Γ.prog Γ.w) Γ.A (newList []) (λacc xO=>wpAny (model Γ.prog Γ.w) Γ.A (newFunctionEnv scope Γ.env.globals cl [] Γ.env.qual none .none (some Γ.env)) (λcenv xR=>
  codeAny (model Γ.prog Γ.w) Γ.A (.compStart (.ListComp elt [⟨tgt,iter,[],0⟩] scope pos) 0 (.ref I) acc {cenv with scope:=relabel scope Γ.env}) (RR acc cenv.locals) xR) E xO) E xH:=by
 delta Γ σ elt tgt iter scope cl ns σ0 pos ds rs O s xH E RR X' J I fp wr Rr Md T vs es as at N X hlen hsz body hXO hX2 hJ0 hJ hJX k0 W hT t self hfp hwr hs0 hfd hrs has rd hRR
 refine oW (wpAny_newFunctionEnv X.cell (by intro y hy;simp at hy) (λxI xS xU=>?_) X.kind)
 dsimp only at xS xU ⊢
 generalize hH2:xH.heap.push {cls:=.type "list",dict:=none,data:=.seq ([]:List jB).toArray}=H2 at xS xU ⊢
 have hC:H2.objs.size=xH.heap.objs.size+1:=by rw[<-hH2,mR]
 generalize hCn:H2.objs.size=C at xS xU hC ⊢
 have hDC:xH.heap.objs.size≠C:=by rw[hC];exact lw (mi _)
 have below:∀b,b<xH.heap.objs.size->b≠C/\b≠xH.heap.objs.size:=λb hb=>⟨by rw[hC];exact lw (Nat.lt_succ_of_lt hb),lw hb⟩
 have old:∀b o,xH.heap.get? b=some o->xI.get? b=some o:=λb o e=>xU.extBut b o (below b (kq e)).1 (jF _ (hH2▸jF _ e))
 generalize hDn:xH.heap.objs.size=D at *
 have hacc:xI.PlainList D #[]:=Ag _ (xU.extBut _ _ hDC (jF _ (hH2▸hDn▸jQ _ rfl)))
 have freshD:xH.heap.get? D=none:=gn λo' e=>absurd (kq e) (by rw[hDn];exact lp _)
 have freshC:xH.heap.get? C=none:=gn λo' e=>absurd (kq e) (by rw[hDn,hC];exact pq.mpr (qX _))
 have hC0:Γ.s₀.heap.get? C=none:=gn λo e=>by have:=t.keep _ _ e;exact B0 freshC this
 have hD0:Γ.s₀.heap.get? D=none:=gn λo e=>by have:=t.keep _ _ e;exact B0 freshD this
 have notO:∀a,xH.heap.get? a=none->¬O.has a:=by
  rintro a ha ⟨p,hp,e⟩
  obtain⟨o,ho⟩:=t.live p hp
  rw[e,ha] at ho;exact B6 ho
 have h0':∀b∈wr,Γ.s₀.heap.get? b=none:=λb hb=>gn λo e=>by have:=hs0 _ _ e;exact B0 (hwr b hb) this
 have hfpl:∀b∈fp,∃o,xH.heap.get? b=some o:=λb hb=>by
  rcases hfp b hb with⟨o,e,_⟩|⟨_,_,o,e⟩<;>exact Ag o e
 have hfpCD:∀b∈fp,b≠C/\b≠D:=λb hb=>by
  obtain⟨o,e⟩:=hfpl b hb
  exact⟨(by rintro rfl;exact B0 freshC e),(by rintro rfl;exact B0 freshD e)⟩
 have N':=X.nm C
 have hwrO:∀b∈wr,¬Ap.has (("",C)::("",D)::O) b:=by
  rintro b hb ⟨p,hp,e⟩
  have hb':=W.sub b hb
  rcases jG.mp hp with rfl|hp
  ·exact(hfpCD b hb').1 e.symm
  ·rcases jG.mp hp with rfl|hp
   ·exact(hfpCD b hb').2 e.symm
   ·exact(hfp b hb').rec (hfd 0 _ hT b hb) (Ac p hp e)
 have avoid3:∀(bs:List jL),(∀b∈bs,∃o,xH.heap.get? b=some o)->(∀b∈bs,¬O.has b)->∀b∈bs,¬Ap.has (("",C)::("",D)::O) b:=by
  rintro bs hl hq b hb ⟨p,hp,e⟩
  obtain⟨o,ho⟩:=hl b hb
  rcases jG.mp hp with rfl|hp
  ·have e:C=b:=e
   rw[<-e,freshC] at ho;exact B6 ho
  ·rcases jG.mp hp with rfl|hp
   ·have e:D=b:=e
    rw[<-e,freshD] at ho;exact B6 ho
   ·exact hq b hb (Ac p hp e)
 have tin:∀tk,St (Γ.comp scope cl ns C) (("",C)::("",D)::O) σ0 {xH with heap:=xI,toks:=tk}:=by
  intro tk
  refine⟨λb o e=>old b o (t.keep b o e),(Ac _ xS λi x b e e'=>?_),λx c e=>?_,?_,λp hp=>?_,?_,(Ac _ (.head _) rfl),hC0⟩
  ·obtain⟨j,av,c,zz1,e1,e2,k1,c1,c2,k2⟩:=(X.held C i x b e e');obtain rfl:=zz1
   refine Af t.ex λm n hv=>?_
   refine Af (hv j x _ e1 e2) λv hd r=>?_
   rcases hd with⟨k3,_⟩|⟨k3,c',hc',ic⟩
   ·rw[k1] at k3;exact oh (si k3)
   ·(replace hc':=CQ c1 hc';subst hc')
    refine Ac v (.inr ⟨k2,c,c2,ic.keeps old⟩) ?_
    have r:VR O xH.heap av v:=r
    show VR _ xI av v
    cases av with
    | py d=>refine Af r λbs r q=>?_;exact Ac bs (Ak.keeps old r) (avoid3 bs (BA r) q)
    | «by» b=>exact r
    | raw u=>exact r
    | obj P=>refine C9 r λa1 o e1 g p q z=>?_;exact C5 a1 o e1 (old _ _ g) p (avoid3 [a1] (λb hb=>by rw[jH.mp hb];exact Ag o g) (λb hb=>by rw[jH.mp hb];exact q) a1 (.head _)) z
    | st R ok=>refine Af r λbs r q=>?_;exact Ac bs (ok.keeps r old) (avoid3 bs (ok.live r) q)
  ·obtain⟨v,ic⟩:=t.cells x c (X.sub x c (mem_of_lookup e))
   exact Ag v (ic.keeps old)
  ·rw[kM,kM,md,md]
   refine⟨λhm=>?_,λhm=>?_,t.nodup⟩
   ·rcases jG.mp hm with e|hm
    ·exact hDC e.symm
    ·obtain⟨p,hp,e⟩:=kn.mp hm
     exact notO C freshC (Ac p hp e)
   ·obtain⟨p,hp,e⟩:=kn.mp hm
    exact notO D freshD (Ac p hp e)
  ·rcases jG.mp hp with rfl|hp
   ·refine CG xS λo _ _ e _=>?_;exact Ag o e
   ·rcases jG.mp hp with rfl|hp
    ·obtain⟨n,e⟩:=hacc;exact Ag _ e
    ·obtain⟨o,e⟩:=t.live p hp;exact Ag o (old _ _ e)
  ·intro a zz1;refine Af zz1 λp hp e=>?_
   obtain rfl:=jH.mp hp
   exact Ac _ (.head _) e
 have hDcell:∀x,(x,D)∉(Γ.comp scope cl ns C).env.cells:=by
  intro x hx
  have:=X.sub x D hx
  obtain⟨v,o,ho,_⟩:=t.cells x D this
  exact B0 freshD ho
 have hDX:¬X' D:=λz=>notO D freshD (hXO D z)
 have fpX:∀b∈fp,¬X' b:=λb hb z=>by
  obtain⟨o,e⟩:=hfpl b hb
  rcases hfp b hb with⟨o',e',ht⟩|⟨h1,_⟩
  ·exact hX2 b z o' e' ht
  ·exact h1 (hXO b z)
 have loop:∀xO:jE,xO={xH with heap:=xI,toks:=xH.toks+([]:List (jX×jB)).length}->
  codeAny (model Γ.prog Γ.w) Γ.A (.compLoop (.ListComp elt [⟨tgt,iter,[],0⟩] scope pos) 0 (.ref I) (.ref D) (w8 scope cl C Γ.env)) (RR (.ref D) C) xO:=by
  rintro xO rfl
  refine Ou (λk s'=>∃i ys bs,k=ds.length+1-i/\i<=ds.length/\AI xH s'/\(∀b o,b∉wr->¬X' b->xH.heap.get? b=some o->s'.heap.get? b=some o)/\J C D s'.heap/\T i s'.heap/\Ae s'.heap vs es as/\s'.heap.PlainList D ys/\Ae s'.heap ys.toList (rs.take i) bs/\
   (∀b∈bs,¬Ap.has (("",C)::("",D)::O) b)/\St (Γ.comp scope cl ns C) (("",C)::("",D)::O) σ0 s') ?_ (ds.length+1)
   (aG 0 (#[]) [] rfl (kf _) (AS _ _ rfl) (λb o _ _ e=>old b o e) (hJ0 C D _ freshC freshD (CG xS λo _ _ e _=>(Ag o e)) (AR hacc λ_ e=>(Ag _ e)) old) (W.frame _ _ _ hT λb _ o e=>old b o e) (Ae.keeps old hrs) hacc .nil (λ_ h=>nomatch h) (tin _))
  rintro k s' ⟨i,ys,bs,rfl,hi,al,hk,hj,hT',hrs',hpl,hr,hbs,t'⟩
  by_cases hlt:i<ds.length
  ·refine W.item i _ _ _ hlt hT' λv xK xX hMd xP=>?_
   refine W.go i v _ _ _ hMd λxN hR x0 x7=>?_
   dsimp only
   have kk:∀b o,b∉wr->s'.heap.get? b=some o->xN.get? b=some o:=λb o hb e=>x7 b o hb (xP b o hb e)
   have hfd':=hfd i _ hT'
   have t3:St (Γ.comp scope cl ns C) (("",C)::("",D)::O) σ0 {s' with heap:=xN,toks:=xX}:=t'.butFields kk hfd' hwrO h0'
   have rs3:Ae xN vs es as:=Bt kk hfd' hrs'
   obtain⟨d,hd⟩:∃d,ds[i]?=some d:=Ag _ (jP hlt)
   refine Af (rd i v xN d hd hR rs3) λcs rv qv=>?_
   refine E8 (body C D hC0 N' i d hd) λσ1 r hr1 hle hAs hEv=>?_
   have hasO:=avoid3 as (Bv hrs) has
   refine hAs _ _ v _ _ t3 (Ac cs rv λb hb=>hasO b (qv b hb)) λs4 a4 u4 t4=>?_
   have j3:J C D xN:=hJ C D _ _ (λb o e _ _ h3=>kk b o h3 e) (λb o e=>by
    by_cases hb:b∈wr
    ·refine Ao (hfd _ _ x0 b hb) λo' _ e' _=>?_;exact Ag o' e'
    ·exact Ag o (kk b o hb e)) hj
   have j4:J C D s4.heap:=hJ C D xN _ (λb o e h1 _ _=>u4 b o h1 e) (λb o e=>by
    by_cases hb:b=C
    ·refine Af t4.ex λm4 zz1 _=>?_;obtain⟨o',_,_,e',_⟩:=zz1;exact Ag o' (hb▸e')
    ·exact Ag o (u4 b o hb e)) j3
   refine hEv _ _ _ t4 (λb hb=>(hXO b hb).elim λp hp=>Ac p (.tail _ (.tail _ hp.1)) hp.2) j4 λx s5 t5 a5 k5 j5 r5=>?_
   have hDw:D∉wr:=λhb=>(hfpCD D (W.sub D hb)).2 rfl
   have hCw:C∉wr:=λhb=>(hfpCD C (W.sub C hb)).1 rfl
   refine B1 a5 λh5 tk5 zz1=>?_;clear a5;obtain rfl:=zz1
   have to5:∀b o,b≠C->b∉wr->¬X' b->s'.heap.get? b=some o->h5.get? b=some o:=λb o h1 h2 h3 e=>k5 b o h3 (u4 b o h1 (kk b o h2 e))
   have to5':∀b o,b≠C->¬X' b->xN.get? b=some o->h5.get? b=some o:=λb o h1 h3 e=>k5 b o h3 (u4 b o h1 e)
   have tp5:∀b o,xN.get? b=some o->(o.cls=.type "tuple"/\∃vs n,o.data=.seq vs n)->h5.get? b=some o:=λb o e ht=>to5' b o (λz=>by
    refine Af t3.ex λm3 n3 _=>?_
    subst z
    exact A5 n3 o e ht) (λz=>hJX C D xN j3 b z o e ht) e
   have hpl5:h5.PlainList D ys:=AR hpl λn e=>(Ag n (to5 _ _ hDC hDw hDX e))
   have hysz:ys.size<=sizeLine:=by
    have:=Al hr
    have e:ys.size=(rs.take i).length:=by rw[<-this];simp
    rw[e,sizeLine_eq,lm];rwa[hlen,hsz,hlt]
   refine Af r5 λxs rx qx=>?_
   refine rT (hsz:=hysz) hpl5 λh6 hpl6 hs6=>?_
   have g6:∀b,b≠D->∀o,h5.get? b=some o->h6.get? b=some o:=AJ hs6
   have hT5:∀o,h5.get? D=some o->¬(o.cls=.type "tuple"/\∃vs n,o.data=.seq vs n):=by
    obtain⟨n,e⟩:=hpl5
    rintro o e' ⟨hc,_⟩
    (replace e':=CQ e e';subst e');exact absurd (show jV "list"=jV "tuple" from hc) (by decide)
   have hDO:Ap.has (("",C)::("",D)::O) D:=Ac _ (.tail _ (.head _)) rfl
   have hCO:Ap.has (("",C)::("",D)::O) C:=Ac _ (.head _) rfl
   have t6:St (Γ.comp scope cl ns C) (("",C)::("",D)::O) σ1 {s4 with heap:=h6,toks:=tk5}:=
    Iu N' (s:={s4 with heap:=h5,toks:=tk5}) t5 (a:=D) (y:="") (.tail _ (.head _)) X.empty hDC hDcell hD0 hT5 (λb o hb e=>g6 b hb o e) (AR hpl6 λn e=>(Ag _ e))
   refine⟨ds.length+1-(i+1),by rwa[hlen,hlt],i+1,ys.push x,bs++xs,rfl,hlt,(al.tr (AS xN xX rfl)).tr (a4.tr (AS _ _ rfl)),λb o hb hx e=>?_,hJ C D h5 _ (λb o e _ h2 _=>g6 b h2 o e) (λb o e=>by
    by_cases hb:b=D
    ·obtain⟨n,e'⟩:=hpl6;exact Ag _ (hb▸e')
    ·exact Ag o (g6 b hb o e)) j5,?_,?_,hpl6,?_,?_,St.le hle t6⟩
   ·have hb1:b≠C:=by rintro rfl;exact B0 freshC e
    have hb2:b≠D:=by rintro rfl;exact B0 freshD e
    exact g6 b hb2 o (to5 b o hb1 hb hx (hk b o hb hx e))
   ·exact W.frame _ _ _ x0 λb hb o e=>g6 b (hfpCD b hb).2 o (to5' b o (hfpCD b hb).1 (fpX b hb) e)
   ·have r5':Ae h5 vs es as:=by
     exact Dq tp5 rs3 λb hb o e=>to5' b o (λz=>hasO b hb (z▸hCO)) (λz=>has b hb (hXO b z)) e
    exact Aq g6 hT5 r5' λhm=>hasO D hm hDO
   ·have r3':Ae xN ys.toList (rs.take i) bs:=Bt kk hfd' hr
    have r5':Ae h5 ys.toList (rs.take i) bs:=by
     exact Dq tp5 r3' λb hb o e=>to5' b o (λz=>hbs b hb (z▸hCO)) (λz=>hbs b hb ((hXO b z).elim λp hp=>Ac p (.tail _ (.tail _ hp.1)) hp.2)) e
    have r6':=Aq g6 hT5 r5' λhm=>hbs D hm hDO
    have rx6:=Bo g6 hT5 rx λhm=>qx D hm hDO
    have:=DZ rx6 r6'
    rw[qR,kN,hr1]
    exact this
   ·intro b hb
    rcases jU.mp hb with hb|hb
    ·exact hbs b hb
    ·exact qx b hb
  ·have hin:i=ds.length:=by rwa[hlen,hi,hlt]
   subst hin
   refine W.done _ _ _ hT' λxK xX xP=>?_
   have hfd':=hfd _ _ hT'
   have hDw:D∉wr:=λhb=>(hfpCD D (W.sub D hb)).2 rfl
   have hCw:C∉wr:=λhb=>(hfpCD C (W.sub C hb)).1 rfl
   have r2:Ae xK ys.toList (rs.take ds.length) bs:=Bt xP hfd' hr
   rw[hlen,lz] at r2
   refine Af t'.ex λm' n' _=>?_
   refine hRR D C _ ys bs (al.tr (AS _ _ rfl)) (λb o hb hx e=>xP b o hb (hk b o hb hx e)) (Ac _ hj λb o hb e=>xP b o hb e) (λb hb=>hfpl b (W.sub b hb)) freshD freshC hDC (Ag m' (n'.at' λo e=>xP _ o hCw e)) (AR hpl λn e=>(Ag n (xP _ _ hDw e))) r2 λb hb=>⟨λEM=>Af EM λp hp e=>hbs b hb (Ac p (.tail _ (.tail _ hp)) e),?_,?_⟩
   ·rintro rfl;exact hbs _ hb (Ac _ (.head _) rfl)
   ·rintro rfl;exact hbs _ hb (Ac _ (.tail _ (.head _)) rfl)
 exact codeAny_compStart_list (loop _ rfl) (self 0 _ _ _ (W.frame _ _ _ hT λb _ o e=>old b o e) (loop _ rfl))
theorem Ji{elt tgt iter:kH}{scope:sX}{cl:List (jX×jL)}{ns:List jX}{σ0:AX}{pos:mf}{ds rs:List jO}{O:Ap}{s xH:jE}{E:jB->jE->Prop}{RR:jB->jL->sY->jE->Prop}
 {I:jL}{fp wr:List jL}{Rr Md:Nat->jB->jY->Prop}{T:Nat->jY->Prop}{vs:List jB}{es:List jO}{as:List jL}
 (N:Nm Γ)(X:BS Γ σ scope cl ns σ0)(hlen:ds.length=rs.length)(hsz:rs.length<=100000)
 (body:∀C,Γ.s₀.heap.get? C=none->Nm (Γ.comp scope cl ns C)->∀(i:Nat) (d:jO),ds[i]?=some d->∃σ1 r,rs[i]?=some r/\Le σ0 σ1/\As (Γ.comp scope cl ns C) σ0 tgt d σ1/\Ev (Γ.comp scope cl ns C) σ1 elt (.py r))
 (k0:kY s xH)(W:ww Γ.prog Γ.w Γ.A tgt I fp wr ds.length Rr Md T)(hT:T 0 xH.heap)(t:St Γ O σ xH)
 (self:∀i (s:jE) (Q:jB->jE->Prop) (E:jB->jE->Prop),T i s.heap->Q (.ref I) s->wpAny (model Γ.prog Γ.w) Γ.A (pyIter (.ref I)) Q E s)
 (hfp:∀b∈fp,Do Γ O xH.heap b)(hwr:∀b∈wr,s.heap.get? b=none)(hs0:∀b o,Γ.s₀.heap.get? b=some o->s.heap.get? b=some o)(hfd:∀i h,T i h->∀b∈wr,∃o fs,h.get? b=some o/\o.data=.fields fs)
 (hrs:Ae xH.heap vs es as)(has:∀b∈as,¬O.has b)
 (rd:∀(i:Nat) (v:jB) (h:jY) (d:jO),ds[i]?=some d->Rr i v h->Ae h vs es as->∃bs,Ak h v d bs/\∀b∈bs,b∈as)
 (hRR:∀D C (s':jE) ys bs,AI xH s'->(∀b o,b∉wr->xH.heap.get? b=some o->s'.heap.get? b=some o)->(∀b∈wr,∃o,xH.heap.get? b=some o)->xH.heap.get? D=none->xH.heap.get? C=none->D≠C->(∃m,s'.heap.Ns C m)->s'.heap.PlainList D ys->Ae s'.heap ys.toList rs bs->
  (∀b∈bs,¬O.has b/\b≠C/\b≠D)->RR (.ref D) C (.ok .next) s') :
 wpAny (model Γ.prog Γ.w) Γ.A (newList []) (λacc xO=>wpAny (model Γ.prog Γ.w) Γ.A (newFunctionEnv scope Γ.env.globals cl [] Γ.env.qual none .none (some Γ.env)) (λcenv xR=>
  codeAny (model Γ.prog Γ.w) Γ.A (.compStart (.ListComp elt [⟨tgt,iter,[],0⟩] scope pos) 0 (.ref I) acc {cenv with scope:=relabel scope Γ.env}) (RR acc cenv.locals) xR) E xO) E xH:=by
 refine H7 (λ_=>False) (λ_ _ _=>True) N X hlen hsz (λC D hC N' i d hd=>?_) (λ_ h=>h.elim) (λ_ h=>h.elim) (λ_ _ _ _ _ _ _ _=>trivial) (λ_ _ _ _ _ _ _=>trivial) (λ_ _ _ _ _ h=>h.elim) k0 W hT t self hfp hwr hs0 hfd hrs has rd λD C s' ys bs al hk _=>hRR D C s' ys bs al λb o hb e=>hk b o hb (λh=>h) e
 refine E8 (body C hC N' i d hd) λσ1 r h1 h2 h3 h4=>?_
 exact C6 σ1 r h1 h2 h3 λs Q E t _ _ q=>h4 _ s Q E t λv s' t' k rv=>q v s' t' (by refine Ao k λh' tk zz1 _=>?_;clear k;obtain rfl:=zz1;exact AS _ _ rfl) (λb o _ e=>by obtain⟨h',tk,rfl,k⟩:=k;exact k b o e) trivial rv
end
section
variable {Γ:Cx} {σ:AX} {pos:mf} {P:AF->AX->Prop}
theorem Be{e:kH}{ds:List jO}(h:XN Γ σ e ds):Ev Γ σ e (.py (.list ds)):=by
 intro O s Q E t q
 refine h O s Q E t λa vs as s' k hn hl r hq hna=>q _ s' (t.of_keeps k) k (Ac (a::as) ?_ λb hb=>?_)
 ·obtain⟨n,e⟩:=hl
  exact .list e rfl rfl r
 ·rcases jG.mp hb with rfl|hb
  ·rintro⟨p,hp,e⟩
   obtain⟨o,ho⟩:=t.live p hp
   rw[e,hn] at ho;exact B6 ho
  ·exact hq b hb
theorem C4{elt tgt iter:kH}{scope:sX}{cl:List (jX×jL)}{ns:List jX}{σ0:AX}{ds rs:List jO}(N:Nm Γ)(X:BS Γ σ scope cl ns σ0)(hI:RO Γ σ tgt iter ds)(hlen:ds.length=rs.length)(hsz:rs.length<=100000)
 (body:∀C,Γ.s₀.heap.get? C=none->Nm (Γ.comp scope cl ns C)->∀(i:Nat) (d:jO),ds[i]?=some d->∃σ1 r,rs[i]?=some r/\Le σ0 σ1/\As (Γ.comp scope cl ns C) σ0 tgt d σ1/\Ev (Γ.comp scope cl ns C) σ1 elt (.py r))
 (hs:autoParam (∀x,foldedSetIterable iter Γ.env x=pure x) aI):XN Γ σ (.ListComp elt [⟨tgt,iter,[],0⟩] scope pos) rs:=by
 intro O s Q E t q
 rw[eval_ListComp]
 refine rA (use:=none) rfl hs X.clos X.kind X.names (hI O s _ E t λI fp wr R Md T s2 vs es as k2 W hT t2 self hfp hwr hfd hrs has rd=>?_)
 refine Ji (RR:=λacc C=>compPost (model Γ.prog Γ.w) Γ.A E none Q acc C) N X hlen hsz body k2 W hT t2 self hfp hwr t.keep hfd hrs has rd ?_
 rintro D C s' ys bs al hk hwl hD hC hDC ⟨m,hn⟩ hl hr hb
 refine Ac m hn λh' hs'=>?_
 have g:=AJ hs'
 have hDs:s.heap.get? D=none:=gn λo e=>by obtain⟨h2,tk,rfl,k2⟩:=k2;have:=k2 _ _ e;exact B0 hD this
 have hT0:=A5 hn
 refine q D ys bs {s' with heap:=h'} ?_ hDs (AR hl λn e=>(Ag n (g _ hDC _ e))) (Aq g hT0 hr λhm=>(hb C hm).2.1 rfl) (λb hb'=>(hb b hb').1) (λhm=>(hb D hm).2.2 rfl)
 obtain⟨h2,tk2,rfl,k2⟩:=k2
 obtain⟨h3,tk3,rfl⟩:=al
 exact AT h' tk3 rfl λb o e=>g b (λz=>by have:=k2 _ _ e;rw[z,hC] at this;exact B6 this) o (hk b o (λhb=>by exact B0 (hwr b hb) e) (k2 _ _ e))
theorem UJ{O:Ap}{s s':jE}{ps:List (jX×jL)}(t:St Γ O σ s)(k:kY s s')(h:∀p∈ps,s.heap.get? p.2=none)(h':∀p∈ps,∃o,s'.heap.get? p.2=some o)(hnd:(ps.map (·.2)).Nodup):St Γ (ps++O) σ s':=by
 delta Γ σ O s at s' ps t k h h' hnd
 have t':=t.of_keeps k
 obtain⟨kp,⟨m,n,vs⟩,cl,nd,lv,sb,fr,fs⟩:=t
 obtain⟨hh,tk,rfl,k⟩:=k
 have hna:∀p∈ps,¬O.has p.2:=by
  rintro q hq ⟨p,hp,e⟩
  obtain⟨o,ho⟩:=lv p hp
  rw[e,h q hq] at ho;exact B6 ho
 have hav:∀(as:List jL),(∀b∈as,∃o,s.heap.get? b=some o)->(∀b∈as,¬O.has b)->∀b∈as,¬Ap.has (ps++O) b:=by
  rintro as hl hq b hb ⟨p,hp,e⟩
  rcases jU.mp hp with hp|hp
  ·obtain⟨o,ho⟩:=hl b hb
   rw[<-e,h p hp] at ho;exact B6 ho
  ·exact hq b hb (Ac p hp e)
 refine⟨t'.keep,(Ac m (n.keeps k) λi y b e e'=>?_),t'.cells,?_,λp hp=>?_,λb hb=>?_,fr,fs⟩
 ·obtain⟨v,hd,r⟩:=vs i y b e e'
  refine Ac v (hd.keeps k) ?_
  cases b with
  | val w=>
   cases w with
   | py d=>obtain⟨bs,r,q⟩:=r;exact Ac bs (Ak.keeps k r) (hav bs (BA r) q)
   | «by» b=>exact r
   | raw w=>exact r
   | obj P=>obtain⟨a1,o,e1,g,p,q,z⟩:=r;exact C5 a1 o e1 (k _ _ g) p (hav [a1] (λb hb=>by rw[jH.mp hb];exact Ag o g) (λb hb=>by rw[jH.mp hb];exact q) a1 (.head _)) z
   | st R ok=>obtain⟨bs,r,q⟩:=r;exact Ac bs (ok.keeps r k) (hav bs (ok.live r) q)
  | own ds=>
   obtain⟨a',ws',as',e1,m1',l1',r1',q1',f1'⟩:=r
   exact CA a' ws' as' e1 (kO _ m1') (AR l1' λn e=>(Ag n (k _ _ e))) (Ae.keeps k r1') (hav as' (Bv r1') q1') f1'
  | «at» a' P=>obtain⟨e1,m1',⟨o,g,p,z⟩,f1'⟩:=r;exact⟨e1,kO _ m1',(Ba o (k _ _ g) p z),f1'⟩
 ·rw[kz,tz]
  refine⟨hnd,nd,λa ha b hb=>?_⟩
  rintro rfl
  obtain⟨p,hp,e⟩:=kn.mp ha
  obtain⟨p',hp',e'⟩:=kn.mp hb
  exact hna p hp (Ac p' hp' (e'.trans e.symm))
 ·rcases jU.mp hp with hp|hp
  ·exact h' p hp
  ·exact t'.live p hp
 ·obtain⟨p,hp,e⟩:=sb b hb
  exact Ac p (kO _ hp) e
theorem Kj{elt tgt iter:kH}{scope:sX}{cl:List (jX×jL)}{ns:List jX}{σ0:AX}{ds rs:List jO}{y:jX}{py cpos:mf}(N:Nm Γ)(hN:("":jX)∉Γ.ns)(j:Nat)(X:BS Γ σ scope cl ns σ0)(hI:RO Γ σ tgt iter ds)(hlen:ds.length=rs.length)(hsz:rs.length<=100000)
 (body:∀C,Γ.s₀.heap.get? C=none->Nm (Γ.comp scope cl ns C)->∀(i:Nat) (d:jO),ds[i]?=some d->∃σ1 r,rs[i]?=some r/\Le σ0 σ1/\As (Γ.comp scope cl ns C) σ0 tgt d σ1/\Ev (Γ.comp scope cl ns C) σ1 elt (.py r))
 (hP:P .next (σ.set j (some (.own rs))))
 (hi:autoParam (Γ.ns[j]?=some y) aR)(hlt:autoParam (j<σ.length) aN)(hk:autoParam (Γ.env.kindOf y=some .local) aR)
 (hsw:autoParam (qV (.ListComp elt [⟨tgt,iter,[],0⟩] scope cpos) (some (.Name y py)) pos.line Γ.env=pure true) aR)
 (hs:autoParam (∀x,foldedSetIterable iter Γ.env x=pure x) aI):X1 Γ σ (.Assign [.Name y py] (.ListComp elt [⟨tgt,iter,[],0⟩] scope cpos) pos) P:=by
 intro O s Q E t q
 rw[exec_Assign_Name_used _ _ _ _ hsw]
 refine jA (rt (jA ?_))
 show wpAny _ Γ.A (do let _<-comprehension (.ListComp elt [⟨tgt,iter,[],0⟩] scope cpos) scope Γ.env _ (newList []) false (eval iter Γ.env) (some (assign (.Name y py) Γ.env))) _ _ s
 refine jA (lR (rA (use:=some (assign (.Name y py) Γ.env)) (Q:=λ_ s'=>Q .next s') rfl hs X.clos X.kind X.names
  (hI O s _ E t λI fp wr R Md T s2 vs es as k2 W hT t2 self hfp hwr hfd hrs has rd=>?_)) (λ_ s' hq=>jJ (jJ hq)) λ_ _ e=>e)
 refine Ji (RR:=λacc C=>compPost (model Γ.prog Γ.w) Γ.A E (some (assign (.Name y py) Γ.env)) (λ_ s'=>Q .next s') acc C) N X hlen hsz body k2 W hT t2 self hfp hwr t.keep hfd hrs has rd ?_
 rintro D C s' ys bs al hkk hwl hD hC hDC ⟨m,hn⟩ hl hr hb
 have hDs:s.heap.get? D=none:=gn λo e=>by obtain⟨h2,tk,rfl,k2⟩:=k2;have:=k2 _ _ e;exact B0 hD this
 have hCs:s.heap.get? C=none:=gn λo e=>by obtain⟨h2,tk,rfl,k2⟩:=k2;have:=k2 _ _ e;exact B0 hC this
 have k':kY s s':=by
  obtain⟨h2,tk2,rfl,k2⟩:=k2
  obtain⟨h3,tk3,rfl⟩:=al
  exact AT h3 tk3 rfl λb o e=>hkk b o (λhb=>by exact B0 (hwr b hb) e) (k2 _ _ e)
 have t3:St Γ ([(y,D),("",C)]++O) σ s':=by
  refine UJ t k' (λp hp=>?_) (λp hp=>?_) ?_
  ·rcases jG.mp hp with rfl|hp
   ·exact hDs
   ·obtain rfl:=jH.mp hp;exact hCs
  ·rcases jG.mp hp with rfl|hp
   ·obtain⟨n,e⟩:=hl;exact Ag _ e
   ·obtain rfl:=jH.mp hp;refine CG hn λo _ _ e _=>?_;exact Ag o e
  ·show [D,C].Nodup
   simp[hDC]
 have s0:∀a,s.heap.get? a=none->Γ.s₀.heap.get? a=none:=λa ha=>gn λo e=>by have:=t.keep _ _ e;exact B0 ha this
 have hCL:C≠Γ.env.locals:=by
  rintro rfl
  refine Af t.ex λm' n' _=>?_
  refine CG n' λo _ _ e _=>?_
  exact B0 hCs e
 show wpAny _ Γ.A (assign (.Name y py) Γ.env (.ref D)) _ _ _
 refine lI (AG N (b:=.own rs) hi hlt hk t3 (CA D ys bs rfl (.head _) hl hr ?_ (s0 D hDs)) λs4 a4 u4 t4=>?_)
 ·intro b hb' zz1;refine Af zz1 λp hp e=>?_
  rcases jU.mp hp with hp|hp
  ·rcases jG.mp hp with rfl|hp
   ·exact(hb b hb').2.2 e.symm
   ·obtain rfl:=jH.mp hp;exact(hb b hb').2.1 e.symm
  ·exact(hb b hb').1 (Ac p hp e)
 have hn4:s4.heap.Ns C m:=hn.at' λo e=>u4 C o hCL e
 refine Ac m hn4 λh' hs'=>?_
 have g:=AJ hs'
 have hCV:¬Ap.has Γ.V C:=by
  intro hv
  rcases N.outer C hv with e|⟨o,e⟩
  ·exact hCL e
  ·exact B0 (s0 C hCs) e
 have hCc:∀x,(x,C)∉Γ.env.cells:=by
  intro x hx
  obtain⟨v,o,ho,_⟩:=t.cells x C (DR N hx)
  exact B0 hCs ho
 have t5:=X3 (tk:=s4.toks) N t4 (a:=C) (y:="") (lM _ (.tail _ (.head _))) hN hCV hCc (s0 C hCs) (A5 hn4) (λb o hb e=>g b hb o e)
 refine Af t.ex λmL nL _=>?_
 refine q _ .next .next _ {s4 with heap:=h'} ⟨?_,λa ha=>?_,λb o e=>?_,λb o e h1 h2=>?_,λb o e h1=>?_⟩ t5 rfl hP
 ·refine Ao k' λh6 tk6 zz1 _=>?_;clear k';obtain rfl:=zz1
  exact AI.tr (AS h6 tk6 rfl) (a4.tr (AS h' s4.toks rfl))
 ·refine Af ha λp hp e=>?_
  rcases jU.mp (j9.mp hp).1 with hp'|hp'
  ·rcases jG.mp hp' with rfl|hp'
   ·exact .inr (e▸hDs)
   ·obtain rfl:=jH.mp hp';exact .inr (e▸hCs)
  ·exact .inl (Ac p hp' e)
 ·have hbC:b≠C:=by rintro rfl;exact B0 hCs e
  refine Ao k' λh6 tk6 zz1 k6=>?_;clear k';obtain rfl:=zz1
  have e6:=k6 _ _ e
  by_cases hbL:b=Γ.env.locals
  ·refine Af t5.ex λm5 n5 _=>?_
   refine CG n5 λo' _ _ e' _=>?_
   exact Ag o' (hbL▸e')
  ·exact Ag o (g b hbC o (u4 b o hbL e6))
 ·have hbC:b≠C:=by rintro rfl;exact B0 hCs e
  refine Ao k' λh6 tk6 zz1 k6=>?_;clear k';obtain rfl:=zz1
  exact g b hbC o (u4 b o (λz=>h1 (z▸t.sub _ t.frame)) (k6 _ _ e))
 ·have hbC:b≠C:=by rintro rfl;exact B0 hCs e
  refine Ao k' λh6 tk6 zz1 k6=>?_;clear k';obtain rfl:=zz1
  exact g b hbC o (u4 b o (λz=>A5 nL o (z▸e) h1) (k6 _ _ e))
end
noncomputable def HK (xG:jY) (s:jE):Prop:=∀b o,xG.get? b=some o->s.heap.get? b=some o
structure CJ (O:Ap) (s:jE):Prop where
 nodup:(O.map (·.2)).Nodup
 live:∀p∈O,∃o,s.heap.get? p.2=some o
theorem St.ownOk{Γ:Cx}{O:Ap}{σ:AX}{s:jE}(t:St Γ O σ s):CJ O s:=⟨t.nodup,t.live⟩
noncomputable def Fn (prog:lD) (w:jW) (xG:jY) (n:Nat) (f:jB) (kws:List jX) (avs kavs:List AV) (r:AV):Prop:=
 ∀(A:kA) (O:Ap) (s:jE) (vs kvs:List jB) (Q:jB->jE->Prop) (E:jB->jE->Prop),A0 A n->HK xG s->CJ O s->DD O s.heap avs vs->DD O s.heap kavs kvs->
  (∀v s',kY s s'->VR O s'.heap r v->Q v s')->wpAny (model prog w) A (call f vs (kws.zip kvs)) Q E s
noncomputable def Dx (prog:lD) (w:jW) (A:kA) (s:jE) (fd:nU) (a:jL) (ns:List jX) (O:Ap):Cx:=
 ⟨prog,w,A.deeper (callEnvC fd s.heap.objs.size a),s,callEnvC fd s.heap.objs.size a,ns,("",s.heap.objs.size)::O⟩
noncomputable def Bi (avs:List AV) (k:Nat):AX:=avs.map (λa=>some (.val a))++kW k none
theorem H9{kindOf:jX->Option vy}:∀{bs:List (jX×jB)} {m:jX->Option jB} {x:jX},(∀p∈bs,p.1≠x)->bindL kindOf bs m x=m x
 | [],_,_,_=>rfl
 | (n,v)::r,m,x,h=>by
  unfold bindL
  rw[H9 λp hp=>h p (.tail _ hp)]
  have:x≠n:=λe=>h (n,v) (.head _) e.symm
  split
  ·simp[this]
  ·rfl
theorem Ia{kindOf:jX->Option vy}:∀{bs:List (jX×jB)} {m:jX->Option jB} {x:jX},(∀p∈bs,p.1≠x)->bindC kindOf bs m x=m x
 | [],_,_,_=>rfl
 | (n,v)::r,m,x,h=>by
  unfold bindC
  rw[Ia λp hp=>h p (.tail _ hp)]
  have:x≠n:=λe=>h (n,v) (.head _) e.symm
  split
  ·rfl
  ·simp[this]
theorem PI{kindOf:jX->Option vy}:∀{bs:List (jX×jB)} {m:jX->Option jB} {i:Nat} {x:jX} {v:jB},(bs.map (·.1)).Nodup->bs[i]?=some (x,v)->kindOf x=some .local->bindL kindOf bs m x=some v:=by
 intro bs
 induction bs with
 | nil=>exact λ_ e _=>nomatch e
 | cons p r ih=>
  intro m i x v nd e k
  rw[kM,md] at nd
  cases i with
  | zero=>
   obtain rfl:=kR e
   show bindL kindOf r (if kindOf x=some .local then _ else _) x=_
   rw[if_pos k,H9]
   ·simp
   ·exact λp hp e=>nd.1 (kn.mpr (Ac p hp e))
  | succ i=>exact ih nd.2 e k
theorem PJ{kindOf:jX->Option vy}{bs:List (jX×jB)}{m:jX->Option jB}{i:Nat}{x:jX}{v:jB}(nd:(bs.map (·.1)).Nodup)(e:bs[i]?=some (x,v))(k:kindOf x=some .cell):bindC kindOf bs m x=some v:=by
 induction bs generalizing m i with
 | nil=>exact nomatch e
 | cons p r ih=>
  rw[kM,md] at nd
  unfold bindC
  cases i with
  | zero=>
   obtain rfl:=kR e
   show bindC kindOf r (if kindOf x=some .local then _ else _) x=_
   rw[if_neg (by rw[k];decide),Ia]
   ·simp
   ·intro p hp e
    exact nd.1 (kn.mpr (Ac p hp e))
  | succ i=>exact ih nd.2 e
theorem TH{O:Ap}{h:jY}{a:AV}:∀{as:List AV} {vs:List jB} {i:Nat},DD O h as vs->as[i]?=some a->∃v,vs[i]?=some v/\VR O h a v:=by
 intro as
 induction as with
 | nil=>intro vs i _ e;simp at e
 | cons b as ih=>
  intro vs i r e
  cases vs with
  | nil=>exact r.elim
  | cons v vs=>
   cases i with
   | zero=>cases e;exact Ac v rfl r.1
   | succ i=>
    refine Af (ih (vs:=vs) (i:=i) r.2 (by simpa using e)) λu e1 r1=>?_
    exact Ac u (by simpa using e1) r1
theorem DD.append{O:Ap}{h:jY}{as bs:List AV}{vs us:List jB}(x:DD O h as vs)(y:DD O h bs us):DD O h (as++bs) (vs++us):=by
 induction as generalizing vs with
 | nil=>rw[x.ni];exact y
 | cons a as ih=>
  refine BD x.ci λv ws e r1 r2=>?_
  rw[e];exact⟨r1,ih r2⟩
structure Bf (fd:nU) (body:List l9) (ps ns:List jX):Prop where
 body:fd.body=.stmts body
 clo:fd.closure=[]
 kinds:∀x∈ps,fd.scope.names.lookup x=some .local\/(fd.scope.names.lookup x=some .cell/\∀L,((cellsFrom L fd.scope.names []).lookup x).isSome=true)
 co:fd.scope.isCoroutine=false
 gen:fd.scope.isGenerator=false
 kind:fd.scope.kind=.function
 pre:∃rest,ns=ps++rest
 nodup:ns.Nodup
 empty:("":jX)∉ns
 cells:∀L,((cellsFrom L fd.scope.names []).map (·.1)).Nodup
theorem KG{prog:lD}{w:jW}{A:kA}{xG:jY}{n:Nat}{a:jL}{o:nH}{fd:nU}{body:List l9}{ps ns:List jX}{avs:List AV}{r:AV}{args:Args}{vs:List jB}{O:Ap}{s:jE}{Q:jB->jE->Prop}{E:jB->jE->Prop}
 (X:Bf fd body ps ns)(ho:xG.get? a=some o)(hd:o.data=.func fd)(hlim:xG.NoLimit)(hcd:xG.CodeRec fd.code fd.qualname)
 (room:A0 A (n+1))(hk:HK xG s)(own:CJ O s)(hbind:ux s fd args (ps.zip vs))(hlen:vs.length=ps.length)(rv:DD O s.heap avs vs)
 (hB:Nm (Dx prog w A s fd a ns O)->A0 (A.deeper (callEnvC fd s.heap.objs.size a)) n->Ex (Dx prog w A s fd a ns O) (Bi avs (ns.length-ps.length)) body (λaf _=>af=.ret r))
 (q:∀v s',kY s s'->VR O s'.heap r v->Q v s'):wpAny (model prog w) A (call (.ref a) args.pos args.kw) Q E s:=by
 delta prog w A xG n a o fd body ps ns avs args vs O s Q E at r X ho hd hlim hcd room hk own hbind hlen rv hB q
 have hkind:∀x∈ps.zip vs,fd.scope.names.lookup x.1=some .local\/(fd.scope.names.lookup x.1=some .cell/\((cellsFrom (s.heap.objs.size+1) fd.scope.names []).lookup x.1).isSome=true):=by
  intro x hx
  rcases X.kinds x.1 (xj hx).1 with h|⟨h,h'⟩
  ·exact .inl h
  ·exact .inr ⟨h,h' _⟩
 obtain⟨rest,hns⟩:=X.pre
 have hps:(ps.zip vs).map (·.1)=ps:=wQ (tD hlen.symm)
 have hpsn:((ps.zip vs).map (·.1)).Nodup:=by
  rw[hps]
  have:=X.nodup
  rw[hns] at this
  exact(tz.mp this).1
 refine mS (wH (by have:=room.depth;rwa[this]) (hk _ _ ho) hd X.co X.gen X.body (E7 hcd λc oc vs tq h1 h2 h3=>(Ug c oc vs tq h1 (hk _ _ h2) h3)) (hbind _ _ _ _ ?_))
 rw[X.clo]
 refine qY X.kind hkind λenv he s' x=>?_
 subst he
 refine⟨(hlim.keeps hk).keeps x.toInCall.keep,codeAny_func ?_⟩
 have hfresh:s.heap.get? s.heap.objs.size=none:=gn λo' e=>absurd (kq e) (lp _)
 have hnO:¬O.has s.heap.objs.size:=by
  rintro⟨p,hp,e⟩
  obtain⟨o',ho'⟩:=own.live p hp
  rw[e] at ho'
  exact absurd (kq ho') (lp _)
 have N:Nm (Dx prog w A s fd a ns O):=by
  refine⟨X.nodup,X.kind,x.apart,X.cells _,?_⟩
  intro b zz1;refine Af zz1 λp hp e=>?_
  rcases jG.mp hp with rfl|hp
  ·exact .inl e.symm
  ·exact .inr (e▸own.live p hp)
 have hL:(ps.zip vs).length=ps.length:=by rw[List.length_zip,hlen,Nat.min_self]
 have hk2:s'.heap.get? s.heap.objs.size≠none:=by
  refine CG x.toInCall.ns λo' _ _ e _=>?_
  intro h
  have e:s'.heap.get? s.heap.objs.size=some o':=e
  exact B0 h e
 have t:St (Dx prog w A s fd a ns O) (("",s.heap.objs.size)::O) (Bi avs (ns.length-ps.length)) s':=by
  refine⟨x.toInCall.keep,(Ac _ x.toInCall.ns λi y b e e'=>?_),λy c e=>?_,?_,λp hp=>?_,λ_ h=>h,(Ac _ (.head _) rfl),hfresh⟩
  ·have e:ns[i]?=some y:=e
   unfold Bi at e'
   have hi:i<avs.length:=by
    by_cases hi:i<avs.length
    ·exact hi
    ·rw[uI (by simpa using og hi)] at e'
     obtain⟨_,e'⟩:=jK.mp e'
     simp at e'
   rw[o8 (by simpa using hi),j8] at e'
   refine Af (j6.mp e') λav hav e'=>?_
   (replace e':=si e';subst e')
   refine Af (TH rv hav) λv hv rv1=>?_
   have hip:i<ps.length:=by rw[<-hlen,<-rv.length] at *;exact(jK.mp hv).1
   have hy:ps[i]?=some y:=by rw[hns,o8 hip] at e;exact e
   have hz:(ps.zip vs)[i]?=some (y,v):=by rw[uV];exact⟨hy,hv⟩
   refine Ac v ?_ ?_
   ·rcases X.kinds y (kt hy) with hl|⟨hl,hc⟩
    ·exact .inl ⟨hl,PI hpsn hz hl⟩
    ·obtain⟨c,hc⟩:=uF.mp (hc (s.heap.objs.size+1))
     refine .inr ⟨hl,c,hc,?_⟩
     have:=x.cell y c hc
     rwa[PJ hpsn hz hl] at this
   ·show VR _ _ av v
    cases av with
    | py d=>
     refine Af rv1 λas r q=>?_
     refine Ac as (Ak.keeps x.toInCall.keep r) ?_
     rintro b hb ⟨p,hp,e⟩
     rcases jG.mp hp with rfl|hp
     ·obtain⟨o',ho'⟩:=BA r b hb
      have e:s.heap.objs.size=b:=e
      rw[<-e,hfresh] at ho';exact B6 ho'
     ·exact q b hb (Ac p hp e)
    | «by» b=>exact rv1
    | raw u=>exact rv1
    | st R ok=>
     refine Af rv1 λas r q=>?_
     refine Ac as (ok.keeps r x.toInCall.keep) ?_
     rintro b hb ⟨p,hp,e⟩
     rcases jG.mp hp with rfl|hp
     ·obtain⟨o',ho'⟩:=ok.live r b hb
      have e:s.heap.objs.size=b:=e
      rw[<-e,hfresh] at ho';exact B6 ho'
     ·exact q b hb (Ac p hp e)
    | obj P=>
     refine C9 rv1 λa1 o e1 g p q z=>?_
     refine C5 a1 o e1 (x.toInCall.keep _ _ g) p ?_ z
     rintro⟨p,hp,e⟩
     rcases jG.mp hp with rfl|hp
     ·have e:s.heap.objs.size=a1:=e
      rw[<-e,hfresh] at g;exact B6 g
     ·exact q (Ac p hp e)
  ·exact Ag _ (x.cell y c e)
  ·rw[kM,md]
   refine⟨λhm=>?_,own.nodup⟩
   obtain⟨p,hp,e⟩:=kn.mp hm
   exact hnO (Ac p hp e)
  ·rcases jG.mp hp with rfl|hp
   ·refine CG x.toInCall.ns λo' _ _ e _=>?_;exact Ag o' e
   ·obtain⟨o',e⟩:=own.live p hp;exact Ag o' (x.toInCall.keep _ _ e)
 refine hB N room.deeper _ s' _ _ t λO' fl af σ' s'' f t' hfl hP=>?_
 subst hP
 refine Af hfl λv zz1 rv'=>?_;clear hfl;obtain rfl:=zz1
 refine q v s'' ?_ ?_
 ·refine B1 x.toInCall.same λh1 tk1 zz1=>?_;obtain rfl:=zz1
  refine B1 f.alike λh2 tk2 zz1=>?_;obtain rfl:=zz1
  exact AT h2 tk2 rfl t'.keep
 ·cases r with
  | py d=>
   refine Af rv' λas r q=>?_
   exact Ac as r λb hb hO=>q b hb (t'.sub b (Af hO λp hp e=>(Ac p (.tail _ hp) e)))
  | «by» b=>exact rv'
  | raw u=>exact rv'
  | st R ok=>
   refine Af rv' λas r q=>?_
   exact Ac as r λb hb hO=>q b hb (t'.sub b (Af hO λp hp e=>(Ac p (.tail _ hp) e)))
  | obj P=>refine C9 rv' λa1 o e1 g p q z=>?_;exact C5 a1 o e1 g p (λhO=>q (t'.sub a1 (Af hO λp hp e=>(Ac p (.tail _ hp) e)))) z
theorem I3{prog:lD}{w:jW}{xG:jY}{n:Nat}{a:jL}{o:nH}{fd:nU}{body:List l9}{ps ns:List jX}{avs:List AV}{r:AV}
 (X:Bf fd body ps ns)(ho:xG.get? a=some o)(hd:o.data=.func fd)(hlim:xG.NoLimit)(hcd:xG.CodeRec fd.code fd.qualname)(hlen:avs.length=ps.length)
 (hbind:∀s vs,HK xG s->vs.length=ps.length->ux s fd ⟨vs,[]⟩ (ps.zip vs))
 (hB:∀A s O,HK xG s->Nm (Dx prog w A s fd a ns O)->A0 (A.deeper (callEnvC fd s.heap.objs.size a)) n->Ex (Dx prog w A s fd a ns O) (Bi avs (ns.length-ps.length)) body (λaf _=>af=.ret r)):Fn prog w xG (n+1) (.ref a) [] avs [] r:=by
 intro A O s vs kvs Q E room hk own rv _ q
 have hl:vs.length=ps.length:=by rw[rv.length,hlen]
 exact KG (args:=⟨vs,[]⟩) X ho hd hlim hcd room hk own (hbind s vs hk hl) hl rv (hB A s O hk) q
theorem Hg{prog:lD}{w:jW}{xG:jY}{n:Nat}{a:jL}{o:nH}{fd:nU}{body:List l9}{ps ns:List jX}{kws:List jX}{avs kavs davs:List AV}{dv:List jB}{r:AV}
 (X:Bf fd body ps ns)(ho:xG.get? a=some o)(hd:o.data=.func fd)(hlim:xG.NoLimit)(hcd:xG.CodeRec fd.code fd.qualname)(hlen:avs.length+kavs.length+davs.length=ps.length)(hdv:∀O h,DD O h davs dv)
 (hbind:∀s vs kvs,HK xG s->vs.length=avs.length->kvs.length=kavs.length->ux s fd ⟨vs,kws.zip kvs⟩ (ps.zip ((vs++kvs)++dv)))
 (hB:∀A s O,HK xG s->Nm (Dx prog w A s fd a ns O)->A0 (A.deeper (callEnvC fd s.heap.objs.size a)) n->Ex (Dx prog w A s fd a ns O) (Bi ((avs++kavs)++davs) (ns.length-ps.length)) body (λaf _=>af=.ret r)):Fn prog w xG (n+1) (.ref a) kws avs kavs r:=by
 intro A O s vs kvs Q E room hk own rv rk q
 have hl:((vs++kvs)++dv).length=ps.length:=by rw[jZ,jZ,rv.length,rk.length,(hdv O s.heap).length,hlen]
 exact KG (args:=⟨vs,kws.zip kvs⟩) X ho hd hlim hcd room hk own (hbind s vs kvs hk rv.length rk.length) hl ((rv.append rk).append (hdv O s.heap)) (hB A s O hk) q
section
variable {Γ:Cx} {σ:AX} {pos:mf}
theorem YV{f e:kH}{es:List kH}{xG:jY}{n:Nat}{a:jL}{o:nH}{fd:nU}{avs:List AV}{r:AV}(F:Fn Γ.prog Γ.w xG n (.ref a) [] avs [] r)(room:A0 Γ.A n)(hk:HK xG Γ.s₀)(ho:xG.get? a=some o)(hd:o.data=.func fd)
 (hf:Ev Γ σ f (.raw (.ref a)))(ha:XI Γ σ (e::es) avs)(hp:autoParam ((e::es).all AE=true) aR)
 (he:autoParam (eval (.Call f (e::es) [] pos) Γ.env=(do kX pos (<-eval f Γ.env) [] (backTo pos (starEach (e::es) Γ.env)) (l8 pos (lu [] Γ.env)))) aR):Ev Γ σ (.Call f (e::es) [] pos) r:=by
 intro O s Q E t q
 refine qQ (hf O s _ E t λv s1 t1 k1 r1=>?_) he
 obtain rfl:v=.ref a:=r1
 refine callWith_function (o:=o) (fd:=fd) (AL hp (ha O s1 _ _ E t1 λvs s2 t2 k2 r2=>⟨⟨t2.keep _ _ (hk _ _ ho),hd⟩,?_⟩))
 exact F Γ.A O s2 vs [] Q E room (λb o e=>t2.keep _ _ (hk _ _ e)) t2.ownOk r2 trivial λv s3 k3 r3=>q v s3 (t2.of_keeps k3) (Keeps.tr (Keeps.tr k1 k2) k3) r3
end
theorem Keeps.pushT(s:jE)(o:nH)(tk:Nat):kY s {s with heap:=s.heap.push o,toks:=tk}:=AT _ tk rfl λ_ _ e=>jF _ e
theorem EE{h:jY}{vs us:List jB}{ds es:List jO}{as bs:List jL}(x:Ae h vs ds as)(y:Ae h us es bs):Ae h (vs++us) (ds++es) (as++bs):=
 Ae.ind (P:=λvs ds as=>Ae h (vs++us) (ds++es) (as++bs)) y (λr _ ih=>by rw[l5];exact .cons r ih) x
theorem FG{h:jY}:∀{vs:List jB} {ns:List Int} {as:List jL},Ae h vs (ns.map .int) as->tw vs ns/\as=[]:=by
 intro vs ns
 induction ns generalizing vs with
 | nil=>intro as r;cases Bg r;cases r;exact⟨.nil,rfl⟩
 | cons n ns ih=>
  intro as r
  refine Cz (AK r) λv ws bs cs zz1 r1 r2 zz2=>?_;obtain rfl:=zz1;obtain rfl:=zz2
  obtain⟨h1,rfl⟩:=ih r2
  cases r1
  exact⟨.cons _ _ h1,rfl⟩
theorem FE{h:jY}:∀{vs:List jB} {ns:List jX} {as:List jL},Ae h vs (ns.map .str) as->StrsAre vs ns/\as=[]:=by
 intro vs ns
 induction ns generalizing vs with
 | nil=>intro as r;cases Bg r;cases r;exact⟨.nil,rfl⟩
 | cons n ns ih=>
  intro as r
  refine Cz (AK r) λv ws bs cs zz1 r1 r2 zz2=>?_;obtain rfl:=zz1;obtain rfl:=zz2
  obtain⟨h1,rfl⟩:=ih r2
  cases r1
  exact⟨.cons _ _ h1,rfl⟩
theorem FF{h:jY}{vs:List jB}{ds:List jO}{as:List jL}(r:Ae h vs ds as)(is:List Nat):∃bs,Ae h (is.filterMap (vs[·]?)) (is.filterMap (ds[·]?)) bs/\∀b∈bs,b∈as:=by
 induction is with
 | nil=>exact Ac [] .nil λ_ h=>nomatch h
 | cons i is ih=>
  refine Af ih λbs r1 q1=>?_
  have hl:=Al r
  cases e:ds[i]? with
  | none=>
   have e':vs[i]?=none:=by rw[List.getElem?_eq_none_iff] at e ⊢;rwa[hl,e]
   rw[va e',va e]
   exact Ac bs r1 q1
  | some d=>
   refine BD (B4 r e) λv cs e' r2 q2=>?_
   rw[u8 e',u8 e]
   exact Ac (cs++bs) (.cons r2 r1) λb hb=>(jU.mp hb).elim (q2 b) (q1 b)
section
variable {Γ:Cx} {σ:AX} {pos:mf}
noncomputable def bC (Γ:Cx) (σ:AX) (e:Option kH) (p:Option Int):Prop:=
 ∀(O:Ap) (s:jE) (Q:jB->jE->Prop) (E:jB->jE->Prop),St Γ O σ s->
  (∀v s',St Γ O σ s'->kY s s'->IsPart v p->Q v s')->wpAny (model Γ.prog Γ.w) Γ.A (evalPart e Γ.env) Q E s
theorem E9:bC Γ σ none none:=λO s Q E t q=>jJ (q _ s t (Keeps.re s) .none)
theorem GM{e:kH}{i:Int}(h:Ev Γ σ e (.py (.int i))):bC Γ σ (some e) (some i):=by
 intro O s Q E t q
 exact h O s Q E t λv s' t' k r=>by
  obtain⟨tk,rfl⟩:=r.int_inv
  exact q _ s' t' k (.int _ _)
noncomputable def F5 (ds:List jO) (lo hi st:Option Int):List jO:=
 ((sliceRange (sliceBounds lo hi st ds.length).1 (sliceBounds lo hi st ds.length).2.1 (sliceBounds lo hi st ds.length).2.2).filterMap (ds[·]?))
theorem EB{h:jY}{vs:Array jB}{ds:List jO}{as:List jL}(r:Ae h vs.toList ds as)(lo hi st:Option Int):∃bs,Ae h (slicePick vs lo hi st).toList (F5 ds lo hi st) bs/\∀b∈bs,b∈as:=by
 have hl:vs.size=ds.length:=by rw[<-Al r];simp
 refine Af (FF r (sliceRange (sliceBounds lo hi st ds.length).1 (sliceBounds lo hi st ds.length).2.1 (sliceBounds lo hi st ds.length).2.2)) λbs r1 q1=>?_
 refine Ac bs ?_ q1
 unfold slicePick F5
 rw[hl]
 simpa using r1
theorem Hh{value:kH}{lower upper:Option kH}{p:mf}{ds:List jO}{lo hi:Option Int}(hv:Ev Γ σ value (.py (.list ds)))(hl:bC Γ σ lower lo)(hu:bC Γ σ upper hi)(hs:ds.length<=100000)
 (ht:autoParam (∀o r,letTemporaryGo value o r=pure ()) aI):XN Γ σ (.Subscript value (.Slice lower upper none p) pos) (F5 ds lo hi none):=by
 intro O s Q E t q
 refine wG uq.lookup (hv O s _ E t λo s1 t1 k1 r1=>?_) ht
 refine wZ (hl O s1 _ E t1 λl s2 t2 k2 pl=>hu O s2 _ E t2 λu s3 t3 k3 pu=>jJ ?_)
 refine HZ ((r1.kept (Keeps.tr k2 k3)).list_inv) λa vs as zz1 hl' rs ha qs=>?_;obtain rfl:=zz1
 have hsz:vs.size=ds.length:=by rw[<-Al rs];simp
 have hl4:(s3.heap.push {cls:=.type "slice",data:=.fields #[l,u,.none]}).IsList a vs:=IsList.kept hl' λ_ _ e=>jF _ e
 refine⟨hl4.typeIs,vV (lo:=lo) (hi:=hi) (st:=none) hl4 (q8 ..) pl pu .none (by simp) ?_ (by rw[hsz,sizeLine_eq];rwa[hs])⟩
 refine Af (EB rs lo hi none) λbs r2 q2=>?_
 have kk:=Keeps.tr (Keeps.tr (Keeps.tr k1 k2) k3) (Keeps.push s3 {cls:=.type "slice",data:=.fields #[l,u,.none]})
 have k4:=Keeps.push {s3 with heap:=s3.heap.push {cls:=.type "slice",data:=.fields #[l,u,.none]}} {cls:=.type "list",data:=.seq (slicePick vs lo hi none)}
 have r3:=Ae.keeps (λ_ _ e=>jF {cls:=.type "slice",data:=.fields #[l,u,.none]} e) r2
 refine q _ _ bs _ (Keeps.tr kk k4) (AW kk (jN _)) (Ag 0 (jQ _ rfl)) (Ae.keeps (λ_ _ e=>jF _ e) r3) (λb hb=>qs b (q2 b hb)) λhm=>?_
 refine AR (Bv r3 _ hm) λo e=>?_
 exact absurd (kq e) (lp _)
theorem Rm{value st:kH}{lower upper:Option kH}{p:mf}{ds:List jO}{lo hi:Option Int}{c:Int}(hv:Ev Γ σ value (.py (.list ds)))(hl:bC Γ σ lower lo)(hu:bC Γ σ upper hi)(hst:Ev Γ σ st (.py (.int c)))(hc:c≠0)(hs:ds.length<=100000)
 (ht:autoParam (∀o r,letTemporaryGo value o r=pure ()) aI):XN Γ σ (.Subscript value (.Slice lower upper (some st) p) pos) (F5 ds lo hi (some c)):=by
 intro O s Q E t q
 refine wpAny_Subscript_Slice_step uq.lookup (hv O s _ E t λo s1 t1 k1 r1=>?_) ht
 refine wZ (hl O s1 _ E t1 λl s2 t2 k2 pl=>hu O s2 _ E t2 λu s3' t3' k3' pu=>GM hst O s3' _ E t3' λz s3 t3 k3'' pz=>?_)
 have k3:=Keeps.tr k3' k3''
 refine HZ ((r1.kept (Keeps.tr k2 k3)).list_inv) λa vs as zz1 hl' rs ha qs=>?_;obtain rfl:=zz1
 have hsz:vs.size=ds.length:=by rw[<-Al rs];simp
 have hl4:(s3.heap.push {cls:=.type "slice",data:=.fields #[l,u,z]}).IsList a vs:=IsList.kept hl' λ_ _ e=>jF _ e
 refine⟨hl4.typeIs,vV (lo:=lo) (hi:=hi) (st:=some c) hl4 (q8 ..) pl pu pz (by simpa using hc) ?_ (by rw[hsz,sizeLine_eq];rwa[hs,hsz])⟩
 refine Af (EB rs lo hi (some c)) λbs r2 q2=>?_
 have kk:=Keeps.tr (Keeps.tr (Keeps.tr k1 k2) k3) (Keeps.push s3 {cls:=.type "slice",data:=.fields #[l,u,z]})
 have k4:=Keeps.push {s3 with heap:=s3.heap.push {cls:=.type "slice",data:=.fields #[l,u,z]}} {cls:=.type "list",data:=.seq (slicePick vs lo hi (some c))}
 have r3:=Ae.keeps (λ_ _ e=>jF {cls:=.type "slice",data:=.fields #[l,u,z]} e) r2
 refine q _ _ bs _ (Keeps.tr kk k4) (AW kk (jN _)) (Ag 0 (jQ _ rfl)) (Ae.keeps (λ_ _ e=>jF _ e) r3) (λb hb=>qs b (q2 b hb)) λhm=>?_
 refine AR (Bv r3 _ hm) λo e=>?_
 exact absurd (kq e) (lp _)
theorem Ps{f e:kH}{ns:List Int}(hh:Γ.A.handled=none)(hf:Ev Γ σ f (.raw (.type "bytes")))(he:Ev Γ σ e (.py (.list (ns.map .int))))(hr:∀n∈ns,0<=n/\n<256)(hs:ns.length<=100000)(hp:autoParam (AE e=true) aR)
 (hc:autoParam (eval (.Call f [e] [] pos) Γ.env=(do kX pos (<-eval f Γ.env) [] (backTo pos (starEach [e] Γ.env)) (l8 pos (lu [] Γ.env)))) aR):Ev Γ σ (.Call f [e] [] pos) (.by (byteArr ns)):=
 Et hf (Ab he Ah hp) (λO s vs Q E hO rv q=>by
  refine Af rv.one λv zz1 r=>?_;obtain rfl:=zz1
  refine Cf r.list_inv λa vs as zz1 hl rs _=>?_;obtain rfl:=zz1
  obtain⟨hi,_⟩:=FG rs
  refine call_bytes_ints (vs:=vs.toList) (by simpa using hl) hi hr ?_ hh λh' t k hk=>q _ _ (AT h' k rfl hk) (Ag _ rfl)
  rw[Al rs,jI,sizeLine_eq];rwa[hs]) (by rw[lC,hp];rfl) hc
theorem aF{f e:kH}{n:Int}(hf:Ev Γ σ f (.raw (.builtin "chr")))(he:Ev Γ σ e (.py (.int n)))(h0:0<=n)(h1:n<=1114111)(hp:autoParam (AE e=true) aR)
 (hc:autoParam (eval (.Call f [e] [] pos) Γ.env=(do kX pos (<-eval f Γ.env) [] (backTo pos (starEach [e] Γ.env)) (l8 pos (lu [] Γ.env)))) aR):Ev Γ σ (.Call f [e] [] pos) (.py (.str ⟨#[n.toNat]⟩)):=
 CN hf (Ab he Ah hp) (λO s vs Q E hO rv q=>by
  refine Af rv.one λv zz1 r=>?_;obtain rfl:=zz1
  obtain⟨t,rfl⟩:=r.int_inv
  exact chr_of_range h0 h1 (q _ _ Keeps.rfl' (VR.str ..))) (by rw[lC,hp];rfl) hc
theorem Pq{f e:kH}{n:Int}(hf:Ev Γ σ f (.raw (.type "str")))(he:Ev Γ σ e (.py (.int n)))(hn:n.natAbs<2^64)(hp:autoParam (AE e=true) aR)
 (hc:autoParam (eval (.Call f [e] [] pos) Γ.env=(do kX pos (<-eval f Γ.env) [] (backTo pos (starEach [e] Γ.env)) (l8 pos (lu [] Γ.env)))) aR):Ev Γ σ (.Call f [e] [] pos) (.py (.str (toString n))):=
 Et hf (Ab he Ah hp) (λO s vs Q E hO rv q=>by
  refine Af rv.one λv zz1 r=>?_;obtain rfl:=zz1
  obtain⟨t,rfl⟩:=r.int_inv
  exact PySem.P.str_of_int (by
   by_cases h0:n.natAbs=0
   ·rw[h0];decide
   ·have:=(v7 h0).mpr hn;rwa[this]) (q _ _ Keeps.rfl' (VR.str ..))) (by rw[lC,hp];rfl) hc
theorem Xb{f x y:kH}{a b:Int}(hh:Γ.A.handled=none)(hf:Ev Γ σ f (.raw (.builtin "min")))(hx:Ev Γ σ x (.py (.int a)))(hy:Ev Γ σ y (.py (.int b)))(hp:autoParam ([x,y].all AE=true) aR)
 (hc:autoParam (eval (.Call f [x,y] [] pos) Γ.env=(do kX pos (<-eval f Γ.env) [] (backTo pos (starEach [x,y] Γ.env)) (l8 pos (lu [] Γ.env)))) aR):Ev Γ σ (.Call f [x,y] [] pos) (.py (.int (if b<a then b else a))):=by
 have hp':AE x=true/\AE y=true:=by simpa using hp
 exact CN hf (Ab hx (Ab hy Ah hp'.2) hp'.1) (λO s vs Q E hO rv q=>by
  refine BD rv.two λv u zz1 r r'=>?_;obtain rfl:=zz1
  obtain⟨t,rfl⟩:=r.int_inv
  obtain⟨t',rfl⟩:=r'.int_inv
  refine min_two_ints hh λh' tk hk=>?_
  by_cases h:b<a
  ·rw[if_pos h];rw[if_pos h] at q;exact q _ _ (AT h' tk rfl hk) (VR.int ..)
  ·rw[if_neg h];rw[if_neg h] at q;exact q _ _ (AT h' tk rfl hk) (VR.int ..)) hp hc
theorem J9:∀{vs:List jB} {ns:List Int},tw vs ns->∃xs:Array (Int×ut),vs.toArray=w7 xs/\xs.toList.map (·.1)=ns:=by
 intro vs ns r
 induction r with
 | nil=>exact Ac (#[]) (by simp[w7]) rfl
 | cons n t h ih=>
  refine Af ih λxs e1 e2=>?_
  refine⟨((n,t)::xs.toList).toArray,?_,by simp[e2]⟩
  have:(xs.map λp=>jR p.1 p.2).toList=_:=congrArg Array.toList e1.symm
  simp only[w7,pP] at *
  simp[this]
theorem az{f e:kH}{ns:List Int}(hh:Γ.A.handled=none)(hf:Ev Γ σ f (.raw (.builtin "sum")))(he:Ev Γ σ e (.py (.list (ns.map .int))))(hp:autoParam (AE e=true) aR)
 (hc:autoParam (eval (.Call f [e] [] pos) Γ.env=(do kX pos (<-eval f Γ.env) [] (backTo pos (starEach [e] Γ.env)) (l8 pos (lu [] Γ.env)))) aR):Ev Γ σ (.Call f [e] [] pos) (.py (.int ns.sum)):=
 CN hf (Ab he Ah hp) (λO s vs Q E hO rv q=>by
  refine Af rv.one λv zz1 r=>?_;obtain rfl:=zz1
  refine Cf r.list_inv λa vs as zz1 hl rs _=>?_;obtain rfl:=zz1
  obtain⟨hi,_⟩:=FG rs
  refine Af (J9 hi) λxs e1 e2=>?_
  have e1:vs=w7 xs:=by simpa using e1
  refine sum_intListG hh (e1▸hl) λh' tk t' hk=>?_
  have:preSum (numAt xs) xs.size=ns.sum:=by
   rw[preSum_eq,<-e2,rq (by simp)]
  rw[this]
  exact q _ _ (AT h' tk rfl hk) (VR.int ..)) (by rw[lC,hp];rfl) hc
theorem Vd{l r:kH}{x:jX}{n:Int}(hl:Ev Γ σ l (.py (.str x)))(hr:Ev Γ σ r (.py (.int n)))(h0:0<=n)(h1:n<=4)(hx:x.length=1):Ev Γ σ (.BinOp l .Mult r pos) (.py (.str ⟨(kW n.toNat x.cps).foldl (·++·) #[]⟩)):=
 De hl hr λO s u v Q E rx ry q=>by
  obtain⟨tx,rfl⟩:=rx.str_inv;obtain⟨ty,rfl⟩:=ry.int_inv
  refine PySem.P.mul_str (by rw[sg];exact⟨decide_eq_false (by rwa[h0]),decide_eq_false (by rwa[h1])⟩) (λhn _=>?_) (λhn _=>?_) ?_
  ·rw[hx]
   have:n=1\/n=2\/n=3\/n=4:=by rwa[h1,hn]
   rcases this with rfl|rfl|rfl|rfl<;>decide
  ·rw[hx]
   have:n=1\/n=2\/n=3\/n=4:=by rwa[h1,hn]
   rcases this with rfl|rfl|rfl|rfl<;>decide +kernel
  ·split
   ·have:n=0:=by(rename_i z0;rwa[h0,z0])
    subst this
    exact⟨by decide,q _ _ Keeps.rfl' (VR.str ..)⟩
   ·split
    ·have:n=1:=by
      rename_i h
      simpa[hx] using h
     subst this
     exact q _ _ (Keeps.re s) (by
      have:(⟨(kW (1:Int).toNat x.cps).foldl (·++·) #[]⟩:jX)=x:=uQ (by simp)
      rw[this];exact VR.str ..)
    ·refine⟨?_,q _ _ Keeps.rfl' (VR.str ..)⟩
     have:n=1\/n=2\/n=3\/n=4\/n=0:=by(rename_i z0 _;rwa[h1,z0])
     have hz:x.cps.size=1:=hx
     show sW _<=sizeLine
     rw[sizeLine_eq]
     rcases this with rfl|rfl|rfl|rfl|rfl<;>simp[sW,hz]
theorem GO{e:kH}{x:jX}{k:Nat}{p ap cp:mf}{pl:vg Bool}{ys:List jX}(he:Ev Γ σ e (.py (.list (ys.map .str))))(hx:x.length<=16)(hw:(ys.map (·.length)).sum+ys.length<=1048576)(hp:autoParam (AE e=true) aR)
 (hc:autoParam (eval (.Call (.Attribute (.Constant (.str x) k p) "join" ap) [e] [] cp) Γ.env=(do
  let ov<-eval (.Constant (.str x) k p) Γ.env
  mQ ap.atName
  let (f,first)<-ml [ov] (nv ov "join" pl)
  kX cp f first (backTo cp (starEach [e] Γ.env)) [])) aR):Ev Γ σ (.Call (.Attribute (.Constant (.str x) k p) "join" ap) [e] [] cp) (.py (.str (mE x ys))):=by
 intro O s Q E t q
 have h0:Ev Γ σ (.Constant (.str x) k p) (.py (.str x)):=BF
 refine mh ?_ hc
 refine h0 O s _ E t λv s1 t1 k1 r1=>?_
 obtain⟨tv,rfl⟩:=r1.str_inv
 refine mK (vt _ _ _) F.plainAttrs_str F.slot_str_join F.type_str_join (λ_ e=>nomatch e) ?_
 refine callWith_builtin (Bh (by rw[lC,hp];rfl)) (AL (by rw[lC,hp];rfl) (Ab he Ah hp O s1 _ _ E t1 λus s2 t2 k2 r2=>?_))
 refine Af r2.one λv zz1 rv=>?_;obtain rfl:=zz1
 refine Cf rv.list_inv λa vs as zz1 hl rs _=>?_;obtain rfl:=zz1
 obtain⟨hi,_⟩:=FE rs
 exact join_listW hl hi hx hw λt' k=>q _ _ (t2.keeps λ_ _ e=>e) (Keeps.tr (Keeps.tr k1 k2) Keeps.rfl') (VR.str ..)
theorem ef{l r:kH}{a b:jO}(hl:Ev Γ σ l (.py a))(hr:Ev Γ σ r (.py b))(ha:pB a=true)(hb:pB b=true)(hu:Γ.A.units+64<cLine)(hm:autoParam (behindInMarks .NotEq r=false) aR):Tv Γ σ (.Compare l [.NotEq] [r] pos) (!PyData.eqv a b):=
 Eh hl hr (λO s x y Q E rx ry q=>by
  refine Af rx λas rx _=>?_;refine Af ry λbs ry _=>?_
  exact SeqAt.compareNe_shaped (rx.lib (pC ha)) (ry.lib (pC hb)) ha hb hu (q s (Keeps.re s))) hm
theorem Zz{l r:kH}{u v:jB}(hl:Ev Γ σ l (.raw u))(hr:Ev Γ σ r (.raw v))(hp:plainIs u v=true)(hm:autoParam (behindInMarks .Is r=false) aR):Tv Γ σ (.Compare l [.Is] [r] pos) (u == v):=
 Eh hl hr (λO s x y Q E rx ry q=>by
  obtain rfl:x=u:=rx
  obtain rfl:y=v:=ry
  exact vr hp (q s (Keeps.re s))) hm
theorem G3{l r:kH}{u:AV}{c:Bool}(hl:Ev Γ σ l u)(hr:Ev Γ σ r (.py .none))(hv:∀O h v,VR O h u v->(v == .none)=c)(hm:autoParam (behindInMarks .Is r=false) aR):Tv Γ σ (.Compare l [.Is] [r] pos) c:=
 Eh hl hr (λO s x y Q E rx ry q=>by
  obtain⟨_,ry,_⟩:=ry
  cases ry
  refine is_none_gen ?_
  rw[hv _ _ _ rx];exact q s (Keeps.re s)) hm
end
noncomputable def Rx (scope:sX) (ns:List jX):Bool:=
 scope.names.all (λy=>y.2 != .cell)&&scope.kind == .function&&scope.names.all (λy=>y.2 != .local || scope.names.lookup y.1 == some .local)&&decide ns.Nodup&&!ns.contains ""
theorem BS.of{Γ:Cx}{σ:AX}{scope:sX}{cl:List (jX×jL)}{ns:List jX}{σ0:AX}(h:Rx scope ns=true)(hclos:vu scope Γ.env=pure cl)(hap:cl.Pairwise λx y=>x.2≠y.2)(hnm:(cl.map (·.1)).Nodup)
 (hsub:∀x c,(x,c)∈cl->Γ.env.cells.lookup x=some c)
 (held:∀(C:jL) (i:Nat) (x:jX) (b:Bd),ns[i]?=some x->σ0[i]?=some (some b)->∃(j:Nat) (av:AV) (c:jL),b=.val av/\Γ.ns[j]?=some x/\σ[j]?=some (some (.val av))/\Γ.env.kindOf x=some .cell/\Γ.env.cells.lookup x=some c/\cl.lookup x=some c/\(w8 scope cl C Γ.env).kindOf x=some .cell):BS Γ σ scope cl ns σ0:=by
 simp only[Rx,kJ,oM,decide_eq_true_eq] at h
 obtain⟨⟨⟨⟨h1,h2⟩,h3⟩,h4⟩,h5⟩:=h
 refine⟨hclos,λy hy=>?_,beq_iff_eq.mp h2,λy hy hl=>?_,λC=>⟨h4,?_,hap,hnm,?_⟩,λhm=>?_,hsub,held⟩
 ·have:=ky.mp h1 y hy
  simpa using this
 ·have:=ky.mp h3 y hy
  rw[hl] at this
  simpa using this
 ·exact beq_iff_eq.mp h2
 ·intro a zz1;refine Af zz1 λp hp e=>?_
  obtain rfl:=jH.mp hp
  exact .inl e.symm
 ·have:ns.contains ("":jX)=true:=rQ.mpr hm
  rw[this] at h5;exact lK h5
theorem BS.none{Γ:Cx}{σ:AX}{scope:sX}{ns:List jX}(h:Rx scope ns=true)(hclos:vu scope Γ.env=pure []):BS Γ σ scope [] ns (kW ns.length none):=by
 refine .of h hclos .nil uG (λ_ _ h=>nomatch h) λC i x b e e'=>?_
 obtain⟨_,e'⟩:=jK.mp e'
 simp at e'
theorem Le.none{k:Nat}{σ:AX}:Le (kW k none) σ:=by
 intro i b e
 obtain⟨_,e⟩:=jK.mp e
 simp at e
theorem UY{prog:lD}{w:jW}{A:kA}{E:jB->jE->Prop}{s:jE}{l b:jL}{vs ws:Array jB}{Q:jB->jE->Prop}(hl:s.heap.IsList l vs)(hb:s.heap.IsList b ws)
 (h:Q (.ref s.heap.objs.size) {s with heap:=s.heap.push {cls:=.type "list",data:=.seq (vs++ws)}})(hsz:vs.size+ws.size<=sizeLine):wpAny (model prog w) A (binaryOp .Add (.ref l) (.ref b)) Q E s:=by
 obtain⟨⟨cls,dd,data,sl⟩,ho,hc,n,hd⟩:=id hl
 obtain⟨⟨cls2,dd2,data2,sl2⟩,ho2,hc2,n2,hd2⟩:=id hb
 simp only at hc hd hc2 hd2
 subst hc hd hc2 hd2
 exact concat_meets (Ac _ ho rfl) (Ac _ ho2 rfl) noFill_list_add seq_list_add PySem.F.slot_list_add PySem.F.entry_list_add (PySem.F.args_list_add_2 _ _) (list_addW l b vs ws n n2 dd dd2 sl sl2 hsz) ⟨ho,ho2,h⟩
section
variable {Γ:Cx} {σ:AX} {pos:mf}
theorem GN{l r:kH}{ds es:List jO}(hl:Ev Γ σ l (.py (.list ds)))(hr:Ev Γ σ r (.py (.list es)))(hs:ds.length+es.length<=100000):XN Γ σ (.BinOp l .Add r pos) (ds++es):=by
 intro O s Q E t q
 refine wpAny_BinOp (hl O s _ E t λx s1 t1 k1 r1=>hr O s1 _ E t1 λy s2 t2 k2 r2=>?_)
 refine HZ ((r1.kept k2).list_inv) λa vs as zz1 hl1 rs1 _ q1=>?_;obtain rfl:=zz1
 refine HZ r2.list_inv λb us bs zz1 hl2 rs2 _ q2=>?_;obtain rfl:=zz1
 have hz1:vs.size=ds.length:=by rw[<-Al rs1];simp
 have hz2:us.size=es.length:=by rw[<-Al rs2];simp
 refine UY hl1 hl2 ?_ (by rw[hz1,hz2,sizeLine_eq];rwa[hs])
 have r3:=EE rs1 rs2
 rw[<-o9] at r3
 refine q _ _ (as++bs) _ (Keeps.tr (Keeps.tr k1 k2) (Keeps.push _ _)) (AW (Keeps.tr k1 k2) (jN _)) (Ag 0 (jQ _ rfl)) (Ae.keeps (λ_ _ e=>jF _ e) r3) (λb hb=>(jU.mp hb).elim (q1 b) (q2 b)) λhm=>?_
 obtain⟨o,e⟩:=Bv r3 _ hm
 exact absurd (kq e) (lp _)
end
inductive Ee:List (jB×jB)->List (Int×jX)->Prop
 | nil:Ee [] []
 | cons (k:Int) (t:ut) (x:jX) (u:ut) {vs ps}:Ee vs ps->Ee ((.int k t,.str x u)::vs) ((k,x)::ps)
noncomputable def Ix (kvs:List (Int×jB)) (ps:List (Int×jX)):Prop:=kvs.map (·.1)=ps.map (·.1)/\StrsAre (kvs.map (·.2)) (ps.map (·.2))
theorem Ee.vals{vs:List (jB×jB)}{ps:List (Int×jX)}(r:Ee vs ps):allIntKeys vs=true/\Ix (intKeyPairs vs) ps:=by
 induction r with
 | nil=>exact⟨rfl,rfl,.nil⟩
 | cons k t x u h ih=>exact⟨ih.1,congrArg (k::·) ih.2.1,.cons x u ih.2.2⟩
theorem Ix.at{k:Int}{x:jX}:∀{kvs:List (Int×jB)} {ps:List (Int×jX)},Ix kvs ps->ps.lookup k=some x->∃t,valueAt kvs k=some (.str x t):=by
 intro kvs
 delta k x at kvs
 induction kvs with
 | nil=>intro ps ⟨h1,h2⟩ e;cases ps with
  | nil=>exact B6 e
  | cons=>cases h1
 | cons kv kvs ih=>
  intro ps ⟨h1,h2⟩ e
  cases ps with
  | nil=>cases h1
  | cons p ps=>
   obtain⟨k',v⟩:=kv
   obtain⟨k2,y⟩:=p
   obtain⟨h1a,h1'⟩:=wl h1
   have h1a:k'=k2:=h1a
   subst h1a
   cases h2 with
   | cons _ t h2'=>
    rw[q9] at e
    unfold valueAt
    rw[me]
    by_cases hk:k'=k
    ·subst hk
     simp at e
     subst e
     exact⟨t,by simp⟩
    ·have:(k == k')=false:=beq_eq_false_iff_ne.mpr (ll hk)
     rw[this] at e
     simp only[hk,decide_false]
     exact ih ⟨h1',h2'⟩ e
section
variable {Γ:Cx} {σ:AX} {pos:mf}
noncomputable def Ez (prog:lD) (w:jW) (ps:List (Int×jX)) (o:nH):Prop:=∃kvs,o.IsDictOf (intKind prog w) kvs/\Ix kvs ps
noncomputable def Zd (Γ:Cx) (σ:AX) (keys:List (Option kH)) (values:List kH) (ps:List (Int×jX)):Prop:=
 ∀(O:Ap) (s:jE) (pos:mf) (Q:List (jB×jB)->jE->Prop) (E:jB->jE->Prop),St Γ O σ s->
  (∀vs s',St Γ O σ s'->kY s s'->Ee vs ps->Q vs s')->wpAny (model Γ.prog Γ.w) Γ.A (evalPairs (pairTrees keys values Γ.env pos)) Q E s
theorem W4:Zd Γ σ [] [] []:=λO s pos Q E t q=>pairTrees_nil_walk (q [] s t (Keeps.re s) .nil)
theorem Fs{k v:kH}{ks:List (Option kH)}{vs:List kH}{i:Int}{x:jX}{ps:List (Int×jX)}(hk:Ev Γ σ k (.py (.int i)))(hv:Ev Γ σ v (.py (.str x)))(h:Zd Γ σ ks vs ps):Zd Γ σ (some k::ks) (v::vs) ((i,x)::ps):=by
 intro O s pos Q E t q
 refine pairTrees_cons_walk (hk O s _ E t λa s1 t1 k1 r1=>hv O s1 _ E t1 λb s2 t2 k2 r2=>h O s2 pos _ E t2 λrs s3 t3 k3 r3=>?_)
 obtain⟨ta,rfl⟩:=r1.int_inv
 obtain⟨tb,rfl⟩:=r2.str_inv
 exact q _ s3 t3 (Keeps.tr (Keeps.tr k1 k2) k3) (.cons _ _ _ _ r3)
theorem YU{keys:List (Option kH)}{values:List kH}{ps:List (Int×jX)}(h:Zd Γ σ keys values ps)(hall:autoParam (keys.all (·.isSome)=true) aR)(hl:autoParam (keys.length=values.length) aR)(h0:keys≠[]:=by intro h;cases h)(hlen:autoParam (keys.length<=15) aN)(hnd:autoParam ((ps.map (·.1)).Nodup) aD) :
 Ev Γ σ (.Dict keys values pos) (.obj (Ez Γ.prog Γ.w ps)):=by
 intro O s Q E t q
 delta Γ σ pos keys values ps O s Q E at h hall hl h0 hlen hnd t q
 have k0:=Keeps.push s {cls:=.type "dict",data:=.dict #[]}
 refine wpAny_Dict_walk (knd:=intKind Γ.prog Γ.w) hall hl h0 hlen (h O _ pos _ E (t.of_keeps k0) λvs s1 t1 k1 r1=>?_)
 obtain⟨h1,h2⟩:=r1.vals
 refine display_done_int h1 (by rw[h2.1];exact hnd) ?_ λh' hd hs=>?_
 ·obtain⟨hh,tk,rfl,k1⟩:=k1
  exact(sJ s.heap).keep k1
 ·have kk:kY s {s1 with heap:=h',toks:=s1.toks+vs.length}:=by
   obtain⟨hh,tk,rfl,k1⟩:=k1
   refine AT h' (tk+vs.length) rfl λb o e=>?_
   exact AJ hs b (lw (kq e)) o (k1 b o (jF _ e))
  refine Af (pg.mp hd) λo ho hdo=>?_
  refine q _ _ (t.of_keeps kk) kk (C5 _ o rfl ho (Ac _ hdo h2) t.notNew ?_)
  refine Cf hd λ_ es ep ho' _ hdat _=>?_
  (replace ho':=CQ ho ho';subst ho')
  exact⟨(λc e=>by rw[hdat] at e;exact jS e),(λc e=>by rw[hdat] at e;exact jS e)⟩
theorem Oo{l r:kH}{ps:List (Int×jX)}{i:Int}{x:jX}(hl:Ev Γ σ l (.obj (Ez Γ.prog Γ.w ps)))(hr:Ev Γ σ r (.py (.int i)))(h:ps.lookup i=some x)
 (hs:autoParam (∀o x,subscripted r false o x=th [o,x] (getItem o x)) aI):Ev Γ σ (.Subscript l r pos) (.py (.str x)):=by
 intro O s Q E t q
 refine ua (hl O s _ E t λu s1 t1 k1 r1=>hr O s1 _ E t1 λy s2 t2 k2 r2=>?_)
 refine C9 (r1.kept k2) λa o zz1 ho zz2 _ _=>?_;obtain rfl:=zz1;obtain⟨kvs,hd,hv⟩:=zz2
 obtain⟨ty,rfl⟩:=r2.int_inv
 have hdo:s2.heap.DictOf (intKind Γ.prog Γ.w) a kvs:=pg.mpr (Ac o ho hd)
 obtain⟨t',ht'⟩:=hv.at h
 exact vA hdo.typeIs slot_dict_getitem.lookup (wpAny_getItem_of (uM _ _ i ty) hdo.mapOf ht' (q _ _ (t2.keeps λ_ _ e=>e) (Keeps.tr (Keeps.tr k1 k2) Keeps.rfl') (VR.str ..))) (hs _ _)
end
noncomputable abbrev pw:lD:=jM
noncomputable def stm (i:Nat):l9:=(pw.main.body[i]?).getD (.Pass ⟨0,0,0,0⟩)
noncomputable def PA:l9->jX
 | .FunctionDef n ..=>n
 | _=>""
noncomputable def GS:l9->Arguments
 | .FunctionDef _ a ..=>a
 | _=>default
noncomputable def Am:l9->List l9
 | .FunctionDef _ _ b ..=>b
 | _=>[]
noncomputable def Cm:l9->sX
 | .FunctionDef _ _ _ _ _ _ s ..=>s
 | _=>default
noncomputable def Az (i:Nat) (pm cd doc dv kdv:jB):nU:={docDef (PA (stm i)) (GS (stm i)) (Am (stm i)) (Cm (stm i)) pm cd doc with defaults:=dv,kwdefaults:=kdv}
structure Av (h:jY) (i:Nat) (a:jL) (dv kdv:jB):Prop where
 ex:∃o pm cd doc,h.get? a=some o/\o.data=.func (Az i pm cd doc dv kdv)/\h.CodeRec cd (PA (stm i))
theorem BM:∀{names:List (jX×vy)} {L L':Nat} {acc acc':List (jX×jL)},acc.map (·.1)=acc'.map (·.1)->(cellsFrom L names acc).map (·.1)=(cellsFrom L' names acc').map (·.1)
 | [],_,_,_,_,h=>h
 | (name,kind)::r,L,L',acc,acc',h=>by
  unfold cellsFrom
  split
  ·exact BM (by rw[kM,kM,h])
  ·exact BM h
theorem D0:∀{l:List (jX×jL)} {x:jX},(l.lookup x).isSome=(l.map (·.1)).contains x
 | [],_=>rfl
 | (n,c)::r,x=>by
  rw[q9,kM,List.contains_cons]
  cases h:x == n with
  | true=>simp
  | false=>simpa using D0
noncomputable def Uk (s:l9) (ps ns:List jX):Bool:=
 ps.all (λx=>(Cm s).names.lookup x == some .local || ((Cm s).names.lookup x == some .cell&&((cellsFrom 0 (Cm s).names []).map (·.1)).contains x))&&!(Cm s).isCoroutine&&!(Cm s).isGenerator&&(Cm s).kind == .function&&
 ps.isPrefixOf ns&&decide ns.Nodup&&!ns.contains ""&&decide ((cellsFrom 0 (Cm s).names []).map (·.1)).Nodup
theorem Bf.of{i:Nat}{pm cd doc dv kdv:jB}{ps ns:List jX}(h:Uk (stm i) ps ns=true):Bf (Az i pm cd doc dv kdv) (Am (stm i)) ps ns:=by
 delta i pm cd doc dv kdv ps ns at h
 simp only[Uk,kJ,oM,decide_eq_true_eq] at h
 obtain⟨⟨⟨⟨⟨⟨⟨h1,h2⟩,h3⟩,h4⟩,h5⟩,h6⟩,h7⟩,h8⟩:=h
 refine⟨rfl,rfl,λx hx=>?_,h2,h3,beq_iff_eq.mp h4,?_,h6,λhm=>?_,λL=>?_⟩
 ·have:=ky.mp h1 x hx
  simp only[rN,kJ,beq_iff_eq] at this
  rcases this with h|⟨h,h'⟩
  ·exact .inl h
  ·refine .inr ⟨h,λL=>?_⟩
   rw[D0,BM (L':=0) (acc':=[]) rfl];exact h'
 ·obtain⟨r,hr⟩:=uH.mp h5
  exact Ag r hr.symm
 ·have:ns.contains ("":jX)=true:=rQ.mpr hm
  rw[this] at h7;exact lK h7
 ·rw[BM (L':=0) (acc':=[]) rfl];exact h8
noncomputable def RE:List jX:=["range","len","sum","bytes","chr","min","sorted","enumerate","str","type","bytearray","bool","int","list","map","set","tuple","repr"]
structure Br (mg mb:jX->Option jB) (h:jY):Prop where
 gl:Gl mg mb h
 none:∀x∈RE,mg x=none
section
variable {Γ:Cx} {σ:AX} {pos:mf} {mg mb:jX->Option jB} {xG:jY}
theorem A1{x:jX}{v:jB}(T:Br mg mb xG)(hk:HK xG Γ.s₀)(hg:autoParam (Γ.env.globals=mN) aR)(hb:autoParam (Γ.env.builtins=builtinsNs) aR)(hx:autoParam (x∈RE) aD)(hv:autoParam (wu x=some v) aD)(hn:autoParam (x≠"__name__") aD)(hkd:autoParam (Γ.env.scope.kind=.function) aR)(hxk:autoParam (Γ.env.kindOf x=some .globalImplicit) aR)
 (hd:autoParam ((x == ("__debug__":jX))=false) aD):Ev Γ σ (.Name x pos) (.raw v):=
 Ro (T.gl.keeps hk) hg hb (T.none x hx) hv hn hkd hxk hd
theorem BU{x:jX}{v:jB}(T:Br mg mb xG)(hk:HK xG Γ.s₀)(h:mg x=some v)(hg:autoParam (Γ.env.globals=mN) aR)(hkd:autoParam (Γ.env.scope.kind=.function) aR)(hxk:autoParam (Γ.env.kindOf x=some .globalImplicit) aR)
 (hd:autoParam ((x == ("__debug__":jX))=false) aD):Ev Γ σ (.Name x pos) (.raw v):=
 Ve (T.gl.keeps hk) hg h hkd hxk hd
end
theorem Ea{w:jW}{xG:jY}{n:Nat}{i:Nat}{a:jL}{ps ns:List jX}{avs:List AV}{dv kdv:jB}{r:AV}(FO:Av xG i a dv kdv)(X:∀pm cd doc,Bf (Az i pm cd doc dv kdv) (Am (stm i)) ps ns)(hlim:xG.NoLimit)(hlen:avs.length=ps.length)
 (hbind:∀pm cd doc vs,vs.length=ps.length->l3 (Az i pm cd doc dv kdv) ⟨vs,[]⟩=pure (ps.zip vs))
 (hB:∀pm cd doc A s O,HK xG s->Nm (Dx pw w A s (Az i pm cd doc dv kdv) a ns O)->A0 (A.deeper (callEnvC (Az i pm cd doc dv kdv) s.heap.objs.size a)) n->Ex (Dx pw w A s (Az i pm cd doc dv kdv) a ns O) (Bi avs (ns.length-ps.length)) (Am (stm i)) (λaf _=>af=.ret r)):Fn pw w xG (n+1) (.ref a) [] avs [] r:=by
 refine E7 FO.ex λo pm cd doc ho hd hcd=>?_
 exact I3 (X pm cd doc) ho hd hlim hcd hlen (λs vs _ hl=>.of_eq (hbind pm cd doc vs hl)) (hB pm cd doc)
theorem Pe{α:Type}{n:Nat}{vs:List α}(h:vs.length=n+1):∃v ws,vs=v::ws/\ws.length=n:=by
 cases vs with
 | nil=>exact nomatch h
 | cons v ws=>exact AT v ws rfl (qW h)
theorem GF{α:Type}{vs:List α}(h:vs.length=1):∃v,vs=[v]:=
 Ao (Pe h) λv ws e h=>Ag v (e.trans (congrArg _ (p8 h)))
theorem Yx{α:Type}{vs:List α}(h:vs.length=3):∃v u x,vs=[v,u,x]:=
 Ao (Pe h) λv ws e h=>Ao (Pe h) λu ws e2 h=>AR (GF h) λx e3=>Jd v u x (e.trans (congrArg _ (e2.trans (congrArg _ e3))))
theorem Yw{α:Type}{vs:List α}(h:vs.length=4):∃v u x y,vs=[v,u,x,y]:=
 Ao (Pe h) λv ws e h=>FN (Yx h) λu x y e3=>EH v u x y (e.trans (congrArg _ e3))
theorem EF{α:Type}(ds:List α)(a n:Nat):((kd n).map (a+·)).filterMap (ds[·]?)=(ds.drop a).take n:=by
 induction n generalizing a with
 | zero=>simp
 | succ n ih=>
  rw[rK,kz,List.filterMap_append,ih,kN]
  congr 1
  cases h:ds[a+n]? with
  | none=>simp[h,qL]
  | some d=>simp[h,qL]
theorem iU(k n:Nat):max 0 (min (k:Int) (n:Int))=((min k n:Nat):Int):=by
 rcases Nat.le_total k n with h|h
 ·rw[uB h,xF (tG.mpr h)];exact xn (oC _)
 ·rw[xi h,xm (tG.mpr h)];exact xn (oC _)
theorem UQ(ds:List jO)(k:Nat):F5 ds none (some k) none=ds.take k:=by
 unfold F5
 have e:sliceBounds none (some (k:Int)) none ds.length=(((0:Nat):Int),((min k ds.length:Nat):Int),1):=by
  simp only[sliceBounds,wj,show(1:Int)>0 by decide,if_true]
  have h:¬((k:Int)<0):=by rwa[]
  simp only[h,if_false]
  rw[iU];rfl
 rw[e]
 simp only[sliceRange_one]
 rw[EF]
 simp only[xC,vE]
 rw[<-List.take_take,lz]
theorem Kp(ds:List jO)(k:Nat):F5 ds (some k) none none=ds.drop k:=by
 unfold F5
 have e:sliceBounds (some (k:Int)) none none ds.length=(((min k ds.length:Nat):Int),((ds.length:Nat):Int),1):=by
  simp only[sliceBounds,wj,show(1:Int)>0 by decide,if_true]
  have h:¬((k:Int)<0):=by rwa[]
  simp only[h,if_false]
  rw[iU]
 rw[e]
 simp only[sliceRange_one]
 rw[EF]
 by_cases h:k<=ds.length
 ·rw[uB h,rq (by rw[rf];rwa[])]
 ·rw[xi (by rwa[h]),List.drop_eq_nil_of_le (as:=ds) (i:=k) (by rwa[h]),List.drop_length,List.take_nil]
noncomputable def NW (t:Int):Int:=(oK (2^(t.fmod 24).toNat) (2^((t.fdiv 24).fmod 24).toNat)).fmod 65536
noncomputable def Co (few:List Int) (k:Nat):Int×Int:=((few.getD (2*k) 0).fmod 65536,if 2*(k:Int)+1<few.length then few.getD (2*k+1) 0 else 0)
noncomputable def Dr (few:List Int) (n:Nat):List Int:=33188::(kd n).map λk=>(Co few k).1
noncomputable def CK (few:List Int) (n:Nat):List Int:=33261::(kd n).map λk=>oK (Co few k).1 (NW (Co few k).2)
noncomputable def HO (script:List Int):Nat:=((script.take 4).length+1)/2
noncomputable def Bs (script:List Int):List Int×List Int:=
 let l:=Dr (script.take 4) (HO script)
 let r:=CK (script.take 4) (HO script)
 let rest:=script.sum.fmod 8
 if rest=1 then(l.drop 1,r) else if rest=2 then(l,r.drop 1) else if rest=3 then([],r) else if rest=4 then(l,[]) else if rest=5 then(l,r.reverse) else(l,r)
noncomputable def Cr (l:List Int):jO:=.list (l.map .int)
theorem Wp(ds:List jO)(h:ds.length<=3):F5 ds none none (some (-1))=ds.reverse:=by
 have key:∀(n:Nat) (is:List Nat),(sliceRange (sliceBounds none none (some (-1)) n).1 (sliceBounds none none (some (-1)) n).2.1 (sliceBounds none none (some (-1)) n).2.2)=is->ds.length=n->F5 ds none none (some (-1))=is.filterMap (ds[·]?):=by
  intro n is h1 h2
  unfold F5
  rw[h2,h1]
 cases ds with
 | nil=>exact key 0 [] (by decide +kernel) rfl
 | cons a ds=>cases ds with
  | nil=>exact key 1 [0] (by decide +kernel) rfl
  | cons b ds=>cases ds with
   | nil=>exact key 2 [1,0] (by decide +kernel) rfl
   | cons c ds=>cases ds with
    | nil=>exact key 3 [2,1,0] (by decide +kernel) rfl
    | cons d ds=>exact absurd (show ds.length+4<=3 from h) (by rwa[])
noncomputable def aa:List jX:=["script","left","right","few","k","mode","turn","rest"]
theorem gk(pm cd doc dv kdv:jB):Bf (Az 41 pm cd doc dv kdv) (Am (stm 41)) ["script"] aa:=.of (by decide +kernel)
theorem T8{l:List Int}{i:Nat}(h:i<l.length):(l.map lX)[i]?=some (.int (l.getD i 0)):=by
 rw[j8,jP h]
 simp[h]
theorem UP{prog:lD}{w:jW}{A:kA}{s:jE}{O:Ap}{a:jL}{mg mb:jX->Option jB}{xG:jY}{pm cd doc dv kdv:jB}(T:Br mg mb xG)(hk:HK xG s)(script:List Int)(hs:script.length<=63)
 (N:Nm (Dx prog w A s (Az 41 pm cd doc dv kdv) a aa O))(room:A0 (A.deeper (callEnvC (Az 41 pm cd doc dv kdv) s.heap.objs.size a)) 0) :
 Ex (Dx prog w A s (Az 41 pm cd doc dv kdv) a aa O) (Bi [.py (Cr script)] 7) (Am (stm 41)) (λaf _=>af=.ret (.py (.tuple [Cr (Bs script).1,Cr (Bs script).2]))):=by
 delta prog w A s O a mg mb xG pm cd doc dv kdv script at T hk hs N room
 have hh:=room.handled
 refine Ad (Gn N 1 (CH (Ab Ai Ah) (ds:=[.int 33188]) (by decide)) ?_)
 refine Ad (Gn N 2 (CH (Ab Ai Ah) (ds:=[.int 33261]) (by decide)) ?_)
 refine Ad (At N 3 (Be (Hh (Aa 0) E9 (GM Ai) (by rw[jI];rwa[hs]))) ?_)
 rw[show(4:Int)=((4:Nat):Int) from rfl,UQ,<-List.map_take]
 generalize hf:script.take 4=few
 have hfl:few.length<=4:=by rw[<-hf,lm];rwa[]
 have hsum:∃z,z=script.sum.fmod 8:=Ag _ rfl
 have hlen:(AN 0 ((few.map lX).length:Nat) 2).length=(few.length+1)/2:=by
  simp only[AN,jI,lG]
  unfold kG
  simp only[show(2:Int)>0 by decide,if_true]
  split<;>(rename_i z0;rwa[z0])
 refine Ad (EO N (F9 N hh (A1 T hk) Ai (Ds (A1 T hk) (Aa 3) rfl (by rw[jI];rwa[hfl])) Ai ?_ (by decide) (by decide))
  (λi σ=>∃x y z,σ=[some (.val (.py (Cr script))),some (.own ((Dr few i).map .int)),some (.own ((CK few i).map .int)),some (.val (.py (Cr few))),x,y,z,none]) (Jd none none none rfl) ?_ ?_)
 ·rw[jI]
  have:few.length=0\/few.length=1\/few.length=2\/few.length=3\/few.length=4:=by rwa[hfl]
  rcases this with h|h|h|h|h<;>rw[h]<;>decide +kernel
 ·intro i d σ1 hd zz1;refine FN zz1 λx y z zz2=>?_;clear zz1;obtain rfl:=zz2
  have hi:i<(few.length+1)/2:=by rw[<-hlen];exact(jK.mp hd).1
  obtain rfl:d=.int (0+(i:Nat)*2):=by
   simp only[AN,j8] at hd
   refine Af (j6.mp hd) λj h1 h2=>?_
   obtain⟨_,h1⟩:=jK.mp h1
   rw[pk] at h1
   subst h1;exact h2.symm
  have hn:((0:Int)+(i:Nat)*2).toNat=2*i:=by rwa[]
  have hn1:((0:Int)+(i:Nat)*2+1).toNat=2*i+1:=by rwa[]
  refine Ac _ (BH N 4) ?_
  refine Ad (At N 5 (CB (Ay (d:=.int (few.getD (2*i) 0)) (Aa 3) (Aa 4) (by rwa[]) (by rwa[hfl,hi]) (by rw[hn];exact T8 (by rwa[hi]))) Ai (by decide)) ?_)
  refine Ad (At N 6 (a:=.py (.int (Co few i).2)) (I8 (An (c:=decide (0+(i:Int)*2+1<few.length)) (Bl (Aa 4) Ai) (Ds (A1 T hk) (Aa 3) rfl (by rw[jI];rwa[hfl])) (by rw[jI];rfl)) (λh=>?_) (λh=>?_)) ?_)
  ·have h:=of_decide_eq_true h
   refine Ev.cast (Ay (d:=.int (few.getD (2*i+1) 0)) (Aa 3) (Bl (Aa 4) Ai) (by rwa[]) (by rwa[hfl,hi]) (by rw[hn1];exact T8 (by rwa[h]))) ?_
   unfold Co
   rw[if_pos (by rwa[h])]
  ·have h:=of_decide_eq_false h
   refine Ev.cast Ai ?_
   unfold Co
   rw[if_neg (by rwa[h])]
  refine Ad (AO N 1 (Aa 5) ?_ ?_)
  ·simp only[Dr,jI,j7,lG];rwa[hfl,hi]
  have pw24:∀k:Int,0<=k.fmod 24/\k.fmod 24<=1000:=λk=>by
   have h1:=kK k (b:=24) (by decide)
   have h2:=lh k (b:=24) (by decide)
   rwa[h1,h2]
  refine Ad (AO N 2 (W6 (Aa 5) (CB (W6 (Gc Ai (CB (Aa 6) Ai (by decide)) (pw24 _).1 (pw24 _).2 (by decide)) (Gc Ai (CB (Dz (Aa 6) Ai (by decide) (by decide)) Ai (by decide)) (pw24 _).1 (pw24 _).2 (by decide))) Ai (by decide))) ?_ ?_)
  ·simp only[CK,jI,j7,lG];rwa[hfl,hi]
  refine Aj (Jd (some (.val (.py (.int (0+(i:Nat)*2))))) (some (.val (.py (.int ((few.getD (2*i) 0).fmod 65536))))) (some (.val (.py (.int (Co few i).2)))) ?_)
  show [_,some (Bd.own ((Dr few i).map lX++[_])),some (Bd.own ((CK few i).map lX++[_])),_,_,_,_,_]=_
  have e1:(Dr few i).map lX++[lX ((few.getD (2*i) 0).fmod 65536)]=(Dr few (i+1)).map lX:=by
   simp[Dr,rK,Co]
  have e2:(CK few i).map lX++[lX (oK ((few.getD (2*i) 0).fmod 65536) (NW (Co few i).2))]=(CK few (i+1)).map lX:=by
   simp[CK,rK,Co]
  rw[<-e1,<-e2]
  rfl
 ·intro σ1 zz1;refine FN zz1 λx y z zz2=>?_;clear zz1;obtain rfl:=zz2
  rw[hlen]
  refine Aj ?_
  refine Ct N 1 (Ct N 2 ?_)
  refine Ad (At N 7 (CB (az hh (A1 T hk) (Aa 0)) Ai (by decide)) ?_)
  have hN:HO script=(few.length+1)/2:=by rw[HO,hf]
  have hN2:(few.length+1)/2<=2:=by rwa[hfl]
  have hl:Bs script=(let l:=Dr few ((few.length+1)/2);let r:=CK few ((few.length+1)/2);let rest:=script.sum.fmod 8
   if rest=1 then(l.drop 1,r) else if rest=2 then(l,r.drop 1) else if rest=3 then([],r) else if rest=4 then(l,[]) else if rest=5 then(l,r.reverse) else(l,r)):=by
   unfold Bs;rw[hN,hf]
  generalize hL:Dr few ((few.length+1)/2)=L at hl
  generalize hR:CK few ((few.length+1)/2)=R at hl
  have hLl:L.length<=3:=by rw[<-hL];simp[Dr];rwa[hfl]
  have hRl:R.length<=3:=by rw[<-hR];simp[CK];rwa[hfl]
  generalize hrest:script.sum.fmod 8=rest at hl
  dsimp only at hl
  refine Ad (BI (b:=decide (rest=1)) (An (Aa 7) Ai) (λh=>?_) (λh=>Aj ?_))
  ·refine Ad (AQ (Au (ds:=[_,_]) (Ab (Be (Hh (Aa 1) (GM Ai) E9 (by rw[jI];rwa[hLl]))) (Ab (Aa 2) Ah)) (jT rfl)) ?_)
   rw[hl,if_pos (of_decide_eq_true h),show(1:Int)=((1:Nat):Int) from rfl,Kp,<-List.map_drop]
   rfl
  have h1:=of_decide_eq_false h
  refine Ad (BI (b:=decide (rest=2)) (An (Aa 7) Ai) (λh=>?_) (λh=>Aj ?_))
  ·refine Ad (AQ (Au (ds:=[_,_]) (Ab (Aa 1) (Ab (Be (Hh (Aa 2) (GM Ai) E9 (by rw[jI];rwa[hRl]))) Ah)) (jT rfl)) ?_)
   rw[hl,if_neg h1,if_pos (of_decide_eq_true h),show(1:Int)=((1:Nat):Int) from rfl,Kp,<-List.map_drop]
   rfl
  have h2:=of_decide_eq_false h
  refine Ad (BI (b:=decide (rest=3)) (An (Aa 7) Ai) (λh=>?_) (λh=>Aj ?_))
  ·refine Ad (AQ (Au (ds:=[_,_]) (Ab (Dy (ds:=[]) Ah (by decide)) (Ab (Aa 2) Ah)) (jT rfl)) ?_)
   rw[hl,if_neg h1,if_neg h2,if_pos (of_decide_eq_true h)]
   rfl
  have h3:=of_decide_eq_false h
  refine Ad (BI (b:=decide (rest=4)) (An (Aa 7) Ai) (λh=>?_) (λh=>Aj ?_))
  ·refine Ad (AQ (Au (ds:=[_,_]) (Ab (Aa 1) (Ab (Dy (ds:=[]) Ah (by decide)) Ah)) (jT rfl)) ?_)
   rw[hl,if_neg h1,if_neg h2,if_neg h3,if_pos (of_decide_eq_true h)]
   rfl
  have h4:=of_decide_eq_false h
  refine Ad (BI (b:=decide (rest=5)) (An (Aa 7) Ai) (λh=>?_) (λh=>Aj ?_))
  ·refine Ad (AQ (Au (ds:=[_,_]) (Ab (Aa 1) (Ab (Be (Rm (Aa 2) E9 E9 (Hk Ai) (by decide) (by rw[jI];rwa[hRl]))) Ah)) (jT rfl)) ?_)
   rw[hl,if_neg h1,if_neg h2,if_neg h3,if_neg h4,if_pos (of_decide_eq_true h),Wp _ (by rw[jI];exact hRl),<-List.map_reverse]
   rfl
  have h5:=of_decide_eq_false h
  refine Ad (AQ (Au (ds:=[_,_]) (Ab (Aa 1) (Ab (Aa 2) Ah)) (jT rfl)) ?_)
  rw[hl,if_neg h1,if_neg h2,if_neg h3,if_neg h4,if_neg h5]
  rfl
theorem bf(pm cd doc v:jB):l3 (Az 41 pm cd doc .none .none) ⟨[v],[]⟩=pure [((jz "script"),v)]:=by rfl
theorem Yc{w:jW}{xG:jY}{a:jL}{mg mb:jX->Option jB}(T:Br mg mb xG)(FO:Av xG 41 a .none .none)(script:List Int)(hs:script.length<=63) :
 Fn pw w xG 1 (.ref a) [] [.py (Cr script)] [] (.py (.tuple [Cr (Bs script).1,Cr (Bs script).2])):=
 Ea FO (λpm cd doc=>gk pm cd doc _ _) T.gl.nolimit rfl (λpm cd doc vs h=>by obtain⟨v,rfl⟩:=GF h;exact bf pm cd doc v) (λpm cd doc A s O hk N room=>UP T hk script hs N room)
noncomputable def Z9:List jX:=["row","octets","mode"]
theorem gj(pm cd doc dv kdv:jB):Bf (Az 42 pm cd doc dv kdv) (Am (stm 42)) ["row"] Z9:=.of (by decide +kernel)
noncomputable def AD (row:List Int):List Int:=row.flatMap λm=>[m.fdiv 256,m.fmod 256]
theorem J0{row:List Int}{i:Nat}{m:Int}(h:row[i]?=some m):AD (row.take (i+1))=AD (row.take i)++[m.fdiv 256]++[m.fmod 256]:=by
 rw[AD,kN,h]
 simp[AD]
theorem CL(row:List Int):(AD row).length=2*row.length:=by
 induction row with
 | nil=>rfl
 | cons m r ih=>simp only[AD,lq,jZ,j7,ln] at *;rwa[ih]
theorem Fr{row:List Int}{i:Nat}{d:jO}(hd:(row.map lX)[i]?=some d):∃m,row[i]?=some m/\d=.int m:=by
 rw[j8] at hd
 refine Af (j6.mp hd) λm h1 h2=>?_
 exact Ac m h1 h2.symm
theorem O4{prog:lD}{w:jW}{A:kA}{s:jE}{O:Ap}{a:jL}{mg mb:jX->Option jB}{xG:jY}{pm cd doc dv kdv:jB}(T:Br mg mb xG)(hk:HK xG s)(row:List Int)(hr:row.length<=63)(hb:∀m∈row,0<=m/\m<65536)
 (N:Nm (Dx prog w A s (Az 42 pm cd doc dv kdv) a Z9 O))(room:A0 (A.deeper (callEnvC (Az 42 pm cd doc dv kdv) s.heap.objs.size a)) 0) :
 Ex (Dx prog w A s (Az 42 pm cd doc dv kdv) a Z9 O) (Bi [.py (Cr row)] 2) (Am (stm 42)) (λaf _=>af=.ret (.by (byteArr (AD row)))):=by
 refine Ad (Gn N 1 (CH Ah (ds:=[]) (by decide)) ?_)
 refine Ad (EO N (C3 N room.handled (Aa 0)) (λi σ=>∃z,σ=[some (.val (.py (Cr row))),some (.own ((AD (row.take i)).map .int)),z]) (Ag _ rfl) ?_ ?_)
 ·rintro i d σ1 hd ⟨z,rfl⟩
  refine Af (Fr hd) λm hm zz1=>?_;obtain rfl:=zz1
  have hi:i<row.length:=(jK.mp hm).1
  have hz:(AD (row.take i)).length<=200:=by rw[CL,lm];rwa[hr,hi]
  refine Ac _ (BH N 2) ?_
  refine Ad (AO N 1 (Dz (Aa 2) Ai (by decide) (by decide)) ?_ ?_)
  ·rw[jI];rwa[hz]
  refine Ad (AO N 1 (CB (Aa 2) Ai (by decide)) ?_ ?_)
  ·rw[jZ,jI];simp only[j7,ln];rwa[hz]
  refine Aj (Ag (some (.val (.py (.int m)))) ?_)
  rw[J0 hm,kz,kz]
  rfl
 ·rintro σ1 ⟨z,rfl⟩
  rw[jI,lz]
  refine Aj (Ct N 1 ?_)
  refine Ad (AQ (Ps room.handled (A1 T hk) (Aa 1) ?_ ?_) rfl)
  ·intro n hn
   refine Af (lr.mp hn) λm hm hn=>?_
   have:=hb m hm
   rcases jG.mp hn with rfl|hn
   ·rw[kC _ (by decide)];rwa[this]
   ·obtain rfl:=jH.mp hn
    rw[kQ _ (by decide)];rwa[]
  ·rw[CL];rwa[hr]
theorem be(pm cd doc v:jB):l3 (Az 42 pm cd doc .none .none) ⟨[v],[]⟩=pure [((jz "row"),v)]:=by rfl
theorem US{w:jW}{xG:jY}{a:jL}{mg mb:jX->Option jB}(T:Br mg mb xG)(FO:Av xG 42 a .none .none)(row:List Int)(hr:row.length<=63)(hb:∀m∈row,0<=m/\m<65536) :
 Fn pw w xG 1 (.ref a) [] [.py (Cr row)] [] (.by (byteArr (AD row))):=
 Ea FO (λpm cd doc=>gj pm cd doc _ _) T.gl.nolimit rfl (λpm cd doc vs h=>by obtain⟨v,rfl⟩:=GF h;exact be pm cd doc v) (λpm cd doc A s O hk N room=>O4 T hk row hr hb N room)
noncomputable def Z8:List jX:=["octets"]
theorem gi(pm cd doc dv kdv:jB):Bf (Az 43 pm cd doc dv kdv) (Am (stm 43)) ["octets"] Z8:=.of (by decide +kernel)
noncomputable def V0 (b:List Nat):jX:=⟨b.toArray⟩
theorem UE{prog:lD}{w:jW}{A:kA}{s:jE}{O:Ap}{a:jL}{mg mb:jX->Option jB}{xG:jY}{pm cd doc dv kdv:jB}(T:Br mg mb xG)(hk:HK xG s)(b:Array UInt8)(hb:b.size<=1000)
 (N:Nm (Dx prog w A s (Az 43 pm cd doc dv kdv) a Z8 O))(room:A0 (A.deeper (callEnvC (Az 43 pm cd doc dv kdv) s.heap.objs.size a)) 0) :
 Ex (Dx prog w A s (Az 43 pm cd doc dv kdv) a Z8 O) (Bi [.by b] 0) (Am (stm 43)) (λaf _=>af=.ret (.py (.str (mE "" (b.toList.map λc=>⟨#[c.toNat]⟩))))):=by
 refine Ad (AQ (GO (Be (ds:=(b.toList.map λc=>(⟨#[c.toNat]⟩:jX)).map .str) (C4 N (ns:=["octet"]) (BS.none (by decide +kernel) rfl) (Ky N room.handled (Aa 0)) ?_ ?_ ?_)) (by decide) ?_) rfl)
 ·simp[DK]
 ·simpa using kL hb (by decide)
 ·intro C hC N' i d hd
  simp only[DK,j8,oH] at hd
  refine Af (j6.mp hd) λc h1 zz1=>?_;obtain rfl:=zz1
  refine C6 _ (.str ⟨#[c.toNat]⟩) (by simp[h1]) Le.none (BH N' 0) ?_
  have hc:=c.toNat_lt
  exact aF (n:=c.toNat) (A1 T hk) (Aa 0) (by rwa[]) (by rwa[hc])
 ·have e:qK (sW∘λc:UInt8=>(⟨#[c.toNat]⟩:jX)) b.toList=b.toList.map λ_=>1:=lS λc _=>rfl
  rw[ms,jI,e,show(b.toList.map λ_=>1)=kW b.toList.length 1 from rL ..,m9]
  have:b.toList.length=b.size:=by simp
  rwa[hb,this]
theorem bd(pm cd doc v:jB):l3 (Az 43 pm cd doc .none .none) ⟨[v],[]⟩=pure [((jz "octets"),v)]:=by rfl
theorem TJ{w:jW}{xG:jY}{a:jL}{mg mb:jX->Option jB}(T:Br mg mb xG)(FO:Av xG 43 a .none .none)(b:Array UInt8)(hb:b.size<=1000) :
 Fn pw w xG 1 (.ref a) [] [.by b] [] (.py (.str (mE "" (b.toList.map λc=>⟨#[c.toNat]⟩)))):=
 Ea FO (λpm cd doc=>gi pm cd doc _ _) T.gl.nolimit rfl (λpm cd doc vs h=>by obtain⟨v,rfl⟩:=GF h;exact bd pm cd doc v) (λpm cd doc A s O hk N room=>UE T hk b hb N room)
theorem iw{α:Type}{a0 a1:α}{P:Nat->α->Prop}(h0:P 0 a0)(h1:P 1 a1):∀(i:Nat) (d:α),[a0,a1][i]?=some d->P i d
 | 0,_,e=>si e▸h0
 | 1,_,e=>si e▸h1
theorem iZ{α:Type}{a0 a1 a2:α}{P:Nat->α->Prop}(h0:P 0 a0)(h1:P 1 a1)(h2:P 2 a2):∀(i:Nat) (d:α),[a0,a1,a2][i]?=some d->P i d
 | 0,_,e=>si e▸h0
 | i+1,d,e=>iw (P:=λi d=>P (i+1) d) h1 h2 i d e
theorem fC{α β:Type}{a1 a2:α}{b1 b2:β}{P:Nat->α->β->Prop}(h1:P 0 a1 b1)(h2:P 1 a2 b2):∀(i:Nat) (x:α) (b:β),[a1,a2][i]?=some x->[some b1,some b2][i]?=some (some b)->P i x b:=by
 intro i x b e
 refine iw (P:=λi x=>[some b1,some b2][i]?=some (some b)->P i x b) (λe=>?_) (λe=>?_) i x e
 ·rw[<-si (si e)];exact h1
 ·rw[<-si (si e)];exact h2
theorem sn{α β:Type}{a0:α}{as:List α}{bs:List (Option β)}{P:Nat->α->β->Prop}(h:∀(i:Nat) (x:α) (b:β),as[i]?=some x->bs[i]?=some (some b)->P (i+1) x b):∀(i:Nat) (x:α) (b:β),(a0::as)[i]?=some x->(none::bs)[i]?=some (some b)->P i x b
 | 0,_,_,_,e=>B6 (si e)
 | i+1,x,b,e,e'=>h i x b e e'
theorem sc{α β:Type}{a0:α}{b0:β}{as:List α}{bs:List (Option β)}{P:Nat->α->β->Prop}(h0:P 0 a0 b0)(h:∀(i:Nat) (x:α) (b:β),as[i]?=some x->bs[i]?=some (some b)->P (i+1) x b):∀(i:Nat) (x:α) (b:β),(a0::as)[i]?=some x->(some b0::bs)[i]?=some (some b)->P i x b
 | 0,_,_,e,e'=>si e▸si (si e')▸h0
 | i+1,x,b,e,e'=>h i x b e e'
theorem ej{β:Type}{x:Option β}{l:List (Option β)}{b:β}:∀{j:Nat},(none::l)[j]?=some (some b)->(x::l)[j]?=some (some b)
 | 0,e=>B6 (si e)
 | _+1,e=>e
theorem iO{β:Type}{x y:Option β}{l:List (Option β)}{b:β}:∀{j:Nat},(none::none::l)[j]?=some (some b)->(x::y::l)[j]?=some (some b)
 | 0,e=>B6 (si e)
 | _+1,e=>ej (l:=l) e
noncomputable def Wt:List jX:=["row","size","signs","number","mode","wanting","count","told"]
theorem gh(pm cd doc dv kdv:jB):Bf (Az 44 pm cd doc dv kdv) (Am (stm 44)) ["row","size","signs"] Wt:=.of (by decide +kernel)
noncomputable def FH (row:List Int):Int:=row.foldl (λn m=>n*65536+m) 0
noncomputable def B3 (row:List Int) (size:Int):Int:=(-16*(row.length:Int)).fmod size
noncomputable def AC (row:List Int) (size:Int):Int:=(16*(row.length:Int)+B3 row size).fdiv size
noncomputable def Fv (row:List Int) (size k:Int):Int:=((FH row*2^(B3 row size).toNat).fdiv (2^(size*k).toNat)).fmod (2^size.toNat)
noncomputable def Cv (row:List Int) (size:Int) (signs:jX):List jX:=(kd (AC row size).toNat).map λi=>⟨#[signs.cps.getD (Fv row size (AC row size-1-(i:Nat))).toNat 0]⟩
noncomputable def Ff (row:List Int) (size:Int) (signs:jX):jX:=mE "" (Cv row size signs)++⟨(kW ((-AC row size).fmod 4).toNat (jz "=").cps).foldl (·++·) #[]⟩
theorem Bk{s:jE}{a:jL}(h:s.heap.objs.size<=a):s.heap.get? a=none:=gn λo e=>absurd (kq e) (pq.mpr h)
theorem Q6{row:List Int}{i:Nat}{m:Int}(h:row[i]?=some m):FH (row.take (i+1))=FH (row.take i)*65536+m:=by
 rw[FH,kN,h]
 simp[FH]
theorem OS{c:Int}(h0:0<=c):kG (c-1) (-1) (-1)=c:=by
 unfold kG
 simp only[show ¬((-1:Int)>0) by decide,if_false,Int.neg_neg,Int.ediv_one]
 split<;>omega
theorem UL{c:Int}(h0:0<=c)(h1:c<=1000):mz (c-1) (-1) (-1)=true:=by
 unfold mz
 rw[OS h0]
 simp only[sC,kJ,rN,decide_eq_true_eq,beq_iff_eq,show ¬((-1:Int)>0) by decide,if_false]
 rwa[h0,h1]
theorem Q0{a b c:Int}{i:Nat}{d:jO}(hd:(AN a b c)[i]?=some d):d=.int (a+(i:Nat)*c)/\i<(AN a b c).length:=by
 refine⟨?_,(jK.mp hd).1⟩
 simp only[AN,j8] at hd
 refine Af (j6.mp hd) λj h1 h2=>?_
 obtain⟨_,h1⟩:=jK.mp h1
 rw[pk] at h1
 subst h1;exact h2.symm
theorem HQ{c:Int}(h0:0<=c):(AN (c-1) (-1) (-1)).length=c.toNat:=by
 unfold AN
 rw[jI,lG,OS h0]
theorem jx{a b c:jX}{L:Nat}:List.Pairwise (λx y=>x.2≠y.2) ([(a,L+1),(b,L+1+1),(c,L+1+1+1)]:List (jX×jL)):=by
 have h1:L+1≠L+1+1:=by rwa[]
 have h2:L+1≠L+1+1+1:=by rwa[]
 have h3:L+1+1≠L+1+1+1:=by rwa[]
 refine .cons (λy hy=>?_) (.cons (λy hy=>?_) (.cons (λy hy=>nomatch hy) .nil))
 ·rcases jG.mp hy with rfl|hy
  ·exact h1
  ·obtain rfl:=jH.mp hy;exact h2
 ·obtain rfl:=jH.mp hy;exact h3
theorem Vt{prog:lD}{w:jW}{A:kA}{s:jE}{O:Ap}{a:jL}{mg mb:jX->Option jB}{xG:jY}{pm cd doc dv kdv:jB}(T:Br mg mb xG)(hk:HK xG s)(row:List Int)(hr:row.length<=3)(size:Int)(hs1:1<=size)(hs2:size<=8)(signs:jX)(hsg:signs.length=2^size.toNat)
 (N:Nm (Dx prog w A s (Az 44 pm cd doc dv kdv) a Wt O))(room:A0 (A.deeper (callEnvC (Az 44 pm cd doc dv kdv) s.heap.objs.size a)) 0) :
 Ex (Dx prog w A s (Az 44 pm cd doc dv kdv) a Wt O) (Bi [.py (Cr row),.py (.int size),.py (.str signs)] 5) (Am (stm 44)) (λaf _=>af=.ret (.py (.str (Ff row size signs)))):=by
 delta prog w A s O a mg mb xG pm cd doc dv kdv row size signs at T hk hr hs1 hs2 hsg N room
 have hh:=room.handled
 have hfr:s.heap.get? (s.heap.objs.size+1+1+1)=none:=Bk (by rwa[])
 have hcn:(Dx prog w A s (Az 44 pm cd doc dv kdv) a Wt O).env.cells.lookup (jz "number")=some (s.heap.objs.size+1+1+1):=by kernel_rfl
 refine Ad (CP N 3 Ai ?_ hcn hfr)
 refine Ad (EO N (C3 N hh (Aa 0)) (λi σ=>∃z,σ=[some (.val (.py (Cr row))),some (.val (.py (.int size))),some (.val (.py (.str signs))),some (.val (.py (.int (FH (row.take i))))),z,none,none,none]) (Ag _ rfl) ?_ ?_)
 ·rintro i d σ1 hd ⟨z,rfl⟩
  refine Af (Fr hd) λm hm zz1=>?_;obtain rfl:=zz1
  refine Ac _ (BH N 4) ?_
  refine Ad (CP N 3 (Bl (Gd (Aa 3) Ai (.inl (by decide))) (Aa 4)) ?_ hcn hfr)
  refine Aj (Ag (some (.val (.py (.int m)))) ?_)
  rw[Q6 hm]
  rfl
 ·rintro σ1 ⟨z,rfl⟩
  rw[jI,lz]
  refine Aj ?_
  have hlen:IX (.py (Cr row))=some row.length:=by simp[IX,Cr]
  refine Ad (At N 5 (a:=.py (.int (B3 row size))) (CB (Gd (Hk Ai) (Ds (A1 T hk) (Aa 0) hlen (by rwa[hr])) (.inr (by decide))) (Aa 1) (by rwa[hs1,hs2])) ?_)
  refine Ad (At N 6 (a:=.py (.int (AC row size))) (Dz (Bl (Gd Ai (Ds (A1 T hk) (Aa 0) hlen (by rwa[hr])) (.inr (by decide))) (Aa 5)) (Aa 1) (by rwa[hs1,hs2]) (by(clear_value *;omega))) ?_)
  have hw:0<=B3 row size/\B3 row size<size:=by
   unfold B3
   exact⟨kK _ (by rwa[hs1,hs2]),lh _ (by rwa[hs1,hs2])⟩
  have hc:0<=AC row size/\AC row size<=56:=by
   unfold AC
   rw[kC _ (by rwa[hs1,hs2])]
   constructor
   ·exact qm (by rwa[hr,hw]) (by rwa[hs1,hs2])
   ·exact Int.ediv_le_of_le_mul (by rwa[hs1,hs2]) (by have:(56:Int)*1<=56*size:=ul hs1 (by rwa[]);rwa[hr,hw])
  refine Ad (CP N 3 (Gd (Aa 3) (Gc Ai (Aa 5) (by rwa[hw]) (by rwa[hs1,hs2,hw]) (by decide)) (.inl ?_)) ?_ hcn hfr)
  ·have:(2:Int)^(B3 row size).toNat<=2^8:=by
    exact_mod_cast nM (by decide) (show(B3 row size).toNat<=8 by rwa[hs1,hs2,hw])
   have h2:(0:Int)<=2^(B3 row size).toNat:=oV (by decide)
   (clear_value *;omega)
  refine Ad (Kj N (show jz ""∉Wt by decide +kernel) 7 (cl:=[(jz "size",s.heap.objs.size+1),(jz "signs",s.heap.objs.size+1+1),(jz "number",s.heap.objs.size+1+1+1)]) (ns:=["k","number","signs","size"])
   (σ0:=[none,some (.val (.py (.int (FH row*2^(B3 row size).toNat)))),some (.val (.py (.str signs))),some (.val (.py (.int size)))])
   (rs:=(Cv row size signs).map .str)
   (BS.of (by decide +kernel) rfl jx (show([jz "size",jz "signs",jz "number"]:List jX).Nodup by decide +kernel) ?_ ?_) (F9 N hh (A1 T hk) (Dd (Aa 6) Ai) (Hk Ai) (Hk Ai) ?_ (by decide) (by decide)) ?_ ?_ ?_ ?_)
  ·intro x c h
   rcases jG.mp h with e|h
   ·cases e;kernel_rfl
   ·rcases jG.mp h with e|h
    ·cases e;kernel_rfl
    ·obtain e:=jH.mp h
     cases e;kernel_rfl
  ·exact λC=>sn (sc (⟨3,_,s.heap.objs.size+1+1+1,rfl,rfl,rfl,by kernel_rfl,by kernel_rfl,by kernel_rfl,by kernel_rfl⟩) (fC (⟨2,_,s.heap.objs.size+1+1,rfl,rfl,rfl,by kernel_rfl,by kernel_rfl,by kernel_rfl,by kernel_rfl⟩) (⟨1,_,s.heap.objs.size+1,rfl,rfl,rfl,by kernel_rfl,by kernel_rfl,by kernel_rfl,by kernel_rfl⟩)))
  ·exact UL hc.1 (by rwa[hc])
  ·rw[HQ hc.1];simp[Cv]
  ·simp only[Cv,jI,lG];rwa[hc]
  ·intro C hC N' i d hd
   obtain⟨rfl,hi⟩:=Q0 hd
   rw[HQ hc.1] at hi
   have hx:AC row size-1+(i:Nat)*-1=AC row size-1-(i:Nat):=by rwa[]
   have hpow:∀n:Nat,n<=500->(2:Int)^n≠0:=λn _=>by
    have:(0:Int)<2^n:=sy (by decide)
    rwa[this]
   have hk0:0<=size*(AC row size-1+(i:Nat)*-1):=uW (by rwa[hs1,hs2]) (by rwa[hi])
   have hk1:size*(AC row size-1+(i:Nat)*-1)<=56:=by
    have h1:size*AC row size<=16*(row.length:Int)+B3 row size:=by
     unfold AC
     rw[kC _ (by rwa[hs1,hs2])]
     exact Int.mul_ediv_self_le (by rwa[hs1,hs2])
    have h2:size*(AC row size-1+(i:Nat)*-1)<=size*AC row size:=ul (by rwa[]) (by rwa[hs1,hs2])
    rwa[hr,hs1,hs2,hw,h1,h2]
   have hd0:0<=Fv row size (AC row size-1-(i:Nat)):=kK _ (sy (by decide))
   have hd1:Fv row size (AC row size-1-(i:Nat))<2^size.toNat:=lh _ (sy (by decide))
   have h8:(2:Int)^size.toNat<=2^8:=by exact_mod_cast nM (by decide) (show size.toNat<=8 by rwa[hs1,hs2])
   have hsg':((2:Int)^size.toNat).toNat=2^size.toNat:=by
    have:((2^size.toNat:Nat):Int)=(2:Int)^size.toNat:=by push_cast;rfl
    rwa[hsg,h8,this]
   refine C6 _ _ (by simp[Cv,hi];rfl) ?_ (BH N' 0) ?_
   ·exact λj b=>ej
   ·refine H3 (Aa 2) (Ev.cast (CB (Dz (Aa 1) (Gc Ai (Gd (Aa 3) (Aa 0) (.inr ?_)) hk0 (by rwa[hk0,hk1]) (by decide)) ?_ ?_) (Gc Ai (Aa 3) (by rwa[hs1,hs2]) (by rwa[hs1,hs2]) (by decide)) ?_) ?_) hd0 ?_ ?_
    ·(clear_value *;omega)
    ·exact hpow _ (by rwa[hk0,hk1])
    ·have h56:(2:Int)^(size*(AC row size-1+(i:Nat)*-1)).toNat<=2^56:=by exact_mod_cast nM (by decide) (show(size*(AC row size-1+(i:Nat)*-1)).toNat<=56 by rwa[hk0,hk1])
     have h0:(0:Int)<=2^(size*(AC row size-1+(i:Nat)*-1)).toNat:=oV (by decide)
     (clear_value *;omega)
    ·exact hpow _ (by rwa[hs1,hs2])
    ·rw[hx];rfl
    ·rwa[hd1,h8]
    ·rw[oX (by show _<signs.length;rw[hsg];rwa[hd0,hd1,h8,hsg'])]
     rfl
  ·refine Ct N 7 ?_
   refine Ad (AQ (Hn (GO (Aa 7) (by decide) ?_) (Vd BF (CB (Hk (Aa 6)) Ai (by decide)) ?_ ?_ rfl) ?_) rfl)
   ·simp only[Cv,ms,jI,lG]
    have e:qK (sW∘λi:Nat=>(⟨#[signs.cps.getD (Fv row size (AC row size-1-(i:Nat))).toNat 0]⟩:jX)) (kd (AC row size).toNat)=(kd (AC row size).toNat).map λ_=>1:=lS λc _=>rfl
    rw[e,show((kd (AC row size).toNat).map λ_=>1)=kW (kd (AC row size).toNat).length 1 from rL ..,m9,lG]
    rwa[hc]
   ·exact kK _ (by decide)
   ·exact rM (lh _ (by decide))
   ·rw[KT.join_ones _ (by
     intro x hx
     refine Af (kn.mp hx) λj _ zz1=>?_;obtain rfl:=zz1
     rfl)]
    simp only[Cv,jI,lG]
    have h0:=kK (-AC row size) (b:=4) (by decide)
    have h1:=lh (-AC row size) (b:=4) (by decide)
    have h2:(⟨(kW ((-AC row size).fmod 4).toNat (jz "=").cps).foldl (·++·) #[]⟩:jX).length<=4:=by
     have:((-AC row size).fmod 4)=0\/((-AC row size).fmod 4)=1\/((-AC row size).fmod 4)=2\/((-AC row size).fmod 4)=3:=by rwa[h0,h1]
     rcases this with h|h|h|h<;>rw[h]<;>decide
    rwa[hc,h2]
theorem bc(pm cd doc v u x:jB):l3 (Az 44 pm cd doc .none .none) ⟨[v,u,x],[]⟩=pure [((jz "row"),v),((jz "size"),u),((jz "signs"),x)]:=by rfl
theorem Ur{w:jW}{xG:jY}{a:jL}{mg mb:jX->Option jB}(T:Br mg mb xG)(FO:Av xG 44 a .none .none)(row:List Int)(hr:row.length<=3)(size:Int)(hs1:1<=size)(hs2:size<=8)(signs:jX)(hsg:signs.length=2^size.toNat) :
 Fn pw w xG 1 (.ref a) [] [.py (Cr row),.py (.int size),.py (.str signs)] [] (.py (.str (Ff row size signs))):=
 Ea FO (λpm cd doc=>gh pm cd doc _ _) T.gl.nolimit rfl (λpm cd doc vs h=>by refine FN (Yx h) λv u x zz1=>?_;obtain rfl:=zz1;exact bc pm cd doc v u x) (λpm cd doc A s O hk N room=>Vt T hk row hr size hs1 hs2 signs hsg N room)
noncomputable def Z7:List jX:=["row","told","mode","k","three","above"]
theorem gf(pm cd doc dv kdv:jB):Bf (Az 45 pm cd doc dv kdv) (Am (stm 45)) ["row"] Z7:=.of (by decide +kernel)
noncomputable def F1 (x:jX) (i:Int):jX:=⟨#[x.cps.getD i.toNat 0]⟩
noncomputable def BG (m k:Int):Int:=(m.fdiv (8^k.toNat)).fmod 8
noncomputable def DW (m k:Int):Int:=(m.fdiv (2^(9+k).toNat)).fmod 2
noncomputable def Cd (m k:Int):List jX:=[F1 "-r" ((BG m k).fdiv 4),F1 "-w" (((BG m k).fdiv 2).fmod 2),F1 (if k≠0 then "-xSs" else "-xTt") ((BG m k).fmod 2+2*DW m k)]
noncomputable def Cp (m:Int):List jX:=F1 "?pc?d?b?-?l?s???" (m.fdiv 4096)::([2,1,0].flatMap (Cd m))
noncomputable def AB (row:List Int):List jX:=row.flatMap Cp
theorem Dc(row:List Int):(AB row).length=10*row.length:=by
 induction row with
 | nil=>rfl
 | cons m r ih=>simp only[AB,lq,jZ,j7] at *;rw[ih];show 10+_=_;rwa[]
theorem Rg{m k:Int}{x:jX}(h:x∈Cd m k):x.length=1:=by
 simp only[Cd,jG,nY,or_false] at h
 rcases h with rfl|rfl|rfl<;>rfl
theorem J2{m:Int}{x:jX}(h:x∈Cp m):x.length=1:=by
 rcases jG.mp h with rfl|h
 ·rfl
 ·obtain⟨k,_,h⟩:=lr.mp h
  exact Rg h
theorem X5{x:jX}{i:Int}(h:i.toNat<x.length):x.cps[i.toNat]?=some (x.cps.getD i.toNat 0):=by
 have h:i.toNat<x.cps.size:=h
 simp[h]
theorem Hj{Γ:Cx}{σ:AX}{pos:mf}{l r:kH}{x:jX}{i:Int}(hl:Ev Γ σ l (.py (.str x)))(hr:Ev Γ σ r (.py (.int i)))(h0:0<=i)(h1:i<2^63)(h:i.toNat<x.length)
 (hs:autoParam (∀o x,subscripted r false o x=th [o,x] (getItem o x)) aI):Ev Γ σ (.Subscript l r pos) (.py (.str (F1 x i))):=
 H3 hl hr h0 h1 (X5 h) hs
theorem iQ{x c:Int}(h2:0<=x)(h1:x<=c)(hc:c<((2^200:Nat):Int)):x.natAbs<2^200:=mG.mp (by rw[Int.natAbs_of_nonneg h2];exact Int.lt_of_le_of_lt h1 hc)
theorem k9(m:Int){j:Nat}(hj:j<3):((([2,1,0]:List Int).take j).flatMap (Cd m)).length<=9:=by
 rcases j with _|_|_|j
 ·exact kf _
 ·show 3<=9;decide
 ·show 6<=9;decide
 ·exact absurd hj (uc (rP 3 j))
theorem Og{prog:lD}{w:jW}{A:kA}{s:jE}{O:Ap}{a:jL}{mg mb:jX->Option jB}{xG:jY}{pm cd doc dv kdv:jB}(T:Br mg mb xG)(hk:HK xG s)(row:List Int)(hr:row.length<=63)(hb:∀m∈row,0<=m/\m<65536)
 (N:Nm (Dx prog w A s (Az 45 pm cd doc dv kdv) a Z7 O))(room:A0 (A.deeper (callEnvC (Az 45 pm cd doc dv kdv) s.heap.objs.size a)) 0) :
 Ex (Dx prog w A s (Az 45 pm cd doc dv kdv) a Z7 O) (Bi [.py (Cr row)] 5) (Am (stm 45)) (λaf _=>af=.ret (.py (.str (mE "" (AB row))))):=by
 delta prog w A s O a mg mb xG pm cd doc dv kdv row at T hk hr hb N room
 have hh:=room.handled
 refine Ad (Gn N 1 (CH Ah (ds:=[]) (by decide)) ?_)
 refine Ad (L3 N (C3 N hh (Aa 0)) (λi σ=>∃x y z u,σ=[some (.val (.py (Cr row))),some (.own ((AB (row.take i)).map .str)),x,y,z,u]) (EH _ _ _ _ rfl) ?_ ?_)
 ·intro i d hd R hR σ1 zz1;refine Eb zz1 λx y z u zz2=>?_;clear zz1;obtain rfl:=zz2
  refine Af (Fr hd) λm hm zz1=>?_;obtain rfl:=zz1
  have hi:i<row.length:=(jK.mp hm).1
  obtain⟨hm0,hm1⟩:=hb m (kt hm)
  have hz:(AB (row.take i)).length<=700:=by rw[Dc,lm];rwa[hr,hi]
  refine Ac _ (BH N 2) ?_
  have hdiv:0<=m.fdiv 4096/\m.fdiv 4096<16:=by
   rw[kC _ (by decide)];rwa[hm0,hm1]
  refine Ad (AO N 1 (Hj BF (Dz (Aa 2) Ai (by decide) (by decide)) hdiv.1 (by rwa[hdiv]) ?_) ?_ ?_)
  ·show _<(jz "?pc?d?b?-?l?s???").length
   rw[show(jz "?pc?d?b?-?l?s???").length=16 by decide];rwa[hdiv]
  ·rw[jI];rwa[hz]
  refine Ad (L3 N (Ft N hh (Au (ds:=[.int 2,.int 1,.int 0]) (Ab Ai (Ab Ai (Ab Ai Ah))) (by decide)))
   (λj σ=>∃y z u,σ=[some (.val (.py (Cr row))),some (.own ((AB (row.take i)++[F1 "?pc?d?b?-?l?s???" (m.fdiv 4096)]++(([2,1,0]:List Int).take j).flatMap (Cd m)).map .str)),some (.val (.py (.int m))),y,z,u]) (Jd y z u ?_) ?_ ?_)
  ·simp only[List.take_zero,nZ,kF,kz]
   rfl
  ·intro j d hd2 R2 hR2 σ2 zz1;refine FN zz1 λy z u zz2=>?_;clear zz1;obtain rfl:=zz2
   obtain⟨k,hkk,rfl⟩:∃k,([2,1,0]:List Int)[j]?=some k/\d=.int k:=Fr (row:=[2,1,0]) hd2
   have hj:j<3:=(jK.mp hkk).1
   have hk3:0<=k/\k<=2:=by
    have:=kt hkk
    simp only[jG,nY,or_false] at this
    rwa[this]
   have h8:(8:Int)^k.toNat≠0:=by have:(0:Int)<8^k.toNat:=sy (by decide);rwa[this]
   have h8b:((8:Int)^k.toNat).natAbs<2^200:=by
    have h1:(8:Int)^k.toNat<=8^2:=by exact_mod_cast nM (by decide) (show k.toNat<=2 by rwa[hk3])
    exact iQ (oV (by decide)) h1 (by decide)
   have h2p:(2:Int)^(9+k).toNat≠0:=by have:(0:Int)<2^(9+k).toNat:=sy (by decide);rwa[this]
   have h2b:((2:Int)^(9+k).toNat).natAbs<2^200:=by
    have h1:(2:Int)^(9+k).toNat<=2^11:=by exact_mod_cast nM (by decide) (show(9+k).toNat<=11 by rwa[hk3])
    exact iQ (oV (by decide)) h1 (by decide)
   have ht0:0<=BG m k:=kK _ (by decide)
   have ht1:BG m k<8:=lh _ (by decide)
   have ha0:0<=DW m k:=kK _ (by decide)
   have ha1:DW m k<2:=lh _ (by decide)
   have hq4:0<=(BG m k).fdiv 4/\(BG m k).fdiv 4<2:=by rw[kC _ (by decide)];rwa[ht0,ht1]
   have hq2:0<=((BG m k).fdiv 2).fmod 2/\((BG m k).fdiv 2).fmod 2<2:=⟨kK _ (by decide),lh _ (by decide)⟩
   have hq1:0<=(BG m k).fmod 2/\(BG m k).fmod 2<2:=⟨kK _ (by decide),lh _ (by decide)⟩
   have hz2:(AB (row.take i)++[F1 "?pc?d?b?-?l?s???" (m.fdiv 4096)]++(([2,1,0]:List Int).take j).flatMap (Cd m)).length<=800:=by
    rw[jZ,jZ]
    have:=k9 m hj
    simp only[j7,ln];rwa[hz,this]
   refine Ac _ (BH N 3) ?_
   refine Ad (At N 4 (a:=.py (.int (BG m k))) (CB (Dz (Aa 2) (Gc Ai (Aa 3) hk3.1 (by rwa[hk3]) (by decide)) h8 h8b) Ai (by decide)) ?_)
   refine Ad (At N 5 (a:=.py (.int (DW m k))) (CB (Dz (Aa 2) (Gc Ai (Bl Ai (Aa 3)) (by rwa[hk3]) (by rwa[hk3]) (by decide)) h2p h2b) Ai (by decide)) ?_)
   refine Ad (AO N 1 (Hj BF (Dz (Aa 4) Ai (by decide) (by decide)) hq4.1 (tJ hq4.2 (by decide)) ?_) ?_ ?_)
   ·show _<(jz "-r").length
    rw[show(jz "-r").length=2 by decide];rwa[hq4]
   ·rw[jI];rwa[hz2]
   refine Ad (AO N 1 (Hj BF (CB (Dz (Aa 4) Ai (by decide) (by decide)) Ai (by decide)) hq2.1 (by rwa[hq2]) ?_) ?_ ?_)
   ·show _<(jz "-w").length
    rw[show(jz "-w").length=2 by decide];rwa[hq2]
   ·rw[jZ,jI];simp only[j7,ln];rwa[hz2]
   refine Ad (AO N 1 (Hj (x:=if k≠0 then "-xSs" else "-xTt") (I8 (ID (Aa 3)) (λh=>?_) (λh=>?_)) (Bl (CB (Aa 4) Ai (by decide)) (Gd Ai (Aa 5) (.inr (by decide)))) ?_ ?_ ?_) ?_ ?_)
   ·rw[if_pos (by simpa using h)];exact BF
   ·rw[if_neg (by simpa using h)];exact BF
   ·rwa[hq1,ha0,ha1]
   ·rwa[hq1,ha0,ha1]
   ·have:(if k≠0 then jz "-xSs" else jz "-xTt").length=4:=by split<;>decide
    show _<(if k≠0 then jz "-xSs" else jz "-xTt").length
    rw[this];rwa[hq1,ha0,ha1]
   ·rw[jZ,jZ,jI];simp only[j7,ln];rwa[hz2]
   refine Aj (hR2 _ _ (Jd (some (.val (.py (.int k)))) (some (.val (.py (.int (BG m k))))) (some (.val (.py (.int (DW m k))))) ?_))
   have e:((AB (row.take i)++[F1 "?pc?d?b?-?l?s???" (m.fdiv 4096)]++(([2,1,0]:List Int).take (j+1)).flatMap (Cd m)).map oN) =
    ((((AB (row.take i)++[F1 "?pc?d?b?-?l?s???" (m.fdiv 4096)]++(([2,1,0]:List Int).take j).flatMap (Cd m)).map oN)++[.str (F1 "-r" ((BG m k).fdiv 4))])++[.str (F1 "-w" (((BG m k).fdiv 2).fmod 2))])++[.str (F1 (if k≠0 then "-xSs" else "-xTt") ((BG m k).fmod 2+2*DW m k))]:=by
    rw[kN,hkk]
    simp only[om,mF,lq,nZ,kF,kz,Cd,kM,qr,l5,tQ,ph]
   rw[e]
   rfl
  ·intro σ2 zz1;refine FN zz1 λy z u zz2=>?_;clear zz1;obtain rfl:=zz2
   refine Aj (Aj (hR _ _ (EH (some (.val (.py (.int m)))) y z u ?_)))
   have e:AB (row.take (i+1))=AB (row.take i)++[F1 "?pc?d?b?-?l?s???" (m.fdiv 4096)]++(([2,1,0]:List Int).take 3).flatMap (Cd m):=by
    rw[AB,kN,hm]
    simp[AB,Cp]
   rw[e]
   rfl
 ·intro σ1 zz1;refine Eb zz1 λx y z u zz2=>?_;clear zz1;obtain rfl:=zz2
  rw[jI,lz]
  refine Aj (Ct N 1 ?_)
  refine Ad (AQ (GO (Aa 1) (by decide) ?_) rfl)
  have h1:∀x∈AB row,x.length=1:=λx hx=>by
   obtain⟨m,_,h⟩:=lr.mp hx
   exact J2 h
  rw[show(AB row).map (·.length)=kW (AB row).length 1 from vJ.mpr ⟨by simp,λb hb=>by obtain⟨x,hx,rfl⟩:=kn.mp hb;exact h1 x hx⟩,m9,Dc]
  rwa[hr]
theorem ba(pm cd doc v:jB):l3 (Az 45 pm cd doc .none .none) ⟨[v],[]⟩=pure [((jz "row"),v)]:=by rfl
theorem Rd{w:jW}{xG:jY}{a:jL}{mg mb:jX->Option jB}(T:Br mg mb xG)(FO:Av xG 45 a .none .none)(row:List Int)(hr:row.length<=63)(hb:∀m∈row,0<=m/\m<65536) :
 Fn pw w xG 1 (.ref a) [] [.py (Cr row)] [] (.py (.str (mE "" (AB row)))):=
 Ea FO (λpm cd doc=>gf pm cd doc _ _) T.gl.nolimit rfl (λpm cd doc vs h=>by obtain⟨v,rfl⟩:=GF h;exact ba pm cd doc v) (λpm cd doc A s O hk N room=>Og T hk row hr hb N room)
noncomputable def cp:List Nat->List Nat->Nat
 | a::xs,b::ys=>if a=b then cp xs ys+1 else 0
 | _,_=>0
theorem iY(ys:List Nat):cp [] ys=0:=rfl
theorem jt(a:Nat)(xs:List Nat):cp (a::xs) []=0:=rfl
theorem fR(a b:Nat)(xs ys:List Nat):cp (a::xs) (b::ys)=if a=b then cp xs ys+1 else 0:=rfl
theorem Un:∀{xs ys:List Nat} {n:Nat},n<=cp xs ys->(n<cp xs ys↔∃a,xs[n]?=some a/\ys[n]?=some a)
 | [],ys,n,h=>by rw[iY];simp
 | a::xs,[],n,h=>by rw[jt];simp
 | a::xs,b::ys,n,h=>by
  rw[fR] at h ⊢
  by_cases hab:a=b
  ·subst hab
   rw[if_pos rfl] at h ⊢
   cases n with
   | zero=>simp
   | succ n=>
    have:=Un (n:=n) (xs:=xs) (ys:=ys) (by rwa[h])
    simp only[List.getElem?_cons_succ]
    rw[<-this];lia
  ·rw[if_neg hab] at h ⊢
   have:n=0:=by rwa[h]
   subst this
   simp[hab,eq_comm]
theorem Ge:∀(xs ys:List Nat),cp xs ys<=xs.length
 | [],_=>tD (iY _)
 | _::_,[]=>kf _
 | a::xs,b::ys=>by
  rw[fR]
  split
  ·have:=Ge xs ys;simp;rwa[this]
  ·simp
theorem Uo:∀(xs ys:List Nat),cp xs ys=cp ys xs
 | [],[]=>rfl
 | [],_::_=>rfl
 | _::_,[]=>rfl
 | a::xs,b::ys=>by
  rw[fR,fR]
  by_cases h:a=b
  ·subst h;rw[if_pos rfl,if_pos rfl,Uo]
  ·rw[if_neg h,if_neg (ll h)]
theorem PB(xs ys:List Nat):cp xs ys<=ys.length:=by rw[Uo];exact Ge ys xs
noncomputable def GU (l:List Nat) (i i1:Nat):List Nat:=(l.take i1).drop i
theorem Ed{l:List Nat}{i i1 n:Nat}(h:i1<=l.length):(GU l i i1)[n]?=if i+n<i1 then l[i+n]? else none:=by
 unfold GU
 rw[qL,List.getElem?_take]
noncomputable def Cw (l r:List Nat) (i1 j1 i j:Nat):Nat:=cp (GU l i i1) (GU r j j1)
noncomputable abbrev Qj:=Nat×Nat×Nat
noncomputable def BX (t:Qj):jO:=.tuple [.int t.1,.int t.2.1,.int t.2.2]
noncomputable def Ey (l r:List Nat) (i1 j1:Nat) (b:Qj) (p:Nat×Nat):Qj:=if Cw l r i1 j1 p.1 p.2>b.2.2 then(p.1,p.2,Cw l r i1 j1 p.1 p.2) else b
noncomputable def CO (j0 st i:Nat):Nat:=j0+(((i:Int)-j0).fmod st).toNat
noncomputable def E4 (j0 j1 st i:Nat):List Nat:=(kd ((j1-CO j0 st i+st-1)/st)).map λk=>CO j0 st i+k*st
noncomputable def Wo (i0 i1 j0 j1 st:Nat):List (Nat×Nat):=((kd (i1-i0)).map (i0+·)).flatMap λi=>(E4 j0 j1 st i).map λj=>(i,j)
noncomputable def Cb (l r:List Nat) (st i0 i1 j0 j1:Nat):Qj:=(Wo i0 i1 j0 j1 st).foldl (Ey l r i1 j1) (i0,j0,0)
theorem JY{a b c:Nat}(hc:0<c):(kG a b c).toNat=(b-a+c-1)/c:=by
 unfold kG
 rw[if_pos (by rwa[hc])]
 by_cases h:a<b
 ·rw[if_pos (by rwa[h])]
  have e:(b:Int)-a-1=((b-a-1:Nat):Int):=by rwa[h]
  rw[e]
  have:(((b-a-1:Nat):Int)/(c:Int))=((((b-a-1)/c:Nat)):Int):=by norm_cast
  rw[this]
  have h2:(b-a+c-1)/c=(b-a-1)/c+1:=by
   rw[show b-a+c-1=(b-a-1)+c by rwa[hc,h,e],Nat.add_div_right _ hc]
  rw[h2];generalize (b-a-1)/c=z;rwa[]
 ·rw[if_neg (by rwa[h])]
  rw[show b-a+c-1=c-1 by rwa[hc,h],ud (by rwa[hc])];rfl
theorem Fk{a b c:Nat}(ha:a<2^40)(hb:b<2^40)(hc:0<c)(hc':c<2^40):mz a b c=true:=by
 have h1:(kG a b c)<=2^41/\0<=kG a b c:=by
  unfold kG
  rw[if_pos (by rwa[hc,hc'])]
  split
  ·have h2:((b:Int)-a-1)/c<=(b:Int)-a-1:=Int.ediv_le_self _ (by(rename_i z0;rwa[z0]))
   have h3:0<=((b:Int)-a-1)/c:=qm (by(rename_i z0;rwa[z0])) (by rwa[hc,hc'])
   (rename_i z0;rwa[ha,hb,z0,h2,h3])
  ·rwa[]
 unfold mz
 simp only[sC,kJ,rN,decide_eq_true_eq,beq_iff_eq,show((c:Int)>0) by rwa[hc,hc'],if_true]
 rwa[ha,hb,hc,hc',h1]
noncomputable def Yq:List jX:=["left","right","step","window","i0","i1","j0","j1","best","i","j","size"]
theorem gd(pm cd doc dv kdv:jB):Bf (Az 46 pm cd doc dv kdv) (Am (stm 46)) ["left","right","step","window"] Yq:=.of (by decide +kernel)
theorem DQ{a b c:Nat}(hc:0<c):AN a b c=((kd ((b-a+c-1)/c)).map λk=>a+k*c).map λn=>lX (n:Nat):=by
 unfold AN
 rw[JY hc,ms]
 refine lS λk _=>?_
 simp
theorem TQ{x y:jX}{i j:Nat}(hi:i<x.length)(hj:j<y.length):(F1 x (i:Nat)=F1 y (j:Nat))↔x.cps.toList[i]?=y.cps.toList[j]?:=by
 have hi':i<x.cps.size:=hi
 have hj':j<y.cps.size:=hj
 simp[F1,hi',hj']
theorem Y1{k d st:Nat}(h:k<(d+st-1)/st):k*st<d:=by
 have hst:0<st:=by
  rcases wD st with rfl|h'
  ·simp at h
  ·exact h'
 have h1:(k+1)*st<=d+st-1:=(rX hst).mp h
 rw[v8,Nat.one_mul] at h1
 rwa[hst,h1]
theorem Pf{j0 j1 st i j:Nat}(h:j∈E4 j0 j1 st i):j<j1/\j0<=j:=by
 refine Af (kn.mp h) λk hk zz1=>?_;obtain rfl:=zz1
 have:=Y1 (mr.mp hk)
 unfold CO at *
 rwa[this]
theorem FD{l r:List Nat}{i1 j1 i j:Nat}(h:i1<=l.length):Cw l r i1 j1 i j<=i1-i:=by
 have:=Ge (GU l i i1) (GU r j j1)
 unfold GU at this
 rw[rf,lm] at this
 unfold Cw GU
 rwa[h,this]
theorem EV{l r:List Nat}{i1 j1 i j:Nat}(h:j1<=r.length):Cw l r i1 j1 i j<=j1-j:=by
 have:=PB (GU l i i1) (GU r j j1)
 unfold GU at this
 rw[rf,lm] at this
 unfold Cw GU
 rwa[h,this]
theorem Z2{l r:jX}{i1 j1 i j n:Nat}(hl:i1<=l.length)(hr:j1<=r.length)(h:n<=Cw l.cps.toList r.cps.toList i1 j1 i j) :
 (decide ((i:Int)+(n:Nat)<i1)&&(decide ((j:Int)+(n:Nat)<j1)&&(decide (F1 l ((i:Nat)+(n:Nat))=F1 r ((j:Nat)+(n:Nat)))&&true)))=decide (n<Cw l.cps.toList r.cps.toList i1 j1 i j):=by
 delta l r i1 j1 i j n at hl hr h
 have h1:=Un h
 have hl':i1<=l.cps.toList.length:=by rw[kh];exact hl
 have hr':j1<=r.cps.toList.length:=by rw[kh];exact hr
 rw[qf]
 simp only[kJ,decide_eq_true_eq,and_true]
 show _↔n<cp (GU l.cps.toList i i1) (GU r.cps.toList j j1)
 rw[h1,Ed hl',Ed hr']
 constructor
 ·rintro⟨a,b,c⟩
  have a':i+n<i1:=by rwa[a]
  have b':j+n<j1:=by rwa[b]
  rw[if_pos a',if_pos b']
  have e:=(TQ (x:=l) (y:=r) (i:=i+n) (j:=j+n) (by rwa[hl,a]) (by rwa[hr,b])).mp (by push_cast;exact c)
  rw[<-e]
  exact Ac _ (jP (by rwa[hl',a])) (jP (by rwa[hl',a]))
 ·rintro⟨a,e1,e2⟩
  by_cases a':i+n<i1
  ·by_cases b':j+n<j1
   ·rw[if_pos a'] at e1
    rw[if_pos b'] at e2
    refine⟨by rwa[a'],by rwa[b'],?_⟩
    have:=(TQ (x:=l) (y:=r) (i:=i+n) (j:=j+n) (by rwa[hl,a']) (by rwa[hr,b'])).mpr (by rw[e1,e2])
    push_cast at this
    exact this
   ·exact B0 (if_neg b') e2
  ·exact B0 (if_neg a') e1
noncomputable def NR (i0 i1 j0 j1:Nat):jO:=.tuple [.int i0,.int i1,.int j0,.int j1]
theorem Oe{prog:lD}{w:jW}{A:kA}{s:jE}{O:Ap}{a:jL}{mg mb:jX->Option jB}{xG:jY}{pm cd doc dv kdv:jB}(T:Br mg mb xG)(hk:HK xG s)(l r:jX)(st i0 i1 j0 j1:Nat)(hst:0<st)(hst':st<1000)
 (hl:i1<=l.length)(hr:j1<=r.length)(hi:i0<=i1)(hj:j0<=j1)(hl':l.length<1000)(hr':r.length<1000)
 (N:Nm (Dx prog w A s (Az 46 pm cd doc dv kdv) a Yq O))(room:A0 (A.deeper (callEnvC (Az 46 pm cd doc dv kdv) s.heap.objs.size a)) 0) :
 Ex (Dx prog w A s (Az 46 pm cd doc dv kdv) a Yq O) (Bi [.py (.str l),.py (.str r),.py (.int st),.py (NR i0 i1 j0 j1)] 8) (Am (stm 46)) (λaf _=>af=.ret (.py (BX (Cb l.cps.toList r.cps.toList st i0 i1 j0 j1)))):=by
 delta prog w A s O a mg mb xG pm cd doc dv kdv l r st i0 i1 j0 j1 at T hk hst hst' hl hr hi hj hl' hr' N room
 have hh:=room.handled
 let Γ:=Dx prog w A s (Az 46 pm cd doc dv kdv) a Yq O
 have N:Nm Γ:=N
 change Ex Γ _ _ _
 refine Ad (Gm (Aa 3) (BV N hh [4,5,6,7] (ds:=[_,_,_,_]) ⟨rfl,rfl,rfl,rfl,rfl,rfl,rfl,rfl,trivial⟩) ?_)
 refine Ad (At N 8 (Au (ds:=[.int i0,.int j0,.int 0]) (Ab (Aa 4) (Ab (Aa 6) (Ab Ai Ah)))) ?_)
 have hR1:AN i0 i1 1=((kd (i1-i0)).map (i0+·)).map λn=>lX (n:Nat):=by
  have:=DQ (a:=i0) (b:=i1) (c:=1) (by decide)
  simpa using this
 have hpl:∀i,((kd (i1-i0)).map (i0+·)).take (i+1)=((kd (i1-i0)).map (i0+·)).take i++(((kd (i1-i0)).map (i0+·))[i]?).toList:=λi=>kN
 refine Ad (L3 N (ds:=AN i0 i1 1) (I5 N hh (A1 T hk) (Aa 4) (Aa 5) (by have:=Fk (a:=i0) (b:=i1) (c:=1) (by rwa[hl,hi,hl']) (by rwa[hl,hl']) (by decide) (by decide);exact this))
  (λn σ=>∃x y z,σ=[some (.val (.py (.str l))),some (.val (.py (.str r))),some (.val (.py (.int st))),some (.val (.py (NR i0 i1 j0 j1))),some (.val (.py (.int i0))),some (.val (.py (.int i1))),some (.val (.py (.int j0))),some (.val (.py (.int j1))),
   some (.val (.py (BX ((((((kd (i1-i0)).map (i0+·)).take n).flatMap λi=>(E4 j0 j1 st i).map λj=>(i,j))).foldl (Ey l.cps.toList r.cps.toList i1 j1) (i0,j0,0))))),x,y,z]) (Jd none none none rfl) ?_ ?_)
 ·intro n d hd R hR σ1 zz1;refine FN zz1 λx y z zz2=>?_;clear zz1;obtain rfl:=zz2
  rw[hR1] at hd
  obtain⟨i,hi',rfl⟩:∃i,((kd (i1-i0)).map (i0+·))[n]?=some i/\d=.int (i:Nat):=by
   rw[j8] at hd
   refine Af (j6.mp hd) λm h1 h2=>?_
   exact Ac m h1 h2.symm
  have hii:i0<=i/\i<i1:=by
   obtain⟨k,hk1,rfl⟩:=kn.mp (kt hi')
   have:=mr.mp hk1
   rwa[this]
  generalize hB:(((((kd (i1-i0)).map (i0+·)).take n).flatMap λi=>(E4 j0 j1 st i).map λj=>(i,j))).foldl (Ey l.cps.toList r.cps.toList i1 j1) (i0,j0,0)=B
  refine Ac _ (BH N 9) ?_
  have hfm0:0<=((i:Int)-j0).fmod st:=kK _ (by rwa[hst])
  have hfm1:((i:Int)-j0).fmod st<st:=lh _ (by rwa[hst])
  have hsj:(j0:Int)+((i:Int)-j0).fmod st=(CO j0 st i:Nat):=by unfold CO;rwa[hst,hfm0]
  have hsj':CO j0 st i<2000:=by unfold CO;rwa[hst,hst',hr,hj,hr',hfm1]
  have hR2:AN (CO j0 st i:Nat) j1 st=(E4 j0 j1 st i).map λn=>lX (n:Nat):=DQ hst
  refine Ad (L3 N (ds:=AN (CO j0 st i:Nat) j1 st) (F9 N hh (A1 T hk) (Ev.cast (Bl (Aa 6) (CB (Dd (Aa 9) (Aa 6)) (Aa 2) (by rwa[hst]))) (by rw[hsj])) (Aa 7) (Aa 2) (Fk (by rwa[hst',hr,hj,hr',hfm1,hsj]) (by rwa[hr,hr']) hst (by rwa[hst'])) (by rwa[hst]) (by(clear_value *;lia)))
   (λm σ=>∃y z,σ=[some (.val (.py (.str l))),some (.val (.py (.str r))),some (.val (.py (.int st))),some (.val (.py (NR i0 i1 j0 j1))),some (.val (.py (.int i0))),some (.val (.py (.int i1))),some (.val (.py (.int j0))),some (.val (.py (.int j1))),
    some (.val (.py (BX ((((E4 j0 j1 st i).take m).map λj=>(i,j)).foldl (Ey l.cps.toList r.cps.toList i1 j1) B)))),some (.val (.py (.int (i:Nat)))),y,z]) (AS y z rfl) ?_ ?_)
  ·intro m d hd2 R2 h2 σ2 zz1;refine B1 zz1 λy z zz2=>?_;clear zz1;obtain rfl:=zz2
   rw[hR2] at hd2
   obtain⟨j,hj',rfl⟩:∃j,(E4 j0 j1 st i)[m]?=some j/\d=.int (j:Nat):=by
    rw[j8] at hd2
    refine Af (j6.mp hd2) λm h1 h2=>?_
    exact Ac m h1 h2.symm
   generalize hB2:(((E4 j0 j1 st i).take m).map λj=>(i,j)).foldl (Ey l.cps.toList r.cps.toList i1 j1) B=B2
   refine Ac _ (BH N 10) ?_
   have hjj:=Pf (kt hj')
   generalize hrun:Cw l.cps.toList r.cps.toList i1 j1 i j=TT
   have hru1:TT<=i1-i:=by rw[<-hrun];exact FD (by rw[kh];exact hl)
   have hru2:TT<=j1-j:=by rw[<-hrun];exact EV (by rw[kh];exact hr)
   refine Ad (At N 11 Ai ?_)
   refine Ad (VD (n:=TT) (λn σ=>∃sz:Nat,sz<=TT/\n=TT-sz/\σ=[some (.val (.py (.str l))),some (.val (.py (.str r))),some (.val (.py (.int st))),some (.val (.py (NR i0 i1 j0 j1))),some (.val (.py (.int i0))),some (.val (.py (.int i1))),some (.val (.py (.int j0))),some (.val (.py (.int j1))),
    some (.val (.py (BX B2))),some (.val (.py (.int (i:Nat)))),some (.val (.py (.int (j:Nat)))),some (.val (.py (.int (sz:Nat))))]) (Ba 0 (kf _) rfl rfl) ?_)
   ·intro n R3 R4 h3 h4 σ3 zz1;refine Bu zz1 λsz hsz zz2 zz3=>?_;clear zz1;obtain rfl:=zz2;obtain rfl:=zz3
    refine Ba (decide (sz<TT)) ?_ (λh=>?_) λh=>?_
    ·have hb:=Z2 (l:=l) (r:=r) (i:=i) (j:=j) (n:=sz) hl hr (by rw[hrun];exact hsz)
     rw[hrun] at hb
     rw[<-hb]
     refine By (AP (An (Bl (Aa 9) (Aa 11)) (Aa 5)) (λh1=>AP (An (Bl (Aa 10) (Aa 11)) (Aa 7)) (λh2=>AP (IC (Hj (Aa 0) (Bl (Aa 9) (Aa 11)) ?_ ?_ ?_) (Hj (Aa 1) (Bl (Aa 10) (Aa 11)) ?_ ?_ ?_)) (λ_=>BC))))
     all_goals have h1:=of_decide_eq_true h1
     all_goals have h2:=of_decide_eq_true h2
     all_goals (clear_value *;lia)
    ·have h:=of_decide_eq_true h
     refine Ad (VG N 11 rfl Ai ?_)
     exact Aj (h3 _ _ ⟨TT-(sz+1),by(clear_value *;lia),sz+1,h,rfl,rfl⟩)
    ·have h:=of_decide_eq_false h
     have hsr:sz=TT:=by(clear_value *;lia)
     subst hsr
     refine Aj (h4 _ _ ?_)
     have hbest:(B2.2.2:Int)=(((B2.2.2:Nat)):Int):=rfl
     refine Ad (BI (b:=decide ((B2.2.2:Int)<(sz:Nat))) (An (Aa 11) (A7 (ds:=[.int B2.1,.int B2.2.1,.int B2.2.2]) (Aa 8) Ai (by decide) (by decide) rfl)) (λh=>?_) (λh=>?_))
     ·have h:=of_decide_eq_true h
      refine Ad (At N 8 (Au (ds:=[.int (i:Nat),.int (j:Nat),.int (sz:Nat)]) (Ab (Aa 9) (Ab (Aa 10) (Ab (Aa 11) Ah)))) ?_)
      refine Aj (Aj (h2 _ _ (AS (some (.val (.py (.int (j:Nat))))) (some (.val (.py (.int (sz:Nat))))) ?_)))
      rw[kN,hj',kz,mq,hB2]
      simp only[om,kM,qr,mW,uK,Ey,hrun]
      rw[if_pos (by(clear_value *;lia))]
      rfl
     ·have h:=of_decide_eq_false h
      refine Aj (Aj (h2 _ _ (AS (some (.val (.py (.int (j:Nat))))) (some (.val (.py (.int (sz:Nat))))) ?_)))
      rw[kN,hj',kz,mq,hB2]
      simp only[om,kM,qr,mW,uK,Ey,hrun]
      rw[if_neg (by(clear_value *;lia))]
  ·intro σ2 zz1;refine B1 zz1 λy z zz2=>?_;clear zz1;obtain rfl:=zz2
   refine Aj (Aj (hR _ _ (Jd (some (.val (.py (.int (i:Nat))))) y z ?_)))
   rw[hR2,jI,lz,hpl,hi',mF,mq,hB]
   simp only[om,lq,nZ,kF]
 ·intro σ1 zz1;refine FN zz1 λx y z zz2=>?_;clear zz1;obtain rfl:=zz2
  rw[hR1,jI,lz]
  exact Aj (Ad (AQ (Aa 8) rfl))
theorem aZ(pm cd doc v u x y:jB):l3 (Az 46 pm cd doc .none .none) ⟨[v,u,x,y],[]⟩=pure [((jz "left"),v),((jz "right"),u),((jz "step"),x),((jz "window"),y)]:=by rfl
theorem Rc{w:jW}{xG:jY}{a:jL}{mg mb:jX->Option jB}(T:Br mg mb xG)(FO:Av xG 46 a .none .none)(l r:jX)(st i0 i1 j0 j1:Nat)(hst:0<st)(hst':st<1000)
 (hl:i1<=l.length)(hr:j1<=r.length)(hi:i0<=i1)(hj:j0<=j1)(hl':l.length<1000)(hr':r.length<1000) :
 Fn pw w xG 1 (.ref a) [] [.py (.str l),.py (.str r),.py (.int st),.py (NR i0 i1 j0 j1)] [] (.py (BX (Cb l.cps.toList r.cps.toList st i0 i1 j0 j1))):=
 Ea FO (λpm cd doc=>gd pm cd doc _ _) T.gl.nolimit rfl (λpm cd doc vs h=>by refine Eb (Yw h) λv u x y zz1=>?_;obtain rfl:=zz1;exact aZ pm cd doc v u x y) (λpm cd doc A s O hk N room=>Oe T hk l r st i0 i1 j0 j1 hst hst' hl hr hi hj hl' hr' N room)
noncomputable def Dm (l r:List Nat) (st:Nat):Nat->Nat->Nat->Nat->Nat->List Qj
 | 0,_,_,_,_=>[]
 | f+1,i0,i1,j0,j1=>
  let t:=Cb l r st i0 i1 j0 j1
  if t.2.2=0 then [] else Dm l r st f i0 t.1 j0 t.2.1++[t]++Dm l r st f (t.1+t.2.2) i1 (t.2.1+t.2.2) j1
structure XH (i0 i1 j0 j1:Nat) (t:Qj):Prop where
 i0:i0<=t.1
 i1:t.1+t.2.2<=i1
 j0:j0<=t.2.1
 j1:t.2.1+t.2.2<=j1
theorem IV{l r:List Nat}{st i0 i1 j0 j1:Nat}(hl:i1<=l.length)(hr:j1<=r.length)(hi:i0<=i1)(hj:j0<=j1):XH i0 i1 j0 j1 (Cb l r st i0 i1 j0 j1):=by
 delta l r st i0 i1 j0 j1 at hl hr hi hj
 have key:∀(ps:List (Nat×Nat)) (b:Qj),XH i0 i1 j0 j1 b->(∀p∈ps,i0<=p.1/\p.1<i1/\j0<=p.2/\p.2<j1)->XH i0 i1 j0 j1 (ps.foldl (Ey l r i1 j1) b):=by
  intro ps
  induction ps with
  | nil=>exact λb h _=>h
  | cons p ps ih=>
   intro b h hp
   refine ih _ ?_ λq hq=>hp q (.tail _ hq)
   refine CU (hp p (.head _)) λh1 h2 h3 h4=>?_
   unfold Ey
   split
   ·have a:=FD (l:=l) (r:=r) (i1:=i1) (j1:=j1) (i:=p.1) (j:=p.2) hl
    have b:=EV (l:=l) (r:=r) (i1:=i1) (j1:=j1) (i:=p.1) (j:=p.2) hr
    exact⟨h1,by show p.1+Cw l r i1 j1 p.1 p.2<=i1;rwa[h2,a],h3,by show p.2+Cw l r i1 j1 p.1 p.2<=j1;rwa[h4,b]⟩
   ·exact h
 refine key _ _ ⟨jN _,hi,jN _,hj⟩ λp hp=>?_
 refine Af (lr.mp hp) λi hi' hp=>?_
 refine Af (kn.mp hp) λj hj' zz1=>?_;obtain rfl:=zz1
 refine Af (kn.mp hi') λk hk zz1=>?_;obtain rfl:=zz1
 have:=mr.mp hk
 have:=Pf hj'
 show i0<=i0+k/\i0+k<i1/\j0<=j/\j<j1
 (rename_i z0;rwa[z0,this])
theorem DM{l r:List Nat}{st:Nat}:∀{f i0 i1 j0 j1:Nat},i1<=l.length->j1<=r.length->i0<=i1->j0<=j1->(Dm l r st f i0 i1 j0 j1).length<=i1-i0
 | 0,_,_,_,_,_,_,_,_=>kf _
 | f+1,i0,i1,j0,j1,hl,hr,hi,hj=>by
  have hw:=IV (st:=st) hl hr hi hj
  unfold Dm
  dsimp only
  generalize Cb l r st i0 i1 j0 j1=t at hw ⊢
  obtain⟨a,b,c,d⟩:=hw
  split
  ·exact kf _
  ·have h1:=DM (st:=st) (f:=f) (i0:=i0) (i1:=t.1) (j0:=j0) (j1:=t.2.1) (l:=l) (r:=r) (by(rename_i z0;rwa[hl,b,z0])) (by(rename_i z0;rwa[hr,d,z0])) a c
   have h2:=DM (st:=st) (f:=f) (i0:=t.1+t.2.2) (i1:=i1) (j0:=t.2.1+t.2.2) (j1:=j1) (l:=l) (r:=r) hl hr b d
   rw[jZ,jZ]
   simp only[j7,ln]
   (rename_i z0;rwa[hi,a,b,z0,h1,h2])
noncomputable def Z6:List jX:=["left","right","step","window","i0","i1","j0","j1","i","j","size","ahead","behind"]
theorem gc(pm cd doc dv kdv:jB):Bf (Az 47 pm cd doc dv kdv) (Am (stm 47)) ["left","right","step","window"] Z6:=.of (by decide +kernel)
theorem Av.at{h:jY}{i:Nat}{a:jL}{dv kdv:jB}(F:Av h i a dv kdv):∃o pm cd doc,h.get? a=some o/\o.data=.func (Az i pm cd doc dv kdv):=E7 F.ex λo pm cd doc h1 h2 _=>(eV o pm cd doc h1 h2)
section
variable {Γ:Cx} {σ:AX} {pos:mf}
theorem Dh{l r:kH}{a b:Nat}(hl:Ev Γ σ l (.py (.int (a:Nat))))(hr:Ev Γ σ r (.py (.int (b:Nat)))):Ev Γ σ (.BinOp l .Add r pos) (.py (.int (a+b:Nat))):=Ev.cast (Bl hl hr) (by push_cast;rfl)
theorem CI{f e:kH}{es:List kH}{xG:jY}{n i:Nat}{a:jL}{dv kdv:jB}{avs:List AV}{r:AV}(F:Fn Γ.prog Γ.w xG n (.ref a) [] avs [] r)(room:A0 Γ.A n)(hk:HK xG Γ.s₀)(FO:Av xG i a dv kdv)
 (hf:Ev Γ σ f (.raw (.ref a)))(ha:XI Γ σ (e::es) avs)(hp:autoParam ((e::es).all AE=true) aR)
 (he:autoParam (eval (.Call f (e::es) [] pos) Γ.env=(do kX pos (<-eval f Γ.env) [] (backTo pos (starEach (e::es) Γ.env)) (l8 pos (lu [] Γ.env)))) aR):Ev Γ σ (.Call f (e::es) [] pos) r:=
 let ⟨_,_,_,_,h1,h2⟩:=FO.at
 YV F room hk h1 h2 hf ha hp he
end
theorem Xj{w:jW}{A:kA}{s:jE}{O:Ap}{a aL:jL}{mg mb:jX->Option jB}{xG:jY}{pm cd doc dv kdv:jB}(T:Br mg mb xG)(hk:HK xG s)(FL:Av xG 46 aL .none .none)(hgL:mg "_law_longest"=some (.ref aL))(FO:Av xG 47 a .none .none)(hg:mg "_law_cut"=some (.ref a))(l r:jX)(st i0 i1 j0 j1 f:Nat)(hst:0<st)(hst':st<1000)
 (hl:i1<=l.length)(hr:j1<=r.length)(hi:i0<=i1)(hj:j0<=j1)(hl':l.length<1000)(hr':r.length<1000)
 (ih:∀i0 i1 j0 j1,i1<=l.length->j1<=r.length->i0<=i1->j0<=j1->i1-i0<f->Fn pw w xG (f+1) (.ref a) [] [.py (.str l),.py (.str r),.py (.int st),.py (NR i0 i1 j0 j1)] [] (.py (.list ((Dm l.cps.toList r.cps.toList st f i0 i1 j0 j1).map BX))))(hf:i1-i0<f+1)
 (N:Nm (Dx pw w A s (Az 47 pm cd doc dv kdv) a Z6 O))(room:A0 (A.deeper (callEnvC (Az 47 pm cd doc dv kdv) s.heap.objs.size a)) (f+1)) :
 Ex (Dx pw w A s (Az 47 pm cd doc dv kdv) a Z6 O) (Bi [.py (.str l),.py (.str r),.py (.int st),.py (NR i0 i1 j0 j1)] 9) (Am (stm 47)) (λaf _=>af=.ret (.py (.list ((Dm l.cps.toList r.cps.toList st (f+1) i0 i1 j0 j1).map BX)))):=by
 delta w A s O a aL mg mb xG pm cd doc dv kdv l r st i0 i1 j0 j1 f at T hk FL hgL FO hg hst hst' hl hr hi hj hl' hr' ih hf N room
 have hh:=room.handled
 have hlT:i1<=l.cps.toList.length:=by rw[kh];exact hl
 have hrT:j1<=r.cps.toList.length:=by rw[kh];exact hr
 have hw:=IV (st:=st) hlT hrT hi hj
 have hL:=Rc (w:=w) T FL l r st i0 i1 j0 j1 hst hst' hl hr hi hj hl' hr'
 have hcut:Dm l.cps.toList r.cps.toList st (f+1) i0 i1 j0 j1=(let t:=Cb l.cps.toList r.cps.toList st i0 i1 j0 j1
  if t.2.2=0 then [] else Dm l.cps.toList r.cps.toList st f i0 t.1 j0 t.2.1++[t]++Dm l.cps.toList r.cps.toList st f (t.1+t.2.2) i1 (t.2.1+t.2.2) j1):=rfl
 dsimp only at hcut
 generalize Cb l.cps.toList r.cps.toList st i0 i1 j0 j1=t at *
 obtain⟨h1,h2,h3,h4⟩:=hw
 refine Ad (Gm (Aa 3) (BV N hh [4,5,6,7] (ds:=[_,_,_,_]) ⟨rfl,rfl,rfl,rfl,rfl,rfl,rfl,rfl,trivial⟩) ?_)
 refine Ad (Gm (d:=BX t) (CI hL (room.le (by rwa[])) hk FL (BU T hk hgL) (Ab (Aa 0) (Ab (Aa 1) (Ab (Aa 2) (Ab (Aa 3) Ah))))) (BV N hh [8,9,10] (ds:=[_,_,_]) ⟨rfl,rfl,rfl,rfl,rfl,rfl,trivial⟩) ?_)
 refine Ad (BI (b:=decide ((t.2.2:Int)=0)) (An (Aa 10) Ai) (λh=>?_) (λh=>Aj ?_))
 ·have h:=of_decide_eq_true h
  refine Ad (AQ (Dy (ds:=[]) Ah) ?_)
  rw[hcut,if_pos (by(clear_value *;lia))];rfl
 ·have h:=of_decide_eq_false h
  have hz:t.2.2≠0:=by(clear_value *;lia)
  have hA:=ih i0 t.1 j0 t.2.1 (by rwa[hl,h2]) (by rwa[hr,h4]) h1 h3 (by(clear_value *;lia))
  have hB:=ih (t.1+t.2.2) i1 (t.2.1+t.2.2) j1 hl hr h2 h4 (by(clear_value *;lia))
  have lA:=DM (st:=st) (f:=f) (l:=l.cps.toList) (r:=r.cps.toList) (i0:=i0) (i1:=t.1) (j0:=j0) (j1:=t.2.1) (by rwa[hlT,h2]) (by rwa[hrT,h4]) h1 h3
  have lB:=DM (st:=st) (f:=f) (l:=l.cps.toList) (r:=r.cps.toList) (i0:=t.1+t.2.2) (i1:=i1) (j0:=t.2.1+t.2.2) (j1:=j1) hlT hrT h2 h4
  refine Ad (At N 11 (CI hA (room.le (by rwa[])) hk FO (BU T hk hg) (Ab (Aa 0) (Ab (Aa 1) (Ab (Aa 2) (Ab (Au (ds:=[.int i0,.int t.1,.int j0,.int t.2.1]) (Ab (Aa 4) (Ab (Aa 8) (Ab (Aa 6) (Ab (Aa 9) Ah))))) Ah))))) ?_)
  refine Ad (At N 12 (CI hB (room.le (by rwa[])) hk FO (BU T hk hg) (Ab (Aa 0) (Ab (Aa 1) (Ab (Aa 2) (Ab (Au (ds:=[.int (t.1+t.2.2:Nat),.int i1,.int (t.2.1+t.2.2:Nat),.int j1]) (Ab (Dh (Aa 8) (Aa 10)) (Ab (Aa 5) (Ab (Dh (Aa 9) (Aa 10)) (Ab (Aa 7) Ah))))) Ah))))) ?_)
  refine Ad (AQ (Be (GN (Be (GN (Aa 11) (Dy (ds:=[BX t]) (Ab (Au (ds:=[.int t.1,.int t.2.1,.int t.2.2]) (Ab (Aa 8) (Ab (Aa 9) (Ab (Aa 10) Ah)))) Ah)) ?_)) (Aa 12) ?_)) ?_)
  ·rw[jI];simp only[j7,ln];rwa[hl,hl',h2,lA]
  ·rw[jZ,jI,jI];simp only[j7,ln];rwa[hl,hl',h1,h2,lA,lB]
  ·rw[hcut,if_neg hz,kz,kz];rfl
theorem aY(pm cd doc v u x y:jB):l3 (Az 47 pm cd doc .none .none) ⟨[v,u,x,y],[]⟩=pure [((jz "left"),v),((jz "right"),u),((jz "step"),x),((jz "window"),y)]:=by rfl
theorem aJ{w:jW}{xG:jY}{a aL:jL}{mg mb:jX->Option jB}(T:Br mg mb xG)(FL:Av xG 46 aL .none .none)(hgL:mg "_law_longest"=some (.ref aL))(FO:Av xG 47 a .none .none)(hg:mg "_law_cut"=some (.ref a))(l r:jX)(st:Nat)(hst:0<st)(hst':st<1000)(hl':l.length<1000)(hr':r.length<1000) :
 ∀f i0 i1 j0 j1,i1<=l.length->j1<=r.length->i0<=i1->j0<=j1->i1-i0<f->Fn pw w xG (f+1) (.ref a) [] [.py (.str l),.py (.str r),.py (.int st),.py (NR i0 i1 j0 j1)] [] (.py (.list ((Dm l.cps.toList r.cps.toList st f i0 i1 j0 j1).map BX))):=by
 intro f
 induction f with
 | zero=>intro i0 i1 j0 j1 _ _ _ _ h;lia
 | succ f ih=>
  intro i0 i1 j0 j1 hl hr hi hj hf
  exact Ea FO (λpm cd doc=>gc pm cd doc _ _) T.gl.nolimit rfl (λpm cd doc vs h=>by refine Eb (Yw h) λv u x y zz1=>?_;obtain rfl:=zz1;exact aY pm cd doc v u x y) (λpm cd doc A s O hk N room=>Xj T hk FL hgL FO hg l r st i0 i1 j0 j1 f hst hst' hl hr hi hj hl' hr' ih hf N room)
theorem eK{Γ:Cx}{σ:AX}{pos:mf}{mg mb:jX->Option jB}{xG:jY}{x:jX}{v:jB}{d:jO}(T:Br mg mb xG)(hk:HK xG Γ.s₀)(h:mg x=some v)(hr:Ak xG v d [])(hg:autoParam (Γ.env.globals=mN) aR)(hkd:autoParam (Γ.env.scope.kind=.function) aR)(hxk:autoParam (Γ.env.kindOf x=some .globalImplicit) aR)
 (hd:autoParam ((x == ("__debug__":jX))=false) aD):Ev Γ σ (.Name x pos) (.py d):=
 I9 (T.gl.keeps hk) hg h (λO=>Ac [] (Ak.keeps hk hr) λ_ h=>nomatch h) hkd hxk hd
noncomputable def gG:List jX:=["mode"]
theorem gp(pm cd doc dv kdv:jB):Bf (Az 18 pm cd doc dv kdv) (Am (stm 18)) ["mode"] gG:=.of (by decide +kernel)
theorem bh(pm cd doc v:jB):l3 (Az 18 pm cd doc .none .none) ⟨[v],[]⟩=pure [((jz "mode"),v)]:=by rfl
theorem YI{w:jW}{xG:jY}{a:jL}{mg mb:jX->Option jB}(T:Br mg mb xG)(FO:Av xG 18 a .none .none)(m:Int) :
 Fn pw w xG 1 (.ref a) [] [.py (.int m)] [] (.py (.int (kc m 61440))):=
 Ea FO (λpm cd doc=>gp pm cd doc _ _) T.gl.nolimit rfl (λpm cd doc vs h=>by obtain⟨v,rfl⟩:=GF h;exact bh pm cd doc v) (λpm cd doc A s O hk N room=>
  Ad (Iz (Ad (AQ (Hm (Aa 0) Ai) rfl))))
noncomputable def ac:List jX:=["mode","perm","index","table","bit","char"]
theorem gm(pm cd doc dv kdv:jB):Bf (Az 39 pm cd doc dv kdv) (Am (stm 39)) ["mode"] ac:=.of (by decide +kernel)
noncomputable def A4:List (List (Int×jX)):=[[(40960,"l"),(49152,"s"),(32768,"-"),(24576,"b"),(16384,"d"),(8192,"c"),(4096,"p")],[(256,"r")],[(128,"w")],[(2112,"s"),(2048,"S"),(64,"x")],[(32,"r")],[(16,"w")],[(1032,"s"),(1024,"S"),(8,"x")],[(4,"r")],[(2,"w")],[(513,"t"),(512,"T"),(1,"x")]]
noncomputable def fa (p:Int×jX):jO:=.tuple [.int p.1,.str p.2]
noncomputable def ES (t:List (Int×jX)):jO:=.tuple (t.map fa)
noncomputable def Gu:jO:=.tuple (A4.map ES)
noncomputable def EL (m:Int) (i:Nat) (p:Int×jX):Bool:=if i=0 then decide (kc m 61440=p.1) else decide (kc m p.1=p.1)
noncomputable def AU (m:Int) (i:Nat) (t:List (Int×jX)):jX:=((t.find? (EL m i)).map (·.2)).getD (if i=0 then "?" else "-")
noncomputable def Aw (m:Int) (n:Nat):List jX:=(A4.take n).mapIdx (AU m)
theorem Kw{α:Type}{p:α->Bool}:∀{l:List α} {i:Nat} {x:α},l[i]?=some x->(∀y∈l.take i,p y=false)->p x=true->l.find? p=some x
 | [],_,_,h,_,_=>by simp at h
 | y::l,0,x,h,_,hx=>by
  have:y=x:=by simpa using h
  subst this
  rw[me,hx]
 | y::l,i+1,x,h,hn,hx=>by
  have hy:p y=false:=hn y (by simp)
  rw[me,hy]
  exact Kw (by simpa using h) (λz hz=>hn z (by simp[hz])) hx
theorem Kb{w:jW}{A:kA}{s:jE}{O:Ap}{a aS:jL}{mg mb:jX->Option jB}{xG:jY}{pm cd doc dv kdv tb:jB}(T:Br mg mb xG)(hk:HK xG s)(FS:Av xG 18 aS .none .none)(hgS:mg "S_IFMT"=some (.ref aS))(hgT:mg "_filemode_table"=some tb)(hT:Ak xG tb Gu [])(m:Int)
 (N:Nm (Dx pw w A s (Az 39 pm cd doc dv kdv) a ac O))(room:A0 (A.deeper (callEnvC (Az 39 pm cd doc dv kdv) s.heap.objs.size a)) 1) :
 Ex (Dx pw w A s (Az 39 pm cd doc dv kdv) a ac O) (Bi [.py (.int m)] 5) (Am (stm 39)) (λaf _=>af=.ret (.py (.str (mE "" (Aw m 10))))):=by
 delta w A s O a aS mg mb xG pm cd doc dv kdv tb m at T hk FS hgS hgT hT N room
 have hh:=room.handled
 have hS:=YI (w:=w) T FS m
 refine Ad (Iz ?_)
 refine Ad (Gn N 1 (CH Ah (ds:=[]) (by decide)) ?_)
 refine Ad (EO N (Vb N hh (A1 T hk) (eK (d:=Gu) T hk hgT hT))
  (λi σ=>∃x y z u,σ=[some (.val (.py (.int m))),some (.own ((Aw m i).map .str)),x,y,z,u]) (EH _ _ _ _ rfl) ?_ ?_)
 ·intro i d σ1 hd zz1;refine Eb zz1 λx y z u zz2=>?_;clear zz1;obtain rfl:=zz2
  refine Af (Eu hd) λd' hd' zz1=>?_;obtain rfl:=zz1
  obtain⟨t,ht,rfl⟩:∃t,A4[i]?=some t/\d'=ES t:=by
   rw[j8] at hd'
   refine Af (j6.mp hd') λm h1 h2=>?_
   exact Ac m h1 h2.symm
  have hi:i<10:=(jK.mp ht).1
  have hz:(Aw m i).length<=10:=by simp[Aw];rwa[hi]
  have hstep:∀ch,AU m i t=ch->Aw m (i+1)=Aw m i++[ch]:=by
   rintro ch rfl
   unfold Aw
   rw[kN,ht,List.mapIdx_append]
   have:(A4.take i).length=i:=by rw[lm];exact uB (by show i<=10;rwa[hi])
   simp[this]
  refine Ac _ (BV N hh [2,3] (ds:=[_,_]) ⟨rfl,rfl,rfl,rfl,trivial⟩) ?_
  refine Ad (EO N (Ft N hh (Aa 3)) (λj σ=>(∀p∈t.take j,EL m i p=false)/\∃z u,σ=[some (.val (.py (.int m))),some (.own ((Aw m i).map .str)),some (.val (.py (.int i))),some (.val (.py (ES t))),z,u]) ⟨(λp hp=>by simp at hp),z,u,rfl⟩ ?_ ?_)
  ·intro j d σ2 hd2 zz1;refine Cg zz1 λhno zr0=>B1 zr0 λz u zz2=>?_;clear zz1;obtain rfl:=zz2
   obtain⟨p,hp,rfl⟩:∃p,t[j]?=some p/\d=fa p:=by
    rw[j8] at hd2
    refine Af (j6.mp hd2) λm h1 h2=>?_
    exact Ac m h1 h2.symm
   have hnext:EL m i p=false->∀q∈t.take (j+1),EL m i q=false:=by
    intro h q hq
    rw[kN,hp] at hq
    rcases jU.mp hq with hq|hq
    ·exact hno q hq
    ·obtain rfl:q=p:=by simpa using hq
     exact h
   have hhit:EL m i p=true->AU m i t=p.2:=by
    intro h
    unfold AU
    rw[Kw hp hno h];rfl
   refine Ac _ (BV N hh [4,5] (ds:=[_,_]) ⟨rfl,rfl,rfl,rfl,trivial⟩) ?_
   refine Ad (BI (b:=decide ((i:Int)=0)) (An (Aa 2) Ai) (λh=>?_) (λh=>?_))
   ·have h:=of_decide_eq_true h
    have h0:i=0:=by rwa[h]
    refine Ad (BI (b:=decide (kc m 61440=p.1)) (An (CI hS (room.le (by rwa[])) hk FS (BU T hk hgS) (Ab (Aa 0) Ah)) (Aa 4)) (λh=>?_) (λh=>?_))
    ·have hh1:EL m i p=true:=by unfold EL;rw[if_pos h0];exact h
     refine Ad (AO N 1 (Aa 5) ?_ ?_)
     ·rw[jI];rwa[hz]
     ·refine Ad (L4 (Aj (EH (some (.val (.py (.int i)))) (some (.val (.py (ES t)))) (some (.val (.py (.int p.1)))) (some (.val (.py (.str p.2)))) ?_)))
      rw[hstep _ (hhit hh1),kz];rfl
    ·have hh1:EL m i p=false:=by unfold EL;rw[if_pos h0];exact h
     exact Aj (Aj (Aj ⟨hnext hh1,some (.val (.py (.int p.1))),some (.val (.py (.str p.2))),rfl⟩))
   ·have h:=of_decide_eq_false h
    have h0:¬i=0:=by rwa[h]
    refine Ad (BI (b:=decide (kc m p.1=p.1)) (An (Hm (Aa 0) (Aa 4)) (Aa 4)) (λh=>?_) (λh=>?_))
    ·have hh1:EL m i p=true:=by unfold EL;rw[if_neg h0];exact h
     refine Ad (AO N 1 (Aa 5) ?_ ?_)
     ·rw[jI];rwa[hz]
     ·refine Ad (L4 (Aj (EH (some (.val (.py (.int i)))) (some (.val (.py (ES t)))) (some (.val (.py (.int p.1)))) (some (.val (.py (.str p.2)))) ?_)))
      rw[hstep _ (hhit hh1),kz];rfl
    ·have hh1:EL m i p=false:=by unfold EL;rw[if_neg h0];exact h
     exact Aj (Aj (Aj ⟨hnext hh1,some (.val (.py (.int p.1))),some (.val (.py (.str p.2))),rfl⟩))
  ·intro σ2 zz1;refine Cg zz1 λhno zr0=>B1 zr0 λz u zz2=>?_;clear zz1;obtain rfl:=zz2
   rw[jI,lz] at hno
   have hms:AU m i t=if i=0 then jz "?" else jz "-":=by
    unfold AU
    rw[List.find?_eq_none.mpr λp hp=>by rw[hno p hp];exact lg];rfl
   refine Ad (BI (b:=decide ((i:Int)=0)) (An (Aa 2) Ai) (λh=>?_) (λh=>?_))
   ·have h:=of_decide_eq_true h
    refine Ad (AO N 1 BF ?_ ?_)
    ·rw[jI];rwa[hz]
    ·refine Aj (Aj (Aj (EH (some (.val (.py (.int i)))) (some (.val (.py (ES t)))) z u ?_)))
     rw[hstep _ hms,if_pos (by rwa[h]),kz];rfl
   ·have h:=of_decide_eq_false h
    refine Ad (AO N 1 BF ?_ ?_)
    ·rw[jI];rwa[hz]
    ·refine Aj (Aj (Aj (EH (some (.val (.py (.int i)))) (some (.val (.py (ES t)))) z u ?_)))
     rw[hstep _ hms,if_neg (by rwa[h]),kz];rfl
 ·intro σ1 zz1;refine Eb zz1 λx y z u zz2=>?_;clear zz1;obtain rfl:=zz2
  refine Aj (Ct N 1 ?_)
  have e:(Ce (A4.map ES)).length=10:=by simp[Ce,A4]
  rw[e]
  refine Ad (AQ (GO (Aa 1) (by decide) ?_) rfl)
  have h1:∀x∈Aw m 10,x.length=1:=λx hx=>by
   unfold Aw at hx
   obtain⟨i,hi,rfl⟩:=xk.mp hx
   have hm:A4[i]?=some ((A4.take 10)[i]):=by
    rw[<-jP hi];rfl
   generalize (A4.take 10)[i]=t at hm ⊢
   unfold AU
   cases hf:t.find? (EL m i) with
   | none=>show(if i=0 then jz "?" else jz "-").length=1;split<;>decide
   | some p=>
    show p.2.length=1
    have h2:=nE hf
    have h3:=kt hm
    have:(A4.all λt=>t.all λp=>p.2.length == 1)=true:=by decide +kernel
    exact beq_iff_eq.mp (ky.mp (ky.mp this t h3) p h2)
  have hl:(Aw m 10).length=10:=by simp[Aw,A4]
  rw[show(Aw m 10).map (·.length)=kW (Aw m 10).length 1 from vJ.mpr ⟨by simp,λb hb=>by obtain⟨x,hx,rfl⟩:=kn.mp hb;exact h1 x hx⟩,m9,hl]
  decide
theorem bg(pm cd doc v:jB):l3 (Az 39 pm cd doc .none .none) ⟨[v],[]⟩=pure [((jz "mode"),v)]:=by rfl
theorem Pm{w:jW}{xG:jY}{a aS:jL}{mg mb:jX->Option jB}{tb:jB}(T:Br mg mb xG)(FO:Av xG 39 a .none .none)(FS:Av xG 18 aS .none .none)(hgS:mg "S_IFMT"=some (.ref aS))(hgT:mg "_filemode_table"=some tb)(hT:Ak xG tb Gu [])(m:Int) :
 Fn pw w xG 2 (.ref a) [] [.py (.int m)] [] (.py (.str (mE "" (Aw m 10)))):=
 Ea FO (λpm cd doc=>gm pm cd doc _ _) T.gl.nolimit rfl (λpm cd doc vs h=>by obtain⟨v,rfl⟩:=GF h;exact bg pm cd doc v) (λpm cd doc A s O hk N room=>Kb T hk FS hgS hgT hT m N room)
section
variable {Γ:Cx} {σ:AX} {pos:mf}
theorem Hi{f e:kH}{u:AV}{T:String}(hf:Ev Γ σ f (.raw (.type "type")))(he:Ev Γ σ e u)(hu:∀(O:Ap) (s:jE) (v:jB),VR O s.heap u v->s.TypeIs v T)(hn:autoParam ((jV T == jV "builtin_function_or_method")=false) aD)(hp:autoParam (AE e=true) aR)
 (hc:autoParam (eval (.Call f [e] [] pos) Γ.env=(do kX pos (<-eval f Γ.env) [] (backTo pos (starEach [e] Γ.env)) (l8 pos (lu [] Γ.env)))) aR):Ev Γ σ (.Call f [e] [] pos) (.raw (.type T)):=
 Et hf (Ab he Ah hp) (λO s vs Q E hO rv q=>by
  refine Af rv.one λv zz1 r=>?_;obtain rfl:=zz1
  exact call_type_of (hu O s v r) hn (q _ s (Keeps.re s) rfl)) (by rw[lC,hp];rfl) hc
theorem Kd{l r:kH}{b:Array UInt8}{i:Int}(hl:Ev Γ σ l (.by b))(hr:Ev Γ σ r (.py (.int i)))(h0:0<=i)(h1:i<b.size)(hz:b.size<=100000)
 (hs:autoParam (∀o x,subscripted r false o x=th [o,x] (getItem o x)) aI):Ev Γ σ (.Subscript l r pos) (.py (.int (b.toList.getD i.toNat 0).toNat)):=by
 intro O s Q E t q
 refine ua (hl O s _ E t λu s1 t1 k1 r1=>hr O s1 _ E t1 λy s2 t2 k2 r2=>?_)
 obtain⟨tb,rfl⟩:=r1
 obtain⟨ty,rfl⟩:=r2.int_inv
 have e:b.toList.toArray=b:=p0
 have g:wpAny (model Γ.prog Γ.w) Γ.A (getItem (.bytes b.toList.toArray tb) (.int i ty)) Q E s2:=getItem_bytes (l:=b.toList) (by simp;rwa[hz]) h0 (by simpa using h1) (q _ _ (t2.keeps λ_ _ e=>e) (Keeps.tr (Keeps.tr k1 k2) Keeps.rfl') (VR.int ..))
 rw[e] at g
 exact vA (qS _ _ _) FB.slot_bytes_getitem.lookup g (hs _ _)
theorem Hl{mg mb:jX->Option jB}{xG:jY}{x:jX}{b:Array UInt8}{t:ut}(T:Br mg mb xG)(hk:HK xG Γ.s₀)(h:mg x=some (.bytes b t))(hg:autoParam (Γ.env.globals=mN) aR)(hkd:autoParam (Γ.env.scope.kind=.function) aR)(hxk:autoParam (Γ.env.kindOf x=some .globalImplicit) aR)
 (hd:autoParam ((x == ("__debug__":jX))=false) aD):Ev Γ σ (.Name x pos) (.by b):=
 I9 (T.gl.keeps hk) hg h (λO=>Ag t rfl) hkd hxk hd
end
noncomputable def jo:List jX:=["data","t"]
theorem jc(pm cd doc dv kdv:jB):Bf (Az 7 pm cd doc dv kdv) (Am (stm 7)) ["data"] jo:=.of (by decide +kernel)
theorem fh(pm cd doc v:jB):l3 (Az 7 pm cd doc .none .none) ⟨[v],[]⟩=pure [((jz "data"),v)]:=by rfl
theorem KH{w:jW}{xG:jY}{a:jL}{mg mb:jX->Option jB}(T:Br mg mb xG)(FO:Av xG 7 a .none .none)(b:Array UInt8) :
 Fn pw w xG 1 (.ref a) [] [.by b] [] (.by b):=
 Ea FO (λpm cd doc=>jc pm cd doc _ _) T.gl.nolimit rfl (λpm cd doc vs h=>by obtain⟨v,rfl⟩:=GF h;exact fh pm cd doc v) (λpm cd doc A s O hk N room=>by
  refine Ad (At N 1 (Hi (T:="bytes") (A1 T hk) (Aa 0) (λO s v r=>by obtain⟨t,rfl⟩:=r;exact qS _ _ _)) ?_)
  refine Ad (BI (b:=true) (Tv.cast (Zz (v:=.type "bytes") (Aa 1) (A1 T hk) (by rfl)) (by rfl)) (λ_=>Ad (AQ (Aa 0) rfl)) (λh=>by exact lK h)))
noncomputable def jn:List jX:=["x","t"]
theorem jb(pm cd doc dv kdv:jB):Bf (Az 8 pm cd doc dv kdv) (Am (stm 8)) ["x"] jn:=.of (by decide +kernel)
theorem ff(pm cd doc v:jB):l3 (Az 8 pm cd doc .none .none) ⟨[v],[]⟩=pure [((jz "x"),v)]:=by rfl
theorem VQ{w:jW}{xG:jY}{a:jL}{mg mb:jX->Option jB}(T:Br mg mb xG)(FO:Av xG 8 a .none .none) :
 Fn pw w xG 1 (.ref a) [] [.py (.bool false)] [] (.py (.bool false)):=
 Ea FO (λpm cd doc=>jb pm cd doc _ _) T.gl.nolimit rfl (λpm cd doc vs h=>by obtain⟨v,rfl⟩:=GF h;exact ff pm cd doc v) (λpm cd doc A s O hk N room=>by
  refine Ad (At N 1 (Hi (T:="bool") (A1 T hk) (Aa 0) (λO s v r=>by obtain rfl:=r.bool_inv;rfl)) ?_)
  refine Ad (BI (b:=true) (Tv.cast (By (IB (G3 (c:=false) (Aa 0) Fu (λO h v r=>by obtain rfl:=r.bool_inv;rfl)) (λ_=>IB (d:=false) (Zz (v:=.type "bool") (Aa 1) (A1 T hk) (by rfl)) (λh=>by cases h)))) (by rfl)) (λ_=>?_) (λh=>by exact lK h))
  refine Ad (AQ (I8 (c:=false) (Fi (Aa 0)) (λh=>by exact lK h) (λ_=>Uf)) rfl))
noncomputable def PM:List UInt8:="ABCDEFGHIJKLMNOPQRSTUVWXYZabcdefghijklmnopqrstuvwxyz0123456789+/".toList.map λc=>c.toNat.toUInt8
noncomputable def OJ (i:Int):Int:=(PM.getD i.toNat 0).toNat
noncomputable def CV (lc:Int):Nat->Int->List Int->Int×List Int
 | 0,lb,out=>(lb,out)
 | n+1,lb,out=>if 6<=lb then CV lc n (lb-6) (out++[OJ (kc (lc.fdiv (2^(lb-6).toNat)) 63)]) else(lb,out)
noncomputable def AZ (st:Int×Int×List Int) (b:Int):Int×Int×List Int:=
 let lc:=kc (ou (st.1*2^(8:Int).toNat) b) 65535
 (lc,CV lc 3 (st.2.1+8) st.2.2)
noncomputable def DG (bs:List Int):Int×Int×List Int:=bs.foldl AZ (0,0,[])
noncomputable def BR (st:Int×Int×List Int):List Int:=if st.2.1=2 then [OJ (kc st.1 3*2^(4:Int).toNat),61,61] else if st.2.1=4 then [OJ (kc st.1 15*2^(2:Int).toNat),61] else []
noncomputable def EG (bs:List Int):List Int:=(DG bs).2.2++BR (DG bs)
theorem Je(i:Int):0<=OJ i/\OJ i<256:=by
 unfold OJ
 have:=(PM.getD i.toNat 0).toNat_lt
 rwa[this]
structure XG (n:Nat) (st:Int×Int×List Int):Prop where
 lc0:0<=st.1
 lc1:st.1<65536
 lb0:0<=st.2.1
 lb1:st.2.1<6
 len:st.2.2.length<=2*n
 byte:∀x∈st.2.2,0<=x/\x<256
theorem Hw(x:Int):0<=kc x 65535/\kc x 65535<65536:=by rw[bitAnd_m16];rwa[]
theorem PN(x:Int):0<=kc x 63/\kc x 63<64:=by rw[bitAnd_m6];rwa[]
theorem Px(lc:Int):∀(n:Nat) (lb:Int) (out:List Int),0<=lb->lb<6*n+6->(∀x∈out,0<=x/\x<256)->0<=(CV lc n lb out).1/\(CV lc n lb out).1<6/\(CV lc n lb out).2.length<=out.length+n/\(∀x∈(CV lc n lb out).2,0<=x/\x<256)
 | 0,lb,out,h0,h1,hb=>⟨h0,by show lb<6;rwa[h0,h1],jN _,hb⟩
 | n+1,lb,out,h0,h1,hb=>by
  unfold CV
  by_cases h:6<=lb
  ·rw[if_pos h]
   have:=Px lc n (lb-6) (out++[OJ (kc (lc.fdiv (2^(lb-6).toNat)) 63)]) (by rwa[h]) (by rwa[h1]) (by
    intro x hx
    rcases jU.mp hx with hx|hx
    ·exact hb x hx
    ·obtain rfl:=jH.mp hx;exact Je _)
   refine CU this λa b c d=>?_
   refine⟨a,b,?_,d⟩
   rw[jZ] at c
   simp only[j7,ln] at c
   rwa[c]
  ·rw[if_neg h];exact⟨h0,by show lb<6;rwa[h0,h],by show out.length<=_;rwa[],hb⟩
theorem Vi(lc:Int)(lb:Int)(out:List Int)(h1:lb<18):(CV lc 3 lb out).2.length<=out.length+2:=by
 unfold CV
 split
 ·unfold CV
  split
  ·unfold CV
   rw[if_neg (by rwa[h1])]
   simp
  ·simp
 ·simp
theorem Yh{n:Nat}{st:Int×Int×List Int}{b:Int}(h:XG n st):XG (n+1) (AZ st b):=by
 obtain⟨a,b',c,d,e,f⟩:=h
 have k:=Px (kc (ou (st.1*2^(8:Int).toNat) b) 65535) 3 (st.2.1+8) st.2.2 (by rwa[c]) (by rwa[d]) f
 have l:=Vi (kc (ou (st.1*2^(8:Int).toNat) b) 65535) (st.2.1+8) st.2.2 (by rwa[d])
 exact⟨(Hw _).1,(Hw _).2,k.1,k.2.1,by show(CV _ 3 _ _).2.length<=_;rwa[e,l],k.2.2.2⟩
theorem G8(bs:List Int):XG bs.length (DG bs):=by
 have key:∀(l:List Int) (n:Nat) (st:Int×Int×List Int),XG n st->XG (n+l.length) (l.foldl AZ st):=by
  intro l
  induction l with
  | nil=>exact λn st h=>h
  | cons b l ih=>
   intro n st h
   have:=ih (n+1) _ (Yh (b:=b) h)
   rw[j7,show n+(l.length+1)=n+1+l.length by rwa[]]
   exact this
 have:=key bs 0 (0,0,[]) ⟨by decide,by decide,by decide,by decide,by decide,λ_ h=>nomatch h⟩
 rw[tB] at this
 exact this
noncomputable def Yr:List jX:=["data","newline","bin_data","out","leftbits","leftchar","b"]
theorem gw(pm cd doc dv kdv:jB):Bf (Az 10 pm cd doc dv kdv) (Am (stm 10)) ["data","newline"] Yr:=.of (by decide +kernel)
noncomputable def B9 (b:Array UInt8):List Int:=b.toList.map λc=>(c.toNat:Int)
theorem U3(b:Array UInt8):DK b=(B9 b).map .int:=by simp[DK,B9]
theorem PL:PM.toArray.size=64:=by decide +kernel
theorem Ja{Γ:Cx}{σ:AX}{pos:mf}{l r:kH}{i:Int}(hl:Ev Γ σ l (.by PM.toArray))(hr:Ev Γ σ r (.py (.int i)))(h0:0<=i)(h1:i<64)
 (hs:autoParam (∀o x,subscripted r false o x=th [o,x] (getItem o x)) aI):Ev Γ σ (.Subscript l r pos) (.py (.int (OJ i))):=
 Ev.cast (Kd hl hr h0 (by rw[PL];exact h1) (by rw[PL];decide) hs) (by rw[sG];unfold OJ;rfl)
theorem Xz{w:jW}{A:kA}{s:jE}{O:Ap}{a aB aT:jL}{mg mb:jX->Option jB}{xG:jY}{pm cd doc dv kdv:jB}{tk:ut}(T:Br mg mb xG)(hk:HK xG s)(FB:Av xG 7 aB .none .none)(hgB:mg "_buffer"=some (.ref aB))(FT:Av xG 8 aT .none .none)(hgT:mg "_truth"=some (.ref aT))(hg6:mg "_B64"=some (.bytes PM.toArray tk))(b:Array UInt8)(hb:b.size<=1000)
 (N:Nm (Dx pw w A s (Az 10 pm cd doc dv kdv) a Yr O))(room:A0 (A.deeper (callEnvC (Az 10 pm cd doc dv kdv) s.heap.objs.size a)) 1) :
 Ex (Dx pw w A s (Az 10 pm cd doc dv kdv) a Yr O) (Bi [.by b,.py (.bool false)] 5) (Am (stm 10)) (λaf _=>af=.ret (.by (byteArr (EG (B9 b))))):=by
 delta w A s O a aB aT mg mb xG pm cd doc dv kdv tk b at T hk FB hgB FT hgT hg6 hb N room
 have hh:=room.handled
 refine Ad (At N 2 (CI (KH T FB b) (room.le (by rwa[])) hk FB (BU T hk hgB) (Ab (Aa 0) Ah)) ?_)
 refine Ad (At N 1 (CI (VQ T FT) (room.le (by rwa[])) hk FT (BU T hk hgT) (Ab (Aa 1) Ah)) ?_)
 refine Ad (Gn N 3 (CH Ah (ds:=[]) (by decide)) ?_)
 refine Ad (At N 4 Ai ?_)
 refine Ad (At N 5 Ai ?_)
 refine Ad (EO N (ds:=DK b) (Ky N hh (Aa 2)) (λi σ=>∃z,σ=[some (.val (.by b)),some (.val (.py (.bool false))),some (.val (.by b)),some (.own ((DG ((B9 b).take i)).2.2.map .int)),some (.val (.py (.int (DG ((B9 b).take i)).2.1))),some (.val (.py (.int (DG ((B9 b).take i)).1))),z]) (Ag none rfl) ?_ ?_)
 ·intro i d σ1 hd zz1;refine AR zz1 λz zz2=>?_;clear zz1;obtain rfl:=zz2
  rw[U3] at hd
  refine Af (Fr hd) λc hc zz1=>?_;obtain rfl:=zz1
  have hc2:0<=c/\c<256:=by
   obtain⟨u,_,rfl⟩:=kn.mp (kt hc)
   have:=u.toNat_lt
   rwa[this]
  have hok:=G8 ((B9 b).take i)
  have hlen:((B9 b).take i).length<=1000:=by rw[lm];simp[B9];rwa[hb]
  have hrun:DG ((B9 b).take (i+1))=AZ (DG ((B9 b).take i)) c:=by
   unfold DG
   rw[kN,hc,mq];rfl
  rw[hrun]
  generalize DG ((B9 b).take i)=st at hok ⊢
  obtain⟨lc0,lc1,lb0,lb1,olen,obyte⟩:=hok
  refine Ac _ (BH N 6) ?_
  refine Ad (At N 5 (Hm (eJ (Rn (Aa 5) Ai (by decide) (by decide) (by(clear_value *;lia))) (Aa 6)) Ai) ?_)
  refine Ad (At N 4 (Bl (Aa 4) Ai) ?_)
  generalize hlc:kc (ou (st.1*2^(8:Int).toNat) c) 65535=lc
  have hl16:0<=lc/\lc<65536:=by rw[<-hlc];exact Hw _
  have hpush:AZ st c=(lc,CV lc 3 (st.2.1+8) st.2.2):=by rw[<-hlc];rfl
  rw[hpush]
  generalize hD:CV lc 3 (st.2.1+8) st.2.2=D
  refine Ad (Ef (n:=3) (λn σ=>∃(lb:Int) (out:List Int),0<=lb/\lb<6*(n:Nat)+6/\out.length+n<=3003/\CV lc n lb out=D/\σ=[some (.val (.by b)),some (.val (.py (.bool false))),some (.val (.by b)),some (.own (out.map .int)),some (.val (.py (.int lb))),some (.val (.py (.int lc))),some (.val (.py (.int c)))])
   (C5 (st.2.1+8) st.2.2 (by rwa[lb0]) (by rwa[lb1]) (by rwa[hlen,olen]) hD rfl) ?_)
  intro n σ2 zz1;refine C9 zz1 λlb out h0 h1 h2 h3 zz2=>?_;clear zz1;obtain rfl:=zz2
  refine Ba (decide (6<=lb)) (An (Aa 4) Ai) (λh=>?_) λh=>?_
  ·have h:=of_decide_eq_true h
   cases n with
   | zero=>(clear_value *;lia)
   | succ n=>
    refine Ad (AO N 3 (Ja (Hl T hk hg6) (Hm (aA (Aa 5) (Dd (Aa 4) Ai) (by rwa[h])) Ai) (PN _).1 (PN _).2) ?_ ?_)
    ·rw[jI];rwa[h2]
    ·refine Ad (At N 4 (Dd (Aa 4) Ai) ?_)
     refine Aj ⟨n,mi _,lb-6,out++[OJ (kc (lc.fdiv (2^(lb-6).toNat)) 63)],by rwa[h],by rwa[h1],by rw[jZ];simp only[j7,ln];rwa[h2],?_,?_⟩
     ·rw[<-h3,CV,if_pos h]
     ·rw[kz];rfl
  ·have h:=of_decide_eq_false h
   have:D=(lb,out):=by
    rw[<-h3]
    cases n with
    | zero=>rfl
    | succ n=>rw[CV,if_neg h]
   subst this
   exact Aj (Aj (Ag (some (.val (.py (.int c)))) rfl))
 ·intro σ1 zz1;refine AR zz1 λz zz2=>?_;clear zz1;obtain rfl:=zz2
  have hl:(DK b).length=(B9 b).length:=by simp[DK,B9]
  rw[hl,lz]
  have hok:=G8 (B9 b)
  have hbl:(B9 b).length=b.size:=by simp[B9]
  have henc:EG (B9 b)=(DG (B9 b)).2.2++BR (DG (B9 b)):=rfl
  generalize DG (B9 b)=st at hok henc ⊢
  obtain⟨lc0,lc1,lb0,lb1,olen,obyte⟩:=hok
  have hm2:0<=kc st.1 3/\kc st.1 3<4:=by rw[bitAnd_m2];rwa[]
  have hm4:0<=kc st.1 15/\kc st.1 15<16:=by rw[bitAnd_m4];rwa[]
  have hend:∀out:List Int,out=EG (B9 b)->(∀x∈out,0<=x/\x<256)->out.length<=5000->Ex (Dx pw w A s (Az 10 pm cd doc dv kdv) a Yr O) [some (.val (.by b)),some (.val (.py (.bool false))),some (.val (.by b)),some (.own (out.map .int)),some (.val (.py (.int st.2.1))),some (.val (.py (.int st.1))),z] ((Am (stm 10)).drop 7) (λaf _=>af=.ret (.by (byteArr (EG (B9 b))))):=by
   intro out ho hby hln
   refine Ad (BI (b:=false) (Fi (Aa 1)) (λh=>by exact lK h) (λ_=>Aj ?_))
   refine Ct N 3 (Ad (AQ (Ps (ns:=out) hh (A1 T hk) (Aa 3) hby (by rwa[hln])) ?_))
   rw[ho]
  refine Aj ?_
  refine Ad (BI (b:=decide (st.2.1=2)) (An (Aa 4) Ai) (λh=>?_) (λh=>?_))
  ·have h:=of_decide_eq_true h
   have ht:BR st=[OJ (kc st.1 3*2^(4:Int).toNat),61,61]:=by unfold BR;rw[if_pos h]
   refine Ad (AO N 3 (Ja (Hl T hk hg6) (Rn (Hm (Aa 5) Ai) Ai (by decide) (by decide) (by(clear_value *;lia))) ?_ ?_) ?_ ?_)
   ·show 0<=kc st.1 3*16;rwa[hm2]
   ·show kc st.1 3*16<64;rwa[hm2]
   ·rw[jI];rwa[hb,hbl,olen]
   refine Ad (AO N 3 Ai ?_ ?_)
   ·rw[jZ,jI];simp only[j7,ln];rwa[hb,hbl,olen]
   refine Ad (AO N 3 Ai ?_ ?_)
   ·rw[jZ,jZ,jI];simp only[j7,ln];rwa[hb,hbl,olen]
   refine Aj ?_
   have:=hend (st.2.2++BR st) henc.symm (λx hx=>by
    rcases jU.mp hx with hx|hx
    ·exact obyte x hx
    ·rw[ht] at hx
     simp only[jG,nY,or_false] at hx
     rcases hx with rfl|rfl|rfl
     ·exact Je _
     ·decide
     ·decide) (by rw[ht,jZ];simp only[j7,ln];rwa[hb,hbl,olen])
   rw[ht,kz] at this
   simp only[kM,qr] at this
   have e:∀(X:List jO) (a b c:jO),((X++[a])++[b])++[c]=X++[a,b,c]:=λX a b c=>by simp
   rw[<-e] at this
   exact this
  ·have h:=of_decide_eq_false h
   refine Ad (BI (b:=decide (st.2.1=4)) (An (Aa 4) Ai) (λh2=>?_) (λh2=>?_))
   ·have h2:=of_decide_eq_true h2
    have ht:BR st=[OJ (kc st.1 15*2^(2:Int).toNat),61]:=by unfold BR;rw[if_neg h,if_pos h2]
    refine Ad (AO N 3 (Ja (Hl T hk hg6) (Rn (Hm (Aa 5) Ai) Ai (by decide) (by decide) (by(clear_value *;lia))) ?_ ?_) ?_ ?_)
    ·show 0<=kc st.1 15*4;rwa[hm4]
    ·show kc st.1 15*4<64;rwa[hm4]
    ·rw[jI];rwa[hb,hbl,olen]
    refine Ad (AO N 3 Ai ?_ ?_)
    ·rw[jZ,jI];simp only[j7,ln];rwa[hb,hbl,olen]
    refine Aj (Aj ?_)
    have:=hend (st.2.2++BR st) henc.symm (λx hx=>by
     rcases jU.mp hx with hx|hx
     ·exact obyte x hx
     ·rw[ht] at hx
      simp only[jG,nY,or_false] at hx
      rcases hx with rfl|rfl
      ·exact Je _
      ·decide) (by rw[ht,jZ];simp only[j7,ln];rwa[hb,hbl,olen])
    rw[ht,kz] at this
    simp only[kM,qr] at this
    have e:∀(X:List jO) (a b:jO),(X++[a])++[b]=X++[a,b]:=λX a b=>by simp
    rw[<-e] at this
    exact this
   ·have h2:=of_decide_eq_false h2
    have ht:BR st=[]:=by unfold BR;rw[if_neg h,if_neg h2]
    rw[ht,kF] at henc
    exact Aj (Aj (hend st.2.2 henc.symm obyte (by rwa[hb,hbl,olen])))
theorem bn(pm cd doc kdv v x:jB):l3 (Az 10 pm cd doc .none kdv) ⟨[v],[(jz "newline",x)]⟩=pure [((jz "data"),v),((jz "newline"),x)]:=by rfl
theorem br{w:jW}{xG:jY}{a aB aT:jL}{mg mb:jX->Option jB}{kdv:jB}{tk:ut}(T:Br mg mb xG)(FO:Av xG 10 a .none kdv)(FB:Av xG 7 aB .none .none)(hgB:mg "_buffer"=some (.ref aB))(FT:Av xG 8 aT .none .none)(hgT:mg "_truth"=some (.ref aT))(hg6:mg "_B64"=some (.bytes PM.toArray tk))(b:Array UInt8)(hb:b.size<=1000) :
 Fn pw w xG 2 (.ref a) [jz "newline"] [.by b] [.py (.bool false)] (.by (byteArr (EG (B9 b)))):=by
 refine E7 FO.ex λo pm cd doc ho hd hcd=>?_
 refine Hg (ps:=[jz "data",jz "newline"]) (davs:=[]) (dv:=[]) (gw pm cd doc _ _) ho hd T.gl.nolimit hcd rfl (λ_ _=>trivial) (λs vs kvs _ h1 h2=>?_) (λA s O hk N room=>Xz T hk FB hgB FT hgT hg6 b hb N room)
 obtain⟨v,rfl⟩:=GF h1
 obtain⟨x,rfl⟩:=GF h2
 exact .of_eq (bn pm cd doc kdv v x)
section
variable {Γ:Cx} {σ:AX} {pos:mf}
theorem YT{f e kv:kH}{es:List kH}{x:jX}{kp:mf}{xG:jY}{n i:Nat}{a:jL}{dv kdv:jB}{avs:List AV}{ka r:AV}(F:Fn Γ.prog Γ.w xG n (.ref a) [x] avs [ka] r)(room:A0 Γ.A n)(hk:HK xG Γ.s₀)(FO:Av xG i a dv kdv)
 (hf:Ev Γ σ f (.raw (.ref a)))(ha:XI Γ σ (e::es) avs)(hv:Ev Γ σ kv ka)(hp:autoParam (AE e=true) aR)
 (he:autoParam (eval (.Call f (e::es) [⟨some x,kv,kp⟩] pos) Γ.env=(do kX pos (<-eval f Γ.env) [] (backTo pos (starEach (e::es) Γ.env)) (l8 pos (lu [⟨some x,kv,kp⟩] Γ.env)))) aR):Ev Γ σ (.Call f (e::es) [⟨some x,kv,kp⟩] pos) r:=by
 intro O s Q E t q
 obtain⟨o,pm,cd,doc,h1,h2⟩:=FO.at
 rw[he]
 refine jA (hf O s _ E t λv s1 t1 k1 r1=>?_)
 obtain rfl:v=.ref a:=r1
 refine callWith_function_kw (o:=o) (fd:=Az i pm cd doc dv kdv) (evalArgs_kw2 rfl (ha O s1 _ _ E t1 λvs s2 t2 k2 r2=>kwAll_cons (hv O s2 _ E t2 λu s3 t3 k3 r3=>kwAll_nil ?_)) (CC hp))
 refine⟨⟨t3.keep _ _ (hk _ _ h1),h2⟩,?_⟩
 exact F Γ.A O s3 vs [u] Q E room (λb o e=>t3.keep _ _ (hk _ _ e)) t3.ownOk (r2.kept k3) ⟨r3,trivial⟩ λv s4 k4 r4=>q v s4 (t3.of_keeps k4) (Keeps.tr (Keeps.tr (Keeps.tr k1 k2) k3) k4) r4
theorem Gr{l r:kH}{u:AV}{c:Bool}(hl:Ev Γ σ l u)(hr:Ev Γ σ r (.py .none))(hv:∀O h v,VR O h u v->(v == .none)=c)(hpl:∀O h v,VR O h u v->plainIs v .none=true)(hm:autoParam (behindInMarks .IsNot r=false) aR):Tv Γ σ (.Compare l [.IsNot] [r] pos) (!c):=
 Eh hl hr (λO s x y Q E rx ry q=>by
  obtain⟨_,ry,_⟩:=ry
  cases ry
  refine un (hpl _ _ _ rx) ?_
  rw[hv _ _ _ rx];exact q s (Keeps.re s)) hm
end
noncomputable def gI:List jX:=["s","altchars","encoded"]
theorem gr(pm cd doc dv kdv:jB):Bf (Az 15 pm cd doc dv kdv) (Am (stm 15)) ["s","altchars"] gI:=.of (by decide +kernel)
noncomputable def Fh (h:jY) (dv:jB) (items:Array jB):Prop:=∃a o n,dv=.ref a/\h.get? a=some o/\o.data=.seq items n
theorem bq{w:jW}{xG:jY}{a a10 aB aT:jL}{mg mb:jX->Option jB}{dv kdv:jB}{tk:ut}(T:Br mg mb xG)(FO:Av xG 15 a dv .none)(hdv:Fh xG dv #[.none])(F10:Av xG 10 a10 .none kdv)(hg10:mg "b2a_base64"=some (.ref a10))(FB:Av xG 7 aB .none .none)(hgB:mg "_buffer"=some (.ref aB))(FT:Av xG 8 aT .none .none)(hgT:mg "_truth"=some (.ref aT))(hg6:mg "_B64"=some (.bytes PM.toArray tk))(b:Array UInt8)(hb:b.size<=1000) :
 Fn pw w xG 3 (.ref a) [] [.by b] [] (.by (byteArr (EG (B9 b)))):=by
 refine E7 FO.ex λo pm cd doc ho hd hcd=>?_
 refine Ec hdv λaD oD nD zz1 hD1 hD2=>?_;clear hdv;obtain rfl:=zz1
 refine Hg (ps:=[jz "s",jz "altchars"]) (davs:=[.py .none]) (dv:=[.none]) (gr pm cd doc _ _) ho hd T.gl.nolimit hcd rfl (λ_ _=>⟨(Ac [] .none λ_ h=>nomatch h),trivial⟩) (λs vs kvs hk h1 h2=>?_) (λA s O hk N room=>?_)
 ·obtain⟨v,rfl⟩:=GF h1
  obtain rfl:=vj.mp h2
  exact .of_defaults rfl (hk _ _ hD1) hD2 rfl rfl
 ·refine Ad (Iz ?_)
  refine Ad (At N 2 (YT (br T F10 FB hgB FT hgT hg6 b hb) (room.le (by rwa[])) hk F10 (BU T hk hg10) (Ab (Aa 0) Ah) Uf) ?_)
  refine Ad (BI (b:=false) (Tv.cast (Gr (c:=true) (Aa 1) Fu (λO h v r=>by refine Af r λ_ r _=>?_;cases r;rfl) (λO h v r=>by refine Af r λ_ r _=>?_;cases r;rfl)) rfl) (λh=>by exact lK h) (λ_=>Aj ?_))
  exact Ad (AQ (Aa 2) rfl)
section
open Builtin Builtin.Bytes
noncomputable def ao (b:Array UInt8):jX:=⟨b.toList.zipIdx.foldl (λ(out:Array Nat) (c,i)=>(out.push (hexDigit (c.toNat/16))).push (hexDigit (c.toNat%16))) #[]⟩
theorem WN(b:Array UInt8)(t:ut):km.«bytes.hex» ⟨[.bytes b t],[]⟩=retStr (ao b):=by rfl
theorem QQ(b:Array UInt8)(t:ut):km.«bytes.upper» ⟨[.bytes b t],[]⟩=(do ret (<-mkBytes (b.toList.map toUpper).toArray)):=by rfl
open Builtin._codecs in
theorem Hp(id:String)(self:jB)(x:jX)(errors:Option jX):encodeRoad id self x (jz "ascii") errors=(do mkBytes (<-encodeNarrow id asciiCodec errors self x)):=by
 have e:(Builtin._codecs.normalName (jz "ascii")).toString="ascii":=by decide +kernel
 unfold encodeRoad
 rw[e]
 first|rfl|kernel_rfl
open Builtin.Str in
theorem Jk(u:ut):codecArg "str.encode" "encode" "'encoding'" (some (.str (jz "ascii") u))=pure (some (jz "ascii")):=by
 have e1:((jz "ascii").cps.any (·>=128))=false:=by decide +kernel
 have e2:((jz "ascii").cps.contains 0)=false:=by decide +kernel
 unfold codecArg
 dsimp only
 rw[show strArg "str.encode" "encode" "'encoding'" (.str (jz "ascii") u)=pure (jz "ascii") from rfl]
 simp only[pure_bind,e1,e2,nh,if_false]
open Builtin._codecs Builtin.Str in
theorem Oq(x:jX)(t u:ut):km.«str.encode» ⟨[.str x t,.str (jz "ascii") u],[]⟩=(do ret (<-encodeRoad "str.encode" (.str x t) x (jz "ascii") none)):=by
 unfold km.«str.encode»
 rw[show strSelf ⟨[.str x t,.str (jz "ascii") u],[]⟩=pure (.str x t,x,[.str (jz "ascii") u]) from rfl]
 rw[pure_bind]
 dsimp only
 rw[show Builtin.Str.bindOptional "str.encode" "encode" 0 ["encoding","errors"] [.str (jz "ascii") u] []=pure [some (.str (jz "ascii") u),none] from rfl]
 rw[pure_bind]
 dsimp only
 rw[Jk]
 rw[pure_bind]
 rfl
theorem D4:Slot "bytes" "upper" "bytes.upper":=
 .of (owner:="bytes") (n:="upper") (by rw[lT,kZ];kernel_rfl) (by decide +kernel) (by decide +kernel) (by decide +kernel)
  (by first|exact .inl (by decide +kernel)|exact .inr (by decide +kernel)) (by rw[mJ];kernel_rfl)
theorem G2:typeOf (.builtin "bytes.upper")=pure (.type "method_descriptor"):=by show builtinType _=_;rw[xv];kernel_rfl
theorem GQ:ur table "bytes.upper"=some km.«bytes.upper»:=rV (by kernel_rfl)
theorem Hv(a:jB):su "bytes.upper" ⟨[a],[]⟩:=by unfold su;kernel_rfl
section
open Builtin._codecs
theorem U7(l:Array Nat)(acc:Array UInt8):l.foldl (λacc y=>acc.push y.toUInt8) acc=acc++l.map (·.toUInt8):=by
 rw[<-Array.foldl_toList]
 have:∀(l:List Nat) (acc:Array UInt8),l.foldl (λacc y=>acc.push y.toUInt8) acc=acc++(l.map (·.toUInt8)).toArray:=by
  intro l
  induction l with
  | nil=>simp
  | cons y l ih=>intro acc;rw[mW,ih];simp
 rw[this]
 apply wd
 simp
theorem U6{β:Type}(f:Nat->β->vg (ForInStep β))(b0 b1:β)(n:Nat)(h0:f 0 b0=pure (.yield b1))(h1:∀k,f k b1=pure (.done b1)):forIn (List.range' 0 (n+1)) b0 f=pure b1:=by
 rw[wN,mV,h0]
 simp only[pure_bind]
 cases n with
 | zero=>rfl
 | succ n=>rw[wN,mV,h1];simp only[pure_bind]
theorem Ye{β γ:Type}{f:Nat->β->vg (ForInStep β)}{b0 b1:β}{k:β->vg γ}{n:Nat}{c:γ}(hn:0<n)(h0:f 0 b0=pure (.yield b1))(h1:∀i,f i b1=pure (.done b1))(hk:k b1=pure c):(forIn [0:n] b0 f>>=k)=pure c:=by
 rw[qG,show([0:n]:Std.Legacy.Range).size=n by simp[xo]]
 obtain⟨m,rfl⟩:∃m,n=m+1:=⟨n-1,(oB hn).symm⟩
 show(forIn (List.range' 0 (m+1)) b0 f>>=k)=_
 rw[U6 f b0 b1 m h0 h1,pure_bind,hk]
theorem Wh{β γ:Type}{f:Nat->β->vg (ForInStep β)}{b0:β}{k:β->vg γ}{n:Nat}{c:γ}(hn:n=0)(hk:k b0=pure c):(forIn [0:n] b0 f>>=k)=pure c:=by
 subst hn;rw[qG]
 show(pure b0>>=k)=_
 rw[pure_bind,hk]
theorem N9(id:String)(self:jB)(x:jX)(h:∀c∈x.cps,¬(128<=c))(hz:x.length<=100000):encodeNarrow id asciiCodec none self x=pure (x.cps.map (·.toUInt8)):=by
 delta id self x at h hz
 rcases wD x.cps.size with hn|hn
 ·refine Wh hn ?_
  have:x.cps=#[]:=by simpa using hn
  exact congrArg pure (show(#[]:Array UInt8)=x.cps.map (·.toUInt8) by rw[this];simp)
 ·have hfi:(x.cps.findIdx? asciiCodec.bad)=none:=by
   rw[Array.findIdx?_eq_none_iff]
   intro c hc
   exact decide_eq_false (h c hc)
  have hg:x.cps[0]?=some x.cps[0]:=oX hn
  have hb:asciiCodec.bad x.cps[0]=false:=decide_eq_false (h _ (wm hn))
  have hout:x.cps.foldl (λacc y=>acc++(asciiCodec.bytesOf y).toArray) (#[]:Array UInt8)=x.cps.map (·.toUInt8):=by
   have:(λ(acc:Array UInt8) (y:Nat)=>acc++(asciiCodec.bytesOf y).toArray)=λacc y=>acc.push y.toUInt8:=by
    funext acc y;show acc++[y.toUInt8].toArray=_;simp
   rw[this,U7];simp
  have hex:x.cps.extract 0 x.cps.size=x.cps:=by simp
  refine Ye (b1:=(0+x.cps.size,x.cps.map (·.toUInt8),{})) hn ?_ (λi=>?_) rfl
  ·refine(if_neg (c:=(#[]:Array UInt8).size>sizeLine) (by decide)).trans ?_
   dsimp only
   rw[hg]
   refine(if_pos (c:=(!asciiCodec.bad x.cps[0])=true) (by rw[hb];rfl)).trans ?_
   rw[hex,hfi]
   show pure (te (0+x.cps.size,Array.foldl _ _ (x.cps.extract 0 x.cps.size),_))=_
   rw[hex,hout]
  ·have hg':x.cps[0+x.cps.size]?=none:=vk (rP _ 0)
   refine(if_neg (c:=(x.cps.map (·.toUInt8)).size>sizeLine) (by rw[qF,sizeLine_eq];have hz:x.cps.size<=100000:=hz;rwa[hz])).trans ?_
   dsimp only
   rw[hg']
end
end
noncomputable def Cs (b:List UInt8):List Nat:=b.flatMap λc=>[mv (c.toNat/16),mv (c.toNat%16)]
theorem YK(b:Array UInt8):ao b=⟨(Cs b.toList).toArray⟩:=by
 have key:∀(l:List UInt8) (k:Nat) (acc:Array Nat),(l.zipIdx k).foldl (λ(out:Array Nat) (x:UInt8×Nat)=>(out.push (mv (x.1.toNat/16))).push (mv (x.1.toNat%16))) acc=acc++(Cs l).toArray:=by
  intro l
  induction l with
  | nil=>intro k acc;simp[Cs]
  | cons c l ih=>
   intro k acc
   rw[List.zipIdx_cons,mW,ih]
   simp[Cs]
 unfold ao
 have:=key b.toList 0 #[]
 simp only[we] at this
 rw[<-this]
theorem Ck(b:List UInt8):(Cs b).length=2*b.length:=by
 induction b with
 | nil=>rfl
 | cons c l ih=>simp only[Cs,lq,jZ,j7,ln] at *;rwa[ih]
section
variable {Γ:Cx} {σ:AX} {cpos:mf}
theorem Pr{e:kH}{name:jX}{ap:mf}{pl:vg Bool}{u c:AV}{T id:String}(he:Ev Γ σ e u)(hT:∀(O:Ap) (s:jE) (v:jB),VR O s.heap u v->s.TypeIs v T)(pa:PlainAttrs T)(slot:Slot T name id)(hty:typeOf (.builtin id)=pure (.type "method_descriptor"))
 (hr:∀(O:Ap) (s:jE) (v:jB),VR O s.heap u v->∀a,v=.ref a->∃o,s.heap.get? a=some o/\o.dict=none)
 (h:∀(O:Ap) (s:jE) (v:jB) (Q:jB->jE->Prop) (E:jB->jE->Prop),VR O s.heap u v->(∀x s',kY s s'->VR O s'.heap c x->Q x s')->wpAny (model Γ.prog Γ.w) Γ.A (call (.builtin id) [v]) Q E s)
 (hc:autoParam (eval (.Call (.Attribute e name ap) [] [] cpos) Γ.env=(do
  let ov<-eval e Γ.env
  mQ ap.atName
  let (f,first)<-ml [ov] (nv ov name pl)
  kX cpos f first (backTo cpos (starEach [] Γ.env)) [])) aR):Ev Γ σ (.Call (.Attribute e name ap) [] [] cpos) c:=by
 intro O s Q E t q
 refine mh ?_ hc
 refine he O s _ E t λv s1 t1 k1 r1=>?_
 refine mK (hT O s1 v r1) pa slot hty (hr O s1 v r1) ?_
 refine callWith_builtin rfl ?_
 show wpAny _ _ (evalArgs _ true [] []) _ _ _
 refine evalArgs_kw_nil (keywords:=[]) rfl (wpAny_evalAll_nil ?_)
 exact h O s1 v Q E r1 λx s2 k2 r2=>q x s2 (t1.of_keeps k2) (Keeps.tr k1 k2) r2
theorem Xc{e y:kH}{name:jX}{ap:mf}{pl:vg Bool}{u d c:AV}{T id:String}(he:Ev Γ σ e u)(hy:Ev Γ σ y d)(hT:∀(O:Ap) (s:jE) (v:jB),VR O s.heap u v->s.TypeIs v T)(pa:PlainAttrs T)(slot:Slot T name id)(hty:typeOf (.builtin id)=pure (.type "method_descriptor"))
 (hr:∀(O:Ap) (s:jE) (v:jB),VR O s.heap u v->∀a,v=.ref a->∃o,s.heap.get? a=some o/\o.dict=none)
 (h:∀(O:Ap) (s:jE) (v z:jB) (Q:jB->jE->Prop) (E:jB->jE->Prop),VR O s.heap u v->VR O s.heap d z->(∀x s',kY s s'->VR O s'.heap c x->Q x s')->wpAny (model Γ.prog Γ.w) Γ.A (call (.builtin id) [v,z]) Q E s)(hp:autoParam (AE y=true) aR)
 (hc:autoParam (eval (.Call (.Attribute e name ap) [y] [] cpos) Γ.env=(do
  let ov<-eval e Γ.env
  mQ ap.atName
  let (f,first)<-ml [ov] (nv ov name pl)
  kX cpos f first (backTo cpos (starEach [y] Γ.env)) [])) aR):Ev Γ σ (.Call (.Attribute e name ap) [y] [] cpos) c:=by
 intro O s Q E t q
 refine mh ?_ hc
 refine he O s _ E t λv s1 t1 k1 r1=>?_
 refine mK (hT O s1 v r1) pa slot hty (hr O s1 v r1) ?_
 refine callWith_builtin (Bh (by rw[lC,hp];rfl)) (AL (by rw[lC,hp];rfl) (Ab hy Ah hp O s1 _ _ E t1 λus s2 t2 k2 r2=>?_))
 refine Af r2.one λz zz1 rz=>?_;obtain rfl:=zz1
 exact h O s2 v z Q E (r1.kept k2) rz λx s3 k3 r3=>q x s3 (t2.of_keeps k3) (Keeps.tr (Keeps.tr k1 k2) k3) r3
theorem aC{e:kH}{ap:mf}{pl:vg Bool}{b:Array UInt8}(he:Ev Γ σ e (.by b))(hb:b.size<=10000)
 (hc:autoParam (eval (.Call (.Attribute e "hex" ap) [] [] cpos) Γ.env=(do
  let ov<-eval e Γ.env
  mQ ap.atName
  let (f,first)<-ml [ov] (nv ov "hex" pl)
  kX cpos f first (backTo cpos (starEach [] Γ.env)) [])) aR):Ev Γ σ (.Call (.Attribute e "hex" ap) [] [] cpos) (.py (.str ⟨(Cs b.toList).toArray⟩)):=
 Pr he (λO s v r=>by obtain⟨t,rfl⟩:=r;exact qS _ _ _) FB.plainAttrs_bytes FB.slot_bytes_hex FB.type_bytes_hex (λO s v r a e=>by obtain⟨t,rfl⟩:=r;exact qA e)
  (λO s v Q E r q=>by
   obtain⟨t,rfl⟩:=r
   refine lH FB.slot_bytes_hex (qS _ _ _) FB.entry_bytes_hex ?_ (FB.args_bytes_hex_1 _)
   rw[WN,YK]
   exact jA (wpAny_mkStr (jJ (Ac _ rfl (q _ _ Keeps.rfl' (VR.str ..)))) (by show(Cs b.toList).toArray.size<=_;rw[kI,Ck,kh,sizeLine_eq];rwa[hb]))) hc
theorem W7{e:kH}{ap:mf}{pl:vg Bool}{b:Array UInt8}(he:Ev Γ σ e (.by b))(hb:b.size<=10000)
 (hc:autoParam (eval (.Call (.Attribute e "upper" ap) [] [] cpos) Γ.env=(do
  let ov<-eval e Γ.env
  mQ ap.atName
  let (f,first)<-ml [ov] (nv ov "upper" pl)
  kX cpos f first (backTo cpos (starEach [] Γ.env)) [])) aR):Ev Γ σ (.Call (.Attribute e "upper" ap) [] [] cpos) (.by (b.toList.map qO).toArray):=
 Pr he (λO s v r=>by obtain⟨t,rfl⟩:=r;exact qS _ _ _) FB.plainAttrs_bytes D4 G2 (λO s v r a e=>by obtain⟨t,rfl⟩:=r;exact qA e)
  (λO s v Q E r q=>by
   obtain⟨t,rfl⟩:=r
   refine lH D4 (qS _ _ _) GQ ?_ (Hv _)
   rw[QQ]
   exact jA (wpAny_mkBytes (jJ (Ac _ rfl (q _ _ Keeps.rfl' (Ag _ rfl)))) (by rw[kI,jI,kh,sizeLine_eq];rwa[hb]))) hc
theorem Vf{e:kH}{ap p:mf}{k:Nat}{pl:vg Bool}{x:jX}(he:Ev Γ σ e (.py (.str x)))(hx:∀c∈x.cps,¬(128<=c))(hz:x.length<=100000)
 (hc:autoParam (eval (.Call (.Attribute e "encode" ap) [.Constant (.str "ascii") k p] [] cpos) Γ.env=(do
  let ov<-eval e Γ.env
  mQ ap.atName
  let (f,first)<-ml [ov] (nv ov "encode" pl)
  kX cpos f first (backTo cpos (starEach [.Constant (.str "ascii") k p] Γ.env)) [])) aR):Ev Γ σ (.Call (.Attribute e "encode" ap) [.Constant (.str "ascii") k p] [] cpos) (.by (x.cps.map (·.toUInt8))):=
 Xc he (d:=.py (.str "ascii")) BF (λO s v r=>by obtain⟨t,rfl⟩:=r.str_inv;exact vt _ _ _) F.plainAttrs_str F.slot_str_encode F.type_str_encode (λO s v r a e=>by obtain⟨t,rfl⟩:=r.str_inv;exact qA e)
  (λO s v z Q E r rz q=>by
   obtain⟨t,rfl⟩:=r.str_inv
   obtain⟨u,rfl⟩:=rz.str_inv
   refine lH F.slot_str_encode (vt _ _ _) F.entry_str_encode ?_ (F.args_str_encode_2 _ _)
   rw[Oq,Hp,N9 _ _ _ hx hz]
   simp only[pure_bind]
   exact jA (wpAny_mkBytes (jJ (Ac _ rfl (q _ _ Keeps.rfl' (Ag _ rfl)))) (by rw[qF,sizeLine_eq];have:x.cps.size<=100000:=hz;rwa[this]))) rfl hc
end
section
variable {Γ:Cx} {σ:AX} {pos:mf}
theorem VP{l r:kH}{u v:jB}(hl:Ev Γ σ l (.raw u))(hr:Ev Γ σ r (.raw v))(hp:plainIs u v=true)(hm:autoParam (behindInMarks .IsNot r=false) aR):Tv Γ σ (.Compare l [.IsNot] [r] pos) (!(u == v)):=
 Eh hl hr (λO s x y Q E rx ry q=>by
  obtain rfl:x=u:=rx
  obtain rfl:y=v:=ry
  exact un hp (q s (Keeps.re s))) hm
theorem VO{l r:kH}{a:jL}(hl:Ev Γ σ l (.raw (.ref a)))(hr:Ev Γ σ r (.raw (.ref a)))(hm:autoParam (behindInMarks .Is r=false) aR):Tv Γ σ (.Compare l [.Is] [r] pos) true:=
 Eh hl hr (λO s x y Q E rx ry q=>by
  obtain rfl:x=.ref a:=rx
  obtain rfl:y=.ref a:=ry
  exact wpAny_is_ref_self (q s (Keeps.re s))) hm
end
theorem HW{d:Nat}(h:d<16):mv d<128:=by
 have:∀d:Fin 16,mv d.val<128:=by decide +kernel
 exact this ⟨d,h⟩
theorem Ka{b:List UInt8}{c:Nat}(h:c∈Cs b):¬(128<=c):=by
 refine Af (lr.mp h) λu _ h=>?_
 have hu:=u.toNat_lt
 rcases jG.mp h with rfl|h
 ·have:=HW (d:=u.toNat/16) (by rwa[hu]);rwa[this]
 ·obtain rfl:=jH.mp h
  have:=HW (d:=u.toNat%16) (by rwa[]);rwa[this]
noncomputable def gJ:List jX:=["data","sep","bytes_per_sep","t"]
theorem gv(pm cd doc dv kdv:jB):Bf (Az 12 pm cd doc dv kdv) (Am (stm 12)) ["data","sep","bytes_per_sep"] gJ:=.of (by decide +kernel)
theorem am{w:jW}{xG:jY}{a aB aN:jL}{mg mb:jX->Option jB}{dv:jB}{tk:ut}(T:Br mg mb xG)(FO:Av xG 12 a dv .none)(hdv:Fh xG dv #[.ref aN,.int 1 tk])(FB:Av xG 7 aB .none .none)(hgB:mg "_buffer"=some (.ref aB))(hgN:mg "_NO_SEP"=some (.ref aN))(b:Array UInt8)(hb:b.size<=1000) :
 Fn pw w xG 2 (.ref a) [] [.by b] [] (.by ((Cs b.toList).toArray.map (·.toUInt8))):=by
 refine E7 FO.ex λo pm cd doc ho hd hcd=>?_
 refine Ec hdv λaD oD nD zz1 hD1 hD2=>?_;clear hdv;obtain rfl:=zz1
 refine Hg (ps:=[jz "data",jz "sep",jz "bytes_per_sep"]) (davs:=[.raw (.ref aN),.py (.int 1)]) (dv:=[.ref aN,.int 1 tk]) (gv pm cd doc _ _) ho hd T.gl.nolimit hcd rfl (λO h=>⟨rfl,VR.int ..,trivial⟩) (λs vs kvs hk h1 h2=>?_) (λA s O hk N room=>?_)
 ·obtain⟨v,rfl⟩:=GF h1
  obtain rfl:=vj.mp h2
  exact .of_defaults rfl (hk _ _ hD1) hD2 rfl rfl
 ·refine Ad (At N 0 (CI (KH T FB b) (room.le (by rwa[])) hk FB (BU T hk hgB) (Ab (Aa 0) Ah)) ?_)
  refine Ad (BI (b:=false) (Tv.cast (By (IB (VP (v:=.type "int") (Hi (T:="int") (A1 T hk) (Aa 2) (λO s v r=>by obtain⟨t,rfl⟩:=r.int_inv;rfl)) (A1 T hk) (by rfl)) (λ_=>IB (An (Aa 2) (Hk Ai)) (λ_=>IB (An (Aa 2) Ai) (λ_=>QR))))) (by decide +kernel)) (λh=>by exact lK h) (λ_=>Aj ?_))
  refine Ad (BI (b:=true) (VO (Aa 1) (BU T hk hgN)) (λ_=>?_) (λh=>by exact lK h))
  refine Ad (AQ (Vf (aC (Aa 0) (by rwa[hb])) ?_ ?_) rfl)
  ·intro c hc;exact Ka (by simpa using hc)
  ·show(Cs b.toList).toArray.size<=_
   rw[kI,Ck,kh];rwa[hb]
noncomputable def gH:List jX:=["s"]
theorem gq(pm cd doc dv kdv:jB):Bf (Az 16 pm cd doc dv kdv) (Am (stm 16)) ["s"] gH:=.of (by decide +kernel)
theorem bk(pm cd doc v:jB):l3 (Az 16 pm cd doc .none .none) ⟨[v],[]⟩=pure [((jz "s"),v)]:=by rfl
noncomputable def H4 (b:Array UInt8):Array UInt8:=(((Cs b.toList).toArray.map (·.toUInt8)).toList.map qO).toArray
theorem bu{w:jW}{xG:jY}{a a12 aB aN:jL}{mg mb:jX->Option jB}{dv:jB}{tk:ut}(T:Br mg mb xG)(FO:Av xG 16 a .none .none)(F12:Av xG 12 a12 dv .none)(hg12:mg "hexlify"=some (.ref a12))(hdv:Fh xG dv #[.ref aN,.int 1 tk])(FB:Av xG 7 aB .none .none)(hgB:mg "_buffer"=some (.ref aB))(hgN:mg "_NO_SEP"=some (.ref aN))(b:Array UInt8)(hb:b.size<=1000) :
 Fn pw w xG 3 (.ref a) [] [.by b] [] (.by (H4 b)):=
 Ea FO (λpm cd doc=>gq pm cd doc _ _) T.gl.nolimit rfl (λpm cd doc vs h=>by obtain⟨v,rfl⟩:=GF h;exact bk pm cd doc v) (λpm cd doc A s O hk N room=>by
  refine Ad (Iz ?_)
  refine Ad (AQ (W7 (CI (am T F12 hdv FB hgB hgN b hb) (room.le (by rwa[])) hk F12 (BU T hk hg12) (Ab (Aa 0) Ah)) ?_) rfl)
  rw[qF,kI,Ck,kh];rwa[hb])
noncomputable def Q7:List jX:=["script","left","right","sixteen","sixtyfour","due","told","steps"]
theorem f6(pm cd doc dv kdv:jB):Bf (Az 50 pm cd doc dv kdv) (Am (stm 50)) ["script"] Q7:=.of (by decide +kernel)
noncomputable def TR:jX:="0123456789ABCDEF"
noncomputable def X8:jX:="ABCDEFGHIJKLMNOPQRSTUVWXYZabcdefghijklmnopqrstuvwxyz0123456789+/"
noncomputable def AA (row:List Int):List jX:=[Ff row 4 TR,Ff row 6 X8,mE "" (AB row)]
noncomputable def Gs (b:Array UInt8):jX:=mE "" (b.toList.map λc=>⟨#[c.toNat]⟩)
noncomputable def ER (row:List Int):List jX:=[Gs (H4 (byteArr (AD row))),Gs (byteArr (EG (B9 (byteArr (AD row))))),mE "" (row.map λm=>mE "" (Aw m 10))]
noncomputable def B7 (l:List jX):jO:=.list (l.map .str)
structure Jq (w:jW) (mg mb:jX->Option jB) (xG:jY) where
 T:Br mg mb xG
 a41:jL
 g41:mg "_law_rows"=some (.ref a41)
 f41:Av xG 41 a41 .none .none
 a42:jL
 g42:mg "_law_octets"=some (.ref a42)
 f42:Av xG 42 a42 .none .none
 a43:jL
 g43:mg "_law_text"=some (.ref a43)
 f43:Av xG 43 a43 .none .none
 a44:jL
 g44:mg "_law_base"=some (.ref a44)
 f44:Av xG 44 a44 .none .none
 a45:jL
 g45:mg "_law_listing"=some (.ref a45)
 f45:Av xG 45 a45 .none .none
 a46:jL
 g46:mg "_law_longest"=some (.ref a46)
 f46:Av xG 46 a46 .none .none
 a47:jL
 g47:mg "_law_cut"=some (.ref a47)
 f47:Av xG 47 a47 .none .none
 a48:jL
 g48:mg "_law_codes"=some (.ref a48)
 f48:Av xG 48 a48 .none .none
 a49:jL
 g49:mg "_law_seen"=some (.ref a49)
 f49:Av xG 49 a49 .none .none
 a18:jL
 g18:mg "S_IFMT"=some (.ref a18)
 f18:Av xG 18 a18 .none .none
 a39:jL
 g39:mg "filemode"=some (.ref a39)
 f39:Av xG 39 a39 .none .none
 tb:jB
 gtb:mg "_filemode_table"=some tb
 rtb:Ak xG tb Gu []
 a7:jL
 g7:mg "_buffer"=some (.ref a7)
 f7:Av xG 7 a7 .none .none
 a8:jL
 g8:mg "_truth"=some (.ref a8)
 f8:Av xG 8 a8 .none .none
 t64:ut
 g64:mg "_B64"=some (.bytes PM.toArray t64)
 a10:jL
 k10:jB
 g10:mg "b2a_base64"=some (.ref a10)
 f10:Av xG 10 a10 .none k10
 a12:jL
 d12:jB
 g12:mg "hexlify"=some (.ref a12)
 f12:Av xG 12 a12 d12 .none
 aN:jL
 tN:ut
 gN:mg "_NO_SEP"=some (.ref aN)
 e12:Fh xG d12 #[.ref aN,.int 1 tN]
 a15:jL
 d15:jB
 g15:mg "b64encode"=some (.ref a15)
 f15:Av xG 15 a15 d15 .none
 e15:Fh xG d15 #[.none]
 a16:jL
 g16:mg "b16encode"=some (.ref a16)
 f16:Av xG 16 a16 .none .none
structure Ca (row:List Int):Prop where
 len:row.length<=3
 el:∀m∈row,0<=m/\m<65536
theorem Kc{m:Int}{x:jX}(hx:x∈Aw m 10):x.length=1:=by
 unfold Aw at hx
 obtain⟨i,hi,rfl⟩:=xk.mp hx
 have hm:A4[i]?=some ((A4.take 10)[i]):=by
  rw[<-jP hi];rfl
 generalize (A4.take 10)[i]=t at hm ⊢
 unfold AU
 cases hf:t.find? (EL m i) with
 | none=>show(if i=0 then jz "?" else jz "-").length=1;split<;>decide
 | some p=>
  show p.2.length=1
  have h2:=nE hf
  have h3:=kt hm
  have:(A4.all λt=>t.all λp=>p.2.length == 1)=true:=by decide +kernel
  exact beq_iff_eq.mp (ky.mp (ky.mp this t h3) p h2)
theorem On(m:Int):(mE "" (Aw m 10)).length=10:=by
 rw[KT.join_ones _ λx hx=>Kc hx]
 simp[Aw,A4]
theorem DV(ns:List Int):(byteArr ns).size=ns.length:=byteArr_size ns
theorem iz{a b:jX}{c d:jL}(h:c≠d):List.Pairwise (λx y=>x.2≠y.2) ([(a,c),(b,d)]:List (jX×jL)):=
 .cons (λy hy=>by obtain rfl:=jH.mp hy;exact h) (.cons (λ_ h=>nomatch h) .nil)
noncomputable def D1 {α:Type} (lt:Nat->Nat->Bool):KasT α->α
 | .ret a=>a
 | .ask i j k=>D1 lt (k (lt i j))
theorem D7{α β:Type}(lt:Nat->Nat->Bool)(f:α->KasT β):∀t:KasT α,D1 lt (t.bind f)=D1 lt (f (D1 lt t))
 | .ret _=>rfl
 | .ask i j k=>D7 lt f (k (lt i j))
section
variable (r:Nat->Int)
noncomputable def CW (i j:Nat):Bool:=decide (r i<r j)
noncomputable def RR (p:Array Nat) (k:Nat):Int:=r (p.getD k 0)
noncomputable def Kh (p:Array Nat) (n:Nat):Prop:=∀i j,i<j->j<n->RR r p i<RR r p j
noncomputable def PS (p:Array Nat) (n:Nat):Prop:=∀i j,i<j->j<n->RR r p j<RR r p i
noncomputable def GZ (p:Array Nat):Prop:=∀i j,i<p.size->j<p.size->RR r p i=RR r p j->i=j
variable {r}
theorem GX{p:Array Nat}(hd:GZ r p):∀(f n:Nat),1<=n->n+f<=p.size->Kh r p n->n<=D1 (CW r) (kas_asc p f n)/\D1 (CW r) (kas_asc p f n)<=n+f/\Kh r p (D1 (CW r) (kas_asc p f n))/\(D1 (CW r) (kas_asc p f n)<n+f->RR r p (D1 (CW r) (kas_asc p f n))<RR r p (D1 (CW r) (kas_asc p f n)-1))
 | 0,n,h1,h2,h=>⟨jN _,jN _,h,λh=>absurd h (lp _)⟩
 | f+1,n,h1,h2,h=>by
  have e:D1 (CW r) (kas_asc p (f+1) n)=D1 (CW r) (if CW r (p.getD n 0) (p.getD (n-1) 0)=true then .ret n else kas_asc p f (n+1)):=rfl
  rw[e]
  by_cases c:CW r (p.getD n 0) (p.getD (n-1) 0)=true
  ·rw[if_pos c]
   exact⟨jN _,by show n<=_;rwa[],h,λ_=>of_decide_eq_true c⟩
  ·rw[if_neg c]
   have c':¬RR r p n<RR r p (n-1):=λz=>c (decide_eq_true z)
   have hne:RR r p (n-1)≠RR r p n:=λz=>by have:=hd (n-1) n (by rwa[h1,h2]) (by rwa[h2]) z;rwa[h1,this]
   have h':Kh r p (n+1):=by
    intro i j hij hj
    by_cases hjn:j=n
    ·subst hjn
     by_cases hi:i=j-1
     ·subst hi;rwa[c',hne]
     ·have:=h i (j-1) (by rwa[hij,h1,hi]) (by rwa[h1]);rwa[c',hne,this]
    ·exact h i j hij (by rwa[hj,hjn])
   have:=GX hd f (n+1) (by rwa[]) (by rwa[h2]) h'
   refine⟨by lia,by lia,this.2.2.1,λz=>this.2.2.2 (by rwa[z])⟩
theorem Hq{p:Array Nat}(hd:GZ r p):∀(f n:Nat),1<=n->n+f<=p.size->PS r p n->∃m,D1 (CW r) (kas_desc f p n 0)=(p,m,0)/\n<=m/\m<=n+f/\PS r p m
 | 0,n,h1,h2,h=>H5 n rfl (jN _) (jN _) h
 | f+1,n,h1,h2,h=>by
  have e:D1 (CW r) (kas_desc (f+1) p n 0)=D1 (CW r) (if CW r (p.getD n 0) (p.getD (n-1) 0)=true then(if 0>0 then kas_desc f (kas_rev p (n-(0+1)) n) (n+1) 0 else kas_desc f p (n+1) 0)
   else .ask (p.getD (n-1) 0) (p.getD n 0) λd=>if d=true then .ret (p,n,0) else kas_desc f p (n+1) (0+1)):=rfl
  rw[e]
  have hne:RR r p (n-1)≠RR r p n:=λz=>by have:=hd (n-1) n (by rwa[h1,h2]) (by rwa[h2]) z;rwa[h1,this]
  by_cases c:CW r (p.getD n 0) (p.getD (n-1) 0)=true
  ·rw[if_pos c,if_neg (by decide)]
   have c':RR r p n<RR r p (n-1):=of_decide_eq_true c
   have h':PS r p (n+1):=by
    intro i j hij hj
    by_cases hjn:j=n
    ·subst hjn
     by_cases hi:i=j-1
     ·subst hi;exact c'
     ·have:=h i (j-1) (by rwa[hij,h1,hi]) (by rwa[h1]);rwa[c',this]
    ·exact h i j hij (by rwa[hj,hjn])
   refine H0 (Hq hd f (n+1) (by rwa[]) (by rwa[h2]) h') λm e1 e2 e3 e4=>?_
   exact H5 m e1 (by rwa[e2]) (by rwa[e3]) e4
  ·rw[if_neg c]
   have c':¬RR r p n<RR r p (n-1):=λz=>c (decide_eq_true z)
   have c2:CW r (p.getD (n-1) 0) (p.getD n 0)=true:=decide_eq_true (show RR r p (n-1)<RR r p n by rwa[hne,c'])
   refine H5 n ?_ (jN _) (by rwa[]) h
   show D1 (CW r) (if CW r (p.getD (n-1) 0) (p.getD n 0)=true then .ret (p,n,0) else kas_desc f p (n+1) (0+1))=_
   rw[if_pos c2];rfl
theorem WP{p:Array Nat}{n:Nat}(hn:n<=p.size)(k:Nat):(kas_rev p 0 n).getD k 0=if k<n then p.getD (n-1-k) 0 else p.getD k 0:=by
 have:=getElem?_mirror_all (xs:=p) (i:=0) hn k
 unfold kas_rev
 rw[lQ,this]
 by_cases h:k<n
 ·rw[if_pos ⟨kf _,h⟩,if_pos h,lQ,tB]
 ·rw[if_neg (λz=>h z.2),if_neg h,lQ]
theorem OB{p:Array Nat}{n:Nat}(hn:n<=p.size)(k:Nat):RR r (kas_rev p 0 n) k=if k<n then RR r p (n-1-k) else RR r p k:=by
 unfold RR
 rw[WP hn]
 split<;>rfl
theorem IH(p:Array Nat)(n:Nat):(kas_rev p 0 n).size=p.size:=mirror_size _ _ _ _
theorem OW(p:Array Nat)(n:Nat):(kas_rev p 0 n).Perm p:=mirror_perm _ _ _ _
theorem Wj{p:Array Nat}{n:Nat}(hn:n<=p.size)(hd:GZ r p):GZ r (kas_rev p 0 n):=by
 intro i j hi hj h
 rw[IH] at hi hj
 rw[OB hn,OB hn] at h
 split at h<;>split at h
 ·have:=hd _ _ (by(rename_i z0 _;rwa[hn,z0])) (by(rename_i z0;rwa[hn,z0])) h;(rename_i z0 z1;rwa[z0,z1,this])
 ·have:=hd _ _ (by(rename_i z0 z1;rwa[hj,z0,z1])) (by rwa[hj]) h;(rename_i z0 z1;rwa[z0,z1,this])
 ·have:=hd _ _ (by rwa[hi]) (by(rename_i z0 z1;rwa[hi,z0,z1])) h;(rename_i z0 z1;rwa[z0,z1,this])
 ·exact hd _ _ hi hj h
theorem Jh{p:Array Nat}(hd:GZ r p)(h2:1<=p.size):∃m p',D1 (CW r) (kas_count p.size p)=(m,p')/\1<=m/\m<=p.size/\p'.Perm p/\GZ r p'/\Kh r p' m:=by
 delta r p at hd h2
 have ha:=GX hd (p.size-1) 1 (jN _) (by rwa[h2]) (λi j h1 h2=>by rwa[h1,h2])
 unfold kas_count
 rw[D7]
 generalize D1 (CW r) (kas_asc p (p.size-1) 1)=n at ha
 obtain⟨a1,a2,a3,a4⟩:=ha
 by_cases hn:n=p.size
 ·rw[if_pos (by rw[hn];exact beq_self_eq_true _)]
  exact Uh n p rfl a1 (by rwa[hn]) (sR _) hd a3
 ·rw[if_neg (by simpa using hn)]
  by_cases h1:n>1
  ·rw[if_pos h1]
   have c:CW r (p.getD 0 0) (p.getD (n-1) 0)=true:=decide_eq_true (a3 0 (n-1) (by rwa[a1,h1]) (by rwa[a1]))
   refine Uh n p ?_ a1 (by rwa[h2,a2,hn]) (sR _) hd a3
   show D1 (CW r) (if CW r (p.getD 0 0) (p.getD (n-1) 0)=true then .ret (n,p) else _)=_
   rw[if_pos c];rfl
  ·rw[if_neg h1]
   obtain rfl:n=1:=by rwa[a1,h1]
   have h0:=a4 (by rwa[h2,hn])
   unfold kas_descPart
   rw[D7]
   have hD:PS r p 2:=by
    intro i j hij hj
    have:i=0:=by rwa[hij,hj]
    have:j=1:=by rwa[hij,hj,this]
    subst i j
    exact h0
   obtain⟨m,e1,e2,e3,e4⟩:=Hq hd (p.size-(1+1)) 2 (by rwa[]) (by rwa[h2,hn]) hD
   rw[e1]
   dsimp only
   rw[if_neg (by decide)]
   unfold kas_tail3
   rw[D7]
   have hm:m<=p.size:=by rwa[h2,hn,e3]
   have hdr:=Wj hm hd
   have hasc:Kh r (kas_rev p 0 m) m:=by
    intro i j hij hj
    rw[OB hm,OB hm,if_pos (by rwa[hij,hj]),if_pos hj]
    exact e4 _ _ (by rwa[hij,hj]) (by rwa[e2])
   have hb:=GX hdr (p.size-m) m (by rwa[e2]) (by rw[IH];rwa[hm]) hasc
   generalize D1 (CW r) (kas_asc (kas_rev p 0 m) (p.size-m) m)=q at hb
   exact Uh q _ rfl (by(clear_value *;lia)) (by(clear_value *;lia)) (OW _ _) hdr hb.2.2.1
end
section
variable {r:Nat->Int}
theorem Hy{p:Array Nat}{k l:Nat}(hk:k<p.size)(hl:l<=k)(i:Nat):RR r (bubble p k (k-l)) i=if i=l then RR r p k else if l<i/\i<=k then RR r p (i-1) else RR r p i:=by
 have:=getElem?_bubble hk (k-l) (by rwa[hl]) i
 have e:k-(k-l)=l:=by rwa[hl]
 rw[e] at this
 simp only[RR,lQ]
 rw[this]
 split
 ·rfl
 ·split<;>rfl
noncomputable def bt (k l i:Nat):Nat:=if i=l then k else if l<i/\i<=k then i-1 else i
noncomputable def bs (k l i:Nat):Nat:=if i=k then l else if l<=i/\i<k then i+1 else i
theorem ZJ{k l:Nat}(hl:l<=k)(i:Nat):bs k l (bt k l i)=i:=by
 unfold bs bt
 by_cases a:i=l
 ·rw[if_pos a,if_pos rfl,a]
 ·rw[if_neg a]
  by_cases b:l<i/\i<=k
  ·rw[if_pos b,if_neg (by rwa[b]),if_pos (by rwa[b]),oB (nq (kf _) b.1)]
  ·rw[if_neg b,if_neg (by rwa[a,b,hl]),if_neg (by rwa[a,b])]
theorem ZI{k l n i:Nat}(hk:k<n)(hi:i<n):bt k l i<n:=by
 unfold bt
 split
 ·exact hk
 ·split
  ·exact nq (pY i 1) hi
  ·exact hi
theorem PG{p:Array Nat}{k l:Nat}(hk:k<p.size)(hl:l<=k)(hd:GZ r p):GZ r (bubble p k (k-l)):=by
 intro i j hi hj h
 delta r p k l i j at hk hl hd hi hj h
 rw[u7] at hi hj
 have e:∀i,RR r (bubble p k (k-l)) i=RR r p (bt k l i):=λi=>by
  rw[Hy hk hl];unfold bt
  split
  ·rfl
  ·split<;>rfl
 rw[e,e] at h
 rw[<-ZJ hl i,<-ZJ hl j,hd _ _ (ZI hk hi) (ZI hk hj) h]
theorem F4{p:Array Nat}{k:Nat}(hd:GZ r p)(hk:k<p.size)(ha:Kh r p k):∀(f l q:Nat),l<=q->q<=k->q-l<=f->(∀i,i<l->RR r p i<RR r p k)->(∀i,q<=i->i<k->RR r p k<RR r p i)->
 D1 (CW r) (kas_place p k f l q)<=k/\(∀i,i<D1 (CW r) (kas_place p k f l q)->RR r p i<RR r p k)/\(∀i,D1 (CW r) (kas_place p k f l q)<=i->i<k->RR r p k<RR r p i)
 | 0,l,q,h1,h2,h3,h4,h5=>by
  have:l=q:=by rwa[h1,h3]
  subst this
  exact⟨h2,h4,h5⟩
 | f+1,l,q,h1,h2,h3,h4,h5=>by
  by_cases hl:l>=q
  ·have e:D1 (CW r) (kas_place p k (f+1) l q)=l:=by
    unfold kas_place;rw[if_pos hl];rfl
   rw[e]
   have:l=q:=by rwa[h1,hl]
   subst this
   exact⟨h2,h4,h5⟩
  ·have e:D1 (CW r) (kas_place p k (f+1) l q)=D1 (CW r) (if CW r (p.getD k 0) (p.getD ((l+q)/2) 0)=true then kas_place p k f l ((l+q)/2) else kas_place p k f ((l+q)/2+1) q):=by
    conv=>lhs;unfold kas_place
    rw[if_neg hl];rfl
   rw[e]
   generalize hm:(l+q)/2=m
   have hm1:l<=m/\m<q:=by rwa[h1,hl,hm]
   by_cases c:CW r (p.getD k 0) (p.getD m 0)=true
   ·rw[if_pos c]
    have c':RR r p k<RR r p m:=of_decide_eq_true c
    refine F4 hd hk ha f l m (by rwa[hl,hm]) (by rwa[h2,hm,hm1]) (by rwa[h3,hm,hm1]) h4 λi hi hik=>?_
    by_cases him:i=m
    ·subst him;exact c'
    ·have:=ha m i (by rwa[hm,hi,him]) hik;rwa[c',this]
   ·rw[if_neg c]
    have c':¬RR r p k<RR r p m:=λz=>c (decide_eq_true z)
    have hne:RR r p k≠RR r p m:=λz=>by have:=hd k m hk (by rwa[hk,h2,hm,hm1]) z;rwa[h2,hl,hm,hm1,this]
    refine F4 hd hk ha f (m+1) q (by rwa[hm,hm1]) h2 (by rwa[h3,hm]) (λi hi=>?_) h5
    by_cases him:i=m
    ·subst him;rwa[c',hne]
    ·have:=ha i m (by rwa[hm,hi,him]) (by rwa[h2,hm,hm1]);rwa[c',hne,this]
theorem PK:∀(f:Nat) (p:Array Nat) (k:Nat),GZ r p->k+f=p.size->Kh r p k->(D1 (CW r) (kas_bin f p k)).Perm p/\Kh r (D1 (CW r) (kas_bin f p k)) p.size
 | 0,p,k,hd,hk,ha=>⟨sR _,by rw[<-hk];exact ha⟩
 | f+1,p,k,hd,hk,ha=>by
  unfold kas_bin
  rw[D7]
  have hp:=F4 hd (by rwa[hk]) ha k 0 k (kf _) (jN _) (by rwa[]) (λi hi=>by rwa[hi]) (λi hi hik=>by rwa[hi,hik])
  generalize D1 (CW r) (kas_place p k k 0 k)=l at hp
  obtain⟨h1,h2,h3⟩:=hp
  have hkp:k<p.size:=by rwa[hk]
  have hd':=PG hkp h1 hd
  have ha':Kh r (bubble p k (k-l)) (k+1):=by
   intro i j hij hj
   rw[Hy hkp h1,Hy hkp h1]
   split
   ·rename_i hi
    rw[if_neg (by rwa[hij,hi])]
    split
    ·exact h3 _ (by rwa[hij,hi]) (by rwa[hij,hj,hi])
    ·(rename_i z0;rwa[hij,hj,hi,z0])
   ·split
    ·rw[if_neg (by(rename_i z0;rwa[hij,z0])),if_pos (by(rename_i z0;rwa[hij,hj,z0]))]
     exact ha _ _ (by(rename_i z0 z1;rwa[hij,z0,z1])) (by(rename_i z0;rwa[hj,z0]))
    ·split
     ·exact h2 _ (by(rename_i z0 _ z2;rwa[hij,z0,z2]))
     ·split
      ·rename_i hj2
       by_cases hij2:i=j-1
       ·(rename_i z0 z1 _;rwa[hij,hj,z0,z1,hj2,hij2])
       ·exact ha _ _ (by(rename_i z0;rwa[hij,z0,hj2,hij2])) (by rwa[hij,hj])
      ·exact ha _ _ hij (by(rename_i z0 z1;rwa[h1,hj,z0,z1]))
  have:=PK f (bubble p k (k-l)) (k+1) hd' (by rw[u7];rwa[hk]) ha'
  rw[u7] at this
  exact⟨this.1.trans (bubble_perm _ _ _),this.2⟩
theorem G5{n:Nat}(hn:1<=n)(hr:∀i j,i<n->j<n->r i=r j->i=j):(D1 (CW r) (kas_sort n)).Perm (ke (kd n))/\Kh r (D1 (CW r) (kas_sort n)) n:=by
 delta r n at hn hr
 have hsz:(ke (kd n)).size=n:=by simp
 have hd:GZ r (ke (kd n)):=by
  intro i j hi hj h
  rw[hsz] at hi hj
  unfold RR at h
  have e:∀i,i<n->(ke (kd n)).getD i 0=i:=λi hi=>by simp[lQ,hi]
  rw[e i hi,e j hj] at h
  exact hr i j hi hj h
 obtain⟨m,p',e1,e2,e3,e4,e5,e6⟩:=(Jh hd (by rw[hsz];exact hn))
 rw[hsz] at e1 e3
 have hp':p'.size=n:=by rw[e4.size_eq,hsz]
 unfold kas_sort
 rw[D7,e1]
 dsimp only
 by_cases h:m<n
 ·rw[if_pos h]
  have hmx:max m 1=m:=by(clear_value *;lia)
  rw[hmx]
  have:=PK (r:=r) (n-m) p' m e5 (by rwa[hp',h]) e6
  rw[hp'] at this
  exact⟨this.1.trans e4,this.2⟩
 ·rw[if_neg h]
  have:m=n:=by rwa[e3,h]
  subst this
  exact⟨e4,e6⟩
end
noncomputable def WI {α:Type} (lt:Nat->Nat->Bool) (ok:Nat->Prop):KasT α->Prop
 | .ret _=>True
 | .ask i j k=>ok i/\ok j/\WI lt ok (k (lt i j))
theorem D6{α β:Type}(lt:Nat->Nat->Bool)(ok:Nat->Prop)(f:α->KasT β):∀t:KasT α,WI lt ok t->WI lt ok (f (D1 lt t))->WI lt ok (t.bind f)
 | .ret _,_,h=>h
 | .ask i j k,⟨h1,h2,h3⟩,h=>⟨h1,h2,D6 lt ok f (k (lt i j)) h3 h⟩
theorem Rf{α:Type}{cmp:Nat->Nat->(Bool->jE->Prop)->jE->Prop}{lt:Nat->Nat->Bool}{Inv:jE->Prop}{ok:Nat->Prop}
 (h:∀i j C s,ok i->ok j->Inv s->(∀s',Inv s'->C (lt i j) s')->cmp i j C s){Q:α->jE->Prop}:∀(t:KasT α) (s:jE),WI lt ok t->Inv s->(∀s',Inv s'->Q (D1 lt t) s')->t.kasWp cmp Q s
 | .ret a,s,_,hI,q=>q s hI
 | .ask i j k,s,⟨o1,o2,o3⟩,hI,q=>h i j _ s o1 o2 hI λs' hI'=>Rf h (k (lt i j)) s' o3 hI' q
section
variable {r:Nat->Int} {ok:Nat->Prop}
noncomputable def Za (ok:Nat->Prop) (p:Array Nat):Prop:=∀k,k<p.size->ok (p.getD k 0)
theorem Za.perm{p q:Array Nat}(h:Za ok p)(hp:q.Perm p):Za ok q:=by
 intro k hk
 have hm:q.getD k 0∈q:=by simp[lQ,hk]
 have hm':q.getD k 0∈p:=hp.mem_iff.mp hm
 obtain⟨j,hj,e⟩:=Array.getElem_of_mem hm'
 have:=h j hj
 rw[lQ,oX hj] at this
 simp only[Option.getD_some] at this
 rw[e] at this
 exact this
theorem RI{p:Array Nat}(ho:Za ok p):∀(f n:Nat),1<=n->n+f<=p.size->WI (CW r) ok (kas_asc p f n)
 | 0,n,h1,h2=>trivial
 | f+1,n,h1,h2=>by
  refine⟨ho n (by rwa[h2]),ho (n-1) (by rwa[h1,h2]),?_⟩
  dsimp only
  split
  ·trivial
  ·exact RI ho f (n+1) (by rwa[]) (by rwa[h2])
theorem Uj{p:Array Nat}(hd:GZ r p)(ho:Za ok p):∀(f n:Nat),1<=n->n+f<=p.size->WI (CW r) ok (kas_desc f p n 0)
 | 0,n,h1,h2=>trivial
 | f+1,n,h1,h2=>by
  refine⟨ho n (by rwa[h2]),ho (n-1) (by rwa[h1,h2]),?_⟩
  dsimp only
  by_cases c:CW r (p.getD n 0) (p.getD (n-1) 0)=true
  ·rw[if_pos c,if_neg (by decide)]
   exact Uj hd ho f (n+1) (by rwa[]) (by rwa[h2])
  ·rw[if_neg c]
   refine⟨ho (n-1) (by rwa[h1,h2]),ho n (by rwa[h2]),?_⟩
   have hne:RR r p (n-1)≠RR r p n:=λz=>by have:=hd (n-1) n (by rwa[h1,h2]) (by rwa[h2]) z;rwa[h1,this]
   have c':¬RR r p n<RR r p (n-1):=λz=>c (decide_eq_true z)
   have c2:CW r (p.getD (n-1) 0) (p.getD n 0)=true:=decide_eq_true (show RR r p (n-1)<RR r p n by rwa[hne,c'])
   dsimp only
   rw[if_pos c2];trivial
theorem Xl{p:Array Nat}(hd:GZ r p)(ho:Za ok p)(h2:1<=p.size):WI (CW r) ok (kas_count p.size p):=by
 delta r ok p at hd ho h2
 have ha:=GX hd (p.size-1) 1 (jN _) (by rwa[h2]) (λi j h1 h2=>by rwa[h1,h2])
 unfold kas_count
 refine D6 _ _ _ _ (RI ho _ _ (jN _) (by rwa[h2])) ?_
 generalize D1 (CW r) (kas_asc p (p.size-1) 1)=n at ha
 obtain⟨a1,a2,a3,a4⟩:=ha
 by_cases hn:n=p.size
 ·rw[if_pos (by rw[hn];exact beq_self_eq_true _)];trivial
 ·rw[if_neg (by simpa using hn)]
  by_cases h1:n>1
  ·rw[if_pos h1]
   have c:CW r (p.getD 0 0) (p.getD (n-1) 0)=true:=decide_eq_true (a3 0 (n-1) (by rwa[a1,h1]) (by rwa[a1]))
   refine⟨ho 0 (by rwa[h2]),ho (n-1) (by rwa[h2,a1,a2,hn]),?_⟩
   dsimp only
   rw[if_pos c];trivial
  ·rw[if_neg h1]
   obtain rfl:n=1:=by rwa[a1,h1]
   have h0:=a4 (by rwa[h2,hn])
   unfold kas_descPart
   have hD:PS r p 2:=by
    intro i j hij hj
    have:i=0:=by rwa[hij,hj]
    have:j=1:=by rwa[hij,hj,this]
    subst i j
    exact h0
   obtain⟨m,e1,e2,e3,e4⟩:=Hq hd (p.size-(1+1)) 2 (by rwa[]) (by rwa[h2,hn]) hD
   refine D6 _ _ _ _ (Uj hd ho _ _ (by rwa[]) (by rwa[h2,hn])) ?_
   have e1':D1 (CW r) (kas_desc (p.size-(1+1)) p (1+1) 0)=(p,m,0):=e1
   rw[e1']
   dsimp only
   rw[if_neg (by decide)]
   unfold kas_tail3
   exact D6 _ _ _ _ (RI (ho.perm (OW _ _)) _ _ (by rwa[e2]) (by rw[IH];rwa[h2,hn,e3])) trivial
theorem IP{p:Array Nat}{k:Nat}(ho:Za ok p)(hk:k<p.size):∀(f l q:Nat),q<=k->WI (CW r) ok (kas_place p k f l q)
 | 0,l,q,h2=>trivial
 | f+1,l,q,h2=>by
  unfold kas_place
  by_cases hl:l>=q
  ·rw[if_pos hl];trivial
  ·rw[if_neg hl]
   refine⟨ho k hk,ho _ (by rwa[hk,h2,hl]),?_⟩
   dsimp only
   by_cases c:CW r (p.getD k 0) (p.getD ((l+q)/2) 0)=true
   ·rw[if_pos c];exact IP ho hk f _ _ (by rwa[h2,hl])
   ·rw[if_neg c];exact IP ho hk f _ _ h2
theorem Xy:∀(f:Nat) (p:Array Nat) (k:Nat),Za ok p->k+f<=p.size->WI (CW r) ok (kas_bin f p k)
 | 0,p,k,ho,hk=>trivial
 | f+1,p,k,ho,hk=>by
  unfold kas_bin
  exact D6 _ _ _ _ (IP ho (by rwa[hk]) _ _ _ (jN _)) (Xy f _ _ (ho.perm (bubble_perm _ _ _)) (by rw[u7];rwa[hk]))
theorem TP{n:Nat}(hn:1<=n)(hr:∀i j,i<n->j<n->r i=r j->i=j):WI (CW r) (· < n) (kas_sort n):=by
 delta r n at hn hr
 have hsz:(ke (kd n)).size=n:=by simp
 have e:∀i,i<n->(ke (kd n)).getD i 0=i:=λi hi=>by simp[lQ,hi]
 have hd:GZ r (ke (kd n)):=by
  intro i j hi hj h
  rw[hsz] at hi hj
  unfold RR at h
  rw[e i hi,e j hj] at h
  exact hr i j hi hj h
 have ho:Za (· < n) (ke (kd n)):=λk hk=>by
  rw[hsz] at hk
  show(ke (kd n)).getD k 0<n
  rw[e k hk];exact hk
 have hc:=Xl hd ho (by rw[hsz];exact hn)
 obtain⟨m,p',e1,e2,e3,e4,e5,e6⟩:=(Jh hd (by rw[hsz];exact hn))
 rw[hsz] at hc e1 e3
 have hp':p'.size=n:=by rw[e4.size_eq,hsz]
 unfold kas_sort
 refine D6 _ _ _ _ hc ?_
 rw[e1]
 dsimp only
 by_cases h:m<n
 ·rw[if_pos h]
  exact Xy _ _ _ (ho.perm e4) (by(clear_value *;lia))
 ·rw[if_neg h];trivial
end
theorem Gh(x y:Nat):kc x y=((x&&&y:Nat):Int):=by
 unfold kc
 simp
theorem KI(x y:Nat):ou x y=((x|||y:Nat):Int):=by
 unfold ou kc Builtin.bitNot
 have hx:decide ((0:Int)<=-(x:Int)-1)=false:=decide_eq_false (by rwa[])
 have hy:decide ((0:Int)<=-(y:Int)-1)=false:=decide_eq_false (by rwa[])
 rw[hx,hy]
 have e1:(-(-(x:Int)-1)-1).toNat=x:=by rwa[]
 have e2:(-(-(y:Int)-1)-1).toNat=y:=by rwa[]
 simp only[e1,e2]
 rwa[]
theorem OA{x y:Int}(hx:0<=x)(hx':x<65536)(hy:0<=y)(hy':y<65536):0<=oK x y/\oK x y<65536:=by
 obtain⟨a,rfl⟩:=pv hx
 obtain⟨b,rfl⟩:=pv hy
 unfold oK
 rw[Gh,KI]
 have h1:a|||b<2^16:=Nat.or_lt_two_pow (by rwa[hx']) (by rwa[hy'])
 have h2:a&&&b<=a:=Nat.and_le_left
 have h3:a<=a|||b:=Nat.left_le_or
 rwa[h1,h2,h3]
theorem FJ(few:List Int)(k:Nat):0<=(Co few k).1/\(Co few k).1<65536:=⟨kK _ (by decide),lh _ (by decide)⟩
theorem NV(t:Int):0<=NW t/\NW t<65536:=⟨kK _ (by decide),lh _ (by decide)⟩
theorem Yy(script:List Int):Ca (Dr (script.take 4) (HO script)):=by
 refine⟨?_,λm hm=>?_⟩
 ·have:(script.take 4).length<=4:=by rw[lm];rwa[]
  unfold Dr HO
  simp only[j7,jI,lG]
  rwa[this]
 ·rcases jG.mp hm with rfl|hm
  ·decide
  ·obtain⟨k,_,rfl⟩:=kn.mp hm
   exact FJ _ _
theorem Wi(script:List Int):Ca (CK (script.take 4) (HO script)):=by
 refine⟨?_,λm hm=>?_⟩
 ·have:(script.take 4).length<=4:=by rw[lm];rwa[]
  unfold CK HO
  simp only[j7,jI,lG]
  rwa[this]
 ·rcases jG.mp hm with rfl|hm
  ·decide
  ·refine Af (kn.mp hm) λk _ zz1=>?_;obtain rfl:=zz1
   have a:=FJ (script.take 4) k
   have b:=NV (Co (script.take 4) k).2
   exact OA a.1 a.2 b.1 b.2
theorem Ca.drop{row:List Int}(h:Ca row)(k:Nat):Ca (row.drop k):=⟨by rw[rf];have:=h.len;rwa[this],λm hm=>h.el m (List.mem_of_mem_drop hm)⟩
theorem Ca.rev{row:List Int}(h:Ca row):Ca row.reverse:=⟨by rw[sH];exact h.len,λm hm=>h.el m (wO.mp hm)⟩
theorem Ca.nil:Ca []:=⟨kf _,λ_ h=>nomatch h⟩
theorem Yb(script:List Int):Ca (Bs script).1/\Ca (Bs script).2:=by
 have l:=Yy script
 have r:=Wi script
 unfold Bs
 dsimp only
 split
 ·exact⟨l.drop 1,r⟩
 ·split
  ·exact⟨l,r.drop 1⟩
  ·split
   ·exact⟨.nil,r⟩
   ·split
    ·exact⟨l,.nil⟩
    ·split
     ·exact⟨l,r.rev⟩
     ·exact⟨l,r⟩
noncomputable def DA (ys:List jX):jX:=⟨(ys.flatMap (·.cps.toList)).toArray⟩
theorem Hs(x:jX)(ys:List jX):DA (x::ys)=x++DA ys:=by
 apply uQ
 rw[Str.cps_append]
 apply wd
 simp[DA]
theorem PE(xs ys:List jX):DA (xs++ys)=DA xs++DA ys:=by
 apply uQ
 rw[Str.cps_append]
 apply wd
 simp[DA]
theorem D8(ys:List jX):mE "" ys=DA ys:=by
 show Builtin.Str.glued (jz "") ys=_
 rw[StrLaws.glued_eq_join]
 have he:jz ""=mH:=by decide
 rw[he]
 have:∀ys:List jX,Str.join mH ys=DA ys:=by
  intro ys
  induction ys with
  | nil=>rfl
  | cons x ys ih=>
   cases ys with
   | nil=>rw[Hs];show x=x++DA [];rw[show DA []=mH from rfl,tY]
   | cons y ys=>
    show x++mH++Str.join mH (y::ys)=_
    rw[ih,tY,<-Hs]
 exact this ys
theorem Xq{α:Type}(f:α->List jX)(l:List α):DA (l.map λa=>DA (f a))=DA (l.flatMap f):=by
 induction l with
 | nil=>rfl
 | cons a l ih=>rw[kM,Hs,ih,lq,PE]
theorem BP(m a:Nat):m&&&2^a=2^a↔m/2^a%2=1:=by
 have e:m.testBit a=decide (m/2^a%2=1):=Nat.testBit_eq_decide_div_mod_eq
 constructor
 ·intro h
  have:=congrArg (λx=>v4 x a) h
  simp only[qk,Nat.testBit_two_pow_self,oE] at this
  rw[e] at this
  exact of_decide_eq_true this
 ·intro h
  have h':m.testBit a=true:=by rw[e];exact decide_eq_true h
  apply sx
  intro i
  rw[qk,Nat.testBit_two_pow]
  by_cases c:a=i
  ·subst c;simp[h']
  ·simp[c]
theorem RK(m x y:Nat):m&&&(x|||y)=x|||y↔(m&&&x=x/\m&&&y=y):=by
 constructor
 ·intro h
  have k:∀i,(x|||y).testBit i=true->m.testBit i=true:=by
   intro i hi
   have:=congrArg (λz=>v4 z i) h
   simp only[qk] at this
   rw[hi,oE] at this
   exact this
  constructor<;>apply sx<;>intro i<;>rw[qk]
  ·cases hx:x.testBit i with
   | false=>simp
   | true=>rw[k i (by rw[Nat.testBit_or,hx];rfl)];rfl
  ·cases hy:y.testBit i with
   | false=>simp
   | true=>rw[k i (by rw[Nat.testBit_or,hy];simp)];rfl
 ·rintro⟨h1,h2⟩
  rw[Nat.and_or_distrib_left,h1,h2]
theorem GJ(n:Nat)(i:Nat)(hi:i≠0)(B:Nat)(s:jX):EL (n:Int) i ((B:Int),s)=decide (n&&&B=B):=by
 unfold EL
 rw[if_neg hi]
 show decide (kc (n:Int) (B:Int)=(B:Int))=_
 rw[Gh]
 by_cases h:n&&&B=B
 ·rw[h];simp
 ·rw[decide_eq_false h,decide_eq_false (by rwa[h])]
theorem Kl(n i a:Nat)(hi:i≠0)(s:jX):AU (n:Int) i [(((2^a:Nat):Int),s)]=if n/2^a%2=1 then s else jz "-":=by
 unfold AU
 rw[me,GJ n i hi,if_neg hi]
 by_cases h:n/2^a%2=1
 ·rw[decide_eq_true ((BP n a).mpr h),if_pos h];rfl
 ·rw[decide_eq_false (λz=>h ((BP n a).mp z)),if_neg h];rfl
theorem V6(n i a b:Nat)(hi:i≠0)(s S x:jX):AU (n:Int) i [(((2^a|||2^b:Nat):Int),s),(((2^b:Nat):Int),S),(((2^a:Nat):Int),x)]=if n/2^b%2=1 then(if n/2^a%2=1 then s else S) else(if n/2^a%2=1 then x else jz "-"):=by
 unfold AU
 rw[me,me,me,GJ n i hi,GJ n i hi,GJ n i hi,if_neg hi]
 have e2:(n&&&(2^a|||2^b)=2^a|||2^b)↔(n/2^a%2=1/\n/2^b%2=1):=by rw[RK,BP,BP]
 by_cases ha:n/2^a%2=1<;>by_cases hb:n/2^b%2=1
 ·rw[decide_eq_true (e2.mpr ⟨ha,hb⟩),if_pos hb,if_pos ha];rfl
 ·rw[decide_eq_false (λz=>hb (e2.mp z).2),decide_eq_false (λz=>hb ((BP n b).mp z)),decide_eq_true ((BP n a).mpr ha),if_neg hb,if_pos ha];rfl
 ·rw[decide_eq_false (λz=>ha (e2.mp z).1),decide_eq_true ((BP n b).mpr hb),if_pos hb,if_neg ha];rfl
 ·rw[decide_eq_false (λz=>ha (e2.mp z).1),decide_eq_false (λz=>hb ((BP n b).mp z)),decide_eq_false (λz=>ha ((BP n a).mp z)),if_neg hb,if_neg ha];rfl
theorem UD(n k:Nat):BG (n:Int) (k:Int)=((n/8^k%8:Nat):Int):=by
 unfold BG
 have h8:(0:Int)<=8^k:=oV (by decide)
 rw[kr,kC _ h8,kQ _ (by decide)]
 push_cast
 rfl
theorem Vv(n k:Nat):DW (n:Int) (k:Int)=((n/2^(9+k)%2:Nat):Int):=by
 unfold DW
 have e:((9:Int)+(k:Nat)).toNat=9+k:=by rwa[]
 have h8:(0:Int)<=2^(9+k):=oV (by decide)
 rw[e,kC _ h8,kQ _ (by decide)]
 push_cast
 rfl
theorem F6(n k:Nat)(c:jX)(hc:c=if(k:Int)≠0 then jz "-xSs" else jz "-xTt") :
 Cd (n:Int) (k:Int)=[if n/8^k/4%2=1 then jz "r" else jz "-",if n/8^k/2%2=1 then jz "w" else jz "-",F1 c ((n/8^k%2+2*(n/2^(9+k)%2):Nat):Int)]:=by
 delta n k c at hc
 unfold Cd
 rw[UD,Vv]
 generalize n/8^k=q
 generalize n/2^(9+k)%2=ab
 have e1:((q%8:Nat):Int).fdiv 4=((q/4%2:Nat):Int):=by rw[kC _ (by decide)];exact congrArg vo (nk q 4 2)
 have e2:(((q%8:Nat):Int).fdiv 2).fmod 2=((q/2%2:Nat):Int):=by rw[kC _ (by decide),kQ _ (by decide)];exact congrArg vo ((congrArg (· % 2) (nk q 2 4)).trans (qP _ ⟨2,rfl⟩))
 have e3:((q%8:Nat):Int).fmod 2+2*(ab:Int)=((q%2+2*ab:Nat):Int):=by rw[kQ _ (by decide)];exact congrArg (λz=>vo (z+2*ab)) (qP q ⟨4,rfl⟩)
 rw[e1,e2,e3,hc]
 have two:∀(x:Nat) (a:jX),x<2->F1 a (x:Int)=if x=1 then F1 a 1 else F1 a 0:=by
  intro x a hx
  have:x=0\/x=1:=by rwa[hx]
  rcases this with rfl|rfl<;>rfl
 rw[two _ _ (pr _ (by decide)),two _ _ (pr _ (by decide))]
 rfl
theorem LZ(c s S x:jX)(a b:Nat)(ha:a<2)(hb:b<2)(h0:F1 c 0=jz "-")(h1:F1 c 1=x)(h2:F1 c 2=S)(h3:F1 c 3=s):F1 c ((a+2*b:Nat):Int)=if b=1 then(if a=1 then s else S) else(if a=1 then x else jz "-"):=by
 have ha:a=0\/a=1:=by rwa[ha]
 have hb:b=0\/b=1:=by rwa[hb]
 rcases ha with rfl|rfl<;>rcases hb with rfl|rfl
 ·exact h0
 ·exact h2
 ·exact h1
 ·exact h3
theorem Q4(n:Nat):(Aw (n:Int) 10).drop 1=Cd (n:Int) 2++Cd (n:Int) 1++Cd (n:Int) 0:=by
 have e:(Aw (n:Int) 10).drop 1=[AU n 1 [(((2^8:Nat):Int),"r")],AU n 2 [(((2^7:Nat):Int),"w")],AU n 3 [(((2^6|||2^11:Nat):Int),"s"),(((2^11:Nat):Int),"S"),(((2^6:Nat):Int),"x")],
  AU n 4 [(((2^5:Nat):Int),"r")],AU n 5 [(((2^4:Nat):Int),"w")],AU n 6 [(((2^3|||2^10:Nat):Int),"s"),(((2^10:Nat):Int),"S"),(((2^3:Nat):Int),"x")],
  AU n 7 [(((2^2:Nat):Int),"r")],AU n 8 [(((2^1:Nat):Int),"w")],AU n 9 [(((2^0|||2^9:Nat):Int),"t"),(((2^9:Nat):Int),"T"),(((2^0:Nat):Int),"x")]]:=by rfl
 rw[e,Kl _ _ _ (by decide),Kl _ _ _ (by decide),V6 _ _ _ _ (by decide),Kl _ _ _ (by decide),Kl _ _ _ (by decide),V6 _ _ _ _ (by decide),Kl _ _ _ (by decide),Kl _ _ _ (by decide),V6 _ _ _ _ (by decide)]
 have k2:=F6 n 2 (jz "-xSs") rfl
 have k1:=F6 n 1 (jz "-xSs") rfl
 have k0:=F6 n 0 (jz "-xTt") rfl
 rw[show(2:Int)=((2:Nat):Int) from rfl,show(1:Int)=((1:Nat):Int) from rfl,show(0:Int)=((0:Nat):Int) from rfl,k2,k1,k0]
 have l:∀a b:Nat,a%2<2:=λa b=>pr _ (by decide)
 rw[LZ (jz "-xSs") "s" "S" "x" _ _ (l _ 0) (l _ 0) (by decide +kernel) (by decide +kernel) (by decide +kernel) (by decide +kernel),LZ (jz "-xSs") "s" "S" "x" _ _ (l _ 0) (l _ 0) (by decide +kernel) (by decide +kernel) (by decide +kernel) (by decide +kernel),LZ (jz "-xTt") "t" "T" "x" _ _ (l _ 0) (l _ 0) (by decide +kernel) (by decide +kernel) (by decide +kernel) (by decide +kernel)]
 have d:∀a b c:Nat,n/a/b=n/(a*b):=λa b c=>Nat.div_div_eq_div_mul ..
 simp only[d _ _ 0]
 rfl
theorem Y9(n:Nat)(h:n<65536):n&&&61440=n/4096*4096:=by
 apply sx
 intro i
 have e:n/4096*4096=(n >>> 12) <<< 12:=by rw[Nat.shiftRight_eq_div_pow,xh]
 rw[e,qk,Nat.testBit_shiftLeft,Nat.testBit_shiftRight]
 by_cases hi:i<16
 ·have:∀i:Fin 16,v4 61440 i.val=decide (i.val>=12):=by decide +kernel
  rw[this ⟨i,hi⟩]
  by_cases c:i>=12
  ·have:12+(i-12)=i:=by rwa[c]
   simp[c,this]
  ·simp[c]
 ·have h1:n.testBit i=false:=Nat.testBit_lt_two_pow (mP h (by
   calc 65536=2^16:=by decide
    _<=2^i:=nM (by decide) (by rwa[hi])))
  have:12+(i-12)=i:=by rwa[hi]
  rw[h1,this,h1]
  simp
theorem UA(n:Nat)(h:n<65536):AU (n:Int) 0 [(40960,"l"),(49152,"s"),(32768,"-"),(24576,"b"),(16384,"d"),(8192,"c"),(4096,"p")]=F1 "?pc?d?b?-?l?s???" ((n:Int).fdiv 4096):=by
 have hd:(n:Int).fdiv 4096=((n/4096:Nat):Int):=by rw[kC _ (by decide)];rwa[]
 have hb:kc (n:Int) 61440=((n/4096*4096:Nat):Int):=by
  have:=Gh n 61440
  rw[Y9 n h] at this
  exact this
 rw[hd]
 unfold AU EL
 simp only[if_true]
 rw[hb]
 have ht:n/4096<16:=by rwa[h]
 generalize n/4096=t at ht
 have:∀t:Fin 16,((([(40960,jz "l"),(49152,jz "s"),(32768,jz "-"),(24576,jz "b"),(16384,jz "d"),(8192,jz "c"),(4096,jz "p")]:List (Int×jX)).find? λp=>decide (((t.val*4096:Nat):Int)=p.1)).map (·.2)).getD (jz "?")=F1 "?pc?d?b?-?l?s???" (t.val:Int):=by decide +kernel
 exact this ⟨t,ht⟩
theorem Rl(m:Int)(h0:0<=m)(h1:m<65536):Aw m 10=Cp m:=by
 obtain⟨n,rfl⟩:=pv h0
 have hn:n<65536:=by rwa[h1]
 have e:Aw (n:Int) 10=AU (n:Int) 0 [(40960,"l"),(49152,"s"),(32768,"-"),(24576,"b"),(16384,"d"),(8192,"c"),(4096,"p")]::(Aw (n:Int) 10).drop 1:=by rfl
 rw[e,Q4,UA n hn]
 simp[Cp]
theorem VZ(row:List Int)(ok:Ca row):mE "" (row.map λm=>mE "" (Aw m 10))=mE "" (AB row):=by
 rw[D8,D8]
 have e:(row.map λm=>mE "" (Aw m 10))=row.map λm=>DA (Cp m):=lS λm hm=>by
  rw[D8,Rl m (ok.el m hm).1 (ok.el m hm).2]
 rw[e,Xq]
 rfl
noncomputable def fi (α:Type) (as:Array α) (p:α->Bool) (a b:Nat):Bool:=
 @lf (λ_=>Bool) (as.any p a b) (R.anyR as.toList p) (qC a 0&&qC b as.toList.length)
theorem Uu:@Array.any=fi:=by
 funext α as p a b
 unfold fi
 cases h:qC a 0&&qC b as.toList.length with
 | false=>rfl
 | true=>
  obtain⟨h1,h2⟩:=sh.mp h
  have h1:=nu h1
  have h2:=nu h2
  subst h1 h2
  show as.any p 0 as.toList.length=R.anyR as.toList p
  rw[<-R.anyR_eq,kh,Array.any_toList]
noncomputable def Wx:km:=by
 refine(?f:(x:km)->ng=x->km) ?x ?h
 case h=>
  have e:ng=ng:=rfl
  conv at e=>rhs;unfold ng
  rewrite [Uu] at e
  exact e
 case f=>exact λx _=>x
theorem UV:km.«type.__new__»=Wx:=by
 refine Fast.te4202317264376624991.trans ?_
 unfold ng
 rewrite [Uu]
 rfl
noncomputable def T1 (id:String):Option km:=@ite _ (id="type.__new__") (S.decLit "type.__new__" (nat_lit 29827186395103491166823348853) rfl id) (some Wx) (m0 id)
theorem PR:qg=T1:=by
 refine m7.trans ?_
 funext id
 unfold T1
 split
 ·rename_i h
  subst h
  rw[<-UV,<-m7]
  rfl
 ·rfl
noncomputable def e9:l9->List l9
 | .ClassDef _ _ _ b ..=>b
 | _=>[]
noncomputable def BB (i j:Nat):l9:=((e9 (stm i))[j]?).getD (.Pass ⟨0,0,0,0⟩)
noncomputable def DL:l9->jX
 | .FunctionDef _ _ b ..=>(match b with | .Expr (.Constant (.str d) _ _) _::_=>d|_=>mH)
 | .ClassDef _ _ _ b ..=>(match b with | .Expr (.Constant (.str d) _ _) _::_=>d|_=>mH)
 | _=>mH
noncomputable def A.env_1:xy:={scope:=pw.main.scope,locals:=mainNs,globals:=mainNs,cells:=[],code:=kx 13,frame:=some 14}
noncomputable def vS (x:String) (t:Nat):jB:=.str (jz x) t
noncomputable def vI (i:Int):jB:=.int i 0
noncomputable def dE (P:jC) (k:String) (t:Nat) (v:jB):ny:=.mk (qo P (jz k)) (.str (jz k) t) v
noncomputable def oT (l:List jB):nH:=.mk (.type "tuple") none (.seq l.toArray 0) #[]
noncomputable def oF (l:List jB):nH:=.mk .none none (.fields l.toArray) #[]
noncomputable def oG (c:String) (l:List jB):nH:=.mk (.type c) none (.fields l.toArray) #[]
noncomputable def oD (l:List ny) (n:Nat):nH:=.mk (.type "dict") none (.dict l.toArray n) #[]
noncomputable def fN (n q:String) (s:l9):nH:=.mk .none none (.func (.mk (jz n) (jz q) (GS s) (.stmts (Am s)) (Cm s) 0 [] .none .none .none .none none .none .none 0)) #[]
noncomputable def fU (n q:String) (s:l9) (g:Nat) (d k o m c:jB):nH:=.mk (.type "function") none (.func (.mk (jz n) (jz q) (GS s) (.stmts (Am s)) (Cm s) g [] d k o m none c .none 0)) #[]
noncomputable def bL (o:nH):BT:=.node o .nil .nil
def RT (P:jC):=oT []
def RS (P:jC):=oG "code" [vS "<module>" 182,vS "<module>" 183,vS "/claim/cut.py" 184,vI 1,vI 0,vI 0,vI 0,vI 0,.ref 11,ko false,vI 181,.ref 12,jD,jD,jD,jD,vI 185,vI 1,vS "/claim/cut.py" 186]
def RQ (P:jC):nH:=nN (jV "frame") none pS (ke [some (.ref 13),some (.ref 3),some (.ref 3),none,some (vS "__main__" 164),none,some (.ref 0)])
def bB (P:jC):=oD [dE P "__name__" 165 (vS "cpy313.difflib" 194),dE P "__doc__" 166 jD,dE P "__package__" 167 jD,dE P "__loader__" 168 (lF "__main__.__loader__#opaque"),dE P "__spec__" 169 jD,dE P "__annotations__" 170 (.ref 6),dE P "__builtins__" 171 (.ref 4),dE P "__file__" 173 (vS "/claim/cut.py" 172),dE P "__cached__" 174 jD,dE P "_wall" 193 (.ref 21),dE P "_tuplegetter" 252 (.ref 60),dE P "Match" 380 (.ref 135),dE P "_calculate_ratio" 388 (.ref 145)] 13
def bA (P:jC):=oF [vI 1,vI 0,.ref 20,vI 5,vI 0,.ref 27,vI 23,vI 0,.ref 71,vI 66,vI 0,.ref 144]
def VA (P:jC):=oT []
def Vz (P:jC):=oF []
def Vy (P:jC):=oT [vS "k" 190]
def LY (P:jC):=oT []
def LX (P:jC):=fN "_wall" "_wall" (stm 0)
def LW (P:jC):=oG "code" [vS "_wall" 187,vS "_wall" 188,vS "/claim/cut.py" 189,vI 1,vI 1,vI 0,vI 0,vI 3,.ref 15,ko true,vI 181,.ref 16,jD,.ref 17,.ref 18,.ref 19,vI 191,vI 1,vS "/claim/cut.py" 192]
def LV (P:jC):=fU "_wall" "_wall" (stm 0) 3 jD jD jD (vS "__main__" 164) (.ref 20)
def LU (P:jC):=oT []
def LS (P:jC):=oG "builtin_function_or_method" [lF "type.__prepare__",jV "type"]
def LR (P:jC):=oD [dE P "__module__" 203 (vS "cpy313.difflib" 194),dE P "__qualname__" 205 (vS "_tuplegetter" 204),dE P "__firstlineno__" 207 (jR 5 206),dE P "__init__" 216 (.ref 35),dE P "__get__" 225 (.ref 43),dE P "__set__" 234 (.ref 50),dE P "__delete__" 242 (.ref 57),dE P "__static_attributes__" 245 (.ref 58)] 8
def LQ (P:jC):=oT []
def LP (P:jC):=oF [vI 7,vI 4,.ref 34,vI 11,vI 4,.ref 42,vI 18,vI 4,.ref 49,vI 21,vI 4,.ref 56]
def LN (P:jC):=oG "code" [vS "_tuplegetter" 198,vS "_tuplegetter" 199,vS "/claim/cut.py" 200,vI 5,vI 0,vI 0,vI 0,vI 0,.ref 25,ko false,vI 181,.ref 26,jD,jD,jD,jD,vI 201,vI 5,vS "/claim/cut.py" 202]
def LM (P:jC):nH:=nN (jV "frame") none pS (ke [some (.ref 27),some (.ref 3),some (.ref 24),none,some (vS "cpy313.difflib" 194),none,some (.ref 0)])
def LL (P:jC):=oT []
def LK (P:jC):=oF []
def LJ (P:jC):=oT [vS "self" 211,vS "index" 212,vS "doc" 213]
def LH (P:jC):=oT []
def LG (P:jC):=fN "__init__" "_tuplegetter.__init__" (BB 2 0)
def LF (P:jC):=oG "code" [vS "__init__" 208,vS "_tuplegetter.__init__" 209,vS "/claim/cut.py" 210,vI 7,vI 3,vI 0,vI 0,vI 3,.ref 29,ko true,vI 181,.ref 30,jD,.ref 31,.ref 32,.ref 33,vI 214,vI 7,vS "/claim/cut.py" 215]
def LD (P:jC):=fU "__init__" "_tuplegetter.__init__" (BB 2 0) 3 jD jD jD (vS "cpy313.difflib" 194) (.ref 34)
def LC (P:jC):=oT [jD]
def LB (P:jC):=oT []
def LA (P:jC):=oF []
def Lz (P:jC):=oT [vS "self" 220,vS "obj" 221,vS "objtype" 222]
def Ly (P:jC):=oT []
def Lx (P:jC):=fN "__get__" "_tuplegetter.__get__" (BB 2 1)
def Lw (P:jC):=oG "code" [vS "__get__" 217,vS "_tuplegetter.__get__" 218,vS "/claim/cut.py" 219,vI 11,vI 3,vI 0,vI 0,vI 3,.ref 37,ko true,vI 181,.ref 38,jD,.ref 39,.ref 40,.ref 41,vI 223,vI 11,vS "/claim/cut.py" 224]
def Lv (P:jC):=fU "__get__" "_tuplegetter.__get__" (BB 2 1) 3 (.ref 36) jD jD (vS "cpy313.difflib" 194) (.ref 42)
def Lu (P:jC):=oT []
def Ls (P:jC):=oF []
def Lr (P:jC):=oT [vS "self" 229,vS "obj" 230,vS "value" 231]
def Lq (P:jC):=oT []
def Lp (P:jC):=fN "__set__" "_tuplegetter.__set__" (BB 2 2)
def Lo (P:jC):=oG "code" [vS "__set__" 226,vS "_tuplegetter.__set__" 227,vS "/claim/cut.py" 228,vI 18,vI 3,vI 0,vI 0,vI 3,.ref 44,ko true,vI 181,.ref 45,jD,.ref 46,.ref 47,.ref 48,vI 232,vI 18,vS "/claim/cut.py" 233]
def Ln (P:jC):=fU "__set__" "_tuplegetter.__set__" (BB 2 2) 3 jD jD jD (vS "cpy313.difflib" 194) (.ref 49)
def Lm (P:jC):=oT []
def Ll (P:jC):=oF []
def Lj (P:jC):=oT [vS "self" 238,vS "obj" 239]
def Li (P:jC):=oT []
def Lh (P:jC):=fN "__delete__" "_tuplegetter.__delete__" (BB 2 3)
def Lg (P:jC):=oG "code" [vS "__delete__" 235,vS "_tuplegetter.__delete__" 236,vS "/claim/cut.py" 237,vI 21,vI 2,vI 0,vI 0,vI 3,.ref 51,ko true,vI 181,.ref 52,jD,.ref 53,.ref 54,.ref 55,vI 240,vI 21,vS "/claim/cut.py" 241]
def Lf (P:jC):=fU "__delete__" "_tuplegetter.__delete__" (BB 2 3) 3 jD jD jD (vS "cpy313.difflib" 194) (.ref 56)
def Ld (P:jC):=oT [vS "__doc__" 243,vS "index" 244]
def Lc (P:jC):=oD [dE P "__module__" 203 (vS "cpy313.difflib" 194),dE P "__firstlineno__" 207 (jR 5 206),dE P "__init__" 216 (.ref 35),dE P "__get__" 225 (.ref 43),dE P "__set__" 234 (.ref 50),dE P "__delete__" 242 (.ref 57),dE P "__static_attributes__" 245 (.ref 58),dE P "__dict__" 247 (.ref 61),dE P "__weakref__" 249 (.ref 62),dE P "__doc__" 250 jD] 4
def Lb (P:jC):nH:=nN (jV "type") none (xz (uw "_tuplegetter" [jV "object"] [.ref 60,jV "object"] 59 "_tuplegetter" true [] [] false none false)) (ke [none,none,some (vS "_tuplegetter" 196),some (vS "_tuplegetter" 204),some (lF "object.__new__"),some (ko true)])
def La (P:jC):=oG "getset_descriptor" [vS "__dict__" 246,.ref 60,lF "function.__dict__",lF "function.__dict__#set"]
def K9 (P:jC):=oG "getset_descriptor" [vS "__weakref__" 248,.ref 60,lF "ExceptionGroup.__weakref__",jD]
def K8 (P:jC):=oG "super" [.ref 60,.ref 60,.ref 60]
def K7 (P:jC):=oG "builtin_function_or_method" [lF "object.__init_subclass__",.ref 60]
def K6 (P:jC):=oT [jV "tuple"]
def K5 (P:jC):=oG "builtin_function_or_method" [lF "type.__prepare__",jV "type"]
def K4 (P:jC):=oD [dE P "__module__" 260 (vS "cpy313.difflib" 194),dE P "__qualname__" 262 (vS "Match" 261),dE P "__firstlineno__" 264 (jR 23 263),dE P "__doc__" 266 (vS "Match(a, b, size)" 265),dE P "__slots__" 268 (.ref 73),dE P "_fields" 272 (.ref 74),dE P "_field_defaults" 273 (.ref 75),dE P "__new__" 284 (.ref 82),dE P "_make" 306 (.ref 91),dE P "_replace" 317 (.ref 100),dE P "__replace__" 318 (.ref 100),dE P "__repr__" 326 (.ref 107),dE P "_asdict" 333 (.ref 114),dE P "__getnewargs__" 341 (.ref 121),dE P "__match_args__" 345 (.ref 122),dE P "a" 355 (.ref 124),dE P "b" 365 (.ref 127),dE P "size" 375 (.ref 130),dE P "__static_attributes__" 376 (.ref 132),dE P "__classcell__" 377 (.ref 68)] 20
def K0 (P:jC):nH:=nN (jV "cell") none (Data.cell (some (.ref 135))) (ke [])
def KZ (P:jC):=oT []
def KY (P:jC):=oF [vI 29,vI 4,.ref 81,vI 34,vI 4,.ref 88,vI 41,vI 4,.ref 99,vI 52,vI 4,.ref 106,vI 56,vI 4,.ref 113,vI 59,vI 4,.ref 120]
def KX (P:jC):=oG "code" [vS "Match" 255,vS "Match" 256,vS "/claim/cut.py" 257,vI 23,vI 0,vI 0,vI 0,vI 0,.ref 69,ko false,vI 181,.ref 70,jD,jD,jD,jD,vI 258,vI 23,vS "/claim/cut.py" 259]
def KW (P:jC):nH:=nN (jV "frame") none pS (ke [some (.ref 71),some (.ref 3),some (.ref 67),none,some (vS "cpy313.difflib" 194),none,some (.ref 0)])
def KV (P:jC):=oT []
def KU (P:jC):=oT [vS "a" 269,vS "b" 270,vS "size" 271]
def KR (P:jC):=oD [] 0
def KQ (P:jC):=oT []
def KP (P:jC):=oF []
def KO (P:jC):=oT [vS "_cls" 277,vS "a" 278,vS "b" 279,vS "size" 280]
def KN (P:jC):=oT []
def Qh (P:jC):=fN "__new__" "Match.__new__" (BB 3 4)
def Qg (P:jC):=oG "code" [vS "__new__" 274,vS "Match.__new__" 275,vS "/claim/cut.py" 276,vI 29,vI 4,vI 0,vI 0,vI 3,.ref 76,ko true,vI 181,.ref 77,jD,.ref 78,.ref 79,.ref 80,vI 281,vI 29,vS "/claim/cut.py" 282]
def G0 (P:jC):=fU "__new__" "Match.__new__" (BB 3 4) 3 jD jD (vS "Create new instance of Match(a, b, size)" 283) (vS "cpy313.difflib" 194) (.ref 81)
def Qf (P:jC):=oT []
def Qe (P:jC):=oF []
def Qd (P:jC):=oT [vS "cls" 288,vS "iterable" 289,vS "result" 290]
def Qc (P:jC):=oT []
def Qb (P:jC):=fN "_make" "Match._make" (BB 3 5)
def Qa (P:jC):=oG "code" [vS "_make" 285,vS "Match._make" 286,vS "/claim/cut.py" 287,vI 33,vI 2,vI 0,vI 0,vI 3,.ref 83,ko true,vI 181,.ref 84,jD,.ref 85,.ref 86,.ref 87,vI 291,vI 33,vS "/claim/cut.py" 292]
def Jt (P:jC):nH:=nN (jV "function") none (sv (qB "_make" "Match._make" (GS (BB 3 5)) (pi (Am (BB 3 5))) (Cm (BB 3 5)) 3 [] jD jD (vS "Make a new Match object from a sequence or iterable" 293) (vS "cpy313.difflib" 194) (some 92) (.ref 88) jD 0)) (ke [])
def P9 (P:jC):=oD [dE P "__module__" 295 (vS "cpy313.difflib" 194),dE P "__name__" 298 (vS "_make" 297),dE P "__qualname__" 301 (vS "Match._make" 300),dE P "__doc__" 303 (vS "Make a new Match object from a sequence or iterable" 293),dE P "__annotations__" 305 (.ref 92)] 5
def P8 (P:jC):nH:=nN (jV "classmethod") (some 90) (Data.fields (ke [.ref 89,ko false])) (ke [])
def P7 (P:jC):=oD [] 0
def P6 (P:jC):=oT [.ref 68]
def P5 (P:jC):=oT [vS "__class__" 310]
def P4 (P:jC):=oF []
def P3 (P:jC):=oT [vS "self" 311,vS "kwds" 312,vS "result" 313]
def P1 (P:jC):=oT []
def P0 (P:jC):=fN "_replace" "Match._replace" (BB 3 6)
def PZ (P:jC):=oG "code" [vS "_replace" 307,vS "Match._replace" 308,vS "/claim/cut.py" 309,vI 41,vI 1,vI 1,vI 0,vI 11,.ref 94,ko true,vI 181,.ref 95,jD,.ref 96,.ref 97,.ref 98,vI 314,vI 41,vS "/claim/cut.py" 315]
def PY (P:jC):nH:=nN (jV "function") none (sv (qB "_replace" "Match._replace" (GS (BB 3 6)) (pi (Am (BB 3 6))) (Cm (BB 3 6)) 3 [("__class__",68)] jD jD (kT (DL (BB 3 6)) 316) (vS "cpy313.difflib" 194) none (.ref 99) (.ref 93) 0)) (ke [])
def PX (P:jC):=oT []
def PW (P:jC):=oF []
def PV (P:jC):=oT [vS "self" 322]
def PU (P:jC):=oT []
def JW (P:jC):=fN "__repr__" "Match.__repr__" (BB 3 8)
def JV (P:jC):=oG "code" [vS "__repr__" 319,vS "Match.__repr__" 320,vS "/claim/cut.py" 321,vI 52,vI 1,vI 0,vI 0,vI 3,.ref 101,ko true,vI 181,.ref 102,jD,.ref 103,.ref 104,.ref 105,vI 323,vI 52,vS "/claim/cut.py" 324]
def JU (P:jC):=fU "__repr__" "Match.__repr__" (BB 3 8) 3 jD jD (vS "Return a nicely formatted representation string" 325) (vS "cpy313.difflib" 194) (.ref 106)
def JT (P:jC):=oT []
def JS (P:jC):=oF []
def JR (P:jC):=oT [vS "self" 330]
def JQ (P:jC):=oT []
def JP (P:jC):nH:=nN jD none (sv (qB "_asdict" "Match._asdict" (GS (BB 3 9)) (pi (Am (BB 3 9))) (Cm (BB 5 12)) 0 [] jD jD jD jD none jD jD 0)) (ke [])
def HJ (P:jC):=oG "code" [vS "_asdict" 327,vS "Match._asdict" 328,vS "/claim/cut.py" 329,vI 56,vI 1,vI 0,vI 0,vI 3,.ref 108,ko true,vI 181,.ref 109,jD,.ref 110,.ref 111,.ref 112,vI 331,vI 56,vS "/claim/cut.py" 332]
def JO (P:jC):nH:=nN (jV "function") none (sv (qB "_asdict" "Match._asdict" (GS (BB 3 9)) (pi (Am (BB 3 9))) (Cm (BB 5 12)) 3 [] jD jD jD (vS "cpy313.difflib" 194) none (.ref 113) jD 0)) (ke [])
def JN (P:jC):=oT []
def JM (P:jC):=oF []
def JL (P:jC):=oT [vS "self" 337]
def JK (P:jC):=oT []
def HI (P:jC):=fN "__getnewargs__" "Match.__getnewargs__" (BB 3 10)
def HG (P:jC):=oG "code" [vS "__getnewargs__" 334,vS "Match.__getnewargs__" 335,vS "/claim/cut.py" 336,vI 59,vI 1,vI 0,vI 0,vI 3,.ref 115,ko true,vI 181,.ref 116,jD,.ref 117,.ref 118,.ref 119,vI 338,vI 59,vS "/claim/cut.py" 339]
def HF (P:jC):=fU "__getnewargs__" "Match.__getnewargs__" (BB 3 10) 3 jD jD (vS "Return self as a plain tuple.  Used by copy and pickle." 340) (vS "cpy313.difflib" 194) (.ref 120)
def HE (P:jC):=oT [vS "a" 342,vS "b" 343,vS "size" 344]
def HD (P:jC):=oD [dE P "index" 352 (jR 0 346),dE P "__doc__" 354 (vS "Alias for field number 0" 347)] 2
def HC (P:jC):nH:=nN (.ref 60) (some 123) pS (ke [])
def HB (P:jC):nH:=nN (jV "frame") none (vi (ke [dE P "self" 348 (.ref 124),dE P "index" 349 (jR 0 346),dE P "doc" 350 (vS "Alias for field number 0" 347)]) 3) (ke [])
def HA (P:jC):=oD [dE P "index" 362 (jR 1 356),dE P "__doc__" 364 (vS "Alias for field number 1" 357)] 2
def JJ (P:jC):nH:=nN (.ref 60) (some 126) pS (ke [])
def JI (P:jC):nH:=nN (jV "frame") none (vi (ke [dE P "self" 358 (.ref 127),dE P "index" 359 (jR 1 356),dE P "doc" 360 (vS "Alias for field number 1" 357)]) 3) (ke [])
def JH (P:jC):=oD [dE P "index" 372 (jR 2 366),dE P "__doc__" 374 (vS "Alias for field number 2" 367)] 2
def JG (P:jC):nH:=nN (.ref 60) (some 129) pS (ke [])
def JF (P:jC):nH:=nN (jV "frame") none (vi (ke [dE P "self" 368 (.ref 130),dE P "index" 369 (jR 2 366),dE P "doc" 370 (vS "Alias for field number 2" 367)]) 3) (ke [])
def JE (P:jC):=oT []
def JD (P:jC):nH:=nN (jV "list") none (Data.seq (ke []) 0) (ke [])
def JC (P:jC):=oD [dE P "__module__" 260 (vS "cpy313.difflib" 194),dE P "__firstlineno__" 264 (jR 23 263),dE P "__doc__" 266 (vS "Match(a, b, size)" 265),dE P "__slots__" 268 (.ref 73),dE P "_fields" 272 (.ref 74),dE P "_field_defaults" 273 (.ref 75),dE P "__new__" 284 (.ref 136),dE P "_make" 306 (.ref 91),dE P "_replace" 317 (.ref 100),dE P "__replace__" 318 (.ref 100),dE P "__repr__" 326 (.ref 107),dE P "_asdict" 333 (.ref 114),dE P "__getnewargs__" 341 (.ref 121),dE P "__match_args__" 345 (.ref 122),dE P "a" 355 (.ref 124),dE P "b" 365 (.ref 127),dE P "size" 375 (.ref 130),dE P "__static_attributes__" 376 (.ref 132)] 2
def Hz (P:jC):nH:=nN (jV "type") none (xz (uw "Match" [jV "tuple"] [.ref 135,jV "tuple",jV "object"] 134 "Match" false [] [] false none false)) (ke [some (.ref 65),none,some (vS "Match" 253),some (vS "Match" 261),some jD,some (ko false)])
def JB (P:jC):=oG "staticmethod" [.ref 82]
def JA (P:jC):=oG "super" [.ref 135,.ref 135,.ref 135]
def Jz (P:jC):=oG "builtin_function_or_method" [lF "object.__init_subclass__",.ref 135]
def Jy (P:jC):=oT []
def Jx (P:jC):=oF []
def Jw (P:jC):=oT [vS "matches" 384,vS "length" 385]
def Jv (P:jC):=oT []
def Ju (P:jC):=fN "_calculate_ratio" "_calculate_ratio" (stm 4)
def OE (P:jC):=oG "code" [vS "_calculate_ratio" 381,vS "_calculate_ratio" 382,vS "/claim/cut.py" 383,vI 66,vI 2,vI 0,vI 0,vI 3,.ref 139,ko true,vI 181,.ref 140,jD,.ref 141,.ref 142,.ref 143,vI 386,vI 66,vS "/claim/cut.py" 387]
def OD (P:jC):=fU "_calculate_ratio" "_calculate_ratio" (stm 4) 3 jD jD jD (vS "cpy313.difflib" 194) (.ref 144)
def EA (P:jC):BT:=jy (rJ P) (jy (pe P) (jy (boot_o_3 P) (bL (rE P)) (bL (RT P))) (jy (rG P) (bL (rC P)) (bL (RS P)))) (jy (rI P) (jy (rH P) (bL (rD P)) (bL (oF []))) (jy (rF P) (bL (qT P)) (bL (RQ P))))
def Vx (P:jC):BT:=jy (rJ P) (jy (pe P) (jy (bB P) (jy (rE P) (jy (VA P) (jy (LJ P) (jy (K8 P) (bL (JJ P)) .nil) (bL (P4 P))) (jy (Lq P) (jy (KN P) (bL (Ju P)) .nil) (bL (JQ P)))) (jy (LS P) (jy (Lz P) (jy (KX P) (bL (Hz P)) .nil) (bL (PV P))) (jy (Lh P) (bL (Qb P)) (bL (HI P))))) (jy (RT P) (jy (LX P) (jy (LD P) (jy (K4 P) (bL (JF P)) .nil) (bL (PZ P))) (jy (Lm P) (bL (Qf P)) (bL (JN P)))) (jy (LN P) (jy (Lv P) (jy (KR P) (bL (Jy P)) .nil) (bL (JU P))) (jy (Lc P) (bL (P8 P)) (bL (HD P)))))) (jy (rG P) (jy (rC P) (jy (Vy P) (jy (LG P) (jy (K6 P) (bL (JH P)) .nil) (bL (P1 P))) (jy (Lo P) (jy (Qg P) (bL (OD P)) .nil) (bL (HJ P)))) (jy (LQ P) (jy (Lx P) (jy (KV P) (bL (JA P)) .nil) (bL (JW P))) (jy (Lf P) (bL (Jt P)) (bL (HF P))))) (jy (RS P) (jy (LV P) (jy (LB P) (jy (KZ P) (bL (JD P)) .nil) (bL (PX P))) (jy (Lj P) (bL (Qd P)) (bL (JL P)))) (jy (LL P) (jy (Ls P) (jy (KP P) (bL (Jw P)) .nil) (bL (JS P))) (jy (La P) (bL (P6 P)) (bL (HB P))))))) (jy (rI P) (jy (rH P) (jy (rD P) (jy (Vz P) (jy (LH P) (jy (K7 P) (bL (JI P)) .nil) (bL (P3 P))) (jy (Lp P) (jy (Qh P) (bL (OE P)) .nil) (bL (JP P)))) (jy (LR P) (jy (Ly P) (jy (KW P) (bL (JB P)) .nil) (bL (PU P))) (jy (Lg P) (bL (Qa P)) (bL (HG P))))) (jy (bA P) (jy (LW P) (jy (LC P) (jy (K0 P) (bL (JE P)) .nil) (bL (PY P))) (jy (Ll P) (bL (Qe P)) (bL (JM P)))) (jy (LM P) (jy (Lu P) (jy (KQ P) (bL (Jx P)) .nil) (bL (JT P))) (jy (Lb P) (bL (P7 P)) (bL (HC P)))))) (jy (rF P) (jy (qT P) (jy (LY P) (jy (LF P) (jy (K5 P) (bL (JG P)) .nil) (bL (P0 P))) (jy (Ln P) (bL (G0 P)) (bL (JO P)))) (jy (LP P) (jy (Lw P) (jy (KU P) (bL (Jz P)) .nil) (bL (JV P))) (jy (Ld P) (bL (P9 P)) (bL (HE P))))) (jy (RQ P) (jy (LU P) (jy (LA P) (jy (KY P) (bL (JC P)) .nil) (bL (PW P))) (jy (Li P) (bL (Qc P)) (bL (JK P)))) (jy (LK P) (jy (Lr P) (jy (KO P) (bL (Jv P)) .nil) (bL (JR P))) (jy (K9 P) (bL (P5 P)) (bL (HA P)))))))
noncomputable def S4 (w:jW) (os:lJ):vm:=⟨EA w.params,15,{},#[],{},187,os⟩
noncomputable def L5:List l9:=[stm 0,stm 1,stm 2,stm 3,stm 4]
noncomputable def e8 (d:jX):l9->l9
 | .ClassDef n a k (.Expr (.Constant (.str _) u p) q::r) e f g h i j l=>.ClassDef n a k (.Expr (.Constant (.str d) u p) q::r) e f g h i j l
 | s=>s
noncomputable def dq:jX:=jz "\nSequenceMatcher is a flexible class for comparing pairs of sequences of\nany type, so long as the sequence elements are hashable.  The basic\nalgorithm predates, and is a little fancier than, an algorithm\npublished in the late 1980's by Ratcliff and Obershelp under the\nhyperbolic name \"gestalt pattern matching\".  The basic idea is to find\nthe longest contiguous matching subsequence that contains no \"junk\"\nelements (R-O doesn't address junk).  The same idea is then applied\nrecursively to the pieces of the sequences to the left and to the right\nof the matching subsequence.  This does not yield minimal edit\nsequences, but does tend to yield matches that \"look right\" to people.\n\nSequenceMatcher tries to compute a \"human-friendly diff\" between two\nsequences.  Unlike e.g. UNIX(tm) diff, the fundamental notion is the\nlongest *contiguous* & junk-free matching subsequence.  That's what\ncatches peoples' eyes.  The Windows(tm) windiff has another interesting\nnotion, pairing up elements that appear uniquely in each sequence.\nThat, and the method here, appear to yield more intuitive difference\nreports than does diff.  This method appears to be the least vulnerable\nto syncing up on blocks of \"junk lines\", though (like blank lines in\nordinary text files, or maybe \"<P>\" lines in HTML files).  That may be\nbecause this is the only method of the 3 that has a *concept* of\n\"junk\" <wink>.\n\nExample, comparing two strings, and considering blanks to be \"junk\":\n\n>>> s = SequenceMatcher(lambda x: x == \" \",\n...                     \"private Thread currentThread;\",\n...                     \"private volatile Thread currentThread;\")\n>>>\n\n.ratio() returns a float in [0, 1], measuring the \"similarity\" of the\nsequences.  As a rule of thumb, a .ratio() value over 0.6 means the\nsequences are close matches:\n\n>>> print(round(s.ratio(), 2))\n0.87\n>>>\n\nIf you're only interested in where the sequences match,\n.get_matching_blocks() is handy:\n\n>>> for block in s.get_matching_blocks():\n...     print(\"a[%d] and b[%d] match for %d elements\" % block)\na[0] and b[0] match for 8 elements\na[8] and b[17] match for 21 elements\na[29] and b[38] match for 0 elements\n\nNote that the last tuple returned by .get_matching_blocks() is always a\ndummy, (len(a), len(b), 0), and this is the only case in which the last\ntuple element (number of elements matched) is 0.\n\nIf you want to know how to change the first sequence into the second,\nuse .get_opcodes():\n\n>>> for opcode in s.get_opcodes():\n...     print(\"%6s a[%d:%d] b[%d:%d]\" % opcode)\n equal a[0:8] b[0:8]\ninsert a[8:8] b[8:17]\n equal a[8:29] b[17:38]\n\nSee the Differ class for a fancy human-friendly file differencer, which\nuses SequenceMatcher both to compare sequences of lines, and to compare\nsequences of characters within similar (near-matching) lines.\n\nSee also function get_close_matches() in this module, which shows how\nsimple code building on SequenceMatcher can be used to do useful work.\n\nTiming:  Basic R-O is cubic time worst case and quadratic time expected\ncase.  SequenceMatcher is quadratic time for the worst case and has\nexpected-case behavior dependent in a complicated way on how many\nelements the sequences have in common; best case time is linear.\n"
noncomputable def S5 (w:jW) (os:lJ):vm:=⟨Vx w.params,146,{},#[],{},389,os⟩
def fX (P:jC):=oD [dE P "__name__" 165 (vS "cpy313.difflib" 194),dE P "__doc__" 166 jD,dE P "__package__" 167 jD,dE P "__loader__" 168 (lF "__main__.__loader__#opaque"),dE P "__spec__" 169 jD,dE P "__annotations__" 170 (.ref 6),dE P "__builtins__" 171 (.ref 4),dE P "__file__" 173 (vS "/claim/cut.py" 172),dE P "__cached__" 174 jD,dE P "_wall" 193 (.ref 21),dE P "_tuplegetter" 252 (.ref 60),dE P "Match" 380 (.ref 135),dE P "_calculate_ratio" 388 (.ref 145),dE P "SequenceMatcher" 582 (.ref 242)] 14
def dU (P:jC):=oF [vI 1,vI 0,.ref 20,vI 5,vI 0,.ref 27,vI 23,vI 0,.ref 71,vI 66,vI 0,.ref 144,vI 70,vI 0,.ref 151]
def QP (P:jC):=oT []
def QO (P:jC):=oG "builtin_function_or_method" [lF "type.__prepare__",jV "type"]
noncomputable def VC (P:jC) (d:jX):nH:=oD [dE P "__module__" 396 (vS "cpy313.difflib" 194),dE P "__qualname__" 398 (vS "SequenceMatcher" 397),dE P "__firstlineno__" 400 (jR 70 399),dE P "__doc__" 402 (kT d 401),dE P "__init__" 417 (.ref 160),dE P "set_seqs" 427 (.ref 167),dE P "set_seq1" 436 (.ref 174),dE P "set_seq2" 445 (.ref 181),dE P "_SequenceMatcher__chain_b" 463 (.ref 188),dE P "find_longest_match" 491 (.ref 196),dE P "get_matching_blocks" 518 (.ref 203),dE P "get_opcodes" 533 (.ref 210),dE P "get_grouped_opcodes" 542 (.ref 218),dE P "ratio" 551 (.ref 225),dE P "quick_ratio" 558 (.ref 232),dE P "real_quick_ratio" 565 (.ref 239),dE P "__static_attributes__" 576 (.ref 240)] 17
def VH (P:jC):nH:=VC P dq
def QN (P:jC):=oT []
def QM (P:jC):=oF [vI 145,vI 4,.ref 159,vI 173,vI 4,.ref 166,vI 184,vI 4,.ref 173,vI 209,vI 4,.ref 180,vI 236,vI 4,.ref 187,vI 260,vI 4,.ref 195,vI 335,vI 4,.ref 202,vI 383,vI 4,.ref 209,vI 430,vI 4,.ref 217,vI 433,vI 4,.ref 224,vI 457,vI 4,.ref 231,vI 460,vI 4,.ref 238]
def QL (P:jC):=oG "code" [vS "SequenceMatcher" 391,vS "SequenceMatcher" 392,vS "/claim/cut.py" 393,vI 70,vI 0,vI 0,vI 0,vI 0,.ref 149,ko false,vI 181,.ref 150,jD,jD,jD,jD,vI 394,vI 70,vS "/claim/cut.py" 395]
def QK (P:jC):nH:=nN (jV "frame") none pS (ke [some (.ref 151),some (.ref 3),some (.ref 148),none,some (vS "cpy313.difflib" 194),none,some (.ref 0)])
def M8 (P:jC):=oT [jD,vS "" 404,vS "" 405,ko true]
def QJ (P:jC):=oT []
def QI (P:jC):=oF []
def QH (P:jC):=oT [vS "self" 409,vS "isjunk" 410,vS "a" 411,vS "b" 412,vS "autojunk" 413]
def QG (P:jC):=oT []
def QF (P:jC):=fN "__init__" "SequenceMatcher.__init__" (BB 5 1)
def QE (P:jC):=oG "code" [vS "__init__" 406,vS "SequenceMatcher.__init__" 407,vS "/claim/cut.py" 408,vI 145,vI 5,vI 0,vI 0,vI 3,.ref 154,ko true,vI 181,.ref 155,jD,.ref 156,.ref 157,.ref 158,vI 414,vI 145,vS "/claim/cut.py" 415]
def G1 (P:jC):=fU "__init__" "SequenceMatcher.__init__" (BB 5 1) 3 (.ref 153) jD (kT (DL (BB 5 1)) 416) (vS "cpy313.difflib" 194) (.ref 159)
def QD (P:jC):=oT []
def QC (P:jC):=oF []
def QB (P:jC):=oT [vS "self" 421,vS "a" 422,vS "b" 423]
def QA (P:jC):=oT []
def Qz (P:jC):=fN "set_seqs" "SequenceMatcher.set_seqs" (BB 5 2)
def Qy (P:jC):=oG "code" [vS "set_seqs" 418,vS "SequenceMatcher.set_seqs" 419,vS "/claim/cut.py" 420,vI 173,vI 3,vI 0,vI 0,vI 3,.ref 161,ko true,vI 181,.ref 162,jD,.ref 163,.ref 164,.ref 165,vI 424,vI 173,vS "/claim/cut.py" 425]
def EP (P:jC):=fU "set_seqs" "SequenceMatcher.set_seqs" (BB 5 2) 3 jD jD (kT (DL (BB 5 2)) 426) (vS "cpy313.difflib" 194) (.ref 166)
def Qx (P:jC):=oT []
def Qw (P:jC):=oF []
def Qv (P:jC):=oT [vS "self" 431,vS "a" 432]
def Qu (P:jC):=oT []
def Qt (P:jC):=fN "set_seq1" "SequenceMatcher.set_seq1" (BB 5 3)
def Qs (P:jC):=oG "code" [vS "set_seq1" 428,vS "SequenceMatcher.set_seq1" 429,vS "/claim/cut.py" 430,vI 184,vI 2,vI 0,vI 0,vI 3,.ref 168,ko true,vI 181,.ref 169,jD,.ref 170,.ref 171,.ref 172,vI 433,vI 184,vS "/claim/cut.py" 434]
def FX (P:jC):=fU "set_seq1" "SequenceMatcher.set_seq1" (BB 5 3) 3 jD jD (kT (DL (BB 5 3)) 435) (vS "cpy313.difflib" 194) (.ref 173)
def Qr (P:jC):=oT []
def Qq (P:jC):=oF []
def M7 (P:jC):=oT [vS "self" 440,vS "b" 441]
def Qp (P:jC):=oT []
def Qo (P:jC):=fN "set_seq2" "SequenceMatcher.set_seq2" (BB 5 4)
def Qn (P:jC):=oG "code" [vS "set_seq2" 437,vS "SequenceMatcher.set_seq2" 438,vS "/claim/cut.py" 439,vI 209,vI 2,vI 0,vI 0,vI 3,.ref 175,ko true,vI 181,.ref 176,jD,.ref 177,.ref 178,.ref 179,vI 442,vI 209,vS "/claim/cut.py" 443]
def FW (P:jC):=fU "set_seq2" "SequenceMatcher.set_seq2" (BB 5 4) 3 jD jD (kT (DL (BB 5 4)) 444) (vS "cpy313.difflib" 194) (.ref 180)
def Qm (P:jC):=oT []
def M6 (P:jC):=oF []
def M5 (P:jC):=oT [vS "self" 449,vS "b" 450,vS "b2j" 451,vS "i" 452,vS "elt" 453,vS "indices" 454,vS "junk" 455,vS "isjunk" 456,vS "popular" 457,vS "n" 458,vS "ntest" 459,vS "idxs" 460]
def M4 (P:jC):=oT []
def M3 (P:jC):=fN "__chain_b" "SequenceMatcher.__chain_b" (BB 5 5)
def M2 (P:jC):=oG "code" [vS "__chain_b" 446,vS "SequenceMatcher.__chain_b" 447,vS "/claim/cut.py" 448,vI 236,vI 1,vI 0,vI 0,vI 3,.ref 182,ko true,vI 181,.ref 183,jD,.ref 184,.ref 185,.ref 186,vI 461,vI 236,vS "/claim/cut.py" 462]
def Ch (P:jC):=fU "__chain_b" "SequenceMatcher.__chain_b" (BB 5 5) 3 jD jD jD (vS "cpy313.difflib" 194) (.ref 187)
def IA (P:jC):=oT [jR 0 464,jD,jR 0 465,jD]
def M1 (P:jC):=oT []
def M0 (P:jC):=oF []
def MZ (P:jC):=oT [vS "self" 469,vS "alo" 470,vS "ahi" 471,vS "blo" 472,vS "bhi" 473,vS "a" 474,vS "b" 475,vS "b2j" 476,vS "isbjunk" 477,vS "besti" 478,vS "bestj" 479,vS "bestsize" 480,vS "j2len" 481,vS "nothing" 482,vS "i" 483,vS "j2lenget" 484,vS "newj2len" 485,vS "j" 486,vS "k" 487]
def MY (P:jC):=oT []
def MX (P:jC):=fN "find_longest_match" "SequenceMatcher.find_longest_match" (BB 5 6)
def MW (P:jC):=oG "code" [vS "find_longest_match" 466,vS "SequenceMatcher.find_longest_match" 467,vS "/claim/cut.py" 468,vI 260,vI 5,vI 0,vI 0,vI 3,.ref 190,ko true,vI 181,.ref 191,jD,.ref 192,.ref 193,.ref 194,vI 488,vI 260,vS "/claim/cut.py" 489]
def BQ (P:jC):=fU "find_longest_match" "SequenceMatcher.find_longest_match" (BB 5 6) 3 (.ref 189) jD (kT (DL (BB 5 6)) 490) (vS "cpy313.difflib" 194) (.ref 195)
def MV (P:jC):=oT []
def MU (P:jC):=oF []
def MT (P:jC):=oT [vS "self" 495,vS "la" 496,vS "lb" 497,vS "queue" 498,vS "matching_blocks" 499,vS "alo" 500,vS "ahi" 501,vS "blo" 502,vS "bhi" 503,vS "i" 504,vS "j" 505,vS "k" 506,vS "x" 507,vS "i1" 508,vS "j1" 509,vS "k1" 510,vS "non_adjacent" 511,vS "i2" 512,vS "j2" 513,vS "k2" 514]
def MS (P:jC):=oT []
def MR (P:jC):=fN "get_matching_blocks" "SequenceMatcher.get_matching_blocks" (BB 5 7)
def MQ (P:jC):=oG "code" [vS "get_matching_blocks" 492,vS "SequenceMatcher.get_matching_blocks" 493,vS "/claim/cut.py" 494,vI 335,vI 1,vI 0,vI 0,vI 3,.ref 197,ko true,vI 181,.ref 198,jD,.ref 199,.ref 200,.ref 201,vI 515,vI 335,vS "/claim/cut.py" 516]
def Dp (P:jC):=fU "get_matching_blocks" "SequenceMatcher.get_matching_blocks" (BB 5 7) 3 jD jD (kT (DL (BB 5 7)) 517) (vS "cpy313.difflib" 194) (.ref 202)
def MP (P:jC):=oT []
def MO (P:jC):=oF []
def MN (P:jC):=oT [vS "self" 522,vS "i" 523,vS "j" 524,vS "answer" 525,vS "ai" 526,vS "bj" 527,vS "size" 528,vS "tag" 529]
def MM (P:jC):=oT []
def ML (P:jC):=fN "get_opcodes" "SequenceMatcher.get_opcodes" (BB 5 8)
def MK (P:jC):=oG "code" [vS "get_opcodes" 519,vS "SequenceMatcher.get_opcodes" 520,vS "/claim/cut.py" 521,vI 383,vI 1,vI 0,vI 0,vI 3,.ref 204,ko true,vI 181,.ref 205,jD,.ref 206,.ref 207,.ref 208,vI 530,vI 383,vS "/claim/cut.py" 531]
def Eg (P:jC):=fU "get_opcodes" "SequenceMatcher.get_opcodes" (BB 5 8) 3 jD jD (kT (DL (BB 5 8)) 532) (vS "cpy313.difflib" 194) (.ref 209)
def MJ (P:jC):=oT [jR 3 534]
def MI (P:jC):=oT []
def MH (P:jC):=oF []
def MG (P:jC):=oT [vS "self" 538,vS "n" 539]
def ME (P:jC):=oT []
def MD (P:jC):=fN "get_grouped_opcodes" "SequenceMatcher.get_grouped_opcodes" (BB 5 9)
def MC (P:jC):=oG "code" [vS "get_grouped_opcodes" 535,vS "SequenceMatcher.get_grouped_opcodes" 536,vS "/claim/cut.py" 537,vI 430,vI 2,vI 0,vI 0,vI 3,.ref 212,ko true,vI 181,.ref 213,jD,.ref 214,.ref 215,.ref 216,vI 540,vI 430,vS "/claim/cut.py" 541]
def MA (P:jC):=fU "get_grouped_opcodes" "SequenceMatcher.get_grouped_opcodes" (BB 5 9) 3 (.ref 211) jD jD (vS "cpy313.difflib" 194) (.ref 217)
def Mz (P:jC):=oT []
def My (P:jC):=oF []
def Mx (P:jC):=oT [vS "self" 546,vS "matches" 547]
def Mw (P:jC):=oT []
def Mv (P:jC):=fN "ratio" "SequenceMatcher.ratio" (BB 5 10)
def Mu (P:jC):=oG "code" [vS "ratio" 543,vS "SequenceMatcher.ratio" 544,vS "/claim/cut.py" 545,vI 433,vI 1,vI 0,vI 0,vI 3,.ref 219,ko true,vI 181,.ref 220,jD,.ref 221,.ref 222,.ref 223,vI 548,vI 433,vS "/claim/cut.py" 549]
def Mt (P:jC):=fU "ratio" "SequenceMatcher.ratio" (BB 5 10) 3 jD jD (kT (DL (BB 5 10)) 550) (vS "cpy313.difflib" 194) (.ref 224)
def Ms (P:jC):=oT []
def Mr (P:jC):=oF []
def Mq (P:jC):=oT [vS "self" 555]
def Mp (P:jC):=oT []
def Mo (P:jC):nH:=nN jD none (sv (qB "quick_ratio" "SequenceMatcher.quick_ratio" (GS (BB 5 11)) (pi (Am (BB 5 11))) (Cm (BB 5 12)) 0 [] jD jD jD jD none jD jD 0)) (ke [])
def Mn (P:jC):=oG "code" [vS "quick_ratio" 552,vS "SequenceMatcher.quick_ratio" 553,vS "/claim/cut.py" 554,vI 457,vI 1,vI 0,vI 0,vI 3,.ref 226,ko true,vI 181,.ref 227,jD,.ref 228,.ref 229,.ref 230,vI 556,vI 457,vS "/claim/cut.py" 557]
def Mm (P:jC):nH:=nN (jV "function") none (sv (qB "quick_ratio" "SequenceMatcher.quick_ratio" (GS (BB 5 11)) (pi (Am (BB 5 11))) (Cm (BB 5 12)) 3 [] jD jD jD (vS "cpy313.difflib" 194) none (.ref 231) jD 0)) (ke [])
def Ml (P:jC):=oT []
def Mk (P:jC):=oF []
def Mj (P:jC):=oT [vS "self" 562]
def Mi (P:jC):=oT []
def Mh (P:jC):=fN "real_quick_ratio" "SequenceMatcher.real_quick_ratio" (BB 5 12)
def Mg (P:jC):=oG "code" [vS "real_quick_ratio" 559,vS "SequenceMatcher.real_quick_ratio" 560,vS "/claim/cut.py" 561,vI 460,vI 1,vI 0,vI 0,vI 3,.ref 233,ko true,vI 181,.ref 234,jD,.ref 235,.ref 236,.ref 237,vI 563,vI 460,vS "/claim/cut.py" 564]
def Mf (P:jC):=fU "real_quick_ratio" "SequenceMatcher.real_quick_ratio" (BB 5 12) 3 jD jD jD (vS "cpy313.difflib" 194) (.ref 238)
def Me (P:jC):=oT [vS "a" 566,vS "autojunk" 567,vS "b" 568,vS "b2j" 569,vS "bjunk" 570,vS "bpopular" 571,vS "fullbcount" 572,vS "isjunk" 573,vS "matching_blocks" 574,vS "opcodes" 575]
noncomputable def VB (P:jC) (d:jX):nH:=oD [dE P "__module__" 396 (vS "cpy313.difflib" 194),dE P "__firstlineno__" 400 (jR 70 399),dE P "__doc__" 402 (kT d 401),dE P "__init__" 417 (.ref 160),dE P "set_seqs" 427 (.ref 167),dE P "set_seq1" 436 (.ref 174),dE P "set_seq2" 445 (.ref 181),dE P "_SequenceMatcher__chain_b" 463 (.ref 188),dE P "find_longest_match" 491 (.ref 196),dE P "get_matching_blocks" 518 (.ref 203),dE P "get_opcodes" 533 (.ref 210),dE P "get_grouped_opcodes" 542 (.ref 218),dE P "ratio" 551 (.ref 225),dE P "quick_ratio" 558 (.ref 232),dE P "real_quick_ratio" 565 (.ref 239),dE P "__static_attributes__" 576 (.ref 240),dE P "__dict__" 578 (.ref 243),dE P "__weakref__" 580 (.ref 244)] 3
def Mc (P:jC):nH:=VB P dq
def Mb (P:jC):nH:=nN (jV "type") none (xz (uw "SequenceMatcher" [jV "object"] [.ref 242,jV "object"] 241 "SequenceMatcher" true [] [] false none false)) (ke [none,none,some (vS "SequenceMatcher" 389),some (vS "SequenceMatcher" 397),some (lF "object.__new__"),some (ko true)])
def Ma (P:jC):=oG "getset_descriptor" [vS "__dict__" 577,.ref 242,lF "function.__dict__",lF "function.__dict__#set"]
def L9 (P:jC):=oG "getset_descriptor" [vS "__weakref__" 579,.ref 242,lF "ExceptionGroup.__weakref__",jD]
def L8 (P:jC):=oG "super" [.ref 242,.ref 242,.ref 242]
def L7 (P:jC):=oG "builtin_function_or_method" [lF "object.__init_subclass__",.ref 242]
def iN (P:jC):BT:=jy (JQ P) (bL (Qr P)) (bL (Mf P))
def iM (P:jC):BT:=jy (JN P) (bL (Qo P)) (bL (Ma P))
def iL (P:jC):BT:=jy (JL P) (bL (FW P)) (bL (L8 P))
def iK (P:jC):BT:=jy (JS P) (bL (Qs P)) (bL (Mh P))
def iJ (P:jC):BT:=jy (JP P) (bL (Qq P)) (bL (Me P))
def iI (P:jC):BT:=jy (JM P) (bL (Qn P)) (bL (L9 P))
def iH (P:jC):BT:=jy (JT P) (bL (Qt P)) (bL (Mi P))
def iG (P:jC):BT:=jy (JO P) (bL (Qp P)) (bL (Mb P))
def iF (P:jC):BT:=jy (JK P) (bL (Qm P)) (bL (L7 P))
def EM (P:jC):BT:=jy (JR P) (bL (FX P)) (bL (Mg P))
noncomputable def t6 (P:jC) (d:jX):BT:=jy (rJ P) (jy (pe P) (jy (fX P) (jy (rE P) (jy (VA P) (jy (LJ P) (jy (K8 P) (bL (JJ P)) (bL (M0 P))) (jy (P4 P) (bL (QE P)) (bL (Mv P)))) (jy (Lq P) (jy (KN P) (bL (Ju P)) (bL (MM P))) (iN P))) (jy (LS P) (jy (Lz P) (jy (KX P) (bL (Hz P)) (bL (MT P))) (jy (PV P) (bL (EP P)) (bL (Mn P)))) (jy (Lh P) (jy (Qb P) (bL (QL P)) (bL (ME P))) (jy (HI P) (bL (M6 P)) .nil)))) (jy (RT P) (jy (LX P) (jy (LD P) (jy (K4 P) (bL (JF P)) (bL (MW P))) (jy (PZ P) (bL (QB P)) (bL (Mr P)))) (jy (Lm P) (jy (Qf P) (bL (QO P)) (bL (MJ P))) (iM P))) (jy (LN P) (jy (Lv P) (jy (KR P) (bL (Jy P)) (bL (Dp P))) (jy (JU P) (bL (Qu P)) (bL (Mj P)))) (jy (Lc P) (jy (P8 P) (bL (QI P)) (bL (Mz P))) (jy (HD P) (bL (M2 P)) .nil))))) (jy (rG P) (jy (rC P) (jy (Vy P) (jy (LG P) (jy (K6 P) (bL (JH P)) (bL (MY P))) (jy (P1 P) (bL (QD P)) (bL (Mt P)))) (jy (Lo P) (jy (Qg P) (bL (OD P)) (bL (MK P))) (jy (HJ P) (bL (M7 P)) (bL (VB P d))))) (jy (LQ P) (jy (Lx P) (jy (KV P) (bL (JA P)) (bL (MR P))) (jy (JW P) (bL (Qw P)) (bL (Ml P)))) (jy (Lf P) (jy (Jt P) (bL (M8 P)) (bL (MC P))) (jy (HF P) (bL (M4 P)) .nil)))) (jy (RS P) (jy (LV P) (jy (LB P) (jy (KZ P) (bL (JD P)) (bL (MV P))) (jy (PX P) (bL (Qz P)) (bL (Mp P)))) (jy (Lj P) (jy (Qd P) (bL (QN P)) (bL (MH P))) (iL P))) (jy (LL P) (jy (Ls P) (jy (KP P) (bL (Jw P)) (bL (MO P))) (iK P)) (jy (La P) (jy (P6 P) (bL (QG P)) (bL (Mx P))) (jy (HB P) (bL (IA P)) .nil)))))) (jy (rI P) (jy (rH P) (jy (rD P) (jy (Vz P) (jy (LH P) (jy (K7 P) (bL (JI P)) (bL (MZ P))) (jy (P3 P) (bL (G1 P)) (bL (Mu P)))) (jy (Lp P) (jy (Qh P) (bL (OE P)) (bL (ML P))) (iJ P))) (jy (LR P) (jy (Ly P) (jy (KW P) (bL (JB P)) (bL (MS P))) (jy (PU P) (bL (Qx P)) (bL (Mm P)))) (jy (Lg P) (jy (Qa P) (bL (QK P)) (bL (MD P))) (jy (HG P) (bL (M5 P)) .nil)))) (jy (dU P) (jy (LW P) (jy (LC P) (jy (K0 P) (bL (JE P)) (bL (BQ P))) (jy (PY P) (bL (QA P)) (bL (Mq P)))) (jy (Ll P) (jy (Qe P) (bL (VC P d)) (bL (MI P))) (iI P))) (jy (LM P) (jy (Lu P) (jy (KQ P) (bL (Jx P)) (bL (MP P))) (iH P)) (jy (Lb P) (jy (P7 P) (bL (QH P)) (bL (My P))) (jy (HC P) (bL (Ch P)) .nil))))) (jy (rF P) (jy (qT P) (jy (LY P) (jy (LF P) (jy (K5 P) (bL (JG P)) (bL (MX P))) (jy (P0 P) (bL (QC P)) (bL (Ms P)))) (jy (Ln P) (jy (G0 P) (bL (QP P)) (bL (Eg P))) (iG P))) (jy (LP P) (jy (Lw P) (jy (KU P) (bL (Jz P)) (bL (MQ P))) (jy (JV P) (bL (Qv P)) (bL (Mk P)))) (jy (Ld P) (jy (P9 P) (bL (QJ P)) (bL (MA P))) (jy (HE P) (bL (M3 P)) .nil)))) (jy (RQ P) (jy (LU P) (jy (LA P) (jy (KY P) (bL (JC P)) (bL (MU P))) (jy (PW P) (bL (Qy P)) (bL (Mo P)))) (jy (Li P) (jy (Qc P) (bL (QM P)) (bL (MG P))) (iF P))) (jy (LK P) (jy (Lr P) (jy (KO P) (bL (Jv P)) (bL (MN P))) (EM P)) (jy (K9 P) (jy (P5 P) (bL (QF P)) (bL (Mw P))) (jy (HA P) (bL (M1 P)) .nil))))))
def tree6 (P:jC):BT:=t6 P dq
noncomputable def S6 (w:jW) (os:lJ):vm:=⟨tree6 w.params,247,{},#[],{},583,os⟩
def dX (P:jC):=oD [dE P "__name__" 165 (vS "cpy313.stat" 650),dE P "__doc__" 166 jD,dE P "__package__" 167 jD,dE P "__loader__" 168 (lF "__main__.__loader__#opaque"),dE P "__spec__" 169 jD,dE P "__annotations__" 170 (.ref 6),dE P "__builtins__" 171 (.ref 4),dE P "__file__" 173 (vS "/claim/cut.py" 172),dE P "__cached__" 174 jD,dE P "_wall" 193 (.ref 21),dE P "_tuplegetter" 252 (.ref 60),dE P "Match" 380 (.ref 135),dE P "_calculate_ratio" 388 (.ref 145),dE P "SequenceMatcher" 582 (.ref 242),dE P "_buffer" 592 (.ref 253),dE P "_truth" 600 (.ref 260),dE P "_B64" 602 (vx (ke [65,66,67,68,69,70,71,72,73,74,75,76,77,78,79,80,81,82,83,84,85,86,87,88,89,90,97,98,99,100,101,102,103,104,105,106,107,108,109,110,111,112,113,114,115,116,117,118,119,120,121,122,48,49,50,51,52,53,54,55,56,57,43,47]) 601),dE P "b2a_base64" 616 (.ref 268),dE P "_NO_SEP" 617 (.ref 269),dE P "b2a_hex" 628 (.ref 277),dE P "hexlify" 629 (.ref 277),dE P "b64encode" 641 (.ref 285),dE P "b16encode" 649 (.ref 292),dE P "S_IFMT" 659 (.ref 299),dE P "S_IFDIR" 661 (jR 16384 660),dE P "S_IFCHR" 663 (jR 8192 662),dE P "S_IFBLK" 665 (jR 24576 664),dE P "S_IFREG" 667 (jR 32768 666),dE P "S_IFIFO" 669 (jR 4096 668),dE P "S_IFLNK" 671 (jR 40960 670),dE P "S_IFSOCK" 673 (jR 49152 672),dE P "S_ISUID" 675 (jR 2048 674),dE P "S_ISGID" 677 (jR 1024 676),dE P "S_ISVTX" 679 (jR 512 678),dE P "S_IRUSR" 681 (jR 256 680)] 35
def ZR (P:jC):=oF [vI 1,vI 0,.ref 20,vI 5,vI 0,.ref 27,vI 23,vI 0,.ref 71,vI 66,vI 0,.ref 144,vI 70,vI 0,.ref 151,vI 463,vI 0,.ref 252,vI 470,vI 0,.ref 259,vI 476,vI 0,.ref 267,vI 499,vI 0,.ref 276,vI 517,vI 0,.ref 284,vI 529,vI 0,.ref 291,vI 534,vI 0,.ref 298]
def Ir (P:jC):=oT []
def Iq (P:jC):=oF []
def Ip (P:jC):=oT [vS "data" 588,vS "t" 589]
def Io (P:jC):=oT []
def Im (P:jC):=fN "_buffer" "_buffer" (stm 7)
def Gp (P:jC):=oG "code" [vS "_buffer" 585,vS "_buffer" 586,vS "/claim/cut.py" 587,vI 463,vI 1,vI 0,vI 0,vI 3,.ref 247,ko true,vI 181,.ref 248,jD,.ref 249,.ref 250,.ref 251,vI 590,vI 463,vS "/claim/cut.py" 591]
def Go (P:jC):=fU "_buffer" "_buffer" (stm 7) 3 jD jD jD (vS "binascii" 583) (.ref 252)
def Il (P:jC):=oT []
def NQ (P:jC):=oF []
def NP (P:jC):=oT [vS "x" 596,vS "t" 597]
def NO (P:jC):=oT []
def NN (P:jC):=fN "_truth" "_truth" (stm 8)
def Ik (P:jC):=oG "code" [vS "_truth" 593,vS "_truth" 594,vS "/claim/cut.py" 595,vI 470,vI 1,vI 0,vI 0,vI 3,.ref 254,ko true,vI 181,.ref 255,jD,.ref 256,.ref 257,.ref 258,vI 598,vI 470,vS "/claim/cut.py" 599]
def Ij (P:jC):=fU "_truth" "_truth" (stm 8) 3 jD jD jD (vS "binascii" 583) (.ref 259)
def NM (P:jC):=oD [dE P "newline" 603 (ko true)] 1
def NL (P:jC):=oT []
def NK (P:jC):=oF []
def NJ (P:jC):=oT [vS "data" 607,vS "newline" 608,vS "bin_data" 609,vS "out" 610,vS "leftbits" 611,vS "leftchar" 612,vS "b" 613]
def NI (P:jC):=oT []
def NH (P:jC):=fN "b2a_base64" "b2a_base64" (stm 10)
def Ii (P:jC):=oG "code" [vS "b2a_base64" 604,vS "b2a_base64" 605,vS "/claim/cut.py" 606,vI 476,vI 1,vI 1,vI 1,vI 3,.ref 262,ko true,vI 181,.ref 263,jD,.ref 264,.ref 265,.ref 266,vI 614,vI 476,vS "/claim/cut.py" 615]
def Ih (P:jC):=fU "b2a_base64" "b2a_base64" (stm 10) 3 jD (.ref 261) jD (vS "binascii" 583) (.ref 267)
def NG (P:jC):nH:=nN (jV "object") none pS (ke [])
def Ig (P:jC):=oT [.ref 269,jR 1 618]
def NF (P:jC):=oT []
def TF (P:jC):=oF []
def TE (P:jC):=oT [vS "data" 622,vS "sep" 623,vS "bytes_per_sep" 624,vS "t" 625]
def TD (P:jC):=oT []
def TC (P:jC):=fN "b2a_hex" "b2a_hex" (stm 12)
def NE (P:jC):=oG "code" [vS "b2a_hex" 619,vS "b2a_hex" 620,vS "/claim/cut.py" 621,vI 499,vI 3,vI 0,vI 0,vI 3,.ref 271,ko true,vI 181,.ref 272,jD,.ref 273,.ref 274,.ref 275,vI 626,vI 499,vS "/claim/cut.py" 627]
def ND (P:jC):=fU "b2a_hex" "b2a_hex" (stm 12) 3 (.ref 270) jD jD (vS "binascii" 583) (.ref 276)
def NC (P:jC):=oT [jD]
def TB (P:jC):=oT []
def TA (P:jC):=oF []
def Tz (P:jC):=oT [vS "s" 635,vS "altchars" 636,vS "encoded" 637]
def Ty (P:jC):=oT []
def Tx (P:jC):=fN "b64encode" "b64encode" (stm 15)
def NB (P:jC):=oG "code" [vS "b64encode" 632,vS "b64encode" 633,vS "/claim/cut.py" 634,vI 517,vI 2,vI 0,vI 0,vI 3,.ref 279,ko true,vI 181,.ref 280,jD,.ref 281,.ref 282,.ref 283,vI 638,vI 517,vS "/claim/cut.py" 639]
def NA (P:jC):=fU "b64encode" "b64encode" (stm 15) 3 (.ref 278) jD (kT (DL (stm 15)) 640) (vS "cpy313.base64" 630) (.ref 284)
def Tw (P:jC):=oT []
def Tu (P:jC):=oF []
def Ts (P:jC):=oT [vS "s" 645]
def Tr (P:jC):=oT []
def Tq (P:jC):=fN "b16encode" "b16encode" (stm 16)
def Nz (P:jC):=oG "code" [vS "b16encode" 642,vS "b16encode" 643,vS "/claim/cut.py" 644,vI 529,vI 1,vI 0,vI 0,vI 3,.ref 286,ko true,vI 181,.ref 287,jD,.ref 288,.ref 289,.ref 290,vI 646,vI 529,vS "/claim/cut.py" 647]
def Ny (P:jC):=fU "b16encode" "b16encode" (stm 16) 3 jD jD (kT (DL (stm 16)) 648) (vS "cpy313.base64" 630) (.ref 291)
def Tp (P:jC):=oT []
def To (P:jC):=oF []
def Tn (P:jC):=oT [vS "mode" 655]
def Tm (P:jC):=oT []
def Tl (P:jC):=fN "S_IFMT" "S_IFMT" (stm 18)
def Nx (P:jC):=oG "code" [vS "S_IFMT" 652,vS "S_IFMT" 653,vS "/claim/cut.py" 654,vI 534,vI 1,vI 0,vI 0,vI 3,.ref 293,ko true,vI 181,.ref 294,jD,.ref 295,.ref 296,.ref 297,vI 656,vI 534,vS "/claim/cut.py" 657]
def Nw (P:jC):=fU "S_IFMT" "S_IFMT" (stm 18) 3 jD jD (kT (DL (stm 18)) 658) (vS "cpy313.stat" 650) (.ref 298)
def dT (P:jC):BT:=jy (JJ P) (bL (NQ P)) .nil
def dS (P:jC):BT:=jy (QE P) (bL (Tu P)) .nil
def dR (P:jC):BT:=jy (Ju P) (bL (NF P)) .nil
def dQ (P:jC):BT:=jy (Hz P) (bL (NK P)) .nil
def dP (P:jC):BT:=jy (EP P) (bL (Tn P)) .nil
def dN (P:jC):BT:=jy (QL P) (bL (TB P)) .nil
def dM (P:jC):BT:=jy (JF P) (bL (Ik P)) .nil
def dL (P:jC):BT:=jy (QB P) (bL (Nz P)) .nil
def dK (P:jC):BT:=jy (QO P) (bL (TC P)) .nil
def dJ (P:jC):BT:=jy (Jy P) (bL (Ii P)) .nil
def dI (P:jC):BT:=jy (Qu P) (bL (Nw P)) .nil
def dH (P:jC):BT:=jy (QI P) (bL (Tx P)) .nil
def dG (P:jC):BT:=jy (JH P) (bL (NO P)) .nil
def dF (P:jC):BT:=jy (QD P) (bL (Tr P)) .nil
def dC (P:jC):BT:=jy (OD P) (bL (TE P)) .nil
def dB (P:jC):BT:=jy (JA P) (bL (NI P)) .nil
def dA (P:jC):BT:=jy (Qw P) (bL (Tl P)) .nil
def dz (P:jC):BT:=jy (M8 P) (bL (Tz P)) .nil
def dw (P:jC):BT:=jy (JD P) (bL (NM P)) .nil
def du (P:jC):BT:=jy (Qz P) (bL (Tp P)) .nil
def dm (P:jC):BT:=jy (QN P) (bL (ND P)) .nil
def dk (P:jC):BT:=jy (Jw P) (bL (NG P)) .nil
def di (P:jC):BT:=jy (QG P) (bL (NA P)) .nil
def dh (P:jC):BT:=jy (JI P) (bL (NP P)) .nil
def df (P:jC):BT:=jy (G1 P) (bL (Ts P)) .nil
def de (P:jC):BT:=jy (OE P) (bL (TF P)) .nil
def db (P:jC):BT:=jy (JB P) (bL (NJ P)) .nil
def da (P:jC):BT:=jy (Qx P) (bL (Tm P)) .nil
def cZ (P:jC):BT:=jy (QK P) (bL (TA P)) .nil
def cY (P:jC):BT:=jy (JE P) (bL (Ij P)) .nil
def cX (P:jC):BT:=jy (QA P) (bL (Ny P)) .nil
def cW (P:jC):BT:=jy (VH P) (bL (NE P)) .nil
def cV (P:jC):BT:=jy (Jx P) (bL (Ih P)) .nil
def cU (P:jC):BT:=jy (QH P) (bL (NB P)) .nil
def cT (P:jC):BT:=jy (JG P) (bL (NN P)) .nil
def cS (P:jC):BT:=jy (QC P) (bL (Tq P)) .nil
def cR (P:jC):BT:=jy (QP P) (bL (TD P)) .nil
def cQ (P:jC):BT:=jy (Jz P) (bL (NH P)) .nil
def cP (P:jC):BT:=jy (Qv P) (bL (Nx P)) .nil
def cO (P:jC):BT:=jy (QJ P) (bL (Ty P)) .nil
def cN (P:jC):BT:=jy (JC P) (bL (NL P)) .nil
def cM (P:jC):BT:=jy (Qy P) (bL (To P)) .nil
def cL (P:jC):BT:=jy (QM P) (bL (NC P)) .nil
def cK (P:jC):BT:=jy (Jv P) (bL (Ig P)) .nil
def cJ (P:jC):BT:=jy (QF P) (bL (Tw P)) .nil
def ZU (P:jC):BT:=jy (rJ P) (jy (pe P) (jy (dX P) (jy (rE P) (jy (VA P) (jy (LJ P) (jy (K8 P) (dT P) (bL (M0 P))) (jy (P4 P) (dS P) (bL (Mv P)))) (jy (Lq P) (jy (KN P) (dR P) (bL (MM P))) (iN P))) (jy (LS P) (jy (Lz P) (jy (KX P) (dQ P) (bL (MT P))) (jy (PV P) (dP P) (bL (Mn P)))) (jy (Lh P) (jy (Qb P) (dN P) (bL (ME P))) (jy (HI P) (bL (M6 P)) (bL (Ir P)))))) (jy (RT P) (jy (LX P) (jy (LD P) (jy (K4 P) (dM P) (bL (MW P))) (jy (PZ P) (dL P) (bL (Mr P)))) (jy (Lm P) (jy (Qf P) (dK P) (bL (MJ P))) (iM P))) (jy (LN P) (jy (Lv P) (jy (KR P) (dJ P) (bL (Dp P))) (jy (JU P) (dI P) (bL (Mj P)))) (jy (Lc P) (jy (P8 P) (dH P) (bL (Mz P))) (jy (HD P) (bL (M2 P)) (bL (Im P))))))) (jy (rG P) (jy (rC P) (jy (Vy P) (jy (LG P) (jy (K6 P) (dG P) (bL (MY P))) (jy (P1 P) (dF P) (bL (Mt P)))) (jy (Lo P) (jy (Qg P) (dC P) (bL (MK P))) (jy (HJ P) (bL (M7 P)) (bL (Mc P))))) (jy (LQ P) (jy (Lx P) (jy (KV P) (dB P) (bL (MR P))) (jy (JW P) (dA P) (bL (Ml P)))) (jy (Lf P) (jy (Jt P) (dz P) (bL (MC P))) (jy (HF P) (bL (M4 P)) (bL (Ip P)))))) (jy (RS P) (jy (LV P) (jy (LB P) (jy (KZ P) (dw P) (bL (MV P))) (jy (PX P) (du P) (bL (Mp P)))) (jy (Lj P) (jy (Qd P) (dm P) (bL (MH P))) (iL P))) (jy (LL P) (jy (Ls P) (jy (KP P) (dk P) (bL (MO P))) (iK P)) (jy (La P) (jy (P6 P) (di P) (bL (Mx P))) (jy (HB P) (bL (IA P)) (bL (Go P)))))))) (jy (rI P) (jy (rH P) (jy (rD P) (jy (Vz P) (jy (LH P) (jy (K7 P) (dh P) (bL (MZ P))) (jy (P3 P) (df P) (bL (Mu P)))) (jy (Lp P) (jy (Qh P) (de P) (bL (ML P))) (iJ P))) (jy (LR P) (jy (Ly P) (jy (KW P) (db P) (bL (MS P))) (jy (PU P) (da P) (bL (Mm P)))) (jy (Lg P) (jy (Qa P) (cZ P) (bL (MD P))) (jy (HG P) (bL (M5 P)) (bL (Iq P)))))) (jy (ZR P) (jy (LW P) (jy (LC P) (jy (K0 P) (cY P) (bL (BQ P))) (jy (PY P) (cX P) (bL (Mq P)))) (jy (Ll P) (jy (Qe P) (cW P) (bL (MI P))) (iI P))) (jy (LM P) (jy (Lu P) (jy (KQ P) (cV P) (bL (MP P))) (iH P)) (jy (Lb P) (jy (P7 P) (cU P) (bL (My P))) (jy (HC P) (bL (Ch P)) (bL (Gp P))))))) (jy (rF P) (jy (qT P) (jy (LY P) (jy (LF P) (jy (K5 P) (cT P) (bL (MX P))) (jy (P0 P) (cS P) (bL (Ms P)))) (jy (Ln P) (jy (G0 P) (cR P) (bL (Eg P))) (iG P))) (jy (LP P) (jy (Lw P) (jy (KU P) (cQ P) (bL (MQ P))) (jy (JV P) (cP P) (bL (Mk P)))) (jy (Ld P) (jy (P9 P) (cO P) (bL (MA P))) (jy (HE P) (bL (M3 P)) (bL (Io P)))))) (jy (RQ P) (jy (LU P) (jy (LA P) (jy (KY P) (cN P) (bL (MU P))) (jy (PW P) (cM P) (bL (Mo P)))) (jy (Li P) (jy (Qc P) (cL P) (bL (MG P))) (iF P))) (jy (LK P) (jy (Lr P) (jy (KO P) (cK P) (bL (MN P))) (EM P)) (jy (K9 P) (jy (P5 P) (cJ P) (bL (Mw P))) (jy (HA P) (bL (M1 P)) (bL (Il P))))))))
noncomputable def ft (w:jW) (os:lJ):vm:=⟨ZU w.params,300,{},#[],{},682,os⟩
def dW (P:jC):=oD [dE P "__name__" 165 (vS "law_rt0115_01" 737),dE P "__doc__" 166 jD,dE P "__package__" 167 jD,dE P "__loader__" 168 (lF "__main__.__loader__#opaque"),dE P "__spec__" 169 jD,dE P "__annotations__" 170 (.ref 6),dE P "__builtins__" 171 (.ref 4),dE P "__file__" 173 (vS "/claim/cut.py" 172),dE P "__cached__" 174 jD,dE P "_wall" 193 (.ref 21),dE P "_tuplegetter" 252 (.ref 60),dE P "Match" 380 (.ref 135),dE P "_calculate_ratio" 388 (.ref 145),dE P "SequenceMatcher" 582 (.ref 242),dE P "_buffer" 592 (.ref 253),dE P "_truth" 600 (.ref 260),dE P "_B64" 602 (vx (ke [65,66,67,68,69,70,71,72,73,74,75,76,77,78,79,80,81,82,83,84,85,86,87,88,89,90,97,98,99,100,101,102,103,104,105,106,107,108,109,110,111,112,113,114,115,116,117,118,119,120,121,122,48,49,50,51,52,53,54,55,56,57,43,47]) 601),dE P "b2a_base64" 616 (.ref 268),dE P "_NO_SEP" 617 (.ref 269),dE P "b2a_hex" 628 (.ref 277),dE P "hexlify" 629 (.ref 277),dE P "b64encode" 641 (.ref 285),dE P "b16encode" 649 (.ref 292),dE P "S_IFMT" 659 (.ref 299),dE P "S_IFDIR" 661 (jR 16384 660),dE P "S_IFCHR" 663 (jR 8192 662),dE P "S_IFBLK" 665 (jR 24576 664),dE P "S_IFREG" 667 (jR 32768 666),dE P "S_IFIFO" 669 (jR 4096 668),dE P "S_IFLNK" 671 (jR 40960 670),dE P "S_IFSOCK" 673 (jR 49152 672),dE P "S_ISUID" 675 (jR 2048 674),dE P "S_ISGID" 677 (jR 1024 676),dE P "S_ISVTX" 679 (jR 512 678),dE P "S_IRUSR" 681 (jR 256 680),dE P "S_IWUSR" 683 (jR 128 682),dE P "S_IXUSR" 685 (jR 64 684),dE P "S_IRGRP" 687 (jR 32 686),dE P "S_IWGRP" 689 (jR 16 688),dE P "S_IXGRP" 691 (jR 8 690),dE P "S_IROTH" 693 (jR 4 692),dE P "S_IWOTH" 695 (jR 2 694),dE P "S_IXOTH" 697 (jR 1 696),dE P "_filemode_table" 723 (.ref 332),dE P "filemode" 736 (.ref 339),dE P "_law_rows" 752 (.ref 346),dE P "_law_octets" 761 (.ref 353),dE P "_law_text" 767 (.ref 358),dE P "_law_base" 773 (.ref 363)] 49
def ZQ (P:jC):=oF [vI 1,vI 0,.ref 20,vI 5,vI 0,.ref 27,vI 23,vI 0,.ref 71,vI 66,vI 0,.ref 144,vI 70,vI 0,.ref 151,vI 463,vI 0,.ref 252,vI 470,vI 0,.ref 259,vI 476,vI 0,.ref 267,vI 499,vI 0,.ref 276,vI 517,vI 0,.ref 284,vI 529,vI 0,.ref 291,vI 534,vI 0,.ref 298,vI 559,vI 0,.ref 338,vI 578,vI 0,.ref 345,vI 599,vI 0,.ref 352,vI 605,vI 0,.ref 357,vI 607,vI 0,.ref 362]
def Tk (P:jC):=oT [jR 40960 670,vS "l" 698]
def Tj (P:jC):=oT [jR 49152 672,vS "s" 699]
def Ti (P:jC):=oT [jR 32768 666,vS "-" 700]
def Th (P:jC):=oT [jR 24576 664,vS "b" 701]
def Tg (P:jC):=oT [jR 16384 660,vS "d" 702]
def Tf (P:jC):=oT [jR 8192 662,vS "c" 703]
def Te (P:jC):=oT [jR 4096 668,vS "p" 704]
def Td (P:jC):=oT [.ref 300,.ref 301,.ref 302,.ref 303,.ref 304,.ref 305,.ref 306]
def Tc (P:jC):=oT [jR 256 680,vS "r" 705]
def Tb (P:jC):=oT [.ref 308]
def Ta (P:jC):=oT [jR 128 682,vS "w" 706]
def S9 (P:jC):=oT [.ref 310]
def S8 (P:jC):=oT [jR 2112 707,vS "s" 708]
def S7 (P:jC):=oT [jR 2048 674,vS "S" 709]
def S1 (P:jC):=oT [jR 64 684,vS "x" 710]
def S0 (P:jC):=oT [.ref 312,.ref 313,.ref 314]
def SZ (P:jC):=oT [jR 32 686,vS "r" 711]
def SY (P:jC):=oT [.ref 316]
def SX (P:jC):=oT [jR 16 688,vS "w" 712]
def SW (P:jC):=oT [.ref 318]
def SV (P:jC):=oT [jR 1032 713,vS "s" 714]
def SU (P:jC):=oT [jR 1024 676,vS "S" 715]
def ST (P:jC):=oT [jR 8 690,vS "x" 716]
def SS (P:jC):=oT [.ref 320,.ref 321,.ref 322]
def SR (P:jC):=oT [jR 4 692,vS "r" 717]
def SQ (P:jC):=oT [.ref 324]
def SP (P:jC):=oT [jR 2 694,vS "w" 718]
def SN (P:jC):=oT [.ref 326]
def SM (P:jC):=oT [jR 513 719,vS "t" 720]
def SL (P:jC):=oT [jR 512 678,vS "T" 721]
def SK (P:jC):=oT [jR 1 696,vS "x" 722]
def SJ (P:jC):=oT [.ref 328,.ref 329,.ref 330]
def SI (P:jC):=oT [.ref 307,.ref 309,.ref 311,.ref 315,.ref 317,.ref 319,.ref 323,.ref 325,.ref 327,.ref 331]
def SH (P:jC):=oT []
def SG (P:jC):=oF []
def SF (P:jC):=oT [vS "mode" 727,vS "perm" 728,vS "index" 729,vS "table" 730,vS "bit" 731,vS "char" 732]
def SE (P:jC):=oT []
def SC (P:jC):=fN "filemode" "filemode" (stm 39)
def Nv (P:jC):=oG "code" [vS "filemode" 724,vS "filemode" 725,vS "/claim/cut.py" 726,vI 559,vI 1,vI 0,vI 0,vI 3,.ref 333,ko true,vI 181,.ref 334,jD,.ref 335,.ref 336,.ref 337,vI 733,vI 559,vS "/claim/cut.py" 734]
def Nu (P:jC):=fU "filemode" "filemode" (stm 39) 3 jD jD (vS "Convert a file's mode to a string of the form '-rwxrwxrwx'." 735) (vS "cpy313.stat" 650) (.ref 338)
def SB (P:jC):=oT []
def SA (P:jC):=oF []
def Sz (P:jC):=oT [vS "script" 742,vS "left" 743,vS "right" 744,vS "few" 745,vS "k" 746,vS "mode" 747,vS "turn" 748,vS "rest" 749]
def Sy (P:jC):=oT []
def Sx (P:jC):=fN "_law_rows" "_law_rows" (stm 41)
def Nt (P:jC):=oG "code" [vS "_law_rows" 739,vS "_law_rows" 740,vS "/claim/cut.py" 741,vI 578,vI 1,vI 0,vI 0,vI 3,.ref 340,ko true,vI 181,.ref 341,jD,.ref 342,.ref 343,.ref 344,vI 750,vI 578,vS "/claim/cut.py" 751]
def Nr (P:jC):=fU "_law_rows" "_law_rows" (stm 41) 3 jD jD jD (vS "law_rt0115_01" 737) (.ref 345)
def Sw (P:jC):=oT []
def Sv (P:jC):=oF []
def Su (P:jC):=oT [vS "row" 756,vS "octets" 757,vS "mode" 758]
def Ss (P:jC):=oT []
def Sr (P:jC):=fN "_law_octets" "_law_octets" (stm 42)
def Nq (P:jC):=oG "code" [vS "_law_octets" 753,vS "_law_octets" 754,vS "/claim/cut.py" 755,vI 599,vI 1,vI 0,vI 0,vI 3,.ref 347,ko true,vI 181,.ref 348,jD,.ref 349,.ref 350,.ref 351,vI 759,vI 599,vS "/claim/cut.py" 760]
def Np (P:jC):=fU "_law_octets" "_law_octets" (stm 42) 3 jD jD jD (vS "law_rt0115_01" 737) (.ref 352)
def Sq (P:jC):=oT []
def Sp (P:jC):=oF []
def So (P:jC):=fN "_law_text" "_law_text" (stm 43)
def No (P:jC):=oG "code" [vS "_law_text" 762,vS "_law_text" 763,vS "/claim/cut.py" 764,vI 605,vI 1,vI 0,vI 0,vI 3,.ref 354,ko true,vI 181,.ref 355,jD,jD,jD,.ref 356,vI 765,vI 605,vS "/claim/cut.py" 766]
def Nn (P:jC):=fU "_law_text" "_law_text" (stm 43) 3 jD jD jD (vS "law_rt0115_01" 737) (.ref 357)
def Sn (P:jC):=oT []
def Sm (P:jC):=oF []
def Sl (P:jC):=fN "_law_base" "_law_base" (stm 44)
def Nl (P:jC):=oG "code" [vS "_law_base" 768,vS "_law_base" 769,vS "/claim/cut.py" 770,vI 607,vI 3,vI 0,vI 0,vI 3,.ref 359,ko true,vI 181,.ref 360,jD,jD,jD,.ref 361,vI 771,vI 607,vS "/claim/cut.py" 772]
def Nk (P:jC):=fU "_law_base" "_law_base" (stm 44) 3 jD jD jD (vS "law_rt0115_01" 737) (.ref 362)
def cI (P:jC):BT:=jy (M0 P) (bL (SW P)) .nil
def cH (P:jC):BT:=jy (P4 P) (dS P) (jy (Mv P) (bL (Sr P)) .nil)
def cG (P:jC):BT:=jy (MM P) (bL (SF P)) .nil
def cF (P:jC):BT:=jy (Qr P) (bL (Th P)) .nil
def cE (P:jC):BT:=jy (MT P) (bL (SN P)) .nil
def cD (P:jC):BT:=jy (PV P) (dP P) (jy (Mn P) (bL (Sn P)) .nil)
def cC (P:jC):BT:=jy (Qb P) (dN P) (jy (ME P) (bL (Sy P)) .nil)
def cB (P:jC):BT:=jy (M6 P) (bL (S9 P)) .nil
def cA (P:jC):BT:=jy (MW P) (bL (SS P)) .nil
def cz (P:jC):BT:=jy (PZ P) (dL P) (jy (Mr P) (bL (Sp P)) .nil)
def cw (P:jC):BT:=jy (Qf P) (dK P) (jy (MJ P) (bL (Nu P)) .nil)
def cv (P:jC):BT:=jy (Qo P) (bL (Td P)) .nil
def ct (P:jC):BT:=jy (Dp P) (bL (SJ P)) .nil
def cr (P:jC):BT:=jy (JU P) (dI P) (jy (Mj P) (bL (Nk P)) .nil)
def cq (P:jC):BT:=jy (P8 P) (dH P) (jy (Mz P) (bL (Sw P)) .nil)
def cn (P:jC):BT:=jy (M2 P) (bL (S0 P)) .nil
def cm (P:jC):BT:=jy (MY P) (bL (SU P)) .nil
def cj (P:jC):BT:=jy (P1 P) (dF P) (jy (Mt P) (bL (Np P)) .nil)
def cf (P:jC):BT:=jy (Qg P) (dC P) (jy (MK P) (bL (SC P)) .nil)
def cc (P:jC):BT:=jy (M7 P) (bL (Tf P)) .nil
def cb (P:jC):BT:=jy (MR P) (bL (SL P)) .nil
def ca (P:jC):BT:=jy (JW P) (dA P) (jy (Ml P) (bL (Sl P)) .nil)
def b9 (P:jC):BT:=jy (Jt P) (dz P) (jy (MC P) (bL (Nt P)) .nil)
def b8 (P:jC):BT:=jy (M4 P) (bL (S7 P)) .nil
def b7 (P:jC):BT:=jy (MV P) (bL (SQ P)) .nil
def bZ (P:jC):BT:=jy (PX P) (du P) (jy (Mp P) (bL (No P)) .nil)
def bY (P:jC):BT:=jy (Qd P) (dm P) (jy (MH P) (bL (SA P)) .nil)
def bX (P:jC):BT:=jy (FW P) (bL (Tb P)) .nil
def bW (P:jC):BT:=jy (MO P) (bL (SH P)) .nil
def bV (P:jC):BT:=jy (Qs P) (bL (Tj P)) .nil
def bU (P:jC):BT:=jy (P6 P) (di P) (jy (Mx P) (bL (Su P)) .nil)
def bT (P:jC):BT:=jy (IA P) (bL (SY P)) .nil
def bS (P:jC):BT:=jy (MZ P) (bL (SV P)) .nil
def bR (P:jC):BT:=jy (P3 P) (df P) (jy (Mu P) (bL (Nq P)) .nil)
def bQ (P:jC):BT:=jy (Qh P) (de P) (jy (ML P) (bL (SE P)) .nil)
def bP (P:jC):BT:=jy (Qq P) (bL (Tg P)) .nil
def bO (P:jC):BT:=jy (MS P) (bL (SM P)) .nil
def bM (P:jC):BT:=jy (PU P) (da P) (jy (Mm P) (bL (Sm P)) .nil)
def bK (P:jC):BT:=jy (Qa P) (cZ P) (jy (MD P) (bL (Sx P)) .nil)
def bJ (P:jC):BT:=jy (M5 P) (bL (S8 P)) .nil
def bI (P:jC):BT:=jy (BQ P) (bL (SR P)) .nil
def bH (P:jC):BT:=jy (PY P) (cX P) (jy (Mq P) (bL (So P)) .nil)
def bG (P:jC):BT:=jy (Qe P) (cW P) (jy (MI P) (bL (SB P)) .nil)
def bF (P:jC):BT:=jy (Qn P) (bL (Tc P)) .nil
def bE (P:jC):BT:=jy (MP P) (bL (SI P)) .nil
def Zx (P:jC):BT:=jy (Qt P) (bL (Tk P)) .nil
def Zw (P:jC):BT:=jy (P7 P) (cU P) (jy (My P) (bL (Sv P)) .nil)
def Zv (P:jC):BT:=jy (Ch P) (bL (SZ P)) .nil
def Zu (P:jC):BT:=jy (MX P) (bL (ST P)) .nil
def Zt (P:jC):BT:=jy (P0 P) (cS P) (jy (Ms P) (bL (Sq P)) .nil)
def Zs (P:jC):BT:=jy (G0 P) (cR P) (jy (Eg P) (bL (Nv P)) .nil)
def Zr (P:jC):BT:=jy (Qp P) (bL (Te P)) .nil
def Zq (P:jC):BT:=jy (MQ P) (bL (SK P)) .nil
def Zp (P:jC):BT:=jy (JV P) (cP P) (jy (Mk P) (bL (Nl P)) .nil)
def Zo (P:jC):BT:=jy (P9 P) (cO P) (jy (MA P) (bL (Nr P)) .nil)
def Zn (P:jC):BT:=jy (M3 P) (bL (S1 P)) .nil
def Zm (P:jC):BT:=jy (MU P) (bL (SP P)) .nil
def Zl (P:jC):BT:=jy (PW P) (cM P) (jy (Mo P) (bL (Nn P)) .nil)
def Zk (P:jC):BT:=jy (Qc P) (cL P) (jy (MG P) (bL (Sz P)) .nil)
def Zj (P:jC):BT:=jy (Qm P) (bL (Ta P)) .nil
def Zi (P:jC):BT:=jy (MN P) (bL (SG P)) .nil
def Zh (P:jC):BT:=jy (FX P) (bL (Ti P)) .nil
def Zg (P:jC):BT:=jy (P5 P) (cJ P) (jy (Mw P) (bL (Ss P)) .nil)
def Zf (P:jC):BT:=jy (M1 P) (bL (SX P)) .nil
def ZT (P:jC):BT:=jy (rJ P) (jy (pe P) (jy (dW P) (jy (rE P) (jy (VA P) (jy (LJ P) (jy (K8 P) (dT P) (cI P)) (cH P)) (jy (Lq P) (jy (KN P) (dR P) (cG P)) (jy (JQ P) (cF P) (bL (Mf P))))) (jy (LS P) (jy (Lz P) (jy (KX P) (dQ P) (cE P)) (cD P)) (jy (Lh P) (cC P) (jy (HI P) (cB P) (bL (Ir P)))))) (jy (RT P) (jy (LX P) (jy (LD P) (jy (K4 P) (dM P) (cA P)) (cz P)) (jy (Lm P) (cw P) (jy (JN P) (cv P) (bL (Ma P))))) (jy (LN P) (jy (Lv P) (jy (KR P) (dJ P) (ct P)) (cr P)) (jy (Lc P) (cq P) (jy (HD P) (cn P) (bL (Im P))))))) (jy (rG P) (jy (rC P) (jy (Vy P) (jy (LG P) (jy (K6 P) (dG P) (cm P)) (cj P)) (jy (Lo P) (cf P) (jy (HJ P) (cc P) (bL (Mc P))))) (jy (LQ P) (jy (Lx P) (jy (KV P) (dB P) (cb P)) (ca P)) (jy (Lf P) (b9 P) (jy (HF P) (b8 P) (bL (Ip P)))))) (jy (RS P) (jy (LV P) (jy (LB P) (jy (KZ P) (dw P) (b7 P)) (bZ P)) (jy (Lj P) (bY P) (jy (JL P) (bX P) (bL (L8 P))))) (jy (LL P) (jy (Ls P) (jy (KP P) (dk P) (bW P)) (jy (JS P) (bV P) (bL (Mh P)))) (jy (La P) (bU P) (jy (HB P) (bT P) (bL (Go P)))))))) (jy (rI P) (jy (rH P) (jy (rD P) (jy (Vz P) (jy (LH P) (jy (K7 P) (dh P) (bS P)) (bR P)) (jy (Lp P) (bQ P) (jy (JP P) (bP P) (bL (Me P))))) (jy (LR P) (jy (Ly P) (jy (KW P) (db P) (bO P)) (bM P)) (jy (Lg P) (bK P) (jy (HG P) (bJ P) (bL (Iq P)))))) (jy (ZQ P) (jy (LW P) (jy (LC P) (jy (K0 P) (cY P) (bI P)) (bH P)) (jy (Ll P) (bG P) (jy (JM P) (bF P) (bL (L9 P))))) (jy (LM P) (jy (Lu P) (jy (KQ P) (cV P) (bE P)) (jy (JT P) (Zx P) (bL (Mi P)))) (jy (Lb P) (Zw P) (jy (HC P) (Zv P) (bL (Gp P))))))) (jy (rF P) (jy (qT P) (jy (LY P) (jy (LF P) (jy (K5 P) (cT P) (Zu P)) (Zt P)) (jy (Ln P) (Zs P) (jy (JO P) (Zr P) (bL (Mb P))))) (jy (LP P) (jy (Lw P) (jy (KU P) (cQ P) (Zq P)) (Zp P)) (jy (Ld P) (Zo P) (jy (HE P) (Zn P) (bL (Io P)))))) (jy (RQ P) (jy (LU P) (jy (LA P) (jy (KY P) (cN P) (Zm P)) (Zl P)) (jy (Li P) (Zk P) (jy (JK P) (Zj P) (bL (L7 P))))) (jy (LK P) (jy (Lr P) (jy (KO P) (cK P) (Zi P)) (jy (JR P) (Zh P) (bL (Mg P)))) (jy (K9 P) (Zg P) (jy (HA P) (Zf P) (bL (Il P))))))))
noncomputable def fk (w:jW) (os:lJ):vm:=⟨ZT w.params,364,{},#[],{},774,os⟩
def OL (P:jC):=oD [dE P "__name__" 165 (vS "law_rt0115_01" 737),dE P "__doc__" 166 jD,dE P "__package__" 167 jD,dE P "__loader__" 168 (lF "__main__.__loader__#opaque"),dE P "__spec__" 169 jD,dE P "__annotations__" 170 (.ref 6),dE P "__builtins__" 171 (.ref 4),dE P "__file__" 173 (vS "/claim/cut.py" 172),dE P "__cached__" 174 jD,dE P "_wall" 193 (.ref 21),dE P "_tuplegetter" 252 (.ref 60),dE P "Match" 380 (.ref 135),dE P "_calculate_ratio" 388 (.ref 145),dE P "SequenceMatcher" 582 (.ref 242),dE P "_buffer" 592 (.ref 253),dE P "_truth" 600 (.ref 260),dE P "_B64" 602 (vx (ke [65,66,67,68,69,70,71,72,73,74,75,76,77,78,79,80,81,82,83,84,85,86,87,88,89,90,97,98,99,100,101,102,103,104,105,106,107,108,109,110,111,112,113,114,115,116,117,118,119,120,121,122,48,49,50,51,52,53,54,55,56,57,43,47]) 601),dE P "b2a_base64" 616 (.ref 268),dE P "_NO_SEP" 617 (.ref 269),dE P "b2a_hex" 628 (.ref 277),dE P "hexlify" 629 (.ref 277),dE P "b64encode" 641 (.ref 285),dE P "b16encode" 649 (.ref 292),dE P "S_IFMT" 659 (.ref 299),dE P "S_IFDIR" 661 (jR 16384 660),dE P "S_IFCHR" 663 (jR 8192 662),dE P "S_IFBLK" 665 (jR 24576 664),dE P "S_IFREG" 667 (jR 32768 666),dE P "S_IFIFO" 669 (jR 4096 668),dE P "S_IFLNK" 671 (jR 40960 670),dE P "S_IFSOCK" 673 (jR 49152 672),dE P "S_ISUID" 675 (jR 2048 674),dE P "S_ISGID" 677 (jR 1024 676),dE P "S_ISVTX" 679 (jR 512 678),dE P "S_IRUSR" 681 (jR 256 680),dE P "S_IWUSR" 683 (jR 128 682),dE P "S_IXUSR" 685 (jR 64 684),dE P "S_IRGRP" 687 (jR 32 686),dE P "S_IWGRP" 689 (jR 16 688),dE P "S_IXGRP" 691 (jR 8 690),dE P "S_IROTH" 693 (jR 4 692),dE P "S_IWOTH" 695 (jR 2 694),dE P "S_IXOTH" 697 (jR 1 696),dE P "_filemode_table" 723 (.ref 332),dE P "filemode" 736 (.ref 339),dE P "_law_rows" 752 (.ref 346),dE P "_law_octets" 761 (.ref 353),dE P "_law_text" 767 (.ref 358),dE P "_law_base" 773 (.ref 363),dE P "_law_listing" 785 (.ref 370),dE P "_law_longest" 803 (.ref 377),dE P "_law_cut" 822 (.ref 384),dE P "_law_codes" 828 (.ref 389),dE P "_law_seen" 834 (.ref 394),dE P "law" 840 (.ref 399)] 55
def VI (P:jC):=oF [vI 1,vI 0,.ref 20,vI 5,vI 0,.ref 27,vI 23,vI 0,.ref 71,vI 66,vI 0,.ref 144,vI 70,vI 0,.ref 151,vI 463,vI 0,.ref 252,vI 470,vI 0,.ref 259,vI 476,vI 0,.ref 267,vI 499,vI 0,.ref 276,vI 517,vI 0,.ref 284,vI 529,vI 0,.ref 291,vI 534,vI 0,.ref 298,vI 559,vI 0,.ref 338,vI 578,vI 0,.ref 345,vI 599,vI 0,.ref 352,vI 605,vI 0,.ref 357,vI 607,vI 0,.ref 362,vI 616,vI 0,.ref 369,vI 627,vI 0,.ref 376,vI 638,vI 0,.ref 383,vI 646,vI 0,.ref 388,vI 659,vI 0,.ref 393,vI 662,vI 0,.ref 398]
def Sk (P:jC):=oT []
def Sj (P:jC):=oF []
def Si (P:jC):=oT [vS "row" 777,vS "told" 778,vS "mode" 779,vS "k" 780,vS "three" 781,vS "above" 782]
def Sh (P:jC):=oT []
def Sg (P:jC):=fN "_law_listing" "_law_listing" (stm 45)
def Nj (P:jC):=oG "code" [vS "_law_listing" 774,vS "_law_listing" 775,vS "/claim/cut.py" 776,vI 616,vI 1,vI 0,vI 0,vI 3,.ref 364,ko true,vI 181,.ref 365,jD,.ref 366,.ref 367,.ref 368,vI 783,vI 616,vS "/claim/cut.py" 784]
def Ni (P:jC):=fU "_law_listing" "_law_listing" (stm 45) 3 jD jD jD (vS "law_rt0115_01" 737) (.ref 369)
def Sf (P:jC):=oT []
def Se (P:jC):=oF []
def Sd (P:jC):=oT [vS "left" 789,vS "right" 790,vS "step" 791,vS "window" 792,vS "i0" 793,vS "i1" 794,vS "j0" 795,vS "j1" 796,vS "best" 797,vS "i" 798,vS "j" 799,vS "size" 800]
def Sc (P:jC):=oT []
def Sb (P:jC):=fN "_law_longest" "_law_longest" (stm 46)
def Nh (P:jC):=oG "code" [vS "_law_longest" 786,vS "_law_longest" 787,vS "/claim/cut.py" 788,vI 627,vI 4,vI 0,vI 0,vI 3,.ref 371,ko true,vI 181,.ref 372,jD,.ref 373,.ref 374,.ref 375,vI 801,vI 627,vS "/claim/cut.py" 802]
def Ng (P:jC):=fU "_law_longest" "_law_longest" (stm 46) 3 jD jD jD (vS "law_rt0115_01" 737) (.ref 376)
def Sa (P:jC):=oT []
def R9 (P:jC):=oF []
def R8 (P:jC):=oT [vS "left" 807,vS "right" 808,vS "step" 809,vS "window" 810,vS "i0" 811,vS "i1" 812,vS "j0" 813,vS "j1" 814,vS "i" 815,vS "j" 816,vS "size" 817,vS "ahead" 818,vS "behind" 819]
def R7 (P:jC):=oT []
def R6 (P:jC):=fN "_law_cut" "_law_cut" (stm 47)
def Nf (P:jC):=oG "code" [vS "_law_cut" 804,vS "_law_cut" 805,vS "/claim/cut.py" 806,vI 638,vI 4,vI 0,vI 0,vI 3,.ref 378,ko true,vI 181,.ref 379,jD,.ref 380,.ref 381,.ref 382,vI 820,vI 638,vS "/claim/cut.py" 821]
def Nd (P:jC):=fU "_law_cut" "_law_cut" (stm 47) 3 jD jD jD (vS "law_rt0115_01" 737) (.ref 383)
def R5 (P:jC):=oT []
def R1 (P:jC):=oF []
def R0 (P:jC):=fN "_law_codes" "_law_codes" (stm 48)
def Du (P:jC):=oG "code" [vS "_law_codes" 823,vS "_law_codes" 824,vS "/claim/cut.py" 825,vI 646,vI 3,vI 0,vI 0,vI 3,.ref 385,ko true,vI 181,.ref 386,jD,jD,jD,.ref 387,vI 826,vI 646,vS "/claim/cut.py" 827]
def Ie (P:jC):=fU "_law_codes" "_law_codes" (stm 48) 3 jD jD jD (vS "law_rt0115_01" 737) (.ref 388)
def RZ (P:jC):=oT []
def RY (P:jC):=oF []
def RX (P:jC):=fN "_law_seen" "_law_seen" (stm 49)
def Nc (P:jC):=oG "code" [vS "_law_seen" 829,vS "_law_seen" 830,vS "/claim/cut.py" 831,vI 659,vI 3,vI 0,vI 0,vI 3,.ref 390,ko true,vI 181,.ref 391,jD,jD,jD,.ref 392,vI 832,vI 659,vS "/claim/cut.py" 833]
def Nb (P:jC):=fU "_law_seen" "_law_seen" (stm 49) 3 jD jD jD (vS "law_rt0115_01" 737) (.ref 393)
def RW (P:jC):=oT []
def RV (P:jC):=oF []
def RU (P:jC):=fN "law" "law" (stm 50)
def Na (P:jC):=oG "code" [vS "law" 835,vS "law" 836,vS "/claim/cut.py" 837,vI 662,vI 1,vI 0,vI 0,vI 3,.ref 395,ko true,vI 181,.ref 396,jD,jD,jD,.ref 397,vI 838,vI 662,vS "/claim/cut.py" 839]
def M9 (P:jC):=fU "law" "law" (stm 50) 3 jD jD jD (vS "law_rt0115_01" 737) (.ref 398)
def VS (P:jC):BT:=jy (rJ P) (jy (pe P) (jy (OL P) (jy (rE P) (jy (VA P) (jy (LJ P) (jy (K8 P) (jy (JJ P) (bL (NQ P)) (bL (Nf P))) (cI P)) (cH P)) (jy (Lq P) (jy (KN P) (jy (Ju P) (bL (NF P)) (bL (M9 P))) (cG P)) (jy (JQ P) (cF P) (jy (Mf P) (bL (Sh P)) .nil)))) (jy (LS P) (jy (Lz P) (jy (KX P) (jy (Hz P) (bL (NK P)) (bL (RY P))) (cE P)) (cD P)) (jy (Lh P) (cC P) (jy (HI P) (cB P) (jy (Ir P) (bL (Sb P)) .nil))))) (jy (RT P) (jy (LX P) (jy (LD P) (jy (K4 P) (jy (JF P) (bL (Ik P)) (bL (R0 P))) (cA P)) (cz P)) (jy (Lm P) (cw P) (jy (JN P) (cv P) (jy (Ma P) (bL (Sf P)) .nil)))) (jy (LN P) (jy (Lv P) (jy (KR P) (jy (Jy P) (bL (Ii P)) (bL (RW P))) (ct P)) (cr P)) (jy (Lc P) (cq P) (jy (HD P) (cn P) (jy (Im P) (bL (R9 P)) .nil)))))) (jy (rG P) (jy (rC P) (jy (Vy P) (jy (LG P) (jy (K6 P) (jy (JH P) (bL (NO P)) (bL (R5 P))) (cm P)) (cj P)) (jy (Lo P) (cf P) (jy (HJ P) (cc P) (jy (Mc P) (bL (Nj P)) .nil)))) (jy (LQ P) (jy (Lx P) (jy (KV P) (jy (JA P) (bL (NI P)) (bL (Nc P))) (cb P)) (ca P)) (jy (Lf P) (b9 P) (jy (HF P) (b8 P) (jy (Ip P) (bL (Ng P)) .nil))))) (jy (RS P) (jy (LV P) (jy (LB P) (jy (KZ P) (jy (JD P) (bL (NM P)) (bL (Ie P))) (b7 P)) (bZ P)) (jy (Lj P) (bY P) (jy (JL P) (bX P) (jy (L8 P) (bL (Sd P)) .nil)))) (jy (LL P) (jy (Ls P) (jy (KP P) (jy (Jw P) (bL (NG P)) (bL (RU P))) (bW P)) (jy (JS P) (bV P) (jy (Mh P) (bL (Sj P)) .nil))) (jy (La P) (bU P) (jy (HB P) (bT P) (jy (Go P) (bL (R7 P)) .nil))))))) (jy (rI P) (jy (rH P) (jy (rD P) (jy (Vz P) (jy (LH P) (jy (K7 P) (jy (JI P) (bL (NP P)) (bL (Nd P))) (bS P)) (bR P)) (jy (Lp P) (bQ P) (jy (JP P) (bP P) (jy (Me P) (bL (Sg P)) .nil)))) (jy (LR P) (jy (Ly P) (jy (KW P) (jy (JB P) (bL (NJ P)) (bL (RX P))) (bO P)) (bM P)) (jy (Lg P) (bK P) (jy (HG P) (bJ P) (jy (Iq P) (bL (Nh P)) .nil))))) (jy (VI P) (jy (LW P) (jy (LC P) (jy (K0 P) (jy (JE P) (bL (Ij P)) (bL (Du P))) (bI P)) (bH P)) (jy (Ll P) (bG P) (jy (JM P) (bF P) (jy (L9 P) (bL (Se P)) .nil)))) (jy (LM P) (jy (Lu P) (jy (KQ P) (jy (Jx P) (bL (Ih P)) (bL (RV P))) (bE P)) (jy (JT P) (Zx P) (jy (Mi P) (bL (Sk P)) .nil))) (jy (Lb P) (Zw P) (jy (HC P) (Zv P) (jy (Gp P) (bL (R8 P)) .nil)))))) (jy (rF P) (jy (qT P) (jy (LY P) (jy (LF P) (jy (K5 P) (jy (JG P) (bL (NN P)) (bL (R1 P))) (Zu P)) (Zt P)) (jy (Ln P) (Zs P) (jy (JO P) (Zr P) (jy (Mb P) (bL (Ni P)) .nil)))) (jy (LP P) (jy (Lw P) (jy (KU P) (jy (Jz P) (bL (NH P)) (bL (Nb P))) (Zq P)) (Zp P)) (jy (Ld P) (Zo P) (jy (HE P) (Zn P) (jy (Io P) (bL (Sa P)) .nil))))) (jy (RQ P) (jy (LU P) (jy (LA P) (jy (KY P) (jy (JC P) (bL (NL P)) (bL (RZ P))) (Zm P)) (Zl P)) (jy (Li P) (Zk P) (jy (JK P) (Zj P) (jy (L7 P) (bL (Sc P)) .nil)))) (jy (LK P) (jy (Lr P) (jy (KO P) (jy (Jv P) (bL (Ig P)) (bL (Na P))) (Zi P)) (jy (JR P) (Zh P) (jy (Mg P) (bL (Si P)) .nil))) (jy (K9 P) (Zg P) (jy (HA P) (Zf P) (jy (Il P) (bL (R6 P)) .nil)))))))
noncomputable def ZL (w:jW) (os:lJ):vm:=⟨VS w.params,400,{},#[],{},841,os⟩
noncomputable def L6:List l9:=[e8 dq (stm 5)]
noncomputable def iD:List l9:=[stm 6,stm 7,stm 8,stm 9,stm 10,stm 11,stm 12,stm 13,stm 14,stm 15,stm 16,stm 17,stm 18,stm 19,stm 20,stm 21,stm 22,stm 23,stm 24,stm 25,stm 26,stm 27,stm 28,stm 29]
noncomputable def iC:List l9:=[stm 30,stm 31,stm 32,stm 33,stm 34,stm 35,stm 36,stm 37,stm 38,stm 39,stm 40,stm 41,stm 42,stm 43,stm 44]
noncomputable def iB:List l9:=[stm 45,stm 46,stm 47,stm 48,stm 49,stm 50]
lay_quick Mine.dq
theorem q5:(λ(w:jW) (os:lJ) (p:lD) (bb:List l9)=>m6 T1 p w 11 (some (kx 6)) 1 1438 (S4 w os) (qw L5 A.env_1 (lE bb A.env_1) ⟨0,0,0,0⟩ [nR ⟨0,0,0,0⟩]))=λ(w:jW) (os:lJ) (p:lD) (bb:List l9)=>some (nI,S5 w os,lE bb A.env_1,(⟨66,0,69,14⟩:mf)):=by kernel_rfl
theorem p5(w:jW)(os:lJ)(p:lD)(bb:List l9):rp T1 p w 11 (some (kx 6)) 1 1438 (S4 w os) (qw L5 A.env_1 (lE bb A.env_1) ⟨0,0,0,0⟩ [nR ⟨0,0,0,0⟩])=some (nI,S5 w os,lE bb A.env_1,(⟨66,0,69,14⟩:mf)):=by
 rewrite [show @rp=_ from m8]
 exact congrFun (congrFun (congrFun (congrFun q5 w) os) p) bb
theorem q6:(λ(w:jW) (os:lJ) (p:lD) (bb:List l9)=>m6 T1 p w 11 (some (kx 6)) 1 657 (S5 w os) (qw [e8 Fast.tw5557023920314118539 (stm 5)] A.env_1 (lE bb A.env_1) ⟨66,0,69,14⟩ [nR ⟨0,0,0,0⟩]))=λ(w:jW) (os:lJ) (p:lD) (bb:List l9)=>some (nI,⟨t6 w.params Fast.tw5557023920314118539,247,{},#[],{},583,os⟩,lE bb A.env_1,(⟨70,0,461,16⟩:mf)):=by kernel_rfl
theorem p6(w:jW)(os:lJ)(p:lD)(bb:List l9):rp T1 p w 11 (some (kx 6)) 1 657 (S5 w os) (qw L6 A.env_1 (lE bb A.env_1) ⟨66,0,69,14⟩ [nR ⟨0,0,0,0⟩])=some (nI,S6 w os,lE bb A.env_1,(⟨70,0,461,16⟩:mf)):=by
 unfold L6 S6 tree6
 rewrite [show @rp=_ from m8,show dq=_ from Fast.te5557023920314118539]
 exact congrFun (congrFun (congrFun (congrFun q6 w) os) p) bb
theorem ji:(λ(w:jW) (os:lJ) (p:lD) (bb:List l9)=>m6 T1 p w 11 (some (kx 6)) 1 401 (S6 w os) (qw iD A.env_1 (lE bb A.env_1) ⟨70,0,461,16⟩ [nR ⟨0,0,0,0⟩]))=λ(w:jW) (os:lJ) (p:lD) (bb:List l9)=>some (nI,ft w os,lE bb A.env_1,(⟨549,0,549,7⟩:mf)):=by kernel_rfl
theorem jl(w:jW)(os:lJ)(p:lD)(bb:List l9):rp T1 p w 11 (some (kx 6)) 1 401 (S6 w os) (qw iD A.env_1 (lE bb A.env_1) ⟨70,0,461,16⟩ [nR ⟨0,0,0,0⟩])=some (nI,ft w os,lE bb A.env_1,(⟨549,0,549,7⟩:mf)):=by
 rewrite [show @rp=_ from m8]
 exact congrFun (congrFun (congrFun (congrFun ji w) os) p) bb
theorem jh:(λ(w:jW) (os:lJ) (p:lD) (bb:List l9)=>m6 T1 p w 11 (some (kx 6)) 1 397 (ft w os) (qw iC A.env_1 (lE bb A.env_1) ⟨549,0,549,7⟩ [nR ⟨0,0,0,0⟩]))=λ(w:jW) (os:lJ) (p:lD) (bb:List l9)=>some (nI,fk w os,lE bb A.env_1,(⟨607,0,615,45⟩:mf)):=by kernel_rfl
theorem jk(w:jW)(os:lJ)(p:lD)(bb:List l9):rp T1 p w 11 (some (kx 6)) 1 397 (ft w os) (qw iC A.env_1 (lE bb A.env_1) ⟨549,0,549,7⟩ [nR ⟨0,0,0,0⟩])=some (nI,fk w os,lE bb A.env_1,(⟨607,0,615,45⟩:mf)):=by
 rewrite [show @rp=_ from m8]
 exact congrFun (congrFun (congrFun (congrFun jh w) os) p) bb
theorem jf:(λ(w:jW) (os:lJ) (p:lD) (bb:List l9)=>m6 T1 p w 11 (some (kx 6)) 1 194 (fk w os) (qw iB A.env_1 (lE bb A.env_1) ⟨607,0,615,45⟩ [nR ⟨0,0,0,0⟩]))=λ(w:jW) (os:lJ) (p:lD) (bb:List l9)=>some (nI,ZL w os,lE bb A.env_1,(⟨662,0,671,140⟩:mf)):=by kernel_rfl
theorem jj(w:jW)(os:lJ)(p:lD)(bb:List l9):rp T1 p w 11 (some (kx 6)) 1 194 (fk w os) (qw iB A.env_1 (lE bb A.env_1) ⟨607,0,615,45⟩ [nR ⟨0,0,0,0⟩])=some (nI,ZL w os,lE bb A.env_1,(⟨662,0,671,140⟩:mf)):=by
 rewrite [show @rp=_ from m8]
 exact congrFun (congrFun (congrFun (congrFun jf w) os) p) bb
theorem gC:(λ(w:jW) (os:lJ)=>Fast.tw15667345088766844465 m0 jM w 11 (some (kx 6)) 12 (⟨qj w.params,rZ [],vw,wg,os⟩:jE) (topStub jM))=λ(w:jW) (os:lJ)=>some ((qH ⟨EA w.params,15,{},#[],{},187,os⟩),(⟨Fast.tw11892475500146522536 m0 (lE (lU jM) A.env_1),(lE (lU jM) A.env_1),(⟨0,0,0,0⟩:mf),[nR (⟨0,0,0,0⟩:mf)]⟩:Thread)):=by kernel_rfl
theorem pre(w:jW)(os:lJ):topGo qg jM w 11 (some (kx 6)) 12 (⟨qj w.params,rZ [],vw,wg,os⟩:jE) (topStub jM)=some ((qH ⟨EA w.params,15,{},#[],{},187,os⟩),(⟨denote qg (lE (lU jM) A.env_1),(lE (lU jM) A.env_1),(⟨0,0,0,0⟩:mf),[nR (⟨0,0,0,0⟩:mf)]⟩:Thread)):=by
 rewrite [show @topGo=_ from Fast.te15667345088766844465,show @qg=_ from m7,show @denote=_ from Fast.te11892475500146522536]
 exact congrFun (congrFun (gC) w) os
theorem gE:(λ(w:jW) (os:lJ)=>Fast.tw14374325043358763698 m0 jM w 11 (some (kx 6)) 1 1 (qH ⟨EA w.params,15,{},#[],{},187,os⟩) (blockOf (lU jM) A.env_1 (lE (lU jM) A.env_1) (⟨0,0,0,0⟩:mf) [nR (⟨0,0,0,0⟩:mf)]))=λ(w:jW) (os:lJ)=>some (nI,(qH ⟨EA w.params,15,{},#[],{},187,os⟩),(lE (lU jM) A.env_1),(⟨0,0,0,0⟩:mf)):=by kernel_rfl
theorem jw(w:jW)(os:lJ):segRun qg jM w 11 (some (kx 6)) 1 1 (qH ⟨EA w.params,15,{},#[],{},187,os⟩) (blockOf (lU jM) A.env_1 (lE (lU jM) A.env_1) (⟨0,0,0,0⟩:mf) [nR (⟨0,0,0,0⟩:mf)])=some (nI,(qH ⟨EA w.params,15,{},#[],{},187,os⟩),(lE (lU jM) A.env_1),(⟨0,0,0,0⟩:mf)):=by
 rewrite [show @segRun=_ from Fast.te14374325043358763698,show @qg=_ from m7]
 exact congrFun (congrFun (gE) w) os
theorem gD:(λ(w:jW) (os:lJ)=>Fast.tw14082659384304107361 m0 jM w 11 (some (kx 6)) 2 (ZL w os).abs (⟨doneF nI,(lE (lU jM) A.env_1),(⟨662,0,671,140⟩:mf),[nR (⟨0,0,0,0⟩:mf)]⟩:Thread))=λ(w:jW) (os:lJ)=>some (ZL w os).abs:=by kernel_rfl
theorem OI(w:jW)(os:lJ):topRun qg jM w 11 (some (kx 6)) 2 (ZL w os).abs (⟨doneF nI,(lE (lU jM) A.env_1),(⟨662,0,671,140⟩:mf),[nR (⟨0,0,0,0⟩:mf)]⟩:Thread)=some (ZL w os).abs:=by
 rewrite [show @topRun=_ from Fast.te14082659384304107361,show @qg=_ from m7]
 exact congrFun (congrFun (gD) w) os
theorem Xv:lU jM=L5++(L6++(iD++(iC++(iB++[])))):=by kernel_rfl
theorem VT(w:jW)(os:lJ):topRun qg jM w 11 (some (kx 6)) 3112 (⟨qj w.params,rZ [],vw,wg,os⟩:jE) (topStub jM)=some (ZL w os).abs:=by
 refine go_top (n:=12) (N:=3100) (pre w os) ?_
 refine piece_block (n:=1) (N:=3099) (jw w os) ?_
 rw[Xv]
 refine uO (n:=1438) (N:=1661) (s':=(S5 w os).abs) (PR▸uN (p5 w os _ _)) ?_
 refine uO (n:=657) (N:=1004) (s':=(S6 w os).abs) (PR▸uN (p6 w os _ _)) ?_
 refine uO (n:=401) (N:=603) (s':=(ft w os).abs) (PR▸uN (jl w os _ _)) ?_
 refine uO (n:=397) (N:=206) (s':=(fk w os).abs) (PR▸uN (jk w os _ _)) ?_
 refine uO (n:=194) (N:=12) (s':=(ZL w os).abs) (PR▸uN (jj w os _ _)) ?_
 refine piece_nil ?_
 rw[<-Xv]
 exact topRun_mono 10 _ _ _ _ (OI w os)
noncomputable def qv:lD:={jM with main:={jM.main with body:=[stm 50]}}
noncomputable def IT:List jX:=[jz "_wall",jz "_tuplegetter",jz "Match",jz "_calculate_ratio",jz "SequenceMatcher",jz "_buffer",jz "_truth",jz "_B64",jz "b2a_base64",jz "_NO_SEP",jz "b2a_hex",jz "hexlify",jz "b64encode",jz "b16encode",jz "S_IFMT",jz "S_IFDIR",jz "S_IFCHR",jz "S_IFBLK",jz "S_IFREG",jz "S_IFIFO",jz "S_IFLNK",jz "S_IFSOCK",jz "S_ISUID",jz "S_ISGID",jz "S_ISVTX",jz "S_IRUSR",jz "S_IWUSR",jz "S_IXUSR",jz "S_IRGRP",jz "S_IWGRP",jz "S_IXGRP",jz "S_IROTH",jz "S_IWOTH",jz "S_IXOTH",jz "_filemode_table",jz "filemode",jz "_law_rows",jz "_law_octets",jz "_law_text",jz "_law_base",jz "_law_listing",jz "_law_longest",jz "_law_cut",jz "_law_codes",jz "_law_seen"]
noncomputable def KK (P:jC):Frag:=[(0,rJ P),(1,pe P),(2,rI P),(3,OL P),(4,rH P),(5,rG P),(6,rF P),(7,rE P),(8,rD P),(9,rC P),(10,qT P),(11,RT P),(12,VI P),(13,RS P),(14,RQ P),(15,VA P),(16,Vz P),(17,Vy P),(18,LY P),(19,LX P),(20,LW P),(21,LV P),(22,LU P),(23,LS P),(24,LR P),(25,LQ P),(26,LP P),(27,LN P),(28,LM P),(29,LL P),(30,LK P),(31,LJ P),(32,LH P),(33,LG P),(34,LF P),(35,LD P),(36,LC P),(37,LB P),(38,LA P),(39,Lz P),(40,Ly P),(41,Lx P),(42,Lw P),(43,Lv P),(44,Lu P),(45,Ls P),(46,Lr P),(47,Lq P),(48,Lp P),(49,Lo P),(50,Ln P),(51,Lm P),(52,Ll P),(53,Lj P),(54,Li P),(55,Lh P),(56,Lg P),(57,Lf P),(58,Ld P),(59,Lc P),(60,Lb P),(61,La P),(62,K9 P),(63,K8 P),(64,K7 P),(65,K6 P),(66,K5 P),(67,K4 P),(68,K0 P),(69,KZ P),(70,KY P),(71,KX P),(72,KW P),(73,KV P),(74,KU P),(75,KR P),(76,KQ P),(77,KP P),(78,KO P),(79,KN P),(80,Qh P),(81,Qg P),(82,G0 P),(83,Qf P),(84,Qe P),(85,Qd P),(86,Qc P),(87,Qb P),(88,Qa P),(89,Jt P),(90,P9 P),(91,P8 P),(92,P7 P),(93,P6 P),(94,P5 P),(95,P4 P),(96,P3 P),(97,P1 P),(98,P0 P),(99,PZ P),(100,PY P),(101,PX P),(102,PW P),(103,PV P),(104,PU P),(105,JW P),(106,JV P),(107,JU P),(108,JT P),(109,JS P),(110,JR P),(111,JQ P),(112,JP P),(113,HJ P),(114,JO P),(115,JN P),(116,JM P),(117,JL P),(118,JK P),(119,HI P),(120,HG P),(121,HF P),(122,HE P),(123,HD P),(124,HC P),(125,HB P),(126,HA P),(127,JJ P),(128,JI P),(129,JH P),(130,JG P),(131,JF P),(132,JE P),(133,JD P),(134,JC P),(135,Hz P),(136,JB P),(137,JA P),(138,Jz P),(139,Jy P),(140,Jx P),(141,Jw P),(142,Jv P),(143,Ju P),(144,OE P),(145,OD P),(146,QP P),(147,QO P),(148,VH P),(149,QN P),(150,QM P),(151,QL P),(152,QK P),(153,M8 P),(154,QJ P),(155,QI P),(156,QH P),(157,QG P),(158,QF P),(159,QE P),(160,G1 P),(161,QD P),(162,QC P),(163,QB P),(164,QA P),(165,Qz P),(166,Qy P),(167,EP P),(168,Qx P),(169,Qw P),(170,Qv P),(171,Qu P),(172,Qt P),(173,Qs P),(174,FX P),(175,Qr P),(176,Qq P),(177,M7 P),(178,Qp P),(179,Qo P),(180,Qn P),(181,FW P),(182,Qm P),(183,M6 P),(184,M5 P),(185,M4 P),(186,M3 P),(187,M2 P),(188,Ch P),(189,IA P),(190,M1 P),(191,M0 P),(192,MZ P),(193,MY P),(194,MX P),(195,MW P),(196,BQ P),(197,MV P),(198,MU P),(199,MT P),(200,MS P),(201,MR P),(202,MQ P),(203,Dp P),(204,MP P),(205,MO P),(206,MN P),(207,MM P),(208,ML P),(209,MK P),(210,Eg P),(211,MJ P),(212,MI P),(213,MH P),(214,MG P),(215,ME P),(216,MD P),(217,MC P),(218,MA P),(219,Mz P),(220,My P),(221,Mx P),(222,Mw P),(223,Mv P),(224,Mu P),(225,Mt P),(226,Ms P),(227,Mr P),(228,Mq P),(229,Mp P),(230,Mo P),(231,Mn P),(232,Mm P),(233,Ml P),(234,Mk P),(235,Mj P),(236,Mi P),(237,Mh P),(238,Mg P),(239,Mf P),(240,Me P),(241,Mc P),(242,Mb P),(243,Ma P),(244,L9 P),(245,L8 P),(246,L7 P),(247,Ir P),(248,Iq P),(249,Ip P),(250,Io P),(251,Im P),(252,Gp P),(253,Go P),(254,Il P),(255,NQ P),(256,NP P),(257,NO P),(258,NN P),(259,Ik P),(260,Ij P),(261,NM P),(262,NL P),(263,NK P),(264,NJ P),(265,NI P),(266,NH P),(267,Ii P),(268,Ih P),(269,NG P),(270,Ig P),(271,NF P),(272,TF P),(273,TE P),(274,TD P),(275,TC P),(276,NE P),(277,ND P),(278,NC P),(279,TB P),(280,TA P),(281,Tz P),(282,Ty P),(283,Tx P),(284,NB P),(285,NA P),(286,Tw P),(287,Tu P),(288,Ts P),(289,Tr P),(290,Tq P),(291,Nz P),(292,Ny P),(293,Tp P),(294,To P),(295,Tn P),(296,Tm P),(297,Tl P),(298,Nx P),(299,Nw P),(300,Tk P),(301,Tj P),(302,Ti P),(303,Th P),(304,Tg P),(305,Tf P),(306,Te P),(307,Td P),(308,Tc P),(309,Tb P),(310,Ta P),(311,S9 P),(312,S8 P),(313,S7 P),(314,S1 P),(315,S0 P),(316,SZ P),(317,SY P),(318,SX P),(319,SW P),(320,SV P),(321,SU P),(322,ST P),(323,SS P),(324,SR P),(325,SQ P),(326,SP P),(327,SN P),(328,SM P),(329,SL P),(330,SK P),(331,SJ P),(332,SI P),(333,SH P),(334,SG P),(335,SF P),(336,SE P),(337,SC P),(338,Nv P),(339,Nu P),(340,SB P),(341,SA P),(342,Sz P),(343,Sy P),(344,Sx P),(345,Nt P),(346,Nr P),(347,Sw P),(348,Sv P),(349,Su P),(350,Ss P),(351,Sr P),(352,Nq P),(353,Np P),(354,Sq P),(355,Sp P),(356,So P),(357,No P),(358,Nn P),(359,Sn P),(360,Sm P),(361,Sl P),(362,Nl P),(363,Nk P),(364,Sk P),(365,Sj P),(366,Si P),(367,Sh P),(368,Sg P),(369,Nj P),(370,Ni P),(371,Sf P),(372,Se P),(373,Sd P),(374,Sc P),(375,Sb P),(376,Nh P),(377,Ng P),(378,Sa P),(379,R9 P),(380,R8 P),(381,R7 P),(382,R6 P),(383,Nf P),(384,Nd P),(385,R5 P),(386,R1 P),(387,R0 P),(388,Du P),(389,Ie P),(390,RZ P),(391,RY P),(392,RX P),(393,Nc P),(394,Nb P),(395,RW P),(396,RV P),(397,RU P),(398,Na P),(399,M9 P)]
noncomputable def KA:List jL:=[0,1,2,3,4,5,6,7,8,9,10,11,12,13,14,15,16,17,18,19,20,21,22,23,24,25,26,27,28,29,30,31,32,33,34,35,36,37,38,39,40,41,42,43,44,45,46,47,48,49,50,51,52,53,54,55,56,57,58,59,60,61,62,63,64,65,66,67,68,69,70,71,72,73,74,75,76,77,78,79,80,81,82,83,84,85,86,87,88,89,90,91,92,93,94,95,96,97,98,99,100,101,102,103,104,105,106,107,108,109,110,111,112,113,114,115,116,117,118,119,120,121,122,123,124,125,126,127,128,129,130,131,132,133,134,135,136,137,138,139,140,141,142,143,144,145,146,147,148,149,150,151,152,153,154,155,156,157,158,159,160,161,162,163,164,165,166,167,168,169,170,171,172,173,174,175,176,177,178,179,180,181,182,183,184,185,186,187,188,189,190,191,192,193,194,195,196,197,198,199,200,201,202,203,204,205,206,207,208,209,210,211,212,213,214,215,216,217,218,219,220,221,222,223,224,225,226,227,228,229,230,231,232,233,234,235,236,237,238,239,240,241,242,243,244,245,246,247,248,249,250,251,252,253,254,255,256,257,258,259,260,261,262,263,264,265,266,267,268,269,270,271,272,273,274,275,276,277,278,279,280,281,282,283,284,285,286,287,288,289,290,291,292,293,294,295,296,297,298,299,300,301,302,303,304,305,306,307,308,309,310,311,312,313,314,315,316,317,318,319,320,321,322,323,324,325,326,327,328,329,330,331,332,333,334,335,336,337,338,339,340,341,342,343,344,345,346,347,348,349,350,351,352,353,354,355,356,357,358,359,360,361,362,363,364,365,366,367,368,369,370,371,372,373,374,375,376,377,378,379,380,381,382,383,384,385,386,387,388,389,390,391,392,393,394,395,396,397,398,399]
theorem fw(P:jC):KA=(KK P).map (·.1):=by kernel_rfl
noncomputable def HH:Hook:=kHook KK KA fw
noncomputable abbrev rr:OpenRow:=po.row
noncomputable def XT (s:jE):Bool:=xlAt qv [] s&&recOk (RowW.records rr.toRowW) s
theorem Z1(w:jW):((qj w.params).isNs mN&&(rZ []:Array vz).size == 0,(qj w.params).objs.size,(qj w.params).nsMap mN "__annotations__")=(true,11,some (kx 6)):=by kernel_rfl
noncomputable abbrev H1 (P:jC):jY:=absHeap (VS P) 400 {}
noncomputable abbrev WW (w:jW) (os:lJ):jE:=⟨H1 w.params,rZ [],{},841,os⟩
theorem eB(w:jW)(os:lJ):(staticsOk (importedModules jM.main.body) (qj w.params) (H1 w.params)&&namesBound jM (H1 w.params)&&gensDone (WW w os)&&laidKept (qj w.params) (H1 w.params))=true:=by kernel_rfl
theorem ez(w:jW)(os:lJ):HH.obs (WW w os)=HH.val w:=by kernel_rfl
theorem eA(w:jW)(os:lJ):openSeen qv IT (importedModules jM.main.body) XT true (WW w os)=openGood qv IT:=by kernel_rfl
theorem aj:LeftO jM qv IT XT HH.obs HH.val 6290 true:=
 LeftO.of_pieces (H₀:=qj) (H₁:=H1) (gs₀:=rZ []) (gs₁:=rZ []) (d₀:=vw) (d₁:={}) (k₀:=wg) (k₁:=841) (m₀:=11) (ann:=some (kx 6)) (M:=3112)
  (boot_open (by kernel_rfl) (by decide) (λs=>by kernel_rfl)) Z1 VT (by decide)
  (λw=>funext λos=>looks_pair (eB w os) (looks_pair (eA w os) (ez w os)))
theorem gO(hc:∀(d:DefRec) (kwd:List (jX×kH)),defOf qv rr.name=some (d,kwd)->WalkO qv IT (XL qv []) HH.says rr.toRowW d kwd λf vs=>PySem.call f vs):po.Holds:=by
 w_on
 refine holds_law (by kernel_rfl) λsaid=>?_
 refine holds_open (q:=qv) (loose:=IT) (Xt:=XT) (XP:=XL qv []) (Yf:=HH.obs) (Ya:=HH.val) (YP:=HH.says) (N:=6290) aj (Hook.of HH) (Hook.keeps HH) (λs e=>xl_of s (sh.mp e).1) XL.keeps (by rfl) (by rfl) (by rfl) (λs e=>recFacts_of (sh.mp e).2) (by rfl) (by first|assumption|decide +kernel) (by decide +kernel) ⟨rfl,rfl,rfl,rfl,rfl,by decide +kernel⟩ ?hw ?hc
 case hw=>w_witness2
 case hc=>exact hc _ _ rfl
structure Bn (w:jW) (h:jY):Prop where
 k:(KK w.params).In h
theorem Bn.get{w:jW}{h:jY}(K:Bn w h)(a:jL){o:nH}(e:(KK w.params).lookup a=some o):h.get? a=some o:=K.k a o e
theorem Bn.keeps{w:jW}{h h':jY}(K:Bn w h)(k:∀b o,h.get? b=some o->h'.get? b=some o):Bn w h':=⟨λa o e=>k _ _ (K.k a o e)⟩
noncomputable def Ot (o:nH):Array ny:=match o.data with | .dict es _=>es|_=>#[]
theorem ew{h:jY}{a:jL}{m:jX->Option jB}{o:nH}(n:h.Ns a m)(ho:h.get? a=some o)(x:jX):m x=nsFind (Ot o) x:=by
 obtain⟨o',es,ep,ho',hd,_,q⟩:=n
 rw[ho] at ho'
 obtain rfl:=kR ho'
 rw[<-q x]
 unfold Ot
 rw[hd]
theorem Bn.mg{w:jW}{h:jY}(K:Bn w h){mg:jX->Option jB}(n:h.Ns mN mg)(x:jX){r:Option jB}(e:nsFind (Ot (OL w.params)) x=r):mg x=r:=
 (ew n (K.get 3 (o:=OL w.params) (by kernel_rfl)) x).trans e
noncomputable def em:Data->Option (Array jB)
 | .seq vs _=>some vs
 | _=>none
theorem X6{d:Data}{vs:Array jB}(e:em d=some vs):∃n,d=.seq vs n:=by
 cases d<;>first|exact B6 e|exact⟨_,by rw[si e]⟩
noncomputable def gB (f:jB->Option jO):List jB->Option (List jO)
 | []=>some []
 | v::vs=>(f v).bind λd=>(gB f vs).map (d::·)
noncomputable def rd (K:Frag):Nat->jB->Option jO
 | 0,_=>none
 | n+1,v=>match v with
  | .int i _=>some (.int i)
  | .str x _=>some (.str x)
  | .ref a=>(K.lookup a).bind λo=>(em o.data).bind λvs=>if o.cls=.type "tuple" then(gB (rd K n) vs.toList).map .tuple else none
  | _=>none
theorem Z4{h:jY}{f:jB->Option jO}(hf:∀v d,f v=some d->Ak h v d [])(vs:List jB):∀ds,gB f vs=some ds->Ae h vs ds []:=by
 induction vs with
 | nil=>intro ds e;rw[<-si e];exact .nil
 | cons v vs ih=>
  intro ds e
  obtain⟨d,a,e⟩:=mT.mp e
  obtain⟨r,b,e⟩:=j6.mp e
  rw[<-e];exact Ae.cons (as:=[]) (bs:=[]) (hf v d a) (ih r b)
theorem er{K:Frag}{h:jY}(k:K.In h)(n:Nat):∀v d,rd K n v=some d->Ak h v d []:=by
 induction n with
 | zero=>exact λ_ _ e=>B6 e
 | succ n ih=>
  intro v d e
  cases v with
  | int i t=>rw[<-si e];exact .int _ _
  | str x t=>rw[<-si e];exact .str _ _
  | ref a=>
   obtain⟨o,hl,e⟩:=mT.mp e
   obtain⟨vs,hs,e⟩:=mT.mp e
   obtain⟨m,hm⟩:=X6 hs
   by_cases c:o.cls=.type "tuple"
   ·rw[if_pos c] at e
    obtain⟨r,b,e⟩:=j6.mp e
    rw[<-e];exact .tuple (k _ _ hl) c hm (Z4 ih _ _ b)
   ·rw[if_neg c] at e;exact B6 e
  | _=>exact B6 e
noncomputable def ey:Data->Option jB
 | .fields vs=>vs[1]?
 | _=>none
theorem Ys{d:Data}{v:jB}(e:ey d=some v):∃vs,d=.fields vs/\vs[1]?=some v:=by
 cases d<;>first|exact B6 e|exact⟨_,rfl,e⟩
theorem OH{w:jW}{h:jY}(K:Bn w h){i a c:Nat}{o oc:nH}{t:ut}{pm doc dv kdv:jB}(e:(KK w.params).lookup a=some o)(d:o.data=.func (Az i pm (.ref c) doc dv kdv))(e':(KK w.params).lookup c=some oc)(q:ey oc.data=some (.str (PA (stm i)) t)):Av h i a dv kdv:=by
 obtain⟨vs,d',q⟩:=Ys q
 exact⟨⟨o,pm,.ref c,doc,K.get a e,d,⟨c,oc,vs,t,rfl,K.get c e',d',q⟩⟩⟩
theorem gY{w:jW}{h:jY}(K:Bn w h):Av h 41 346 jD jD:=OH K (c:=345) (o:=Nr w.params) (oc:=Nt w.params) (t:=740) (pm:=(kT (jz "law_rt0115_01") 737)) (doc:=jD) (by kernel_rfl) (by kernel_rfl) (by kernel_rfl) (by kernel_rfl)
theorem gX{w:jW}{h:jY}(K:Bn w h):Av h 42 353 jD jD:=OH K (c:=352) (o:=Np w.params) (oc:=Nq w.params) (t:=754) (pm:=(kT (jz "law_rt0115_01") 737)) (doc:=jD) (by kernel_rfl) (by kernel_rfl) (by kernel_rfl) (by kernel_rfl)
theorem gW{w:jW}{h:jY}(K:Bn w h):Av h 43 358 jD jD:=OH K (c:=357) (o:=Nn w.params) (oc:=No w.params) (t:=763) (pm:=(kT (jz "law_rt0115_01") 737)) (doc:=jD) (by kernel_rfl) (by kernel_rfl) (by kernel_rfl) (by kernel_rfl)
theorem gV{w:jW}{h:jY}(K:Bn w h):Av h 44 363 jD jD:=OH K (c:=362) (o:=Nk w.params) (oc:=Nl w.params) (t:=769) (pm:=(kT (jz "law_rt0115_01") 737)) (doc:=jD) (by kernel_rfl) (by kernel_rfl) (by kernel_rfl) (by kernel_rfl)
theorem gU{w:jW}{h:jY}(K:Bn w h):Av h 45 370 jD jD:=OH K (c:=369) (o:=Ni w.params) (oc:=Nj w.params) (t:=775) (pm:=(kT (jz "law_rt0115_01") 737)) (doc:=jD) (by kernel_rfl) (by kernel_rfl) (by kernel_rfl) (by kernel_rfl)
theorem gT{w:jW}{h:jY}(K:Bn w h):Av h 46 377 jD jD:=OH K (c:=376) (o:=Ng w.params) (oc:=Nh w.params) (t:=787) (pm:=(kT (jz "law_rt0115_01") 737)) (doc:=jD) (by kernel_rfl) (by kernel_rfl) (by kernel_rfl) (by kernel_rfl)
theorem gS{w:jW}{h:jY}(K:Bn w h):Av h 47 384 jD jD:=OH K (c:=383) (o:=Nd w.params) (oc:=Nf w.params) (t:=805) (pm:=(kT (jz "law_rt0115_01") 737)) (doc:=jD) (by kernel_rfl) (by kernel_rfl) (by kernel_rfl) (by kernel_rfl)
theorem gR{w:jW}{h:jY}(K:Bn w h):Av h 48 389 jD jD:=OH K (c:=388) (o:=Ie w.params) (oc:=Du w.params) (t:=824) (pm:=(kT (jz "law_rt0115_01") 737)) (doc:=jD) (by kernel_rfl) (by kernel_rfl) (by kernel_rfl) (by kernel_rfl)
theorem eH{w:jW}{h:jY}(K:Bn w h):Av h 49 394 jD jD:=OH K (c:=393) (o:=Nb w.params) (oc:=Nc w.params) (t:=830) (pm:=(kT (jz "law_rt0115_01") 737)) (doc:=jD) (by kernel_rfl) (by kernel_rfl) (by kernel_rfl) (by kernel_rfl)
theorem hG{w:jW}{h:jY}(K:Bn w h):Av h 18 299 jD jD:=OH K (c:=298) (o:=Nw w.params) (oc:=Nx w.params) (t:=653) (pm:=(kT (jz "cpy313.stat") 650)) (doc:=(kT (DL (stm 18)) 658)) (by kernel_rfl) (by kernel_rfl) (by kernel_rfl) (by kernel_rfl)
theorem gZ{w:jW}{h:jY}(K:Bn w h):Av h 39 339 jD jD:=OH K (c:=338) (o:=Nu w.params) (oc:=Nv w.params) (t:=725) (pm:=(kT (jz "cpy313.stat") 650)) (doc:=(kT (jz "Convert a file's mode to a string of the form '-rwxrwxrwx'.") 735)) (by kernel_rfl) (by kernel_rfl) (by kernel_rfl) (by kernel_rfl)
theorem jr{w:jW}{h:jY}(K:Bn w h):Av h 7 253 jD jD:=OH K (c:=252) (o:=Go w.params) (oc:=Gp w.params) (t:=586) (pm:=(kT (jz "binascii") 583)) (doc:=jD) (by kernel_rfl) (by kernel_rfl) (by kernel_rfl) (by kernel_rfl)
theorem jq{w:jW}{h:jY}(K:Bn w h):Av h 8 260 jD jD:=OH K (c:=259) (o:=Ij w.params) (oc:=Ik w.params) (t:=594) (pm:=(kT (jz "binascii") 583)) (doc:=jD) (by kernel_rfl) (by kernel_rfl) (by kernel_rfl) (by kernel_rfl)
theorem io{w:jW}{h:jY}(K:Bn w h):Av h 10 268 jD (kx 261):=OH K (c:=267) (o:=Ih w.params) (oc:=Ii w.params) (t:=605) (pm:=(kT (jz "binascii") 583)) (doc:=jD) (by kernel_rfl) (by kernel_rfl) (by kernel_rfl) (by kernel_rfl)
theorem ie{w:jW}{h:jY}(K:Bn w h):Av h 12 277 (kx 270) jD:=OH K (c:=276) (o:=ND w.params) (oc:=NE w.params) (t:=620) (pm:=(kT (jz "binascii") 583)) (doc:=jD) (by kernel_rfl) (by kernel_rfl) (by kernel_rfl) (by kernel_rfl)
theorem hW{w:jW}{h:jY}(K:Bn w h):Av h 15 285 (kx 278) jD:=OH K (c:=284) (o:=NA w.params) (oc:=NB w.params) (t:=633) (pm:=(kT (jz "cpy313.base64") 630)) (doc:=(kT (DL (stm 15)) 640)) (by kernel_rfl) (by kernel_rfl) (by kernel_rfl) (by kernel_rfl)
theorem hU{w:jW}{h:jY}(K:Bn w h):Av h 16 292 jD jD:=OH K (c:=291) (o:=Ny w.params) (oc:=Nz w.params) (t:=643) (pm:=(kT (jz "cpy313.base64") 630)) (doc:=(kT (DL (stm 16)) 648)) (by kernel_rfl) (by kernel_rfl) (by kernel_rfl) (by kernel_rfl)
theorem gQ{w:jW}{h:jY}(K:Bn w h):Av h 50 399 jD jD:=OH K (c:=398) (o:=M9 w.params) (oc:=Na w.params) (t:=836) (pm:=(kT (jz "law_rt0115_01") 737)) (doc:=jD) (by kernel_rfl) (by kernel_rfl) (by kernel_rfl) (by kernel_rfl)
theorem XZ(w:jW):rd (KK w.params) 5 (kx 332)=some Gu:=by kernel_rfl
theorem eh{w:jW}{h:jY}{mg mb:jX->Option jB}(K:Bn w h)(G:Gl mg mb h):Br mg mb h:=
 ⟨G,by
  have e:(RE.all λx=>(nsFind (Ot (OL w.params)) x).isNone)=true:=by kernel_rfl
  intro x hx
  exact K.mg G.g x (Option.isNone_iff_eq_none.mp (ky.mp e x hx))⟩
noncomputable def YC {w:jW} {h:jY} {mg mb:jX->Option jB} (K:Bn w h) (G:Gl mg mb h):Jq w mg mb h where
 T:=eh K G
 a41:=346
 g41:=K.mg G.g _ (by kernel_rfl)
 f41:=gY K
 a42:=353
 g42:=K.mg G.g _ (by kernel_rfl)
 f42:=gX K
 a43:=358
 g43:=K.mg G.g _ (by kernel_rfl)
 f43:=gW K
 a44:=363
 g44:=K.mg G.g _ (by kernel_rfl)
 f44:=gV K
 a45:=370
 g45:=K.mg G.g _ (by kernel_rfl)
 f45:=gU K
 a46:=377
 g46:=K.mg G.g _ (by kernel_rfl)
 f46:=gT K
 a47:=384
 g47:=K.mg G.g _ (by kernel_rfl)
 f47:=gS K
 a48:=389
 g48:=K.mg G.g _ (by kernel_rfl)
 f48:=gR K
 a49:=394
 g49:=K.mg G.g _ (by kernel_rfl)
 f49:=eH K
 a18:=299
 g18:=K.mg G.g _ (by kernel_rfl)
 f18:=hG K
 a39:=339
 g39:=K.mg G.g _ (by kernel_rfl)
 f39:=gZ K
 tb:=(kx 332)
 gtb:=K.mg G.g _ (by kernel_rfl)
 rtb:=er K.k 5 _ _ (XZ w)
 a7:=253
 g7:=K.mg G.g _ (by kernel_rfl)
 f7:=jr K
 a8:=260
 g8:=K.mg G.g _ (by kernel_rfl)
 f8:=jq K
 t64:=601
 g64:=K.mg G.g _ (by kernel_rfl)
 a10:=268
 g10:=K.mg G.g _ (by kernel_rfl)
 k10:=(kx 261)
 f10:=io K
 a12:=277
 g12:=K.mg G.g _ (by kernel_rfl)
 d12:=(kx 270)
 aN:=269
 tN:=618
 gN:=K.mg G.g _ (by kernel_rfl)
 e12:=⟨270,Ig w.params,0,rfl,K.get 270 (by kernel_rfl),by kernel_rfl⟩
 f12:=ie K
 a15:=285
 g15:=K.mg G.g _ (by kernel_rfl)
 d15:=(kx 278)
 e15:=⟨278,NC w.params,0,rfl,K.get 278 (by kernel_rfl),by kernel_rfl⟩
 f15:=hW K
 a16:=292
 g16:=K.mg G.g _ (by kernel_rfl)
 f16:=hU K
section
set_option tactic.hygienic true
theorem QY{h:jY}:∀{vs:List jB} {ns:List Int},tw vs ns->Ae h vs (ns.map .int) []:=by
 intro vs ns r
 induction r with
 | nil=>exact .nil
 | cons i t x ih=>exact Ae.cons (as:=[]) (bs:=[]) (.int _ _) ih
end
section
set_option tactic.hygienic true
noncomputable abbrev CS:jL:=242
structure IN (h:jY) (I D:jL) (m:jX->Option jB) (k:Nat):Prop where
 inst:h.get? I=some (instObj CS D)
 dict:∃es n,h.get? D=some (dictOf es n)/\(∀x,getL x es=some (m x))/\es.length<=k
noncomputable def Bm (m:jX->Option jB) (x:jX) (v:jB):jX->Option jB:=λy=>if y=x then some v else m y
theorem IN.at'{h h':jY}{I D:jL}{m:jX->Option jB}{k:Nat}(i:IN h I D m k)(hI:h'.get? I=h.get? I)(hD:h'.get? D=h.get? D):IN h' I D m k:=
 ⟨hI.trans i.inst,Ao i.dict λes n e r=>(AT es n (hD.trans e) r)⟩
theorem IN.keeps{h h':jY}{I D:jL}{m:jX->Option jB}{k:Nat}(i:IN h I D m k)(hk:∀b o,h.get? b=some o->h'.get? b=some o):IN h' I D m k:=
 ⟨hk _ _ i.inst,Ao i.dict λes n e r=>(AT es n (hk _ _ e) r)⟩
theorem IN.ne{h:jY}{I D:jL}{m:jX->Option jB}{k:Nat}(i:IN h I D m k):I≠D:=by
 refine Ao i.dict λes n e _=>?_
 rintro rfl
 have:=i.inst
 rw[e] at this
 cases this
theorem IN.instAt{h:jY}{I D:jL}{m:jX->Option jB}{k:Nat}(i:IN h I D m k):∃es n,W.InstAt h I (instObj CS D) CS (some (dictOf es n))/\(∀x,getL x es=some (m x))/\es.length<=k/\h.get? D=some (dictOf es n):=by
 refine BD i.dict λes n e r1 r2=>?_
 exact C6 es n ⟨i.inst,rfl,rfl,e⟩ r1 r2 e
theorem U5{es:List ny}{m:jX->Option jB}{x:jX}{hsh:Int}{t:ut}{v:jB}(g:∀y,getL y es=some (m y)):∀y,getL y (putL x hsh (.str x t) v es)=some (Bm m x v y):=by
 delta m x hsh t v at es g
 have noref:(es.any (·.refKey))=true->∀y,(es.find? (·.key.isStr y)).isSome=true:=by
  intro h y
  have:=g y
  unfold getL at this
  split at this
  ·rename_i e he;rw[he];rfl
  ·exact B0 (if_pos h) this
 have hf:∀y,((putL x hsh (.str x t) v es).find? (·.key.isStr y)).map (·.val)=if y=x then some v else(es.find? (·.key.isStr y)).map (·.val):=by
  intro y
  clear g noref
  induction es with
  | nil=>
   unfold putL
   rw[me]
   show Option.map wi (match(x == y) with|true=>some (⟨hsh,.str x t,v⟩:ny)|false=>([]:List ny).find? (·.key.isStr y))=_
   by_cases h:y=x
   ·subst h;simp
   ·have:(x == y)=false:=by rw[beq_eq_false_iff_ne];exact ll h
    rw[this,if_neg h]
  | cons e es ih=>
   unfold putL
   split
   ·rename_i hk
    rw[me,me]
    show Option.map wi (match e.key.isStr y with|true=>some (⟨e.hash,e.key,v⟩:ny)|false=>es.find? (·.key.isStr y))=_
    by_cases h:y=x
    ·subst h;rw[hk];simp
    ·have:e.key.isStr y=false:=by
      cases he:e.key<;>simp only[Value.isStr,he] at hk ⊢
      ·rw[beq_iff_eq] at hk;subst hk;rw[beq_eq_false_iff_ne];exact ll h
      all_goals simp_all
     rw[this,if_neg h]
   ·rename_i hk
    rw[me,me]
    cases hy:e.key.isStr y with
    | true=>
     have:y≠x:=by rintro rfl;exact hk hy
     simp[this]
    | false=>exact ih
 intro y
 have gy:=g y
 have:=hf y
 unfold getL at gy ⊢
 unfold Bm
 by_cases h:y=x
 ·rw[if_pos h] at this ⊢
  refine Af (j6.mp this) λe he hv=>?_
  rw[he];dsimp only;rw[hv]
 ·rw[if_neg h] at this ⊢
  cases hfy:es.find? (·.key.isStr y) with
  | some e=>
   rw[hfy] at this gy
   refine Af (j6.mp this) λe' he hv=>?_
   rw[he];dsimp only at gy ⊢;rw[hv];exact gy
  | none=>
   rw[hfy] at this gy
   have hn:(putL x hsh (.str x t) v es).find? (·.key.isStr y)=none:=by
    cases q:(putL x hsh (.str x t) v es).find? (·.key.isStr y) with
    | none=>rfl
    | some e=>rw[q] at this;exact XK this
   rw[hn]
   dsimp only at gy ⊢
   have nr:(es.any (·.refKey))=false:=by
    cases q:es.any (·.refKey) with
    | false=>rfl
    | true=>have:=noref q y;rw[hfy] at this;cases this
   have nr2:((putL x hsh (.str x t) v es).any (·.refKey))=false:=by
    clear g noref hf this gy hfy hn
    induction es with
    | nil=>rfl
    | cons e es ih=>
     rw[vb,sg] at nr
     unfold putL
     split
     ·rw[vb,nr.2,Bool.or_false]
      exact nr.1
     ·rw[vb,nr.1,ih nr.2];rfl
   rw[nr] at gy
   rw[nr2]
   exact gy
theorem OY{x:jX}{hsh:Int}{key v:jB}:∀{es:List ny},(putL x hsh key v es).length<=es.length+1
 | []=>jN _
 | e::r=>by
  unfold putL
  split
  ·show r.length+1<=r.length+1+1;rwa[]
  ·have:=OY (x:=x) (hsh:=hsh) (key:=key) (v:=v) (es:=r)
   show _+1<=r.length+1+1;rwa[this]
section
variable {w:jW} {A:kA} {E:jB->jE->Prop} {s:jE} {I D:jL} {m:jX->Option jB} {k:Nat}
theorem Jf(P:jC)(x:jX):plainGet (KK P) CS x=true:=by
 show plainGet (KK P) CS "a"=true
 kernel_rfl
theorem Xk(P:jC):hasDictIn (KK P) CS=true:=by kernel_rfl
theorem aM(P:jC):vv (KK P) (.ref CS) "__setattr__"=some (some (.builtin "object.__setattr__")):=by kernel_rfl
theorem YX(P:jC):plainOver (KK P) CS=true:=by kernel_rfl
theorem Rh{x:jX}{v:jB}{expr:Bool}{Q:jB->jE->Prop}(K:Bn w s.heap)(i:IN s.heap I D m k)(hv:m x=some v)(q:Q v {s with toks:=s.toks+1})(hh:autoParam (handedIn v=true) aR)
 (ha:autoParam (vv (KK w.params) (.ref CS) x=some none) aK):wpAny (model pw w) A (pU (.ref I) x expr) Q E s:=by
 refine BD i.instAt λes n ia g _=>?_
 exact get_value K.k ia (w9 (Jf w.params x)).1 (findObj_own (Xk w.params) ha (by rfl) (by rw[lookIn_dict,g,hv])) hh q
theorem Ep{x:jX}{f:jL}{pl:vg Bool}{Q:jB×List jB->jE->Prop}(K:Bn w s.heap)(i:IN s.heap I D m k)(hv:m x=none)(q:Q (.ref f,[.ref I]) s)(hf:autoParam (vv (KK w.params) (.ref CS) x=some (some (.ref f))) aK)(ht:autoParam (isFn (KK w.params) (.ref f)=true) aK) :
 wpAny (model pw w) A (nv (.ref I) x pl) Q E s:=by
 refine BD i.instAt λes n ia g _=>?_
 exact method_fn K.k ia (w9 (Jf w.params x)).1 (w9 (Jf w.params x)).2 hf (beq_iff_eq.mp ht) (by show(lookIn x (dictOf es n)).map _=_;rw[lookIn_dict,g,hv];rfl) q
theorem F7{x:jX}{v:jB}{Q:Unit->jE->Prop}(K:Bn w s.heap)(i:IN s.heap I D m k)(hk:k<=900)
 (q:∀h',IN h' I D (Bm m x v) (k+1)->oo D s.heap h'->Q () {s with heap:=h',toks:=s.toks+2})(ht:autoParam (wv (KK w.params) CS x=some none) aK):wpAny (model pw w) A (setAttr (.ref I) x v) Q E s:=by
 delta w A E I D m k x v Q at s K i hk q ht
 obtain⟨hh,gg,dd,tt,os⟩:=s
 have X:(KK w.params).In hh:=K.k
 replace i:IN hh I D m k:=i
 refine E8 i.instAt λes n ia g hl hD=>?_
 refine set_plain (s:=⟨hh,gg,dd,tt,os⟩) X ia (aM w.params) ?_
 refine osa_open (s:=⟨hh,gg,dd,tt+1,os⟩) X ia (YX w.params) ht λb=>?_
 refine Af (any_some (Xk w.params)) λcd hc hd'=>?_
 have hx:=i.inst
 refine jA (jJ (jA (jA (oz hx (jA ((xa X hc).here ?_))))))
 rw[hd']
 refine jJ (a:=some D) (jA (jJ (jA ?_)))
 unfold nsSet
 refine jA (jA (wpAny_askSetting (jJ (jA (wn (jA (oz hD ?_)))))))
 dsimp only
 have gl:=g x
 unfold getL at gl
 have c:(!es.toArray.any (·.key.isStr x)&&es.toArray.any (·.refKey))=false:=by
  rw[wT,wT]
  split at gl
  ·rename_i en he
   rw[wU.mpr (Ac en (nE he) (List.find?_some he))];rfl
  ·split at gl
   ·exact B6 gl
   ·rename_i z;rw[Bool.not_eq_true] at z;rw[z,Bool.and_false]
 rw[aRefKeyMayBeTheName_at,c]
 have hpn:=putName_dict x (qo w.params x) (.str x (tt+1)) v es n
 have hD':(hh.update D (Obj.putName x (qo w.params x) (.str x (tt+1)) v)).get? D=some (dictOf (putL x (qo w.params x) (.str x (tt+1)) v es) (putN x es n)):=by
  rw[<-hpn];exact mM _ hD (by rw[hpn];rfl)
 refine wpAny_updatePart hD ?_
 have hlen:=OY (x:=x) (hsh:=qo w.params x) (key:=.str x (tt+1)) (v:=v) (es:=es)
 refine jA (wpAny_lookBehind hD' (pastItsLine_dict (by rw[kI,sizeLine_eq];rwa[hk,hl,hlen])) ?_)
 refine jJ (q _ ⟨?_,_,_,hD',U5 g,by rwa[hl,hlen]⟩ ?_)
 ·exact(mj _ _ _ _ i.ne).trans i.inst
 ·exact⟨by simp[Heap.update],λb hb=>mj _ _ _ _ hb⟩
end
end
section
set_option backward.match.sparseCases true
noncomputable def A6 (s:jE) (D:jL):jE:={s with heap:=s.heap.update D λo=>{o with data:=.freed}}
theorem Bj{s:jE}{D b:jL}(h:b≠D):(A6 s D).heap.get? b=s.heap.get? b:=mj _ _ _ _ h
theorem A3{s:jE}{D:jL}:(A6 s D).heap.get? D=none:=by
 obtain⟨⟨objs,l⟩,g,d,t,os⟩:=s
 delta A6 Heap.get? Heap.update
 dsimp only
 rw[Array.getElem?_modify,if_pos rfl]
 cases objs[D]?<;>rfl
theorem Er{s:jE}{D b:jL}{o:nH}(e:(A6 s D).heap.get? b=some o):s.heap.get? b=some o/\b≠D:=by
 by_cases h:b=D
 ·rw[h,A3] at e;exact B6 e
 ·rw[Bj h] at e;exact⟨e,h⟩
noncomputable def CF (prog:lD) (w:jW) (A:kA) (s₀ s:jE) (fd:nU) (a:jL) (ns:List jX) (O:Ap):Cx:=
 ⟨prog,w,A.deeper (callEnvC fd s.heap.objs.size a),s₀,callEnvC fd s.heap.objs.size a,ns,("",s.heap.objs.size)::O⟩
theorem Ho{prog:lD}{w:jW}{A:kA}{xG:jY}{n:Nat}{a:jL}{o:nH}{fd:nU}{body:List l9}{ps ns:List jX}{avs:List AV}{args:Args}{vs:List jB}{O:Ap}{s s₀:jE}{R:sY->jE->Prop}
 (X:Bf fd body ps ns)(ho:xG.get? a=some o)(hd:o.data=.func fd)(hlim:xG.NoLimit)(hcd:xG.CodeRec fd.code fd.qualname)
 (room:A0 A (n+1))(hk:HK xG s)(own:CJ O s)(xV:∀b o,s₀.heap.get? b=some o->s.heap.get? b=some o)(hO:∀p∈O,∃o,s₀.heap.get? p.2=some o)
 (hbind:ux s fd args (ps.zip vs))(hlen:vs.length=ps.length)(rv:DD O s.heap avs vs)
 (hB:Nm (CF prog w A s₀ s fd a ns O)->A0 (A.deeper (callEnvC fd s.heap.objs.size a)) n->∀s' (E':jB->jE->Prop),St (CF prog w A s₀ s fd a ns O) (("",s.heap.objs.size)::O) (Bi avs (ns.length-ps.length)) s'->kY s s'->
  wpAny (model prog w) (A.deeper (callEnvC fd s.heap.objs.size a)) (execs body (callEnvC fd s.heap.objs.size a)) (λf s''=>R (.ok (.ret (match f with | .ret v=>v|_=>.none))) s'') E' s') :
 codeAny (model prog w) A (.call (.ref a) args) R s:=by
 delta prog w A xG n a o fd body ps ns avs args vs O s s₀ R at X ho hd hlim hcd room hk own xV hO hbind hlen rv hB
 have hkind:∀x∈ps.zip vs,fd.scope.names.lookup x.1=some .local\/(fd.scope.names.lookup x.1=some .cell/\((cellsFrom (s.heap.objs.size+1) fd.scope.names []).lookup x.1).isSome=true):=by
  intro x hx
  rcases X.kinds x.1 (xj hx).1 with h|⟨h,h'⟩
  ·exact .inl h
  ·exact .inr ⟨h,h' _⟩
 obtain⟨rest,hns⟩:=X.pre
 have hps:(ps.zip vs).map (·.1)=ps:=wQ (tD hlen.symm)
 have hpsn:((ps.zip vs).map (·.1)).Nodup:=by
  rw[hps]
  have:=X.nodup
  rw[hns] at this
  exact(tz.mp this).1
 refine(wH (by have:=room.depth;rwa[this]) (hk _ _ ho) hd X.co X.gen X.body (E7 hcd λc oc vs tq h1 h2 h3=>(Ug c oc vs tq h1 (hk _ _ h2) h3)) (hbind _ _ _ _ ?_))
 rw[X.clo]
 refine qY X.kind hkind λenv he s' x=>?_
 subst he
 refine⟨(hlim.keeps hk).keeps x.toInCall.keep,codeAny_func ?_⟩
 have hfresh:s.heap.get? s.heap.objs.size=none:=gn λo' e=>absurd (kq e) (lp _)
 have hfresh0:s₀.heap.get? s.heap.objs.size=none:=gn λo' e=>B0 hfresh (xV _ _ e)
 have hnO:¬O.has s.heap.objs.size:=by
  rintro⟨p,hp,e⟩
  obtain⟨o',ho'⟩:=own.live p hp
  rw[e] at ho'
  exact absurd (kq ho') (lp _)
 have N:Nm (CF prog w A s₀ s fd a ns O):=by
  refine⟨X.nodup,X.kind,x.apart,X.cells _,?_⟩
  intro b zz1;refine Af zz1 λp hp e=>?_
  rcases jG.mp hp with rfl|hp
  ·exact .inl e.symm
  ·exact .inr (e▸hO p hp)
 have t:St (CF prog w A s₀ s fd a ns O) (("",s.heap.objs.size)::O) (Bi avs (ns.length-ps.length)) s':=by
  refine⟨λb o e=>x.toInCall.keep b o (xV b o e),(Ac _ x.toInCall.ns λi y b e e'=>?_),λy c e=>?_,?_,λp hp=>?_,λ_ h=>h,(Ac _ (.head _) rfl),hfresh0⟩
  ·have e:ns[i]?=some y:=e
   unfold Bi at e'
   have hi:i<avs.length:=by
    by_cases hi:i<avs.length
    ·exact hi
    ·rw[uI (by simpa using og hi)] at e'
     obtain⟨_,e'⟩:=jK.mp e'
     simp at e'
   rw[o8 (by simpa using hi),j8] at e'
   refine Af (j6.mp e') λav hav e'=>?_
   (replace e':=si e';subst e')
   refine Af (TH rv hav) λv hv rv1=>?_
   have hip:i<ps.length:=by rw[<-hlen,<-rv.length] at *;exact(jK.mp hv).1
   have hy:ps[i]?=some y:=by rw[hns,o8 hip] at e;exact e
   have hz:(ps.zip vs)[i]?=some (y,v):=by rw[uV];exact⟨hy,hv⟩
   refine Ac v ?_ ?_
   ·rcases X.kinds y (kt hy) with hl|⟨hl,hc⟩
    ·exact .inl ⟨hl,PI hpsn hz hl⟩
    ·obtain⟨c,hc⟩:=uF.mp (hc (s.heap.objs.size+1))
     refine .inr ⟨hl,c,hc,?_⟩
     have:=x.cell y c hc
     rwa[PJ hpsn hz hl] at this
   ·show VR _ _ av v
    cases av with
    | py d=>
     refine Af rv1 λas r q=>?_
     refine Ac as (Ak.keeps x.toInCall.keep r) ?_
     rintro b hb ⟨p,hp,e⟩
     rcases jG.mp hp with rfl|hp
     ·obtain⟨o',ho'⟩:=BA r b hb
      have e:s.heap.objs.size=b:=e
      rw[<-e,hfresh] at ho';exact B6 ho'
     ·exact q b hb (Ac p hp e)
    | «by» b=>exact rv1
    | raw u=>exact rv1
    | st R ok=>
     refine Af rv1 λas r q=>?_
     refine Ac as (ok.keeps r x.toInCall.keep) ?_
     rintro b hb ⟨p,hp,e⟩
     rcases jG.mp hp with rfl|hp
     ·obtain⟨o',ho'⟩:=ok.live r b hb
      have e:s.heap.objs.size=b:=e
      rw[<-e,hfresh] at ho';exact B6 ho'
     ·exact q b hb (Ac p hp e)
    | obj P=>
     refine C9 rv1 λa1 o e1 g p q z=>?_
     refine C5 a1 o e1 (x.toInCall.keep _ _ g) p ?_ z
     rintro⟨p,hp,e⟩
     rcases jG.mp hp with rfl|hp
     ·have e:s.heap.objs.size=a1:=e
      rw[<-e,hfresh] at g;exact B6 g
     ·exact q (Ac p hp e)
  ·exact Ag _ (x.cell y c e)
  ·rw[kM,md]
   refine⟨λhm=>?_,own.nodup⟩
   obtain⟨p,hp,e⟩:=kn.mp hm
   exact hnO (Ac p hp e)
  ·rcases jG.mp hp with rfl|hp
   ·refine CG x.toInCall.ns λo' _ _ e _=>?_;exact Ag o' e
   ·obtain⟨o',e⟩:=own.live p hp;exact Ag o' (x.toInCall.keep _ _ e)
 have kk:kY s s':=by
  refine B1 x.toInCall.same λh1 tk1 zz1=>?_;obtain rfl:=zz1
  exact AT h1 tk1 rfl x.toInCall.keep
 exact hB N room.deeper s' _ t kk
theorem Jc{prog:lD}{w:jW}{A:kA}{xG:jY}{n:Nat}{a:jL}{o:nH}{fd:nU}{body:List l9}{ps ns:List jX}{avs:List AV}{args:Args}{vs:List jB}{O:Ap}{s s₀:jE}{Q:jB->jE->Prop}{E:jB->jE->Prop}
 (X:Bf fd body ps ns)(ho:xG.get? a=some o)(hd:o.data=.func fd)(hlim:xG.NoLimit)(hcd:xG.CodeRec fd.code fd.qualname)
 (room:A0 A (n+1))(hk:HK xG s)(own:CJ O s)(xV:∀b o,s₀.heap.get? b=some o->s.heap.get? b=some o)(hO:∀p∈O,∃o,s₀.heap.get? p.2=some o)
 (hbind:ux s fd args (ps.zip vs))(hlen:vs.length=ps.length)(rv:DD O s.heap avs vs)
 (hB:Nm (CF prog w A s₀ s fd a ns O)->A0 (A.deeper (callEnvC fd s.heap.objs.size a)) n->∀s' (E':jB->jE->Prop),St (CF prog w A s₀ s fd a ns O) (("",s.heap.objs.size)::O) (Bi avs (ns.length-ps.length)) s'->kY s s'->
  wpAny (model prog w) (A.deeper (callEnvC fd s.heap.objs.size a)) (execs body (callEnvC fd s.heap.objs.size a)) (λf s''=>Q (match f with | .ret v=>v|_=>.none) s'') E' s') :
 wpAny (model prog w) A (call (.ref a) args.pos args.kw) Q E s:=
 mS (Ho X ho hd hlim hcd room hk own xV hO hbind hlen rv hB)
theorem Dw{h:jY}{D:jL}{o:nH}{es:Array ny}{n:Nat}(e:h.get? D=some o)(hd:o.data=.dict es n):∀{v:jB} {d:jO} {as:List jL},Ak h v d as->D∉as:=by
 intro v d as r
 refine Ak.rec (motive_1:=λv d as _=>D∉as) (motive_2:=λvs ds as _=>D∉as) ?_ ?_ ?_ ?_ ?_ ?_ ?_ ?_ ?_ r
 ·exact λh=>nomatch h
 ·exact λ_ h=>nomatch h
 ·exact λ_ _ h=>nomatch h
 ·exact λ_ _ h=>nomatch h
 ·intro a o' vs n xs as e1 e2 e3 _ ih hm
  rcases jG.mp hm with rfl|hm
  ·(replace e1:=CQ e e1;subst e1);rw[hd] at e3;exact jS e3
  ·exact ih hm
 ·intro a o' vs n xs as e1 e2 e3 _ ih hm;exact ih hm
 ·intro a o' vs n xs as e1 e2 e3 _ ih hm
  rcases jG.mp hm with rfl|hm
  ·(replace e1:=CQ e e1;subst e1);rw[hd] at e3;exact jS e3
  ·exact ih hm
 ·exact λh=>nomatch h
 ·intro v vs d ds as bs _ _ ih1 ih2 hm
  exact(jU.mp hm).elim ih1 ih2
theorem EC{h:jY}{D:jL}{o:nH}{es:Array ny}{n:Nat}(e:h.get? D=some o)(hd:o.data=.dict es n){v:List jB}{d:List jO}{as:List jL}(r:Ae h v d as):D∉as:=
 Ae.ind (P:=λ_ _ as=>D∉as) (λh=>nomatch h) (λr _ ih h=>(jU.mp h).elim (Dw e hd r) ih) r
noncomputable def C8:Option Bd->Bool
 | some (.val (.obj _))=>false
 | some (.val (.st _ _))=>false
 | _=>true
theorem Ek{Γ:Cx}{σ:AX}{O:Ap}{s:jE}{D:jL}{h':jY}{tk:Nat}{o o':nH}{es:Array ny}{n:Nat}(N:Nm Γ)(t:St Γ O σ s)(hD0:Γ.s₀.heap.get? D=none)(hDL:D≠Γ.env.locals)(hDO:¬O.has D)(e:s.heap.get? D=some o)(hd:o.data=.dict es n)
 (fl:σ.all C8=true)(k:∀b o,b≠D->s.heap.get? b=some o->h'.get? b=some o)(hl:h'.get? D=some o'):St Γ O σ {s with heap:=h',toks:=tk}:=by
 delta Γ σ O s D at h' tk o o' es n N t hD0 hDL hDO e hd fl k hl
 obtain⟨kp,⟨m,nn,vs⟩,cl,nd,lv,sb,fr,fs⟩:=t
 have hget:∀b,b≠D->∀o,s.heap.get? b=some o->h'.get? b=some o:=λb hb o e=>k b o hb e
 have hT:∀o,s.heap.get? D=some o->¬(o.cls=.type "tuple"/\∃vs n,o.data=.seq vs n):=by
  intro o' e' zz1;refine Cg zz1 λ_ zr0=>B1 zr0 λvs q hd'=>?_
  (replace e':=CQ e e';subst e');rw[hd] at hd';exact jS hd'
 have hcell:∀{c:jL} {u:Option jB},s.heap.IsCell c u->h'.IsCell c u:=λ{c u} ⟨o',ho,d⟩=>Ac o' (hget c (λz=>by rw[z,e] at ho;(replace ho:=si ho;subst ho);rw[hd] at d;exact jS d) _ ho) d
 have hnL:∀{a:jL} {vs:Array jB},s.heap.PlainList a vs->a≠D:=by
  rintro a vs ⟨q,e'⟩ rfl
  (replace e':=CQ e e';subst e');cases hd
 refine⟨λb o e'=>hget b (λz=>by rw[z,hD0] at e';exact B6 e') o (kp b o e'),(Ac m (nn.at' λo e'=>hget _ (ll hDL) o e') λi x b e1 e2=>?_),λx c e'=>?_,nd,λp hp=>?_,sb,fr,fs⟩
 ·refine Af (vs i x b e1 e2) λv hh r=>?_
  refine Ac v (hh.imp id λ⟨k1,c,hc,ic⟩=>⟨k1,c,hc,hcell ic⟩) ?_
  have hb:C8 (some b)=true:=ky.mp fl _ (kt e2)
  cases b with
  | val w=>
   cases w with
   | py d=>refine Af r λas r q=>?_;exact Ac as (Bo hget hT r (Dw e hd r)) q
   | «by» b=>exact r
   | raw u=>exact r
   | obj P=>cases hb
   | st R ok=>cases hb
  | own ds=>
   refine CR r λa' ws as e1 m1 l1 r1 q1 f1=>?_
   exact CA a' ws as e1 m1 (AR l1 λq e'=>(Ag q (hget _ (hnL l1) _ e'))) (Aq hget hT r1 (EC e hd r1)) q1 f1
  | «at» a' P=>
   refine CU r λe1 m1 zz1 f1=>?_;obtain⟨o1,g,p⟩:=zz1
   exact⟨e1,m1,(Ac o1 (hget _ (λz=>hDO (z▸(Ac _ m1 rfl))) _ g) p),f1⟩
 ·obtain⟨u,ic⟩:=cl x c e'
  exact Ag u (hcell ic)
 ·obtain⟨o1,e1⟩:=lv p hp
  by_cases hp':p.2=D
  ·exact Ag o' (hp'▸hl)
  ·exact Ag o1 (hget _ hp' _ e1)
theorem Ej{Γ:Cx}{σ:AX}{O:Ap}{s:jE}{D:jL}{h':jY}{tk:Nat}{o o':nH}{es:Array ny}{n:Nat}(N:Nm Γ)(t:St Γ O σ s)(hD0:Γ.s₀.heap.get? D=none)(hDL:D≠Γ.env.locals)(hDO:¬O.has D)(e:s.heap.get? D=some o)(hd:o.data=.dict es n)
 (fl:σ.all C8=true)(k:oo D s.heap h')(hl:h'.get? D=some o'):St Γ O σ {s with heap:=h',toks:=tk}:=
 Ek N t hD0 hDL hDO e hd fl (λb o hb e=>(k.2 b hb).trans e) hl
theorem Wl{Γ:Cx}{σ:AX}{st:l9}{ss:List l9}{P:AX->Prop}{O:Ap}{s:jE}{Q:uR->jE->Prop}{E:jB->jE->Prop}(t:St Γ O σ s)(h:X1 Γ σ st λaf σ'=>af=.next/\P σ')
 (q:∀O' σ' s',Fx Γ O s O' s'->St Γ O' σ' s'->P σ'->wpAny (model Γ.prog Γ.w) Γ.A (execs ss Γ.env) Q E s'):wpAny (model Γ.prog Γ.w) Γ.A (execs (st::ss) Γ.env) Q E s:=by
 refine kg (h O s _ E t λO' fl af σ' s' a t' f p=>?_)
 obtain⟨rfl,p⟩:=p
 obtain rfl:fl=.next:=f
 exact q O' σ' s' a t' p
theorem Fb{Γ:Cx}{σ:AX}{k:Nat}{pos:mf}:Ev Γ σ (.Constant .none k pos) (.raw .none):=by
 intro O s Q E t q
 exact xt (q _ _ t (Keeps.re s) rfl)
end
section
set_option backward.match.sparseCases true
noncomputable def Bq (o:nH):nU:=match o.data with | .func f=>f|_=>default
theorem Bf.of'{fd:nU}{st:l9}{ps ns:List jX}(hb:fd.body=.stmts (Am st))(hc:fd.closure=[])(hs:fd.scope=Cm st)(h:Uk st ps ns=true):Bf fd (Am st) ps ns:=by
 delta st ps ns at fd hb hc hs h
 obtain⟨fn,fq,fp,fb,fs,fg,fc,fdf,fkd,fdoc,fpm,fan,fcd,fct,fbl⟩:=fd
 dsimp only at hb hc hs
 subst hb hc hs
 simp only[Uk,kJ,oM,decide_eq_true_eq] at h
 obtain⟨⟨⟨⟨⟨⟨⟨h1,h2⟩,h3⟩,h4⟩,h5⟩,h6⟩,h7⟩,h8⟩:=h
 refine⟨rfl,rfl,λx hx=>?_,h2,h3,beq_iff_eq.mp h4,?_,h6,λhm=>?_,λL=>?_⟩
 ·have:=ky.mp h1 x hx
  simp only[rN,kJ,beq_iff_eq] at this
  rcases this with h|⟨h,h'⟩
  ·exact .inl h
  ·refine .inr ⟨h,λL=>?_⟩
   rw[D0,BM (L':=0) (acc':=[]) rfl];exact h'
 ·obtain⟨r,hr⟩:=uH.mp h5
  exact Ag r hr.symm
 ·have:ns.contains ("":jX)=true:=rQ.mpr hm
  rw[this] at h7;exact lK h7
 ·rw[BM (L':=0) (acc':=[]) rfl];exact h8
theorem NS{O:Ap}{h:jY}:∀(vs:List jB),DD O h (vs.map .raw) vs
 | []=>trivial
 | v::vs=>⟨rfl,NS vs⟩
theorem Ax{s s':jE}(k:kY s s'):∀b o,s.heap.get? b=some o->s'.heap.get? b=some o:=by obtain⟨h',tk,rfl,k⟩:=k;exact k
theorem Bn.up{w:jW}{xG:jY}{s:jE}(K:Bn w xG)(hk:HK xG s):Bn w s.heap:=K.keeps hk
section
variable {w:jW} {A:kA} {s:jE} {O:Ap} {I D:jL} {m:jX->Option jB} {k:Nat} {xG:jY}
theorem Db{n:Nat}{f:jL}{o:nH}{fd:nU}{st:l9}{ps ns:List jX}{vs:List jB}{Q:jB->jE->Prop}{E:jB->jE->Prop}(K:Bn w xG)(lim:xG.NoLimit)(room:A0 A (n+1))(hk:HK xG s)(own:CJ O s)(hDO:¬O.has D)
 (ho:(KK w.params).lookup f=some o)(hd:o.data=.func fd)(X:Bf fd (Am st) ps ns)(hcd:codeIn (KK w.params) fd.code fd.qualname=true){args:Args}(hbind:ux s fd args (ps.zip vs))(hlen:vs.length=ps.length)
 (hB:Nm (CF pw w A (A6 s D) s fd f ns O)->A0 (A.deeper (callEnvC fd s.heap.objs.size f)) n->∀s' (E':jB->jE->Prop),St (CF pw w A (A6 s D) s fd f ns O) (("",s.heap.objs.size)::O) (Bi (vs.map .raw) (ns.length-ps.length)) s'->kY s s'->
  wpAny (model pw w) (A.deeper (callEnvC fd s.heap.objs.size f)) (execs (Am st) (callEnvC fd s.heap.objs.size f)) (λf s''=>Q (match f with | .ret v=>v|_=>.none) s'') E' s') :
 wpAny (model pw w) A (call (.ref f) args.pos args.kw) Q E s:=
 Jc (s₀:=A6 s D) X (K.get f ho) hd lim (tV K.k hcd) room hk own (λb o e=>(Er e).1)
  (λp hp=>AR (own.live p hp) λo e=>(Ag o ((Bj λz=>hDO (Ac p hp z)).trans e))) hbind hlen (NS vs) hB
theorem O9{n:Nat}{f:jL}{o:nH}{fd:nU}{st:l9}{ps ns:List jX}{vs:List jB}{R:sY->jE->Prop}(K:Bn w xG)(lim:xG.NoLimit)(room:A0 A (n+1))(hk:HK xG s)(own:CJ O s)(hDO:¬O.has D)
 (ho:(KK w.params).lookup f=some o)(hd:o.data=.func fd)(X:Bf fd (Am st) ps ns)(hcd:codeIn (KK w.params) fd.code fd.qualname=true){args:Args}(hbind:ux s fd args (ps.zip vs))(hlen:vs.length=ps.length)
 (hB:Nm (CF pw w A (A6 s D) s fd f ns O)->A0 (A.deeper (callEnvC fd s.heap.objs.size f)) n->∀s' (E':jB->jE->Prop),St (CF pw w A (A6 s D) s fd f ns O) (("",s.heap.objs.size)::O) (Bi (vs.map .raw) (ns.length-ps.length)) s'->kY s s'->
  wpAny (model pw w) (A.deeper (callEnvC fd s.heap.objs.size f)) (execs (Am st) (callEnvC fd s.heap.objs.size f)) (λf s''=>R (.ok (.ret (match f with | .ret v=>v|_=>.none))) s'') E' s') :
 codeAny (model pw w) A (.call (.ref f) args) R s:=
 Ho (s₀:=A6 s D) X (K.get f ho) hd lim (tV K.k hcd) room hk own (λb o e=>(Er e).1)
  (λp hp=>AR (own.live p hp) λo e=>(Ag o ((Bj λz=>hDO (Ac p hp z)).trans e))) hbind hlen (NS vs) hB
variable {Γ:Cx} {σ:AX}
theorem DJ{x y:jX}{sp pos:mf}{v:jB}{Q:jB->jE->Prop}{E:jB->jE->Prop}(hw:Γ.prog=pw)(t:St Γ O σ s)(K:Bn Γ.w s.heap)(i:IN s.heap I D m k)(hs:Ev Γ σ (.Name y sp) (.raw (.ref I)))(hv:m x=some v)
 (q:∀s',kY s s'->St Γ O σ s'->Q v s')(hh:autoParam (handedIn v=true) aR)(ha:autoParam (vv (KK Γ.w.params) (.ref CS) x=some none) aK)
 (he:autoParam (eval ((ku y sp).Attribute x pos) Γ.env=(do
  let o<-eval (ku y sp) Γ.env
  mQ pos.atName
  let r<-ml [o] (pU o x true)
  letTemporaryGo (ku y sp) o r
  pure r)) aR):wpAny (model Γ.prog Γ.w) Γ.A (eval (.Attribute (.Name y sp) x pos) Γ.env) Q E s:=by
 refine sF (hs O s _ E t λu s1 t1 k1 r1=>?_) he
 obtain rfl:u=.ref I:=r1
 rw[hw]
 refine Rh (K.keeps (Ax k1)) (i.keeps (Ax k1)) hv (q _ (Keeps.tr k1 Keeps.rfl') (t1.keeps λ_ _ e=>e)) hh ha
theorem Gw{x y:jX}{sp ap pos:mf}{e:kH}{v:jB}{ss:List l9}{Q:uR->jE->Prop}{E:jB->jE->Prop}(hw:Γ.prog=pw)(N:Nm Γ)(t:St Γ O σ s)(K:Bn Γ.w s.heap)(i:IN s.heap I D m k)(hk:k<=900)(hD0:Γ.s₀.heap.get? D=none)(hDL:D≠Γ.env.locals)(hDO:¬O.has D)(fl:σ.all C8=true)
 (hs:Ev Γ σ (.Name y sp) (.raw (.ref I)))(hv:Ev Γ σ e (.raw v))(q:∀s',AI s s'->(∀b o,b≠D->s.heap.get? b=some o->s'.heap.get? b=some o)->St Γ O σ s'->IN s'.heap I D (Bm m x v) (k+1)->wpAny (model Γ.prog Γ.w) Γ.A (execs ss Γ.env) Q E s')
 (ht:autoParam (wv (KK Γ.w.params) CS x=some none) aK)(hsw:autoParam (qV e (some ((ku y sp).Attribute x ap)) pos.line Γ.env=pure false) aR) :
 wpAny (model Γ.prog Γ.w) Γ.A (execs (.Assign [.Attribute (.Name y sp) x ap] e pos::ss) Γ.env) Q E s:=by
 refine kg (uD (hv O s _ E t λu s1 t1 k1 r1=>hs O s1 _ E t1 λu2 s2 t2 k2 r2=>?_) hsw)
 obtain rfl:u=v:=r1
 obtain rfl:u2=.ref I:=r2
 have kk:=Keeps.tr k1 k2
 have i2:=i.keeps (Ax kk)
 refine Ao i2.dict λes n eD _=>?_
 rw[hw]
 refine F7 (K.keeps (Ax kk)) i2 hk (λh' i' hsb=>?_) ht
 rw[<-hw]
 refine Ao i'.dict λes' n' eD' _=>?_
 have t3:=Ej (tk:=s2.toks+2) N t2 hD0 hDL hDO eD rfl fl hsb eD'
 refine q _ ?_ (λb o hb e=>(hsb.2 b hb).trans ((Ax kk) b o e)) t3 i'
 refine Ao kk λh2 tk2 zz1 _=>?_;clear kk;obtain rfl:=zz1
 exact AS _ _ rfl
theorem Dn{M:tM}{A:kA}{env:xy}{o:kH}{attr:jX}{pos:mf}{v:jB}{s:jE}{Q:Unit->jE->Prop}{E:jB->jE->Prop}(h:wpAny M A (eval o env) (λov xH=>wpAny M A (setAttr ov attr v) Q E xH) E s) :
 wpAny M A (assign (.Attribute o attr pos) env v) Q E s:=λΓ p hΓ=>by
 simp only[assign_Attribute,Sem.wp_bind',Sem.wp_holding,wx,Sem.wp_release,Sem.wp_pure']
 exact vZ M Γ _ (λov x8 xH xK=>xK Γ _ hΓ) (λ_ _ _ h'=>h') _ _ (h Γ _ hΓ)
theorem IK{x x' y:jX}{sp ap sp' ap' pos:mf}{e:kH}{v:jB}{ss:List l9}{Q:uR->jE->Prop}{E:jB->jE->Prop}(hw:Γ.prog=pw)(N:Nm Γ)(t:St Γ O σ s)(K:Bn Γ.w s.heap)(hK:∀s':jE,(∀b o,Γ.s₀.heap.get? b=some o->s'.heap.get? b=some o)->Bn Γ.w s'.heap)(i:IN s.heap I D m k)(hk:k<=899)(hD0:Γ.s₀.heap.get? D=none)(hDL:D≠Γ.env.locals)(hDO:¬O.has D)(fl:σ.all C8=true)
 (hs:Ev Γ σ (.Name y sp) (.raw (.ref I)))(hs':Ev Γ σ (.Name y sp') (.raw (.ref I)))(hv:Ev Γ σ e (.raw v))(q:∀s',AI s s'->St Γ O σ s'->IN s'.heap I D (Bm (Bm m x v) x' v) (k+2)->wpAny (model Γ.prog Γ.w) Γ.A (execs ss Γ.env) Q E s')
 (ht:autoParam (wv (KK Γ.w.params) CS x=some none) aK)(ht':autoParam (wv (KK Γ.w.params) CS x'=some none) aK)
 (h2:autoParam (qK (λx=>x.snd) (assignEach [(ku y sp).Attribute x ap,(ku y sp').Attribute x' ap'] Γ.env)=[assign ((ku y sp).Attribute x ap) Γ.env,assign ((ku y sp').Attribute x' ap') Γ.env]) aR)
 (hsw:autoParam (nt [(ku y sp).Attribute x ap,(ku y sp').Attribute x' ap'] e Γ.env=pure none) aR) :
 wpAny (model Γ.prog Γ.w) Γ.A (execs (.Assign [.Attribute (.Name y sp) x ap,.Attribute (.Name y sp') x' ap'] e pos::ss) Γ.env) Q E s:=by
 refine kg (oA (hv O s _ E t λu s1 t1 k1 r1=>?_) h2 hsw)
 obtain rfl:u=v:=r1
 refine Dn (hs O s1 _ E t1 λu2 s2 t2 k2 r2=>?_)
 obtain rfl:u2=.ref I:=r2
 have kk:=Keeps.tr k1 k2
 have i2:=i.keeps (Ax kk)
 refine Ao i2.dict λes n eD _=>?_
 rw[hw]
 refine F7 (K.keeps (Ax kk)) i2 (by rwa[hk]) (λh' i' hsb=>?_) ht
 rw[<-hw]
 refine Ao i'.dict λes' n' eD' _=>?_
 have t3:=Ej (tk:=s2.toks+2) N t2 hD0 hDL hDO eD rfl fl hsb eD'
 refine Dn (hs' O _ _ E t3 λu4 s4 t4 k4 r4=>?_)
 obtain rfl:u4=.ref I:=r4
 have i4:=i'.keeps (Ax k4)
 refine Ao i4.dict λes4 n4 eD4 _=>?_
 rw[hw]
 refine F7 (hK s4 t4.keep) i4 (by rwa[hk]) (λh5 i5 hsb5=>?_) ht'
 rw[<-hw]
 refine Ao i5.dict λes5 n5 eD5 _=>?_
 have t5:=Ej (tk:=s4.toks+2) N t4 hD0 hDL hDO eD4 rfl fl hsb5 eD5
 refine q _ ?_ t5 i5
 refine Ao kk λh2 tk2 zz1 _=>?_;clear kk;obtain rfl:=zz1
 refine Ao k4 λh6 tk6 zz1 _=>?_;clear k4;obtain rfl:=zz1
 exact AS _ _ rfl
end
end
theorem Es{xG:jY}{s:jE}{D:jL}(hk:HK xG s)(hD:xG.get? D=none):HK xG (A6 s D):=λb o e=>(Bj λz=>by rw[z,hD] at e;exact B6 e).trans (hk b o e)
theorem Fp{Γ:Cx}{σ:AX}{O:Ap}{s:jE}{x:jX}{k:Nat}{p pos:mf}{ss:List l9}{Q:uR->jE->Prop}{E:jB->jE->Prop}(t:St Γ O σ s)(q:∀s',kY s s'->St Γ O σ s'->wpAny (model Γ.prog Γ.w) Γ.A (execs ss Γ.env) Q E s')(hi:autoParam (interactive Γ.env=false) aR) :
 wpAny (model Γ.prog Γ.w) Γ.A (execs (.Expr (.Constant (.str x) k p) pos::ss) Γ.env) Q E s:=
 kg (nG (tU (q _ Keeps.rfl' (t.keeps λ_ _ e=>e))) hi)
theorem Bw{Γ:Cx}{σ:AX}{O:Ap}{s:jE}{x:jX}{pos:mf}{v:jB}{Q:jB->jE->Prop}{E:jB->jE->Prop}(i:Nat)(t:St Γ O σ s)(q:Q v s)(hi:autoParam (Γ.ns[i]?=some x) aR)(h:autoParam (σ[i]?=some (some (.val (.raw v)))) aR)(hk:autoParam (Γ.env.scope.kind=.function) aR)(hd:autoParam ((x == ("__debug__":jX))=false) aK) :
 wpAny (model Γ.prog Γ.w) Γ.A (eval (.Name x pos) Γ.env) Q E s:=by
 refine Af t.ex λm n vs=>?_
 refine Af (vs i x _ hi h) λu hd' r=>?_
 obtain rfl:u=v:=r
 rcases hd' with⟨k1,e⟩|⟨k1,c,hc,e⟩
 ·exact nF (mC hk k1 n e q) hd
 ·exact nF (on hk k1 hc e q) hd
theorem Bc{s s':jE}(k:kY s s'):AI s s':=by refine Ao k λh' tk zz1 _=>?_;clear k;obtain rfl:=zz1;exact AS _ _ rfl
structure Zb (w:jW) (I D:jL) (O:Ap) (s:jE):Prop where
 dl:D≠s.heap.objs.size
 dO:¬Ap.has (("",s.heap.objs.size)::O) D
theorem Zb.of{w:jW}{I D:jL}{O:Ap}{s:jE}{m:jX->Option jB}{k:Nat}(i:IN s.heap I D m k)(hDO:¬O.has D):Zb w I D O s:=by
 have hDL:D≠s.heap.objs.size:=by
  rintro rfl
  refine Ao i.dict λes n e _=>?_
  exact absurd (kq e) (lp _)
 refine⟨hDL,?_⟩
 rintro⟨p,hp,e⟩
 rcases jG.mp hp with rfl|hp
 ·exact hDL e.symm
 ·exact hDO (Ac p hp e)
theorem d7(P:jC):Bf (Bq (FX P)) (Am (BB 5 3)) ["self","a"] ["self","a"]:=.of' rfl rfl rfl (by decide +kernel)
theorem Y7(P:jC)(u v:jB):l3 (Bq (FX P)) ⟨[u,v],[]⟩=pure [((jz "self"),u),((jz "a"),v)]:=by rfl
theorem Wa{w:jW}{A:kA}{s:jE}{O:Ap}{I D:jL}{m:jX->Option jB}{k:Nat}{xG:jY}{la:jL}{Q:jB->jE->Prop}{E:jB->jE->Prop}(K:Bn w xG)(lim:xG.NoLimit)(room:A0 A 1)(hk:HK xG s)(own:CJ O s)(hDO:¬O.has D)(hD0:xG.get? D=none)
 (i:IN s.heap I D m k)(hkk:k<=800)(ha:m "a"=some .none)
 (q:∀s',AI s s'->(∀b o,b≠D->s.heap.get? b=some o->s'.heap.get? b=some o)->IN s'.heap I D (Bm (Bm (Bm m "a" (.ref la)) "matching_blocks" .none) "opcodes" .none) (k+3)->Q .none s') :
 wpAny (model pw w) A (call (.ref 174) [.ref I,.ref la]) Q E s:=by
 delta w A s O I D m k xG la Q E at K lim room hk own hDO hD0 i hkk ha q
 refine Db (args:=⟨[.ref I,.ref la],[]⟩) (vs:=[.ref I,.ref la]) (fd:=Bq (FX w.params)) (st:=BB 5 3) K lim room hk own hDO (f:=174) (o:=FX w.params) (by kernel_rfl) (by kernel_rfl) (d7 _) (by kernel_rfl) (.of_eq (Y7 _ _ _)) rfl (λN rm s1 E' t k1=>?_)
 have MF:=Zb.of (w:=w) i hDO
 have hK:∀s':jE,(∀b o,(A6 s D).heap.get? b=some o->s'.heap.get? b=some o)->Bn w s'.heap:=λs' h=>K.keeps λb o e=>h b o (Es hk hD0 b o e)
 refine Fp t λs2 k2 t2=>?_
 have k12:=Keeps.tr k1 k2
 have i2:=i.keeps (Ax k12)
 refine kg (uo (qe (Bw 1 t2 (DJ rfl t2 (hK s2 t2.keep) i2 (Aa 0) ha λs4 k4 t4=>?_)) (by rfl)))
 refine vr (by rfl) (nO ?_)
 refine lZ ?_
 have i4:=i2.keeps (Ax k4)
 refine Gw rfl N t4 (hK s4 t4.keep) i4 (by rwa[hkk]) A3 MF.dl MF.dO rfl (Aa 0) (Aa 1) λs5 a5 kk5 t5 i5=>?_
 refine IK rfl N t5 (hK s5 t5.keep) hK i5 (by rwa[hkk]) A3 MF.dl MF.dO rfl (Aa 0) (Aa 0) Fb λs6 a6 t6 i6=>?_
 refine lZ (q s6 ?_ (λb o hb e=>t6.keep b o ((Bj hb).trans e)) i6)
 exact(Bc k12).tr ((Bc k4).tr (a5.tr a6))
theorem ZP{Γ:Cx}{σ:AX}{pos:mf}(N:Nm Γ){tgt iter:kH}{body:List l9}{ds:List jO}(hI:RO Γ σ tgt iter ds)(Inv:Nat->AX->Prop)(J:Nat->Ap->jY->Prop)
 (hJ:∀i O h h',(∀b o,h.get? b=some o->(∀f,o.data≠.fields f)->b≠Γ.env.locals->h'.get? b=some o)->J i O h->J i O h')
 {O:Ap}{s:jE}{Q:uR->jE->Prop}{E:jB->jE->Prop}(t:St Γ O σ s)(h0:Inv 0 σ)(j0:J 0 O s.heap)
 (step:∀i d σ1,ds[i]?=some d->Inv i σ1->∃σ2,As Γ σ1 tgt d σ2/\∀(O1:Ap) (s1:jE) (Q:uR->jE->Prop) (E:jB->jE->Prop),St Γ O1 σ2 s1->J i O1 s1.heap->
  (∀O2 σ3 s2,Fx Γ O1 s1 O2 s2->St Γ O2 σ3 s2->Inv (i+1) σ3->J (i+1) O2 s2.heap->Q .next s2)->wpAny (model Γ.prog Γ.w) Γ.A (execs body Γ.env) Q E s1)
 (q:∀O' σ' s',Fx Γ O s O' s'->St Γ O' σ' s'->Inv ds.length σ'->J ds.length O' s'.heap->Q .next s')
 (hs:autoParam (∀x,foldedSetIterable iter Γ.env x=pure x) aI):wpAny (model Γ.prog Γ.w) Γ.A (exec (.For tgt iter body [] pos) Γ.env) Q E s:=by
 delta Γ σ pos tgt iter body ds Inv J O s Q E at N hI hJ t h0 j0 step q hs
 refine wpAny_For (hI O s _ E t λI fp wr R Md T s1 vs es as k1 W hT _ _ hfp hwr hfd rs qs rd=>?_) hs
 have t1:=t.of_keeps k1
 have h0':∀b∈wr,Γ.s₀.heap.get? b=none:=λb hb=>gn λo e=>by have:=t.keep _ _ e;exact B0 (hwr b hb) this
 refine xu
  (λk s'=>∃i O1 σ1,k=ds.length+1-i/\i<=ds.length/\St Γ O1 σ1 s'/\Inv i σ1/\J i O1 s'.heap/\Fx Γ O s O1 s'/\T i s'.heap/\Ae s'.heap vs es as/\(∀b∈as,¬O1.has b)/\(∀b∈fp,Do Γ O1 s'.heap b)) ?_ (ds.length+1)
  (aH 0 O σ rfl (kf _) t1 h0 (hJ _ _ _ _ (λb o e _ _=>Ax k1 b o e) j0) (Fx.of_keeps k1) hT rs qs hfp)
 rintro k s' ⟨i,O1,σ1,rfl,hi,t',hInv,hj,f',hT',rs',qs',hO1⟩
 have hwrs:∀b o,s.heap.get? b=some o->b∉wr:=λb o e hb=>by exact B0 (hwr b hb) e
 by_cases hlt:i<ds.length
 ·refine W.item i _ _ _ hlt hT' λv xI xM hMd xL=>?_
  refine W.go i v _ _ _ hMd λxK hR xQ xP=>?_
  dsimp only
  have hk:∀b o,b∉wr->s'.heap.get? b=some o->xK.get? b=some o:=λb o hb e=>xP b o hb (xL b o hb e)
  have hfd':=hfd i _ hT'
  have t2:St Γ O1 σ1 {s' with heap:=xK,toks:=xM}:=t'.butFields hk hfd' (λb hb=>(hO1 b (W.sub b hb)).rec (hfd' b hb)) h0'
  have rs2:Ae xK vs es as:=Bt hk hfd' rs'
  have j2:J i O1 xK:=hJ _ _ _ _ (λb o e nf _=>hk b o (λhb=>by refine Ao (hfd' b hb) λo' f e' d'=>?_;(replace e':=CQ e e';subst e');exact nf _ d') e) hj
  obtain⟨d,hd⟩:∃d,ds[i]?=some d:=Ag _ (jP hlt)
  refine Af (rd i v xK d hd hR rs2) λbs rv qv=>?_
  refine Af (step i d σ1 hd hInv) λσ2 ha hb=>?_
  have hlive:∀b o,s'.heap.get? b=some o->∃o',xK.get? b=some o':=λb o e=>by
   by_cases hb:b∈wr
   ·refine Ao (hfd _ _ xQ b hb) λo' fs e' _=>?_
    exact Ag o' e'
   ·exact Ag o (hk b o hb e)
  have f2:Fx Γ O s O1 {s' with heap:=xK,toks:=xM}:=
   ⟨f'.alike.tr (AS _ _ rfl),f'.own,λb o e=>AR (f'.dom b o e) λo' e'=>hlive b o' e',λb o e h1 h2=>hk b o (hwrs b o e) (f'.kept b o e h1 h2),λb o e h1=>hk b o (hwrs b o e) (f'.tups b o e h1)⟩
  have hO2:∀b∈fp,Do Γ O1 xK b:=λb hb=>(hO1 b hb).but hk hfd' λb hb=>Ao (hfd _ _ xQ b hb) λo _ e _=>(Ag o e)
  refine ha O1 _ v _ _ t2 (Ac bs rv λb hb=>qs' b (qv b hb)) λs3 a3 u3 t3=>?_
  have f3:=Fx.ofBut t2 a3 u3 t3
  have j3:J i O1 s3.heap:=hJ _ _ _ _ (λb o e _ hl=>u3 b o hl e) j2
  refine hb O1 s3 _ _ t3 j3 λO2 σ3 s4 f4 t4 hI' j4=>?_
  have f24:=f3.tr f4
  have own4:∀b,(∃o,xK.get? b=some o)->¬O1.has b->¬O2.has b:=λb ⟨o,e⟩ h1 h2=>by
   rcases f24.own b h2 with z|z
   ·exact h1 z
   ·have z:xK.get? b=none:=z
    exact B0 z e
  show ∃m,_/\_
  refine⟨ds.length+1-(i+1),by rwa[hlt],i+1,O2,σ3,rfl,hlt,t4,hI',j4,f2.tr f24,?_,DP t2 N.names f24 rs2 qs',λb hb=>?_,λb hb=>(Do.fx (s:={s' with heap:=xK,toks:=xM}) (hO2 b hb) f24).1⟩
  ·exact W.frame _ _ _ xQ λb hb o e=>(Do.fx (s:={s' with heap:=xK,toks:=xM}) (hO2 b hb) f24).2 o e
  ·exact own4 b (Bv rs2 b hb) (qs' b hb)
 ·have hin:i=ds.length:=by rwa[hi,hlt]
  subst hin
  refine W.done _ _ _ hT' λxI xM xL=>?_
  have hfd':=hfd _ _ hT'
  have t2:St Γ O1 σ1 {s' with heap:=xI,toks:=xM}:=t'.butFields xL hfd' (λb hb=>(hO1 b (W.sub b hb)).rec (hfd' b hb)) h0'
  have f2:Fx Γ O s O1 {s' with heap:=xI,toks:=xM}:=
   ⟨f'.alike.tr (AS _ _ rfl),f'.own,λb o e=>AR (f'.dom b o e) λo' e'=>(Ag o' (xL b o' (hwrs b o e) e')),λb o e h1 h2=>xL b o (hwrs b o e) (f'.kept b o e h1 h2),λb o e h1=>xL b o (hwrs b o e) (f'.tups b o e h1)⟩
  refine lZ (q O1 σ1 _ f2 t2 hInv (hJ _ _ _ _ (λb o e nf _=>xL b o (λhb=>by refine Ao (hfd' b hb) λo' f e' d'=>?_;(replace e':=CQ e e';subst e');exact nf _ d') e) hj))
noncomputable def Oj (bs:List jX) (i:Nat) (x:jX):List Int:=((kd i).filter λk=>decide (bs[k]?=some x)).map vo
theorem GI(bs:List jX)(i:Nat)(x:jX):Oj bs (i+1) x=Oj bs i x++(if bs[i]?=some x then [(i:Int)] else []):=by
 unfold Oj
 rw[rK,sQ,kz]
 congr 1
 by_cases h:bs[i]?=some x
 ·simp[h]
 ·simp[h]
theorem U2{vs:List jB}{ns:List Int}(h:tw vs ns)(i:Int)(t:ut):tw (vs++[.int i t]) (ns++[i]):=by
 induction h with
 | nil=>exact .cons _ _ .nil
 | cons n t' _ ih=>exact .cons _ _ ih
theorem Ci{K:Type}[DecidableEq K]{kvs:List (K×jB)}{k:K}{v:jB}(h:valueAt kvs k=none)(y:K):valueAt (stored kvs k v) y=if y=k then some v else valueAt kvs y:=by
 rw[stored_absent h]
 unfold valueAt at h ⊢
 rw[List.find?_append]
 by_cases hy:y=k
 ·subst hy
  rw[if_pos rfl]
  have:kvs.find? (λkv=>decide (kv.1=y))=none:=by simpa using h
  rw[this]
  simp
 ·rw[if_neg hy]
  cases q:kvs.find? (λkv=>decide (kv.1=y)) with
  | some a=>simp
  | none=>
   have:(k=y)=False:=by simp[ll hy]
   simp[this]
structure BJ (w:jW) (h:jY) (dj:jL) (bs:List jX) (i:Nat) (Lk:jL->Prop):Prop where
 map:∃kvs,h.DictOf (mO pw w) dj kvs/\kvs.length<=i/\(∀x,Oj bs i x=[]->valueAt kvs x=none)/\(∀x,Oj bs i x≠[]->∃l vs,valueAt kvs x=some (.ref l)/\Lk l/\h.PlainList l vs/\tw vs.toList (Oj bs i x))/\∀x y l,valueAt kvs x=some (.ref l)->valueAt kvs y=some (.ref l)->x=y
theorem BJ.keeps{w:jW}{h h':jY}{dj:jL}{bs:List jX}{i:Nat}{Lk Lk':jL->Prop}(b:BJ w h dj bs i Lk)(hl:∀a,Lk a->Lk' a)(hd:∀o es n,h.get? dj=some o->o.data=.dict es n->h'.get? dj=some o)(k:∀l vs,Lk l->h.PlainList l vs->h'.PlainList l vs):BJ w h' dj bs i Lk':=by
 delta w h h' dj bs i Lk Lk' at b hl hd k
 obtain⟨⟨kvs,⟨o,es,ep,e,r1,r2,r3⟩,le,f0,f1,f2⟩⟩:=b
 refine⟨(Xh kvs (FP o es ep (hd _ _ _ e r2) r1 r2 r3) le f0 (λx hx=>?_) f2)⟩
 ·refine E8 (f1 x hx) λl vs e1 lk pl ia=>?_
  exact C6 l vs e1 (hl _ lk) (k _ _ lk pl) ia
section
variable {w:jW} {A:kA} {E:jB->jE->Prop} {s:jE} {dj l0:jL} {bs:List jX} {i:Nat} {Lk:jL->Prop}
theorem Jp{x:jX}{t:ut}{kvs:List (jX×jB)}{Q:jB->jE->Prop}(hm:s.heap.DictOf (mO pw w) dj kvs)(hn:kvs.length<=100000)(lo:(dj == sysModules)=false)
 (h1:∀v,valueAt kvs x=some v->Q v {s with toks:=s.toks+1})(h2:valueAt kvs x=none->∀h',h'.DictOf (mO pw w) dj (stored kvs x (.ref l0))->oo dj s.heap h'->Q (.ref l0) {s with heap:=h',toks:=s.toks+1}) :
 wpAny (model pw w) A (call (.builtin "dict.setdefault") [.ref dj,.str x t,.ref l0]) Q E s:=
 call_meetsIn tA hm.typeIs PySem.F.entry_dict_setdefault (PySem.F.args_dict_setdefault_3 _ _ _) (kt_meets_setdefault (mO pw w) dj (qZ pw w x t) lo _)
  (H5 kvs hm (by rw[sizeLine_eq];rwa[hn]) h1 h2)
end
noncomputable def FI:List jX:=["self","b","b2j","i","elt","indices","junk","isjunk","popular","n","ntest","idxs"]
theorem d5(P:jC):Bf (Bq (Ch P)) (Am (BB 5 5)) ["self"] FI:=.of' rfl rfl rfl (by decide +kernel)
theorem Y5(P:jC)(u:jB):l3 (Bq (Ch P)) ⟨[u],[]⟩=pure [((jz "self"),u)]:=by rfl
theorem Rp(ds:List jO):(Ce ds).length=ds.length:=by simp[Ce]
theorem EX{Γ:Cx}{σ:AX}{O:Ap}{s:jE}{x:jX}{pos:mf}{a:AV}{Q:jB->jE->Prop}{E:jB->jE->Prop}(i:Nat)(t:St Γ O σ s)(q:∀v,VR O s.heap a v->Q v s)(hi:autoParam (Γ.ns[i]?=some x) aR)(h:autoParam (σ[i]?=some (some (.val a))) aR)(hk:autoParam (Γ.env.scope.kind=.function) aR)(hd:autoParam ((x == ("__debug__":jX))=false) aK) :
 wpAny (model Γ.prog Γ.w) Γ.A (eval (.Name x pos) Γ.env) Q E s:=by
 refine Af t.ex λm n vs=>?_
 refine Af (vs i x _ hi h) λu hd' r=>?_
 rcases hd' with⟨k1,e⟩|⟨k1,c,hc,e⟩
 ·exact nF (mC hk k1 n e (q u r)) hd
 ·exact nF (on hk k1 hc e (q u r)) hd
noncomputable abbrev Cc (led:Bool):nH:={cls:=.type "set",data:=.set #[] 0 (wh 0 0 led)}
theorem IL{Γ:Cx}{σ:AX}{O:Ap}{s:jE}{I D:jL}{m:jX->Option jB}{k:Nat}{x y yy:jX}{fp cp sp ap np pos:mf}{ss:List l9}{Q:uR->jE->Prop}{E:jB->jE->Prop}(j:Nat)(hw:Γ.prog=pw)(N:Nm Γ)(t:St Γ O σ s)(hK:∀s':jE,(∀b o,Γ.s₀.heap.get? b=some o->s'.heap.get? b=some o)->Bn Γ.w s'.heap)(i:IN s.heap I D m k)(hk:k<=900)(hD0:Γ.s₀.heap.get? D=none)(hDL:D≠Γ.env.locals)(hIL:I≠Γ.env.locals)(hDO:¬O.has D)(fl:σ.all C8=true)
 (hf:Ev Γ σ (.Name (jz "set") fp) (.raw (.type "set")))(hs:∀(O:Ap) (s:jE) (Q:jB->jE->Prop) (E:jB->jE->Prop),St Γ O σ s->Q (.ref I) s->wpAny (model Γ.prog Γ.w) Γ.A (eval (.Name y sp) Γ.env) Q E s)
 (q:∀s' sj led,AI s s'->(∀b o,b≠D->b≠Γ.env.locals->s.heap.get? b=some o->s'.heap.get? b=some o)->St Γ O (σ.set j (some (.val (.raw (.ref sj))))) s'->IN s'.heap I D (Bm m x (.ref sj)) (k+1)->s.heap.get? sj=none->s'.heap.get? sj=some (Cc led)->sj≠D->sj≠Γ.env.locals->wpAny (model Γ.prog Γ.w) Γ.A (execs ss Γ.env) Q E s')
 (hi:autoParam (Γ.ns[j]?=some yy) aR)(hlt:autoParam (j<σ.length) aN)(hkd:autoParam (Γ.env.kindOf yy=some .local) aR)
 (ht:autoParam (wv (KK Γ.w.params) CS x=some none) aK)
 (he:autoParam (eval (.Call (.Name (jz "set") fp) [] [] cp) Γ.env=(do kX cp (<-eval (.Name (jz "set") fp) Γ.env) [] (backTo cp (starEach [] Γ.env)) (l8 cp (lu [] Γ.env)))) aR)
 (h2:autoParam (qK (λx=>x.snd) (assignEach [(ku y sp).Attribute x ap,ku yy np] Γ.env)=[assign ((ku y sp).Attribute x ap) Γ.env,assign (ku yy np) Γ.env]) aR)
 (hsw:autoParam (nt [(ku y sp).Attribute x ap,ku yy np] (.Call (.Name (jz "set") fp) [] [] cp) Γ.env=pure none) aR) :
 wpAny (model Γ.prog Γ.w) Γ.A (execs (.Assign [.Attribute (.Name y sp) x ap,.Name yy np] (.Call (.Name (jz "set") fp) [] [] cp) pos::ss) Γ.env) Q E s:=by
 refine kg (oA (qQ (hf O s _ E t λv s1 t1 k1 rv=>?_) he) h2 hsw)
 obtain rfl:v=.type "set":=rv
 refine oY (by rfl) (evalArgs_nil3 (call_set_0 λled=>?_))
 have kp:kY s1 {s1 with heap:=s1.heap.push (Cc led)}:=Keeps.push _ _
 have t2:=t1.of_keeps kp
 have kk:=Keeps.tr k1 kp
 have i2:=i.keeps (Ax kk)
 have e1:s1.heap.get? s1.heap.objs.size=none:=Bk (jN _)
 have es:(s1.heap.push (Cc led)).get? s1.heap.objs.size=some (Cc led):=jQ _ rfl
 have sN:∀b o,s1.heap.get? b=some o->b≠s1.heap.objs.size:=λb o e z=>by rw[z,e1] at e;exact B6 e
 refine Ao i2.dict λes2 n2 eD2 _=>?_
 have i1:=i.keeps (Ax k1)
 have hsD:s1.heap.objs.size≠D:=λz=>by refine Ao i1.dict λ_ _ e _=>?_;exact sN _ _ e z.symm
 have hsL:s1.heap.objs.size≠Γ.env.locals:=λz=>by refine Af t1.ex λmm zz1 _=>?_;obtain⟨o,_,_,e,_⟩:=zz1;exact sN _ _ e z.symm
 refine Dn (hs O _ _ E t2 ?_)
 rw[hw]
 refine F7 (hK _ t2.keep) i2 hk (λh5 i5 sb5=>?_) ht
 rw[<-hw]
 refine Ao i5.dict λes5 n5 eD5 _=>?_
 have t5:=Ej (tk:=s1.toks+2) N t2 hD0 hDL hDO eD2 rfl fl sb5 eD5
 refine lI (AG N (i:=j) (b:=.val (.raw (.ref s1.heap.objs.size))) hi hlt hkd t5 rfl λs6 a6 u6 t6=>?_)
 have e6:∀b o,b≠D->b≠Γ.env.locals->(s1.heap.push (Cc led)).get? b=some o->s6.heap.get? b=some o:=λb o h1 h2 e=>u6 b o h2 ((sb5.2 b h1).trans e)
 refine q s6 _ led ?_ (λb o h1 h2 e=>e6 b o h1 h2 (Ax kk b o e)) t6 (i5.at' ((u6 I _ hIL i5.inst).trans i5.inst.symm) ((u6 D _ hDL eD5).trans eD5.symm)) ?_ (e6 _ _ hsD hsL es) hsD hsL
 ·refine Ao k1 λh tk zz1 _=>?_;clear k1;obtain rfl:=zz1
  exact AI.tr (AS _ _ rfl) a6
 ·exact gn λo e=>by have:=Ax k1 _ _ e;exact B0 e1 this
theorem Vq{w:jW}{A:kA}{s:jE}{O:Ap}{I D:jL}{m:jX->Option jB}{k:Nat}{xG:jY}{lb:jL}{bs:List jX}{as:List jL}{mg mb:jX->Option jB}{Q:jB->jE->Prop}{E:jB->jE->Prop}(K:Bn w xG)(T:Br mg mb xG)(room:A0 A 2)(hk:HK xG s)(own:CJ O s)(hDO:¬O.has D)(hD0:xG.get? D=none)
 (i:IN s.heap I D m k)(hkk:k<=700)(hb:m "b"=some (.ref lb))(hj:m "isjunk"=some .none)(ha:m "autojunk"=some (.bool true))(rb:Ak s.heap (.ref lb) (.list (bs.map .str)) as)(hbO:∀a∈as,¬O.has a)(hlen:bs.length<=100)
 (q:∀(s':jE) (dj sj sp:jL) (led:Bool),AI s s'->(∀b o,b≠D->s.heap.get? b=some o->s'.heap.get? b=some o)->IN s'.heap I D (Bm (Bm (Bm m "b2j" (.ref dj)) "bjunk" (.ref sj)) "bpopular" (.ref sp)) (k+3)->
  BJ w s'.heap dj bs bs.length (λl=>s.heap.get? l=none)->s.heap.get? dj=none->s.heap.get? sj=none->s'.heap.get? sj=some {cls:=.type "set",data:=.set #[] 0 (wh 0 0 led)}->Q .none s') :
 wpAny (model pw w) A (call (.ref 188) [.ref I]) Q E s:=by
 delta w A s O I D m k xG lb bs as mg mb Q E at K T room hk own hDO hD0 i hkk hb hj ha rb hbO hlen q
 refine Db (args:=⟨[.ref I],[]⟩) (vs:=[.ref I]) (fd:=Bq (Ch w.params)) (st:=BB 5 5) K T.gl.nolimit room hk own hDO (f:=188) (o:=Ch w.params) (by kernel_rfl) (by kernel_rfl) (d5 _) (by kernel_rfl) (.of_eq (Y5 _ _)) rfl (λN rm s1 E' t k1=>?_)
 have MF:=Zb.of (w:=w) i hDO
 have hk':HK xG (A6 s D):=Es hk hD0
 have hK:∀s':jE,(∀b o,(A6 s D).heap.get? b=some o->s'.heap.get? b=some o)->Bn w s'.heap:=λs' h=>K.keeps λb o e=>h b o (hk' b o e)
 have i1:=i.keeps (Ax k1)
 refine kg (l6 (DJ rfl t (hK s1 t.keep) i1 (Aa 0) hb λs2 k2 t2=>?_) (by rfl))
 have k12:=Keeps.tr k1 k2
 have i2:=i.keeps (Ax k12)
 have rb2:VR (("",s.heap.objs.size)::O) s2.heap (.py (.list (bs.map .str))) (.ref lb):=by
  refine Ac as (Ak.keeps (Ax k12) rb) ?_
  rintro a haa ⟨p,hp,e⟩
  rcases jG.mp hp with rfl|hp
  ·obtain⟨o,ho⟩:=BA rb a haa
   have e:s.heap.objs.size=a:=e
   rw[<-e] at ho
   exact absurd (kq ho) (lp _)
  ·exact hbO a haa (Ac p hp e)
 refine AG N (i:=1) (b:=.val (.py (.list (bs.map .str)))) rfl (jT rfl) rfl t2 rb2 λs3 a3 u3 t3=>?_
 have i3:IN s3.heap I D m k:=by
  refine Ao i2.dict λes n e _=>?_
  refine i2.at' ?_ ?_
  ·exact(u3 I _ (λz=>by have:=kq i.inst;rw[z] at this;exact absurd this (lp _)) i2.inst).trans i2.inst.symm
  ·exact(u3 D _ MF.dl e).trans e.symm
 refine kg (oA (wpAny_Dict_empty ?_) (by rfl) (by rfl))
 have hz3:s.heap.objs.size<s3.heap.objs.size:=by
  refine Af t3.ex λm3 zz1 _=>?_;obtain⟨o,_,_,e,_⟩:=zz1
  exact kq e
 generalize hdj:s3.heap.objs.size=dj at *
 have e3:s3.heap.get? dj=none:=by rw[<-hdj];exact Bk (jN _)
 have k3:kY s3 {s3 with heap:=s3.heap.push {cls:=.type "dict",data:=.dict #[]}}:=Keeps.push _ _
 have emap:(s3.heap.push {cls:=.type "dict",data:=.dict #[]}).DictOf (mO pw w) dj []:=by rw[<-hdj];exact sJ _
 have eobj:(s3.heap.push {cls:=.type "dict",data:=.dict #[]}).get? dj=some {cls:=.type "dict",data:=.dict #[]}:=by rw[<-hdj];exact jQ _ rfl
 have t4:=ET (x:="") t3 k3 e3 (Ag _ eobj)
 have i4:=i3.keeps (Ax k3)
 have sAl:AI s {s3 with heap:=s3.heap.push {cls:=.type "dict",data:=.dict #[]}}:=(Bc k12).tr (a3.tr (Bc k3))
 have eD3:s3.heap.get? D≠none:=by refine Ao i3.dict λes n e _=>?_;rw[e];exact λh=>nomatch h
 have hDdj:D≠dj:=λz=>eD3 (z▸e3)
 have hIdj:I≠dj:=λz=>by have:=i3.inst;rw[z,e3] at this;exact B6 this
 have hIL:I≠s.heap.objs.size:=λz=>by have:=kq i.inst;rw[z] at this;exact absurd this (lp _)
 have hdO4:¬Ap.has (("",dj)::("",s.heap.objs.size)::O) D:=by
  intro zz1;refine Af zz1 λp hp e=>?_
  rcases jG.mp hp with rfl|hp
  ·exact hDdj e.symm
  ·exact MF.dO (Ac p hp e)
 refine Dn (Bw 0 t4 ?_)
 refine F7 (hK _ t4.keep) i4 (by rwa[hkk]) (λh5 i5 sb5=>?_)
 refine Ao i4.dict λes4 n4 eD4 _=>?_
 refine Ao i5.dict λes5 n5 eD5 _=>?_
 have t5:=Ej (tk:=s3.toks+2) N t4 A3 MF.dl hdO4 eD4 rfl rfl sb5 eD5
 refine lI (AG N (i:=2) (b:=.val (.raw (.ref dj))) rfl (jT rfl) rfl t5 rfl λs6 a6a u6 t6=>?_)
 have hdjL:dj≠s.heap.objs.size:=λz=>by rw[z] at hz3;exact absurd hz3 (lp _)
 have i6:IN s6.heap I D (Bm m "b2j" (.ref dj)) (k+1):=i5.at' ((u6 I _ hIL i5.inst).trans i5.inst.symm) ((u6 D _ MF.dl eD5).trans eD5.symm)
 have edj6:∀o,(s3.heap.push {cls:=.type "dict",data:=.dict #[]}).get? dj=some o->s6.heap.get? dj=some o:=λo e=>u6 dj _ hdjL ((sb5.2 dj (ll hDdj)).trans e)
 have hsj:s.heap.get? dj=none:=by
  cases e:s.heap.get? dj with
  | none=>rfl
  | some o=>
   by_cases h:dj=s.heap.objs.size
   ·exact absurd h hdjL
   ·have:=u3 dj _ h (Ax k12 _ _ e);exact B0 e3 this
 have hh:(A.deeper (callEnvC (Bq (Ch w.params)) s.heap.objs.size 188)).handled=none:=rm.handled
 refine kg (ZP N (Vc N hh (A1 T hk') (Aa 1)) (λi σ=>∃x y z,(C8 x&&C8 y&&C8 z)=true/\σ=[some (.val (.raw (.ref I))),some (.val (.py (.list (bs.map .str)))),some (.val (.raw (.ref dj))),x,y,z,none,none,none,none,none,none])
  (λi O' h=>IN h I D (Bm m "b2j" (.ref dj)) (k+1)/\¬Ap.has O' D/\((jz "",dj):jX×jL)∈O'/\BJ w h dj bs i (λl=>((jz "",l):jX×jL)∈O'/\l≠dj/\l≠s.heap.objs.size/\(A6 s D).heap.get? l=none)) ?_ t6 (KC none none none rfl rfl) ⟨i6,hdO4,.head _,?_⟩ ?_ ?_)
 ·intro j O' h h' hkeep zz1;refine CU zz1 λij c1 c2 bj=>?_
  refine⟨?_,c1,c2,bj.keeps (λ_ h=>h) (λo es n e hd=>hkeep _ _ e (λf z=>by rw[hd] at z;exact jS z) hdjL) λl vs lk ⟨n,e⟩=>Ag n (hkeep _ _ e (λf z=>by cases z) lk.2.2.1)⟩
  refine Ao ij.dict λes n e _=>?_
  exact ij.at' ((hkeep _ _ ij.inst (λf z=>by cases z) hIL).trans ij.inst.symm) ((hkeep _ _ e (λf z=>by cases z) MF.dl).trans e.symm)
 ·refine⟨(Xh [] ?_ (kf _) (λ_ _=>rfl) (λx hx=>absurd rfl hx) λx y l h=>nomatch h)⟩
  refine CG emap λo es ep e r=>?_
  exact KC o es ep (edj6 _ e) r
 ·intro j d σ1 hd zz1;refine CG zz1 λx y z _ zz2=>?_;clear zz1;obtain rfl:=zz2
  refine Af (Eu hd) λd' hd' zz1=>?_;obtain rfl:=zz1
  rw[j8] at hd'
  refine Af (j6.mp hd') λel hel zz1=>?_;obtain rfl:=zz1
  refine Ac _ (BV N hh [3,4] (ds:=[.int j,.str el]) ⟨rfl,rfl,rfl,rfl,trivial⟩) ?_
  intro O1 r1 Q1 E1 tr zz1 qn;refine CU zz1 λir dOr djr bj=>?_
  obtain⟨⟨kvs,hm,hle,f0,f1,f2⟩⟩:=bj
  have hjl:j<bs.length:=(jK.mp hel).1
  have hlo:(dj == sysModules)=false:=by
   have h1:=modules_low T.gl.nolimit
   have h2:xG.objs.size<=s.heap.objs.size\/True:=.inr trivial
   rw[beq_eq_false_iff_ne]
   rintro rfl
   obtain⟨o,ho⟩:∃o,xG.get? sysModules=some o:=Ag _ (K.get 1 (o:=pe w.params) (by kernel_rfl))
   have:=hk _ _ ho
   exact B0 hsj this
  refine kg (l6 (mh (Bw 2 tr (mK hm.typeIs F.plainAttrs_dict tA PySem.F.type_dict_setdefault hm.mapOf.noDict (callWith_builtin (by rfl) (AL (by rfl) (args_cons (EX 4 tr λv rv=>args_cons (tT (pX ⟨by decide,pX ?_⟩)) (by rfl)) (by rfl)))))) (by rfl)) (by rfl))
  obtain⟨tv,rfl⟩:=VR.str_inv rv
  generalize hl0:r1.heap.objs.size=l0 at *
  have e0:r1.heap.get? l0=none:=by rw[<-hl0];exact Bk (jN _)
  have kp:kY r1 {r1 with heap:=r1.heap.push {cls:=.type "list",data:=.seq #[]}}:=Keeps.push _ _
  have el0:(r1.heap.push {cls:=.type "list",data:=.seq #[]}).get? l0=some {cls:=.type "list",data:=.seq #[]}:=by rw[<-hl0];exact jQ _ rfl
  have t7:=ET (x:="") tr kp e0 (Ag _ el0)
  have f7:Fx (CF pw w A (A6 s D) s (Bq (Ch w.params)) 188 FI O) O1 r1 (("",l0)::O1) {r1 with heap:=r1.heap.push {cls:=.type "list",data:=.seq #[]}}:=Fx.new kp e0
  have i7:=ir.keeps (Ax kp)
  have hl0dj:l0≠dj:=λz=>by refine CG hm λo _ _ e _=>?_;rw[<-z,e0] at e;exact B6 e
  have hl0D:l0≠D:=λz=>by refine Ao ir.dict λes n e _=>?_;rw[<-z,e0] at e;exact B6 e
  have hl0L:l0≠s.heap.objs.size:=λz=>by refine Af tr.ex λmm zz1 _=>?_;obtain⟨o,_,_,e,_⟩:=zz1;have e:r1.heap.get? s.heap.objs.size=some o:=e;rw[<-z,e0] at e;exact B6 e
  have s0n:∀a,r1.heap.get? a=none->(A6 s D).heap.get? a=none:=λa ha=>gn λo e=>by have:=tr.keep _ _ e;exact B0 ha this
  have hdO7:¬Ap.has (("",l0)::O1) D:=by
   rintro⟨p,hp,e⟩
   rcases jG.mp hp with rfl|hp
   ·exact hl0D e
   ·exact dOr (Ac p hp e)
  have hIdj':∀{h:jY} {v:Array jB},h.PlainList I v->¬IN h I D (Bm m "b2j" (.ref dj)) (k+1):=by
   rintro h v ⟨n,e⟩ q;have:=q.inst;rw[e] at this;cases this
  have hdj0:(A6 s D).heap.get? dj=none:=gn λo e=>by have:=(Er e).1;exact B0 hsj this
  have hne:(("":jX))∉FI:=by decide +kernel
  have hcl:∀(b:jL) (x:jX),(x,b)∉(CF pw w A (A6 s D) s (Bq (Ch w.params)) 188 FI O).env.cells:=λb x h=>nomatch h
  refine lR (Q:=λv xJ=>∃l vs kvs' O2,v=.ref l/\Fx (CF pw w A (A6 s D) s (Bq (Ch w.params)) 188 FI O) O1 r1 O2 xJ/\St (CF pw w A (A6 s D) s (Bq (Ch w.params)) 188 FI O) O2 (F2 [some (.val (.raw (.ref I))),some (.val (.py (.list (bs.map .str)))),some (.val (.raw (.ref dj))),x,y,z,none,none,none,none,none,none] [3,4] [.int j,.str el]) xJ/\
   IN xJ.heap I D (Bm m "b2j" (.ref dj)) (k+1)/\¬Ap.has O2 D/\(∀p∈O1,p∈O2)/\((jz "",l):jX×jL)∈O2/\l≠dj/\l≠s.heap.objs.size/\(A6 s D).heap.get? l=none/\xJ.heap.PlainList l vs/\tw vs.toList (Oj bs j el)/\xJ.heap.DictOf (mO pw w) dj kvs'/\kvs'.length<=j+1/\valueAt kvs' el=some (.ref l)/\(∀x,x≠el->valueAt kvs' x=valueAt kvs x)/\
   (∀l' vs',((jz "",l'):jX×jL)∈O1->l'≠dj->r1.heap.PlainList l' vs'->xJ.heap.PlainList l' vs')/\∀x y l,valueAt kvs' x=some (.ref l)->valueAt kvs' y=some (.ref l)->x=y) ?_ (λv xJ hq=>?_) (λ_ _ e=>e)
  ·have hm7:(r1.heap.push {cls:=.type "list",data:=.seq #[]}).DictOf (mO pw w) dj kvs:=hm.push _
   refine Jp (s:={r1 with heap:=r1.heap.push {cls:=.type "list",data:=.seq #[]}}) hm7 (by rwa[hlen,hle,hjl]) hlo (λv hv=>?_) (λhv h9 hm9 sb9=>?_)
   ·have hx:Oj bs j el≠[]:=λz=>by exact B0 (f0 _ z) hv
    refine E8 (f1 el hx) λl vs e1 zz1 zz2 ia=>?_;obtain⟨lk1,lk2,lk3,lk4⟩:=zz1;obtain⟨n,pl⟩:=zz2
    (replace e1:=CQ hv e1;subst e1)
    refine Xg l vs kvs _ rfl (f7.tr (Fx.of_keeps Keeps.rfl')) (t7.keeps λ_ _ e=>e) i7 hdO7 (λp hp=>.tail _ hp) (.tail _ lk1) lk2 lk3 lk4 (Ag n (Ax kp _ _ pl)) ia hm7 (by rwa[hle]) hv (λ_ _=>rfl) (λl' vs' _ _ ⟨n',e'⟩=>(Ag n' (Ax kp _ _ e'))) f2
   ·have hx:Oj bs j el=[]:=by
     cases q:Oj bs j el with
     | nil=>rfl
     | cons a b=>
      refine Ao (f1 el (by rw[q];exact λh=>nomatch h)) λl vs e1 _=>?_
      exact B0 hv e1
    have g9:=AJ sb9
    have hT9:∀o,(r1.heap.push {cls:=.type "list",data:=.seq #[]}).get? dj=some o->¬(o.cls=.type "tuple"/\∃vs n,o.data=.seq vs n):=by
     refine Cf hm7 λo es ep e r1' r2' _=>?_
     intro o' e' zz1;refine Cg zz1 λ_ zr0=>B1 zr0 λvs n d=>?_
     (replace e':=CQ e e';subst e');rw[r2'] at d;exact jS d
    have hl9:∃o,h9.get? dj=some o:=by refine CG hm9 λo _ _ e _=>?_;exact Ag o e
    have t9:=Iu (tk:=r1.toks+1) N t7 (.tail _ djr) hne hdjL (hcl dj) hdj0 hT9 (λb o hb e=>g9 b hb o e) hl9
    have hDdj':D≠dj:=hDdj
    have hdjT:∀o,r1.heap.get? dj=some o->¬(o.cls=.type "tuple"/\∃vs n,o.data=.seq vs n):=λo e=>hT9 o (Ax kp _ _ e)
    have f9:Fx (CF pw w A (A6 s D) s (Bq (Ch w.params)) 188 FI O) (("",l0)::O1) {r1 with heap:=r1.heap.push {cls:=.type "list",data:=.seq #[]}} (("",l0)::O1) {r1 with heap:=h9,toks:=r1.toks+1}:=by
     refine⟨(AS _ _ rfl),λ_ h=>.inl h,λb o e=>?_,λb o e h1 h2=>g9 b (λz=>h1 (z▸(Ac _ (.tail _ djr) rfl))) o e,λb o e q=>g9 b (λz=>hT9 o (z▸e) q) o e⟩
     by_cases hbd:b=dj
     ·rw[hbd];exact hl9
     ·exact Ag o (g9 b hbd o e)
    refine Xg l0 (#[]) _ _ rfl (f7.tr f9) t9 (i7.at' (sb9.2 I hIdj) (sb9.2 D hDdj)) hdO7 (λp hp=>.tail _ hp) (.head _) hl0dj hl0L (s0n l0 e0) (Ag 0 (g9 l0 hl0dj _ el0)) (by rw[hx];exact .nil) hm9 (kL (stored_length_le _ _ _) (by rwa[hle])) (by rw[Ci hv,if_pos rfl]) (λx hne=>by rw[Ci hv,if_neg hne]) (λl' vs' hl' hd' ⟨n',e'⟩=>(Ag n' (g9 l' hd' _ (Ax kp _ _ e')))) ?_
    intro x y l hx' hy'
    rw[Ci hv] at hx' hy'
    have old:∀x l,valueAt kvs x=some (.ref l)->l≠l0:=by
     rintro x l hfx rfl
     have hxn:Oj bs j x≠[]:=λz=>by exact B0 (f0 _ z) hfx
     refine E8 (f1 x hxn) λl' vs' e1 zz1 zz2 _=>?_;obtain⟨lk1,_⟩:=zz1;obtain⟨n,pl⟩:=zz2
     rw[hfx] at e1;cases e1
     exact B0 e0 pl
    split at hx'<;>split at hy'
    ·rename_i h1 h2;rw[h1,h2]
    ·rename_i h1 h2;cases hx';exact absurd rfl (old _ _ hy')
    ·rename_i h1 h2;cases hy';exact absurd rfl (old _ _ hx')
    ·exact f2 x y l hx' hy'
  ·refine ay hq λl vs kvs' O2 zz1 fx t8 i8 d8 sub8 lo8 ldj lL l0s pl8 ia8 hm8 hle8 he8 hoth8 hkeep8 hinj8=>?_;clear hq;obtain rfl:=zz1
   refine AG N (i:=5) (b:=.val (.raw (.ref l))) rfl (jT rfl) rfl t8 rfl λr9 a9 u9 t9=>?_
   have fx9:=fx.tr (Fx.ofBut t8 a9 u9 t9)
   have pl9:r9.heap.PlainList l vs:=AR pl8 λn e=>⟨n,u9 l _ lL e⟩
   obtain⟨n8,epl⟩:=pl9
   refine kg (nG (mh (Bw 5 t9 (mK (Heap.IsList.typeIs ⟨_,epl,rfl,_,rfl⟩) F.plainAttrs_list F.slot_list_append F.type_list_append (λb hb=>by injection hb with hb;subst hb;exact Ac _ epl rfl) (callWith_builtin (by rfl) (AL (by rfl) (args_cons (EX 3 t9 λv rv=>pX ?_) (by rfl)))))) (by rfl)) (by rfl))
   obtain⟨ti,rfl⟩:=VR.int_inv rv
   have hlenI:(Oj bs j el).length<=j:=by
    unfold Oj
    rw[jI]
    exact kL (vH _ _) (by rw[lG];exact jN _)
   have hvs:vs.size<=j:=by
    have:=ia8.length
    rw[kh] at this
    rwa[hlenI,this]
   refine rT (s:=r9) (l:=l) (items:=vs) (Ag n8 epl) (λh10 pl10 sb10=>?_) (by rw[sizeLine_eq];rwa[hlen,hjl,hvs])
   have g10:=AJ sb10
   have hT10:∀o,r9.heap.get? l=some o->¬(o.cls=.type "tuple"/\∃vs n,o.data=.seq vs n):=by
    rintro o' e' ⟨hc,_⟩
    (replace e':=CQ epl e';subst e');exact absurd (show jV "list"=jV "tuple" from hc) (by decide)
   have hl10:∃o,h10.get? l=some o:=by obtain⟨n,e⟩:=pl10;exact Ag _ e
   have t10:=Iu (tk:=r9.toks) N t9 lo8 hne lL (hcl l) l0s hT10 (λb o hb e=>g10 b hb o e) hl10
   have f10:Fx (CF pw w A (A6 s D) s (Bq (Ch w.params)) 188 FI O) O2 r9 O2 {r9 with heap:=h10}:=by
    refine⟨(AS _ _ rfl),λ_ h=>.inl h,λb o e=>?_,λb o e h1 h2=>g10 b (λz=>h1 (z▸(Ac _ lo8 rfl))) o e,λb o e q=>g10 b (λz=>hT10 o (z▸e) q) o e⟩
    by_cases hbd:b=l
    ·rw[hbd];exact hl10
    ·exact Ag o (g10 b hbd o e)
   have hlD:D≠l:=λz=>d8 (z▸(Ac _ lo8 rfl))
   have i9:IN r9.heap I D (Bm m "b2j" (.ref dj)) (k+1):=by
    refine Ao i8.dict λes n e _=>?_
    exact i8.at' ((u9 I _ hIL i8.inst).trans i8.inst.symm) ((u9 D _ MF.dl e).trans e.symm)
   have hlI:I≠l:=λz=>hIdj' (show r9.heap.PlainList I vs from⟨n8,by rw[z];exact epl⟩) i9
   refine lZ (qn O2 _ _ (fx9.tr f10) t10 (KC _ _ _ rfl rfl) ⟨i9.at' (sb10.2 I hlI) (sb10.2 D hlD),d8,sub8 _ djr,⟨(Xh kvs' ?_ hle8 ?_ ?_ hinj8)⟩⟩)
   ·refine CG hm8 λo es ep e r=>?_
    exact KC o es ep (g10 dj (ll ldj) o (u9 dj o hdjL e)) r
   ·intro x hx
    rw[GI] at hx
    have h1:=List.append_eq_nil_iff.mp hx
    have hxe:x≠el:=by
     rintro rfl
     rw[if_pos hel] at h1
     exact absurd h1.2 (λh=>nomatch h)
    rw[hoth8 x hxe]
    exact f0 x h1.1
   ·intro x hx
    rw[GI] at hx
    by_cases hxe:x=el
    ·subst hxe
     refine C6 l _ he8 ⟨lo8,ldj,lL,l0s⟩ pl10 ?_
     rw[qR,GI,if_pos hel]
     exact U2 ia8 _ _
    ·have hxx:(if bs[j]?=some x then [(j:Int)] else [])=[]:=by
      rw[if_neg]
      rw[hel]
      exact λh=>hxe (kR h).symm
     rw[hxx,kF] at hx
     refine E8 (f1 x hx) λl' vs' e1 zz1 pl' ia'=>?_;obtain⟨lk1,lk2,lk3,lk4⟩:=zz1
     have hll:l'≠l:=by
      rintro rfl
      exact hxe (hinj8 x el l' (by rw[hoth8 x hxe];exact e1) he8)
     obtain⟨n',e'⟩:=hkeep8 l' vs' lk1 lk2 pl'
     refine C6 l' vs' (by rw[hoth8 x hxe];exact e1) ⟨sub8 _ lk1,lk2,lk3,lk4⟩ (Ag n' (g10 l' hll _ (u9 l' _ lk3 e'))) ?_
     rw[GI,hxx,kF]
     exact ia'
 ·intro O' σ' r' fr tr zz1 zz3;refine CG zz1 λx y z fl zz2=>?_;clear zz1;obtain rfl:=zz2;refine CU zz3 λir dOr djr bj=>?_
  rw[Rp,jI] at bj
  have flat:∀a b c:Option Bd,(C8 a&&C8 b&&C8 c)=true->List.all [some (.val (.raw (.ref I))),some (.val (.py (.list (bs.map .str)))),some (.val (.raw (.ref dj))),x,y,z,a,b,c,none,none,none] C8=true:=by
   intro a b c h
   simp only[kJ] at fl h
   have e1:∀v,C8 (some (.val (.raw v)))=true:=λ_=>rfl
   have e2:∀v,C8 (some (.val (.py v)))=true:=λ_=>rfl
   have e3:C8 none=true:=rfl
   simp only[lC,vn,oE,sL,e1,e2,e3,fl.1.1,fl.1.2,fl.2,h.1.1,h.1.2,h.2]
  refine IL (j:=6) rfl N tr hK ir (by rwa[hkk]) A3 MF.dl hIL dOr (flat none none none rfl) (A1 T hk') (λO s Q E t q=>Bw 0 t q) λr1 sj led EN kp1 t1 i1 sj0 sje sjD sjL=>?_
  have hj1:(Bm (Bm m "b2j" (.ref dj)) "bjunk" (.ref sj)) "isjunk"=some .none:=hj
  have ha1:(Bm (Bm (Bm m "b2j" (.ref dj)) "bjunk" (.ref sj)) "bpopular" (.ref sj)) "autojunk"=some (.bool true):=ha
  refine kg (l6 (DJ rfl t1 (hK r1 t1.keep) i1 (Aa 0) hj1 λr2 k2 t2=>?_) (by rfl))
  refine AG N (i:=7) (b:=.val (.raw .none)) rfl (jT rfl) rfl t2 rfl λr3 a3' u3 t3=>?_
  have keep3:∀b o,b≠s.heap.objs.size->r1.heap.get? b=some o->r3.heap.get? b=some o:=λb o h e=>u3 b o h (Ax k2 _ _ e)
  have i3:IN r3.heap I D (Bm (Bm m "b2j" (.ref dj)) "bjunk" (.ref sj)) (k+1+1):=by
   refine Ao i1.dict λes n e _=>?_
   exact i1.at' ((keep3 I _ hIL i1.inst).trans i1.inst.symm) ((keep3 D _ MF.dl e).trans e.symm)
  refine kg (uo (oJ (Bw 7 t3 (truthy_none (lZ ?_))) (by rfl)))
  refine IL (j:=8) rfl N t3 hK i3 (by rwa[hkk]) A3 MF.dl hIL dOr (flat _ _ none rfl) (A1 T hk') (λO s Q E t q=>Bw 0 t q) λr4 sp led4 al4 kp4 t4 i4 sp0 spe spD spL=>?_
  refine kg (l6 ((show Ev (CF pw w A (A6 s D) s (Bq (Ch w.params)) 188 FI O) _ (.Call (.Name (jz "len") _) [.Name (jz "b") _] [] _) (.py (.int ((bs.map oN).length:Nat))) from Ds (A1 T hk') (Aa 1) (by rfl) (by rw[jI];rwa[hlen])) O' r4 _ _ t4 λv r5 t5 k5 rv5=>?_) (by rfl))
  obtain⟨tn,rfl⟩:=rv5.int_inv
  refine AG N (i:=9) (b:=.val (.py (.int ((bs.map oN).length:Nat)))) rfl (jT rfl) rfl t5 (VR.int _ _ _ _) λr6 a6 u6 t6=>?_
  have keep6:∀b o,b≠s.heap.objs.size->r4.heap.get? b=some o->r6.heap.get? b=some o:=λb o h e=>u6 b o h (Ax k5 _ _ e)
  have i6:IN r6.heap I D (Bm (Bm (Bm m "b2j" (.ref dj)) "bjunk" (.ref sj)) "bpopular" (.ref sp)) (k+1+1+1):=by
   refine Ao i4.dict λes n e _=>?_
   exact i4.at' ((keep6 I _ hIL i4.inst).trans i4.inst.symm) ((keep6 D _ MF.dl e).trans e.symm)
  refine kg (uo (xq (sr (oJ (DJ rfl t6 (hK r6 t6.keep) i6 (Aa 0) (v:=.bool true) ha λr7 k7 t7=>nO ?_) (by rfl)))))
  refine sr ((show Tv (CF pw w A (A6 s D) s (Bq (Ch w.params)) 188 FI O) _ (.Compare (.Name (jz "n") _) [.GtE] [.Constant (.int 200) 0 _] _) (decide ((200:Int)<=((bs.map oN).length:Nat))) from An (Aa 9) Ai) O' r7 _ _ t7 λr8 t8 k8=>?_)
  have hlt:decide ((200:Int)<=((bs.map oN).length:Nat))=false:=by
   rw[jI];exact decide_eq_false (by rwa[hlen])
  rw[hlt]
  refine lZ (lZ ?_)
  have i8:=(i6.keeps (Ax k7)).keeps (Ax k8)
  have keepAll:∀b o,b≠D->b≠s.heap.objs.size->r'.heap.get? b=some o->r8.heap.get? b=some o:=λb o h1 h2 e=>
   Ax k8 _ _ (Ax k7 _ _ (keep6 b o h2 (kp4 b o h1 h2 (keep3 b o h2 (kp1 b o h1 h2 e)))))
  refine q r8 dj sj sp led ?_ (λb o hb e=>t8.keep b o ((Bj hb).trans e)) i8 ?_ hsj ?_ ?_
  ·exact AI.tr ((Bc k12).tr (a3.tr ((Bc k3).tr (AI.tr (AS _ _ rfl) a6a)))) ((fr.alike).tr (EN.tr ((Bc k2).tr (a3'.tr (al4.tr ((Bc k5).tr (a6.tr ((Bc k7).tr (Bc k8)))))))))
  ·refine bj.keeps (λa ha=>?_) (λo es n e hd=>keepAll dj o (ll hDdj) hdjL e) (λl vs lk ⟨n,e⟩=>Ag n (keepAll l _ (λz=>dOr (z▸(Ac _ lk.1 rfl))) lk.2.2.1 e))
   have:=ha.2.2.2
   have hne:a≠D:=λz=>dOr (z▸(Ac _ ha.1 rfl))
   rwa[Bj hne] at this
  ·exact gn λo e=>by have:=tr.keep sj o ((Bj sjD).trans e);exact B0 sj0 this
  ·exact Ax k8 _ _ (Ax k7 _ _ (keep6 sj _ sjL (kp4 sj _ sjD sjL (keep3 sj _ sjL sje))))
theorem d6(P:jC):Bf (Bq (FW P)) (Am (BB 5 4)) ["self","b"] ["self","b"]:=.of' rfl rfl rfl (by decide +kernel)
theorem Y6(P:jC)(u v:jB):l3 (Bq (FW P)) ⟨[u,v],[]⟩=pure [((jz "self"),u),((jz "b"),v)]:=by rfl
theorem CY{s s2:jE}{I D:jL}{m:jX->Option jB}{k:Nat}(h:∀b o,b≠D->s.heap.get? b=some o->s2.heap.get? b=some o)(i:IN s2.heap I D m k){l:jL}(e:s2.heap.get? l=none):s.heap.get? l=none:=by
 cases q:s.heap.get? l with
 | none=>rfl
 | some o=>
  by_cases hl:l=D
  ·refine Ao i.dict λ_ _ e' _=>?_
   rw[hl,e'] at e;exact XK e
  ·exact B0 e (h _ _ hl q)
structure MB (w:jW) (s s':jE) (I D:jL) (m:jX->Option jB) (k:Nat) (bs:List jX) (dj sj sp:jL) (led:Bool):Prop where
 al:AI s s'
 keep:∀b o,b≠D->s.heap.get? b=some o->s'.heap.get? b=some o
 inn:IN s'.heap I D (Bm (Bm (Bm m "b2j" (.ref dj)) "bjunk" (.ref sj)) "bpopular" (.ref sp)) k
 bj:BJ w s'.heap dj bs bs.length (λl=>s.heap.get? l=none)
 dj0:s.heap.get? dj=none
 sj0:s.heap.get? sj=none
 sje:s'.heap.get? sj=some (Cc led)
theorem Ha{s s':jE}{O:Ap}{v:jB}{d:jO}{as:List jL}(rb:Ak s.heap v d as)(hbO:∀a∈as,¬O.has a):∀a∈as,¬Ap.has (("",s.heap.objs.size)::O) a:=by
 rintro a haa ⟨p,hp,e⟩
 rcases jG.mp hp with rfl|hp
 ·obtain⟨o,ho⟩:=BA rb a haa
  have e:s.heap.objs.size=a:=e
  rw[<-e] at ho
  exact absurd (kq ho) (lp _)
 ·exact hbO a haa (Ac p hp e)
theorem V9{w:jW}{A:kA}{s:jE}{O:Ap}{I D:jL}{m:jX->Option jB}{k:Nat}{xG:jY}{lb:jL}{bs:List jX}{as:List jL}{mg mb:jX->Option jB}{Q:jB->jE->Prop}{E:jB->jE->Prop}(K:Bn w xG)(T:Br mg mb xG)(room:A0 A 4)(hk:HK xG s)(own:CJ O s)(hDO:¬O.has D)(hD0:xG.get? D=none)
 (i:IN s.heap I D m k)(hkk:k<=600)(hb:m "b"=some .none)(hj:m "isjunk"=some .none)(ha:m "autojunk"=some (.bool true))(hc:m "_SequenceMatcher__chain_b"=none)(rb:Ak s.heap (.ref lb) (.list (bs.map .str)) as)(hbO:∀a∈as,¬O.has a)(hlen:bs.length<=100)
 (q:∀(s':jE) (dj sj sp:jL) (led:Bool),MB w s s' I D (Bm (Bm (Bm (Bm m "b" (.ref lb)) "matching_blocks" .none) "opcodes" .none) "fullbcount" .none) (k+7) bs dj sj sp led->Q .none s') :
 wpAny (model pw w) A (call (.ref 181) [.ref I,.ref lb]) Q E s:=by
 delta w A s O I D m k xG lb bs as mg mb Q E at K T room hk own hDO hD0 i hkk hb hj ha hc rb hbO hlen q
 refine Db (args:=⟨[.ref I,.ref lb],[]⟩) (vs:=[.ref I,.ref lb]) (fd:=Bq (FW w.params)) (st:=BB 5 4) K T.gl.nolimit room hk own hDO (f:=181) (o:=FW w.params) (by kernel_rfl) (by kernel_rfl) (d6 _) (by kernel_rfl) (.of_eq (Y6 _ _ _)) rfl (λN rm s1 E' t k1=>?_)
 have MF:=Zb.of (w:=w) i hDO
 have hk':HK xG (A6 s D):=Es hk hD0
 have hK:∀s':jE,(∀b o,(A6 s D).heap.get? b=some o->s'.heap.get? b=some o)->Bn w s'.heap:=λs' h=>K.keeps λb o e=>h b o (hk' b o e)
 refine Fp t λs2 k2 t2=>?_
 have k12:=Keeps.tr k1 k2
 have i2:=i.keeps (Ax k12)
 refine kg (uo (qe (Bw 1 t2 (DJ rfl t2 (hK s2 t2.keep) i2 (Aa 0) hb λs4 k4 t4=>?_)) (by rfl)))
 refine vr (by rfl) (nO ?_)
 refine lZ ?_
 have i4:=i2.keeps (Ax k4)
 refine Gw rfl N t4 (hK s4 t4.keep) i4 (by rwa[hkk]) A3 MF.dl MF.dO rfl (Aa 0) (Aa 1) λs5 a5 kk5 t5 i5=>?_
 refine IK rfl N t5 (hK s5 t5.keep) hK i5 (by rwa[hkk]) A3 MF.dl MF.dO rfl (Aa 0) (Aa 0) Fb λs6 a6 t6 i6=>?_
 refine Gw rfl N t6 (hK s6 t6.keep) i6 (by rwa[hkk]) A3 MF.dl MF.dO rfl (Aa 0) Fb λs7 a7 kk7 t7 i7=>?_
 have keep7:∀b o,b≠D->s.heap.get? b=some o->s7.heap.get? b=some o:=λb o hb e=>t7.keep b o ((Bj hb).trans e)
 have rb7:Ak s7.heap (.ref lb) (.list (bs.map .str)) as:=by
  refine Ao i.dict λes n eD _=>?_
  exact Bo (λb hb o e=>keep7 b o hb e) (by rintro o' e' ⟨_,vs,z,hd'⟩;(replace e':=CQ eD e';subst e');cases hd') rb (Dw eD rfl rb)
 refine kg (nG (mh (Bw 0 t7 (Ep (f:=188) (hK s7 t7.keep) i7 hc (xc (K:=KK w.params) (hK s7 t7.keep).k (by kernel_rfl) ?_))) (by rfl)) (by rfl))
 refine Vq K T (rm.le (by rwa[])) (λb o e=>t7.keep b o (hk' b o e)) t7.ownOk MF.dO hD0 i7 (by rwa[hkk]) (lb:=lb) (bs:=bs) rfl hj ha rb7 (Ha (s':=s) rb hbO) hlen λs8 dj sj sp led al8 kp8 i8 bj8 dj8 sj8 sje8=>?_
 refine lZ (q s8 dj sj sp led ⟨(Bc k12).tr ((Bc k4).tr (a5.tr (a6.tr (a7.tr al8)))),λb o hb e=>kp8 b o hb (keep7 b o hb e),i8,bj8.keeps (λa ha=>CY keep7 i7 ha) (λ_ _ _ e _=>e) (λ_ _ _ e=>e),CY keep7 i7 dj8,CY keep7 i7 sj8,sje8⟩)
theorem d9(P:jC):Bf (Bq (EP P)) (Am (BB 5 2)) ["self","a","b"] ["self","a","b"]:=.of' rfl rfl rfl (by decide +kernel)
theorem Y8(P:jC)(u v x:jB):l3 (Bq (EP P)) ⟨[u,v,x],[]⟩=pure [((jz "self"),u),((jz "a"),v),((jz "b"),x)]:=by rfl
noncomputable def mA (m:jX->Option jB) (la:jL):jX->Option jB:=Bm (Bm (Bm m "a" (.ref la)) "matching_blocks" .none) "opcodes" .none
noncomputable def mB (m:jX->Option jB) (lb:jL):jX->Option jB:=Bm (Bm (Bm (Bm m "b" (.ref lb)) "matching_blocks" .none) "opcodes" .none) "fullbcount" .none
theorem HP{s s7:jE}{I D:jL}{m:jX->Option jB}{k:Nat}(i:IN s.heap I D m k)(keep7:∀b o,b≠D->s.heap.get? b=some o->s7.heap.get? b=some o){v:jB}{d:jO}{as:List jL}(rb:Ak s.heap v d as):Ak s7.heap v d as:=by
 refine Ao i.dict λes n eD _=>?_
 exact Bo (λb hb o e=>keep7 b o hb e) (by rintro o' e' ⟨_,vs,z,hd'⟩;(replace e':=CQ eD e';subst e');cases hd') rb (Dw eD rfl rb)
theorem V7{w:jW}{A:kA}{s:jE}{O:Ap}{I D:jL}{m:jX->Option jB}{k:Nat}{xG:jY}{la lb:jL}{bs:List jX}{as:List jL}{mg mb:jX->Option jB}{Q:jB->jE->Prop}{E:jB->jE->Prop}(K:Bn w xG)(T:Br mg mb xG)(room:A0 A 6)(hk:HK xG s)(own:CJ O s)(hDO:¬O.has D)(hD0:xG.get? D=none)
 (i:IN s.heap I D m k)(hkk:k<=500)(ha0:m "a"=some .none)(hb:m "b"=some .none)(hj:m "isjunk"=some .none)(ha:m "autojunk"=some (.bool true))(hc:m "_SequenceMatcher__chain_b"=none)(hc1:m "set_seq1"=none)(hc2:m "set_seq2"=none)(rb:Ak s.heap (.ref lb) (.list (bs.map .str)) as)(hbO:∀a∈as,¬O.has a)(hlen:bs.length<=100)
 (q:∀(s':jE) (dj sj sp:jL) (led:Bool),MB w s s' I D (mB (mA m la) lb) (k+10) bs dj sj sp led->Q .none s') :
 wpAny (model pw w) A (call (.ref 167) [.ref I,.ref la,.ref lb]) Q E s:=by
 delta w A s O I D m k xG la lb bs as mg mb Q E at K T room hk own hDO hD0 i hkk ha0 hb hj ha hc hc1 hc2 rb hbO hlen q
 refine Db (args:=⟨[.ref I,.ref la,.ref lb],[]⟩) (vs:=[.ref I,.ref la,.ref lb]) (fd:=Bq (EP w.params)) (st:=BB 5 2) K T.gl.nolimit room hk own hDO (f:=167) (o:=EP w.params) (by kernel_rfl) (by kernel_rfl) (d9 _) (by kernel_rfl) (.of_eq (Y8 _ _ _ _)) rfl (λN rm s1 E' t k1=>?_)
 have MF:=Zb.of (w:=w) i hDO
 have hk':HK xG (A6 s D):=Es hk hD0
 have hK:∀s':jE,(∀b o,(A6 s D).heap.get? b=some o->s'.heap.get? b=some o)->Bn w s'.heap:=λs' h=>K.keeps λb o e=>h b o (hk' b o e)
 refine Fp t λs2 k2 t2=>?_
 have k12:=Keeps.tr k1 k2
 have i2:=i.keeps (Ax k12)
 refine kg (nG (mh (Bw 0 t2 (Ep (f:=174) (hK s2 t2.keep) i2 hc1 (tX (K:=KK w.params) (hK s2 t2.keep).k (by kernel_rfl) (args_cons (Bw 1 t2 (pX ⟨(hK s2 t2.keep).k,?_⟩)) (by rfl))))) (by rfl)) (by rfl))
 refine Wa K T.gl.nolimit (rm.le (by rwa[])) (λb o e=>t2.keep b o (hk' b o e)) t2.ownOk MF.dO hD0 i2 (by rwa[hkk]) ha0 λs3 a3 kp3 i3=>?_
 have t3:St (CF pw w A (A6 s D) s (Bq (EP w.params)) 167 ["self","a","b"] O) (("",s.heap.objs.size)::O) (Bi (([.ref I,.ref la,.ref lb]:List jB).map .raw) 0) s3:=by
  refine Ao i2.dict λes2 n2 eD2 _=>?_
  refine Ao i3.dict λes3 n3 eD3 _=>?_
  refine B1 a3 λh3 tk3 zz1=>?_;clear a3;obtain rfl:=zz1
  exact Ek N t2 A3 MF.dl MF.dO eD2 rfl rfl kp3 eD3
 have keep3:∀b o,b≠D->s.heap.get? b=some o->s3.heap.get? b=some o:=λb o hb e=>kp3 b o hb (Ax k12 _ _ e)
 refine kg (nG (mh (Bw 0 t3 (Ep (f:=181) (hK s3 t3.keep) i3 hc2 (tX (K:=KK w.params) (hK s3 t3.keep).k (by kernel_rfl) (args_cons (Bw 2 t3 (pX ⟨(hK s3 t3.keep).k,?_⟩)) (by rfl))))) (by rfl)) (by rfl))
 refine V9 K T (rm.le (by rwa[])) (λb o e=>t3.keep b o (hk' b o e)) t3.ownOk MF.dO hD0 i3 (by rwa[hkk]) (bs:=bs) hb hj ha hc (HP i keep3 rb) (Ha (s':=s) rb hbO) hlen λs8 dj sj sp led mb8=>?_
 refine lZ (q s8 dj sj sp led ⟨(Bc k12).tr (a3.tr mb8.al),λb o hb e=>mb8.keep b o hb (keep3 b o hb e),mb8.inn,mb8.bj.keeps (λa ha=>CY keep3 i3 ha) (λ_ _ _ e _=>e) (λ_ _ _ e=>e),CY keep3 i3 mb8.dj0,CY keep3 i3 mb8.sj0,mb8.sje⟩)
theorem eb(P:jC):Bf (Bq (G1 P)) (Am (BB 5 1)) ["self","isjunk","a","b","autojunk"] ["self","isjunk","a","b","autojunk"]:=.of' rfl rfl rfl (by decide +kernel)
noncomputable def mI (m:jX->Option jB) (la lb:jL):jX->Option jB:=mB (mA (Bm (Bm (Bm (Bm m "isjunk" .none) "a" .none) "b" .none) "autojunk" (.bool true)) la) lb
theorem WM{w:jW}{A:kA}{s:jE}{O:Ap}{I D:jL}{xG:jY}{la lb:jL}{bs:List jX}{as:List jL}{mg mb:jX->Option jB}{R:sY->jE->Prop}(K:Bn w xG)(T:Br mg mb xG)(room:A0 A 8)(hk:HK xG s)(own:CJ O s)(hDO:¬O.has D)(hD0:xG.get? D=none)
 (i:IN s.heap I D (λ_=>none) 0)(rb:Ak s.heap (.ref lb) (.list (bs.map .str)) as)(hbO:∀a∈as,¬O.has a)(hlen:bs.length<=100)
 (q:∀(s':jE) (dj sj sp:jL) (led:Bool),MB w s s' I D (mI (λ_=>none) la lb) 14 bs dj sj sp led->R (.ok (.ret .none)) s') :
 codeAny (model pw w) A (.call (.ref 160) ⟨[.ref I,.none,.ref la,.ref lb],[]⟩) R s:=by
 delta w A s O I D xG la lb bs as mg mb R at K T room hk own hDO hD0 i rb hbO hlen q
 refine O9 (args:=⟨[.ref I,.none,.ref la,.ref lb],[]⟩) (vs:=[.ref I,.none,.ref la,.ref lb,.bool true]) (fd:=Bq (G1 w.params)) (st:=BB 5 1) K T.gl.nolimit room hk own hDO (f:=160) (o:=G1 w.params) (by kernel_rfl) (by kernel_rfl) (eb _) (by kernel_rfl)
  (.of_defaults (T:=153) (o:=M8 w.params) (n:=0) rfl (hk _ _ (K.get 153 (by kernel_rfl))) rfl rfl rfl) rfl (λN rm s1 E' t k1=>?_)
 have MF:=Zb.of (w:=w) i hDO
 have hk':HK xG (A6 s D):=Es hk hD0
 have hK:∀s':jE,(∀b o,(A6 s D).heap.get? b=some o->s'.heap.get? b=some o)->Bn w s'.heap:=λs' h=>K.keeps λb o e=>h b o (hk' b o e)
 have i1:=i.keeps (Ax k1)
 refine Fp t λs2 k2 t2=>?_
 have i2:=i1.keeps (Ax k2)
 refine Gw rfl N t2 (hK s2 t2.keep) i2 (by rwa[]) A3 MF.dl MF.dO rfl (Aa 0) (Aa 1) λs3 a3 kk3 t3 i3=>?_
 refine IK rfl N t3 (hK s3 t3.keep) hK i3 (by rwa[]) A3 MF.dl MF.dO rfl (Aa 0) (Aa 0) Fb λs4 a4 t4 i4=>?_
 refine Gw rfl N t4 (hK s4 t4.keep) i4 (by rwa[]) A3 MF.dl MF.dO rfl (Aa 0) (Aa 4) λs5 a5 kk5 t5 i5=>?_
 have keep5:∀b o,b≠D->s.heap.get? b=some o->s5.heap.get? b=some o:=λb o hb e=>t5.keep b o ((Bj hb).trans e)
 refine kg (nG (mh (Bw 0 t5 (Ep (f:=167) (hK s5 t5.keep) i5 rfl (tX (K:=KK w.params) (hK s5 t5.keep).k (by kernel_rfl) (args_cons (Bw 2 t5 (args_cons (Bw 3 t5 (pX ⟨(hK s5 t5.keep).k,?_⟩)) (by rfl))) (by rfl))))) (by rfl)) (by rfl))
 refine V7 K T (rm.le (by rwa[])) (λb o e=>t5.keep b o (hk' b o e)) t5.ownOk MF.dO hD0 i5 (by rwa[]) (bs:=bs) rfl rfl rfl rfl rfl rfl rfl (HP i keep5 rb) (Ha (s':=s) rb hbO) hlen λs8 dj sj sp led mb8=>?_
 refine lZ (q s8 dj sj sp led ⟨(Bc k1).tr ((Bc k2).tr (a3.tr (a4.tr (a5.tr mb8.al)))),λb o hb e=>mb8.keep b o hb (keep5 b o hb e),mb8.inn,mb8.bj.keeps (λa ha=>CY keep5 i5 ha) (λ_ _ _ e _=>e) (λ_ _ _ e=>e),CY keep5 i5 mb8.dj0,CY keep5 i5 mb8.sj0,mb8.sje⟩)
theorem A0.under{A:kA}{n:Nat}{C:jL}{vals:List jB}(r:A0 A (n+1)):A0 (A.under (.builtin "type.__call__" ⟨.ref C::vals,[]⟩)) n:=by
 have e1:(A.under (.builtin "type.__call__" ⟨.ref C::vals,[]⟩)).depth=A.depth+1:=rfl
 have e2:(A.under (.builtin "type.__call__" ⟨.ref C::vals,[]⟩)).units=A.units+1:=rfl
 exact⟨r.handled,by rw[e1];have:=r.depth;rwa[this],by rw[e2];have:=r.units;rwa[this]⟩
theorem WB{w:jW}{A:kA}{s:jE}{O:Ap}{xG:jY}{la lb:jL}{bs:List jX}{as:List jL}{mg mb:jX->Option jB}{Q:jB->jE->Prop}{E:jB->jE->Prop}(K:Bn w xG)(T:Br mg mb xG)(room:A0 A 10)(hk:HK xG s)(own:CJ O s)
 (rb:Ak s.heap (.ref lb) (.list (bs.map .str)) as)(hbO:∀a∈as,¬O.has a)(hlen:bs.length<=100)
 (q:∀(s':jE) (I D dj sj sp:jL) (led:Bool),AI s s'->(∀b o,s.heap.get? b=some o->s'.heap.get? b=some o)->s.heap.get? I=none->s.heap.get? D=none->
  IN s'.heap I D (Bm (Bm (Bm (mI (λ_=>none) la lb) "b2j" (.ref dj)) "bjunk" (.ref sj)) "bpopular" (.ref sp)) 14->BJ w s'.heap dj bs bs.length (λl=>s.heap.get? l=none)->(s.heap.get? dj=none/\dj≠D)->s.heap.get? sj=none->s'.heap.get? sj=some (Cc led)->Q (.ref I) s') :
 wpAny (model pw w) A (call (.ref CS) [.none,.ref la,.ref lb]) Q E s:=by
 obtain⟨hh,g,d,tk,os⟩:=s
 have X:(KK w.params).In hh:=(K.up hk).k
 refine mS (make_core (makes_of X (by kernel_rfl)) (pW X (by kernel_rfl:vv (KK w.params) (.ref CS) "__init__"=some (some (.ref 160)))) (λself=>bind_fn X self (by kernel_rfl)) (.inl rfl) ?_)
 generalize hD:hh.objs.size=D
 have k1:∀b o,hh.get? b=some o->((hh.push emptyDict).push (instObj CS D)).get? b=some o:=λb o e=>jF _ (jF _ e)
 have eD0:hh.get? D=none:=gn λo e=>absurd (kq e) (by rw[hD];exact lp _)
 have eI0:hh.get? (D+1)=none:=gn λo e=>absurd (kq e) (by show ¬D+1<hh.objs.size;rw[hD];rwa[])
 have eD:((hh.push emptyDict).push (instObj CS D)).get? D=some (dictOf [] 0):=jF _ (by rw[<-hD];exact jQ _ rfl)
 have eI:((hh.push emptyDict).push (instObj CS D)).get? (D+1)=some (instObj CS D):=by
  have:D+1=(hh.push emptyDict).objs.size:=by rw[mR,hD]
  rw[this];exact jQ _ rfl
 have ii:IN ((hh.push emptyDict).push (instObj CS D)) (D+1) D (λ_=>none) 0:=⟨eI,[],0,eD,λ_=>rfl,jN _⟩
 have hDO:¬O.has D:=by
  rintro⟨p,hp,e⟩
  obtain⟨o,ho⟩:=own.live p hp
  rw[e] at ho
  have ho:hh.get? D=some o:=ho
  exact B0 eD0 ho
 refine WM (s:=⟨(hh.push emptyDict).push (instObj CS D),g,d,tk,os⟩) (O:=O) K T (A0.under (room.le (by rwa[]))) (λb o e=>k1 b o (hk b o e)) ⟨own.nodup,λp hp=>AR (own.live p hp) λo e=>(Ag o (k1 _ _ e))⟩ hDO ?_ ii (Ak.keeps k1 rb) hbO hlen λs8 dj sj sp led mb8=>?_
 ·exact gn λo e=>by have:=hk _ _ e;have this:hh.get? D=some o:=this;exact B0 eD0 this
 ·refine⟨rfl,?_⟩
  have kp:∀b o,hh.get? b=some o->s8.heap.get? b=some o:=λb o e=>mb8.keep b o (λz=>by rw[z,eD0] at e;exact B6 e) (k1 _ _ e)
  have dn:∀a,((hh.push emptyDict).push (instObj CS D)).get? a=none->hh.get? a=none:=λa e=>by
   cases q:hh.get? a with
   | none=>rfl
   | some o=>exact B0 e (k1 _ _ q)
  exact q s8 (D+1) D dj sj sp led (AI.tr (AS _ _ rfl) mb8.al) kp eI0 eD0 mb8.inn (mb8.bj.keeps (λa ha=>dn a ha) (λ_ _ _ e _=>e) (λ_ _ _ e=>e)) ⟨dn _ mb8.dj0,λz=>by have:=mb8.dj0;rw[z] at this;have this:((hh.push emptyDict).push (instObj CS D)).get? D=none:=this;exact B0 this eD⟩ (dn _ mb8.sj0) mb8.sje
section
open PySem.Builtin PySem.Builtin.ObjectAttr
theorem EU:Slot "method_descriptor" "__get__" "method_descriptor.__get__":=
 .of (owner:="method_descriptor") (n:="__get__") (by rw[lT,kZ];kernel_rfl) (by decide +kernel) (by decide +kernel) (by decide +kernel)
  (by first|exact .inl (by decide +kernel)|exact .inr (by decide +kernel)) (by rw[mJ];kernel_rfl)
theorem GP:ur table "method_descriptor.__get__"=some km.«method_descriptor.__get__»:=rV (by kernel_rfl)
theorem Ib(a b c:jB):su "method_descriptor.__get__" ⟨[a,b,c],[]⟩:=by unfold su;kernel_rfl
theorem WD:typeLookup (.type "dict") "get"=pure (some (.builtin "dict.get")):=by rw[lT,kZ];kernel_rfl
theorem J4:typeLookup (.type "set") "__contains__"=pure (some (.builtin "set.__contains__")):=by rw[lT,kZ];kernel_rfl
theorem FA:typeOf (.builtin "set.__contains__")=pure (.type "method_descriptor"):=by show builtinType _=_;rw[xv];kernel_rfl
noncomputable abbrev A8 (id:String) (d:jL):nH:={cls:=.type "builtin_function_or_method",data:=.fields #[.builtin id,.ref d]}
theorem aq{w:jW}{A:kA}{E:jB->jE->Prop}{hh:jY}{g:Array vz}{dr:Drawn}{tk:Nat}{os:lJ}{d:jL}{o:nH}{Q:jB->jE->Prop}(ho:hh.get? d=some o)(hc:o.cls=.type "dict")
 (h:Q (.ref hh.objs.size) ⟨hh.push (A8 "dict.get" d),g,dr,tk,os⟩):wpAny (model pw w) A (call (.builtin "method_descriptor.__get__") [.builtin "dict.get",.ref d,.type "dict"]) Q E ⟨hh,g,dr,tk,os⟩:=by
 refine lH EU (by show typeOf (.builtin "dict.get")=_;exact F.type_dict_get) GP ?_ (Ib _ _ _)
 have hT:∀tk',(⟨hh,g,dr,tk',os⟩:jE).TypeIs (.ref d) "dict":=λ_=>Ac _ ho hc
 unfold km.«method_descriptor.__get__»
 repeat (any_goals (first|assumption|exact hT _|wp_step))
 rw[hc,show ".".intercalate ("dict.get".cutAt '.').dropLast="dict" by decide +kernel]
 refine ly (show isSubtype (.type "dict") (.type "dict")=pure true by rw[mJ];kernel_rfl) ?_
 rw[if_neg (by decide)]
 refine jJ (jA ?_)
 repeat (any_goals (first|exact(Ac _ rfl h)|wp_step))
theorem Rj{w:jW}{A:kA}{E:jB->jE->Prop}{hh:jY}{g:Array vz}{dr:Drawn}{tk:Nat}{os:lJ}{d:jL}{o:nH}{Q:jB->jE->Prop}(ho:hh.get? d=some o)(hc:o.cls=.type "set")
 (h:Q (.ref hh.objs.size) ⟨hh.push (A8 "set.__contains__" d),g,dr,tk,os⟩):wpAny (model pw w) A (call (.builtin "method_descriptor.__get__") [.builtin "set.__contains__",.ref d,.type "set"]) Q E ⟨hh,g,dr,tk,os⟩:=by
 refine lH EU (by show typeOf (.builtin "set.__contains__")=_;exact FA) GP ?_ (Ib _ _ _)
 have hT:∀tk',(⟨hh,g,dr,tk',os⟩:jE).TypeIs (.ref d) "set":=λ_=>Ac _ ho hc
 unfold km.«method_descriptor.__get__»
 repeat (any_goals (first|assumption|exact hT _|wp_step))
 rw[hc,show ".".intercalate ("set.__contains__".cutAt '.').dropLast="set" by decide +kernel]
 refine ly (show isSubtype (.type "set") (.type "set")=pure true by rw[mJ];kernel_rfl) ?_
 rw[if_neg (by decide)]
 refine jJ (jA ?_)
 repeat (any_goals (first|exact(Ac _ rfl h)|wp_step))
theorem X4(id:String)(h:typeOf (.builtin id)=pure (.type "method_descriptor")):specialOf (.builtin id) "__get__"=pure (some (.builtin "method_descriptor.__get__")):=by
 unfold specialOf
 rw[h]
 show typeLookup (.type "method_descriptor") "__get__"=_
 exact EU.lookup
theorem V1(id:String)(h:typeOf (.builtin id)=pure (.type "method_descriptor")):takesStores (.builtin id)=pure false:=by
 have e1:specialOf (.builtin id) "__set__"=pure none:=by
  unfold specialOf
  rw[h]
  show typeLookup (.type "method_descriptor") "__set__"=_
  rw[lT,kZ];kernel_rfl
 have e2:specialOf (.builtin id) "__delete__"=pure none:=by
  unfold specialOf
  rw[h]
  show typeLookup (.type "method_descriptor") "__delete__"=_
  rw[lT,kZ];kernel_rfl
 unfold takesStores
 rw[e1,e2]
 rfl
theorem Uc{w:jW}{A:kA}{E:jB->jE->Prop}{hh:jY}{g:Array vz}{dr:Drawn}{tk:Nat}{os:lJ}{d:jL}{o:nH}{T id:String}{name:jX}{Q:Found->jE->Prop}(ho:hh.get? d=some o)(hc:o.cls=.type T)(hd:o.dict=none)(hnc:∀c,o.data≠.cls c)
 (h1:typeLookup (.type T) name=pure (some (.builtin id)))(h2:typeOf (.builtin id)=pure (.type "method_descriptor"))(h3:(["__module__","__name__","__qualname__","__doc__","__annotations__"]:List jX).contains name=false)
 (h:Q (.bind (.builtin "method_descriptor.__get__") (.builtin id)) ⟨hh,g,dr,tk,os⟩):wpAny (model pw w) A (find (.ref d) (.type T) name) Q E ⟨hh,g,dr,tk,os⟩:=by
 obtain⟨oc,od,oda,osl⟩:=o
 dsimp only at hc hd
 subst hc hd
 have body:∀{A:kA} {Q:Option jL->jE->Prop} {E:jB->jE->Prop} {tk:Nat},Q none ⟨hh,g,dr,tk,os⟩->wpAny (model pw w) A (ObjectAttr.ownDict d) Q E ⟨hh,g,dr,tk,os⟩:=by
  intro A Q E tk q
  unfold ObjectAttr.ownDict w6
  refine jA (oz ho ?_)
  have:wpAny (model pw w) A (instanceDict d false) Q E ⟨hh,g,dr,tk,os⟩:=by
   unfold instanceDict
   exact jA (oz ho (jJ q))
  cases oda<;>first|exact this|exact absurd rfl (hnc _)
 unfold find getOf dataDescriptor? ownThenClass inOwnDict copiedAttributeGuard byTheClass
 refine jA (ly h1 (jA (ly (X4 id h2) (jA (jA (ly (V1 id h2) (jJ ?_)))))))
 refine jA (jA (body (jJ ?_)))
 refine jA ?_
 dsimp only
 rw[if_neg (by rw[h3];exact lg)]
 exact jJ (jA (so (jJ h)))
end
section
open PySem.Builtin PySem.Builtin.ObjectAttr
theorem HM(a b:jB):nc "__getattribute__" 1 ⟨[a,b],[]⟩=pure (a,[b]):=by kernel_rfl
theorem GW(x:jX)(t:ut):wJ (.str x t)=pure x:=by kernel_rfl
theorem Jo(a:jB)(d:jL)(tp:jB):bindTo (.builtin "method_descriptor.__get__") a (.ref d) tp=(do ret (<-ml [a] (call (.builtin "method_descriptor.__get__") [a,.ref d,tp]))):=by kernel_rfl
theorem Pz{w:jW}{A:kA}{E:jB->jE->Prop}{s:jE}{d:jL}{o:nH}{es:Array ny}{n:Nat}{Q:jB->jE->Prop}(ho:s.heap.get? d=some o)(hex:o.ExactDict)(hdat:o.data=.dict es n)
 (h:Q (.ref s.heap.objs.size) {s with heap:=s.heap.push (A8 "dict.get" d),toks:=s.toks+1}):wpAny (model pw w) A (pU (.ref d) "get" true) Q E s:=by
 delta w A E d es n Q at s o ho hex hdat h
 obtain⟨c,dct,dat,sl⟩:=o
 obtain⟨hc,hd,hsl⟩:=hex
 simp only at hc hdat hd
 subst hc hdat hd
 obtain⟨hh,g,dr,tk,os⟩:=s
 have hT:∀tk',(⟨hh,g,dr,tk',os⟩:jE).TypeIs (.ref d) "dict":=λ_=>Ac _ ho rfl
 have f3:=F.slot_dict_getattribute.lookup
 have f4:=F.slot_dict_getattribute.bind (.ref d)
 have f5:=am_dict_getattr_none
 unfold pU getAttrBy
 refine jA (wn (kE (jA (sk (hT _) (jA (ly f3 ?_))))))
 show wpAny _ _ (sB (.ref d) (.str "get" tk) (.type "dict") (.builtin "dict.__getattribute__") true true) _ _ _
 unfold sB hookBefore callGetattribute boundAndCalled
 refine jA (ly (show(if onTheHeap (.type "dict") then typeLookup (.type "dict") "__getattr__" else pure none)=pure none from rfl) ?_)
 refine jA (pA (kE ?_))
 show wpAny _ _ (bindSpecial (.builtin "dict.__getattribute__") (.ref d)>>=_) _ _ _
 refine jA (ly f4 ?_)
 refine lR (Q:=λv s'=>v=.ref hh.objs.size/\s'=⟨hh.push (A8 "dict.get" d),g,dr,tk+1,os⟩) (E:=λ_ _=>False)
  (lH F.slot_dict_getattribute (hT _) am_entry_dict_getattribute ?_ (F.args_dict_getattribute_2 _ _)) (λv s' hv=>?_) λ_ _ z=>z.elim
 ·unfold km.«object.__getattribute__»
  refine jA (ly (HM _ _) ?_)
  refine jA (ly (GW _ _) ?_)
  refine jA (sk (hT _) ?_)
  refine jA ?_
  have hnc:∀c,(vi es n)≠.cls c:=λc h=>by exact jS h
  have hn3:(["__module__","__name__","__qualname__","__doc__","__annotations__"]:List jX).contains "get"=false:=by decide +kernel
  have fm:=λQ E (h:Q (Found.bind (.builtin "method_descriptor.__get__") (.builtin "dict.get")) ⟨hh,g,dr,tk+1,os⟩)=>@Uc w A.in1 E hh g dr (tk+1) os d {cls:=.type "dict",data:=.dict es n,slots:=sl} "dict" "dict.get" "get" Q ho rfl rfl hnc WD F.type_dict_get hn3 h
  refine fm _ _ ?_
  show wpAny _ _ (bindTo (.builtin "method_descriptor.__get__") (.builtin "dict.get") (.ref d) (.type "dict")) _ _ _
  rw[Jo]
  refine jA (kE ?_)
  refine aq ho rfl ?_
  exact jJ (Ba _ rfl rfl rfl)
 ·obtain⟨rfl,rfl⟩:=hv
  exact jJ h
end
section
set_option backward.match.sparseCases true
open PySem.Builtin PySem.Builtin.ObjectAttr
theorem Y0(a b c:jB):(match oQ "dict.get" with|some sig=>qI "dict.get" {sig with full:=s!"{Bind.lastOf "dict"}.{Bind.lastOf "dict.get"}"} ⟨[a,b,c],[]⟩|none=>pure ())=pure ():=by
 rw[vW (id:="dict.get") (n:=['t','e','g']) (o:=['t','c','i','d']) (by kernel_rfl) PySem.F.owner_dict];kernel_rfl
theorem WJ:qt "dict.get"=some .method:=by decide +kernel
theorem XO:uu.contains "dict.get"=false:=by decide +kernel
theorem Vp{w:jW}{A:kA}{E:jB->jE->Prop}{s:jE}{d:jL}{o:nH}{es:Array ny}{n:Nat}{b c:jB}{Q:Unit->jE->Prop}(ho:s.heap.get? d=some o)(hc:o.cls=.type "dict")(hdat:o.data=.dict es n)(q:Q () s):wpAny (model pw w) A (pV "dict.get" ⟨[.ref d,b,c],[]⟩) Q E s:=by
 have L0:mD (model pw w) s.heap (typeOf (.ref d)) (.type "dict"):=hc▸(oO ho).andThen .now
 have L1:mD (model pw w) s.heap (isInstance (.ref d) (.type "module")) false:=L0.andThen (pR (by rw[mJ];kernel_rfl))
 have L2:mD (model pw w) s.heap (isType (.ref d)) false:=by
  intro A Q E s' k q
  unfold isType w6
  refine jA (oz (k _ _ ho) ?_)
  rw[hdat]
  exact jJ q
 have ck:=Y0 (.ref d) b c
 unfold pV
 cases hs:oQ "dict.get" with
 | none=>exact jJ q
 | some sig=>
  rw[hs] at ck
  dsimp only at ck ⊢
  rw[WJ]
  dsimp only
  rw[if_neg (by decide)]
  refine jA (L1.here ?_)
  rw[XO]
  rw[if_neg (by decide)]
  have l2:∀(Q:Bool->jE->Prop) (E:jB->jE->Prop),Q false s->wpAny (model pw w) A (isType (.ref d)) Q E s:=λQ E z=>L2.here z
  refine jA (l2 _ _ ?_)
  rw[if_neg (by decide)]
  refine jA (L0.here ?_)
  show wpAny _ _ (qI "dict.get" {sig with full:=s!"{Bind.lastOf "dict"}.{Bind.lastOf "dict.get"}"} ⟨[.ref d,b,c],[]⟩) _ _ _
  rw[ck]
  exact jJ q
theorem Vr{w:jW}{A:kA}{E:jB->jE->Prop}{s:jE}{d g:jL}{i:Int}{t:ut}{dflt:jB}{f:Int->Option jB}{Q:jB->jE->Prop}(hg:s.heap.get? g=some (A8 "dict.get" d))(hm:s.heap.MapOf (pQ pw w) d f)(lo:(d == sysModules)=false)
 (h:Q ((f i).getD dflt) {s with toks:=s.toks+1}):wpAny (model pw w) A (call (.ref g) [.int i t,dflt]) Q E s:=by
 have hT:s.TypeIs (.ref d) "dict":=hm.typeIs
 have hm':=hm
 refine Cf hm' λo es ep ho hex hdat _=>?_
 refine mS (ve ?_)
 show wpAny _ _ (wt (.ref g) _) _ _ _
 unfold wt
 refine jA (sq hg ?_)
 show wpAny _ _ (pV "dict.get" ⟨[.ref d,.int i t,dflt],[]⟩>>=λ_=>again (.builtin "dict.get" ⟨[.ref d,.int i t,dflt],[]⟩)) _ _ _
 refine jA (Vp ho hex.1 hdat ?_)
 refine jJ ⟨sM _ (by decide +kernel),?_⟩
 have hmt:=wq (pQ pw w) d (uM pw w i t) lo dflt
 refine pD uT ?_
 rw[nz (by decide +kernel)]
 exact hmt A (λr s'=>match r with | .ok (.ret v)=>Q v s' | .ok _=>False | .error e=>E e s') s (Ac f hm h)
end
section
open PySem.Builtin PySem.Builtin.ObjectAttr
theorem Op:ur table "set.__getattribute__"=some km.«object.__getattribute__»:=
 entryFor_alias (id':="object.__getattribute__") (by kernel_rfl) (by decide +kernel) (by decide +kernel) (by kernel_rfl)
theorem G7:typeLookup (.type "set") "__getattr__"=pure none:=by rw[lT,kZ];kernel_rfl
theorem Ic{w:jW}{A:kA}{E:jB->jE->Prop}{s:jE}{d:jL}{led:Bool}{Q:jB->jE->Prop}(ho:s.heap.get? d=some (Cc led))
 (h:Q (.ref s.heap.objs.size) {s with heap:=s.heap.push (A8 "set.__contains__" d),toks:=s.toks+1}):wpAny (model pw w) A (pU (.ref d) "__contains__" true) Q E s:=by
 delta w A E d led Q at s ho h
 obtain⟨hh,g,dr,tk,os⟩:=s
 have hT:∀tk',(⟨hh,g,dr,tk',os⟩:jE).TypeIs (.ref d) "set":=λ_=>Ac _ ho rfl
 have f3:=pM.lookup
 have f4:=pM.bind (.ref d)
 have f5:=G7
 unfold pU getAttrBy
 refine jA (wn (kE (jA (sk (hT _) (jA (ly f3 ?_))))))
 show wpAny _ _ (sB (.ref d) (.str "__contains__" tk) (.type "set") (.builtin "set.__getattribute__") true true) _ _ _
 unfold sB hookBefore callGetattribute boundAndCalled
 refine jA (ly (show(if onTheHeap (.type "set") then typeLookup (.type "set") "__getattr__" else pure none)=pure none from rfl) ?_)
 refine jA (pA (kE ?_))
 show wpAny _ _ (bindSpecial (.builtin "set.__getattribute__") (.ref d)>>=_) _ _ _
 refine jA (ly f4 ?_)
 refine lR (Q:=λv s'=>v=.ref hh.objs.size/\s'=⟨hh.push (A8 "set.__contains__" d),g,dr,tk+1,os⟩) (E:=λ_ _=>False)
  (lH pM (hT _) Op ?_ (PySem.F.args_set_getattribute_2 _ _)) (λv s' hv=>?_) λ_ _ z=>z.elim
 ·unfold km.«object.__getattribute__»
  refine jA (ly (HM _ _) ?_)
  refine jA (ly (GW _ _) ?_)
  refine jA (sk (hT _) ?_)
  refine jA ?_
  have hnc:∀c,(Cc led).data≠.cls c:=λc h=>by cases h
  have hn3:(["__module__","__name__","__qualname__","__doc__","__annotations__"]:List jX).contains "__contains__"=false:=by decide +kernel
  have fm:=λQ E (h:Q (Found.bind (.builtin "method_descriptor.__get__") (.builtin "set.__contains__")) ⟨hh,g,dr,tk+1,os⟩)=>@Uc w A.in1 E hh g dr (tk+1) os d (Cc led) "set" "set.__contains__" "__contains__" Q ho rfl rfl hnc J4 FA hn3 h
  refine fm _ _ ?_
  show wpAny _ _ (bindTo (.builtin "method_descriptor.__get__") (.builtin "set.__contains__") (.ref d) (.type "set")) _ _ _
  rw[Jo]
  refine jA (kE ?_)
  refine Rj ho rfl ?_
  exact jJ (Ba _ rfl rfl rfl)
 ·obtain⟨rfl,rfl⟩:=hv
  exact jJ h
theorem Ow(a b:jB):(match oQ "set.__contains__" with|some sig=>qI "set.__contains__" {sig with full:=s!"{Bind.lastOf "set"}.{Bind.lastOf "set.__contains__"}"} ⟨[a,b],[]⟩|none=>pure ())=pure ():=by
 rw[vW (id:="set.__contains__") (n:=['_','_','s','n','i','a','t','n','o','c','_','_']) (o:=['t','e','s']) (by kernel_rfl) PySem.F.owner_set];kernel_rfl
theorem J7:qt "set.__contains__"=some .method:=by decide +kernel
theorem NT:uu.contains "set.__contains__"=false:=by decide +kernel
theorem Jm{w:jW}{A:kA}{E:jB->jE->Prop}{s:jE}{d:jL}{led:Bool}{b:jB}{Q:Unit->jE->Prop}(ho:s.heap.get? d=some (Cc led))(q:Q () s):wpAny (model pw w) A (pV "set.__contains__" ⟨[.ref d,b],[]⟩) Q E s:=by
 delta w A E s d led b Q at ho q
 have L0:mD (model pw w) s.heap (typeOf (.ref d)) (.type "set"):=(oO ho).andThen .now
 have L1:mD (model pw w) s.heap (isInstance (.ref d) (.type "module")) false:=L0.andThen (pR (by rw[mJ];kernel_rfl))
 have L2:mD (model pw w) s.heap (isType (.ref d)) false:=by
  intro A Q E s' k q
  unfold isType w6
  refine jA (oz (k _ _ ho) ?_)
  exact jJ q
 have ck:=Ow (.ref d) b
 unfold pV
 cases hs:oQ "set.__contains__" with
 | none=>exact jJ q
 | some sig=>
  rw[hs] at ck
  dsimp only at ck ⊢
  rw[J7]
  dsimp only
  rw[if_neg (by decide)]
  refine jA (L1.here ?_)
  rw[NT]
  rw[if_neg (by decide)]
  have l2:∀(Q:Bool->jE->Prop) (E:jB->jE->Prop),Q false s->wpAny (model pw w) A (isType (.ref d)) Q E s:=λQ E z=>L2.here z
  refine jA (l2 _ _ ?_)
  rw[if_neg (by decide)]
  refine jA (L0.here ?_)
  show wpAny _ _ (qI "set.__contains__" {sig with full:=s!"{Bind.lastOf "set"}.{Bind.lastOf "set.__contains__"}"} ⟨[.ref d,b],[]⟩) _ _ _
  rw[ck]
  exact jJ q
theorem Jn{w:jW}{A:kA}{E:jB->jE->Prop}{s:jE}{d g:jL}{x:jX}{t:ut}{led:Bool}{Q:jB->jE->Prop}(hg:s.heap.get? g=some (A8 "set.__contains__" d))(hm:s.heap.get? d=some (Cc led))
 (h:Q (.bool false) {s with toks:=s.toks+1}):wpAny (model pw w) A (call (.ref g) [.str x t]) Q E s:=by
 delta w A E s d g x t Q at led hg hm h
 have hS:s.heap.SetOf (mO pw w) d (λ_=>false) 0:=eT _ (#[]) 0 _ hm ⟨rfl,rfl,rfl⟩ rfl (λe he=>by simp at he) (λk=>by simp) (by decide) (by cases led<;>rfl) rfl
 refine mS (ve ?_)
 show wpAny _ _ (wt (.ref g) _) _ _ _
 unfold wt
 refine jA (sq hg ?_)
 show wpAny _ _ (pV "set.__contains__" ⟨[.ref d,.str x t],[]⟩>>=λ_=>again (.builtin "set.__contains__" ⟨[.ref d,.str x t],[]⟩)) _ _ _
 refine jA (Jm hm ?_)
 refine jJ ⟨sM _ (by decide +kernel),?_⟩
 refine pD PySem.entry_set_contains ?_
 rw[nz (by decide +kernel)]
 unfold km.«frozenset.__contains__» xe
 dsimp only
 simp -iota only[List.isEmpty_nil,bind_assoc]
 unfold xf xd setContains
 refine jA (jJ ?_)
 try dsimp only
 refine jA (vq ?_)
 refine kE ?_
 refine jA ((mO pw w).pyHash (qZ pw w x t) ?_)
 refine jA (wpAny_setFind_of (s:={s with toks:=s.toks+1}) (qZ pw w x t) (by rfl) hS λr hr=>?_)
 refine jJ ?_
 show wpAny _ _ (ret (ko r.isSome)) _ _ _
 rw[hr]
 exact jJ h
end

section
variable {Γ:Cx} {σ:AX} {O:Ap} {s:jE}
theorem ek(N:Nm Γ){i:Nat}{x:jX}{a:jL}{P P':nH->Prop}{h':jY}{tk:Nat}{o':nH}(t:St Γ O σ s)(hi:Γ.ns[i]?=some x)(hσ:σ[i]?=some (some (.at a P)))(sb:oo a s.heap h')(ho':h'.get? a=some o')(hP:P' o')(hz:FV o')(hc:o'.cls≠.type "tuple") :
 St Γ O (σ.set i (some (.at a P'))) {s with heap:=h',toks:=tk}/\Fx Γ O s O {s with heap:=h',toks:=tk}:=by
 delta Γ σ O s i x a P P' h' tk o' at N t hi hσ sb ho' hP hz hc
 obtain⟨kp,⟨m,n,vs⟩,cl,nd,lv,sb',fr,fs⟩:=t
 have hlt:i<σ.length:=(jK.mp hσ).1
 refine W2 (vs i x _ hi hσ) λv0 hd zz1 m1 zz2 f1 haL=>?_;obtain rfl:=zz1;obtain⟨o,g,p,z,hcl⟩:=zz2
 have hT:∀o,s.heap.get? a=some o->¬(o.cls=.type "tuple"/\∃vs n,o.data=.seq vs n):=by
  rintro o' e' ⟨h1,_⟩
  (replace e':=CQ g e';subst e');exact hcl h1
 have hget:=AJ sb
 have haO:O.has a:=Ac _ m1 rfl
 have hncell:∀{c:jL} {u:Option jB},s.heap.IsCell c u->c≠a:=by
  rintro c u ⟨oc,ec,dc⟩ rfl
  (replace ec:=CQ g ec;subst ec);exact z.1 _ dc
 refine⟨⟨λb o e=>hget b (λw=>by rw[w,f1] at e;exact B6 e) o (kp b o e),(Ac m (n.sameBut sb (ll haL)) λj y b e e'=>?_),λy c e=>?_,nd,λp hp=>?_,sb',fr,fs⟩,⟨(AS _ _ rfl),λ_ h=>.inl h,λb o e=>?_,λb o e h1 _=>hget b (λw=>h1 (w▸haO)) o e,λb o e q=>hget b (λw=>hT o (w▸e) q) o e⟩⟩
 ·have held:∀{y:jX} {u:jB},Gk s.heap Γ.env m y u->Gk h' Γ.env m y u:=λw=>w.imp id λ⟨k,c,hc,ic⟩=>⟨k,c,hc,ic.sameBut sb (hncell ic)⟩
  by_cases hj:j=i
  ·subst hj
   (replace e:=CQ hi e;subst e)
   rw[lN hlt] at e'
   cases e'
   exact eX (.ref a) (held hd) rfl m1 (H5 o' ho' hP hz hc) f1 haL
  ·rw[lO (ll hj)] at e'
   refine Af (vs j y b e e') λu hd' r'=>?_
   refine Ac u (held hd') ?_
   have other:∀a2,(y,a2)∈O->a2≠a:=by
    rintro a2 hm rfl
    have:=Ap.mem_inj nd m1 hm
    subst this
    exact hj ((mn (jK.mp e).1 N.nodup).mp (e.trans hi.symm))
   cases b with
   | val w=>exact VR.avoid (O:=O) r' haO hget hT
   | own es=>
    refine CR r' λa2 ws' as' e1 m1' l1' r1' q1' f1'=>?_
    exact CA a2 ws' as' e1 m1' (AR l1' λn e=>(Ag n (hget _ (other _ m1') _ e))) (Aq hget hT r1' λhm=>q1' _ hm haO) q1' f1'
   | «at» a2 P2=>
    refine CU r' λe1 m1' zz1 f1'=>?_;obtain⟨o2,g2,p2⟩:=zz1
    exact⟨e1,m1',(Ac o2 (hget _ (other _ m1') _ g2) p2),f1'⟩
 ·obtain⟨u,ic⟩:=cl y c e
  exact Ag u (ic.sameBut sb (hncell ic))
 ·obtain⟨o1,e1⟩:=lv p hp
  by_cases hp':p.2=a
  ·exact Ag o' (hp'▸ho')
  ·exact Ag o1 (hget _ hp' _ e1)
 ·by_cases hb:b=a
  ·exact Ag o' (hb▸ho')
  ·exact Ag o (hget b hb o e)
theorem QV(N:Nm Γ){i:Nat}{x:jX}{a:jL}{P:nH->Prop}(y:jX)(t:St Γ O σ s)(hi:Γ.ns[i]?=some x)(hσ:σ[i]?=some (some (.at a P))) :
 St Γ ((y,a)::O.filter λp=>!decide (p.2=a)) (σ.set i none) s/\Fx Γ O s ((y,a)::O.filter λp=>!decide (p.2=a)) s:=by
 delta Γ σ O s i x a P y at N t hi hσ
 obtain⟨kp,⟨m,n,vs⟩,cl,nd,lv,sb,fr,fs⟩:=t
 have hlt:i<σ.length:=(jK.mp hσ).1
 refine W2 (vs i x _ hi hσ) λv0 hd zz1 m1 zz2 f1 haL=>?_;obtain rfl:=zz1;obtain⟨o,g,p,z⟩:=zz2
 have hsub:∀b,Ap.has ((y,a)::O.filter λp=>!decide (p.2=a)) b->O.has b:=by
  intro b zz1;refine Af zz1 λp hp e=>?_
  rcases jG.mp hp with rfl|hp
  ·exact Ac _ m1 e
  ·exact Ac p ((j9.mp hp).1) e
 refine⟨⟨kp,(Ac m n λj x' b e e'=>?_),cl,?_,λp hp=>?_,λb hb=>?_,fr,fs⟩,⟨AI.re s,λb hb=>.inl (hsub b hb),λ_ o e=>(Ag o e),λ_ _ e _ _=>e,λ_ _ e _=>e⟩⟩
 ·by_cases hj:j=i
  ·subst hj
   rw[lN hlt] at e'
   cases e'
  ·rw[lO (ll hj)] at e'
   refine Af (vs j x' b e e') λu hd' r'=>?_
   refine Ac u hd' ?_
   have other:∀a2,(x',a2)∈O->a2≠a:=by
    rintro a2 hm rfl
    have:=Ap.mem_inj nd m1 hm
    subst this
    exact hj ((mn (jK.mp e).1 N.nodup).mp (e.trans hi.symm))
   have keepm:∀a2,(x',a2)∈O->(x',a2)∈((y,a)::O.filter λp=>!decide (p.2=a)):=λa2 hm=>.tail _ (j9.mpr ⟨hm,by simp[other a2 hm]⟩)
   cases b with
   | val w=>
    cases w with
    | py d=>refine Af r' λbs r q=>?_;exact Ac bs r λb hb z=>q b hb (hsub b z)
    | «by» b=>exact r'
    | raw w=>exact r'
    | obj P=>refine C9 r' λa1 o e1 g p q z=>?_;exact C5 a1 o e1 g p (λh=>q (hsub a1 h)) z
    | st R ok=>refine Af r' λbs r q=>?_;exact Ac bs r λb hb z=>q b hb (hsub b z)
   | own es=>
    refine CR r' λa2 ws' as' e1 m1' l1' r1' q1' f1'=>?_
    exact CA a2 ws' as' e1 (keepm _ m1') l1' r1' (λb hb z=>q1' b hb (hsub b z)) f1'
   | «at» a2 P2=>
    refine CU r' λe1 m1' g2 f1'=>?_
    exact⟨e1,keepm _ m1',g2,f1'⟩
 ·rw[kM,md]
  refine⟨λhm=>?_,p9 (pn _ pb) nd⟩
  refine Af (kn.mp hm) λp hp e=>?_
  have:=(j9.mp hp).2
  simp[e] at this
 ·rcases jG.mp hp with rfl|hp
  ·exact Ag o g
  ·exact lv p (j9.mp hp).1
 ·refine Af (sb b hb) λp hp e=>?_
  by_cases hpa:p.2=a
  ·exact Ac (y,a) (.head _) (hpa.symm.trans e)
  ·exact Ac p (.tail _ (j9.mpr ⟨hp,by simp[hpa]⟩)) e
theorem Hc{x:jX}{pos:mf}{a:jL}{P:nH->Prop}{Q:jB->jE->Prop}{E:jB->jE->Prop}(i:Nat)(t:St Γ O σ s)(q:Q (.ref a) s)(hi:autoParam (Γ.ns[i]?=some x) aR)(h:autoParam (σ[i]?=some (some (.at a P))) aR)(hk:autoParam (Γ.env.scope.kind=.function) aR)(hd:autoParam ((x == ("__debug__":jX))=false) aK) :
 wpAny (model Γ.prog Γ.w) Γ.A (eval (.Name x pos) Γ.env) Q E s:=by
 refine Af t.ex λm n vs=>?_
 refine Bu (vs i x _ hi h) λu hd' zz1 _=>?_;obtain rfl:=zz1
 rcases hd' with⟨k1,e⟩|⟨k1,c,hc,e⟩
 ·exact nF (mC hk k1 n e q) hd
 ·exact nF (on hk k1 hc e q) hd
theorem RG(t:St Γ O σ s){i:Nat}{x:jX}{a:jL}{P:nH->Prop}(hi:Γ.ns[i]?=some x)(h:σ[i]?=some (some (.at a P))):∃o,s.heap.get? a=some o/\P o/\FV o/\o.cls≠.type "tuple":=by
 refine Af t.ex λm n vs=>?_
 refine W3 (vs i x _ hi h) λu _ zz1 _ g _=>?_;obtain rfl:=zz1
 exact g
theorem XA(t:St Γ O σ s){i:Nat}{x:jX}{a:jL}{P:nH->Prop}(hi:Γ.ns[i]?=some x)(h:σ[i]?=some (some (.at a P))):(x,a)∈O/\Γ.s₀.heap.get? a=none/\a≠Γ.env.locals:=by
 refine Af t.ex λm n vs=>?_
 refine W3 (vs i x _ hi h) λu _ zz1 h1 _ h2=>?_;obtain rfl:=zz1
 exact⟨h1,h2⟩
theorem V5(N:Nm Γ){i:Nat}{x:jX}{a:jL}{P:nH->Prop}{s1:jE}{o:nH}{Q:Unit->jE->Prop}{E:jB->jE->Prop}(t:St Γ O σ s)(k:kY s s1)(hn:s.heap.get? a=none)(ho:s1.heap.get? a=some o)(hP:P o)(hz:FV o)(hc:o.cls≠.type "tuple")(hi:Γ.ns[i]?=some x)(hlt:i<σ.length)(hk:Γ.env.kindOf x=some .local)
 (q:∀s',AI s s'->(∀b o,b≠Γ.env.locals->s1.heap.get? b=some o->s'.heap.get? b=some o)->St Γ ((x,a)::O) (σ.set i (some (.at a P))) s'->Fx Γ O s ((x,a)::O) s'->Q () s'):wpAny (model Γ.prog Γ.w) Γ.A (storeName Γ.env x (.ref a)) Q E s1:=by
 have t1:=ET (x:=x) t k hn (Ag o ho)
 have haL:a≠Γ.env.locals:=by
  rintro rfl
  refine Af t.ex λm zz1 _=>?_;obtain⟨o',_,_,e,_⟩:=zz1
  exact B0 hn e
 have h0:Γ.s₀.heap.get? a=none:=gn λo e=>by have:=t.keep _ _ e;exact B0 hn this
 refine AG N (b:=.at a P) hi hlt hk t1 ⟨rfl,.head _,(H5 o ho hP hz hc),h0,haL⟩ λs2 a2 u2 t2=>q s2 ?_ u2 t2 ((Fx.new k hn).tr (Fx.ofBut t1 a2 u2 t2))
 refine Ao k λh tk zz1 _=>?_;clear k;obtain rfl:=zz1
 exact AI.tr (AS _ _ rfl) a2
end
section
set_option tactic.hygienic true
noncomputable def RJ (w:jW) (bs:List jX) (h:jY) (v:jB) (pl:List jL):Prop:=
 ∃dj ls,v=.ref dj/\pl=dj::ls/\BJ w h dj bs bs.length (·∈ls)/\(dj == sysModules)=false/\∀l∈ls,∃vs,h.PlainList l vs
theorem BJ.obj{w:jW}{h:jY}{dj:jL}{bs:List jX}{i:Nat}{Lk:jL->Prop}(b:BJ w h dj bs i Lk):∃o es n,h.get? dj=some o/\o.cls=.type "dict"/\o.data=.dict es n:=by
 delta w h dj bs i Lk at b
 obtain⟨⟨kvs,⟨o,es,ep,e,r1,r2,r3⟩,_⟩⟩:=b
 exact Pw o es ep e r1.1 r2
theorem F0{o:nH}{es:Array ny}{n:Nat}(h:o.data=.dict es n):FV o:=⟨λc e=>(by rw[h] at e;exact jS e),λf e=>(by rw[h] at e;exact jS e)⟩
theorem G6{o:nH}{vs:Array jB}{n:Nat}(h:o.data=.seq vs n):FV o:=⟨λc e=>(by rw[h] at e;exact jS e),λf e=>(by rw[h] at e;exact jS e)⟩
theorem Cn(w:jW)(bs:List jX):Fg (RJ w bs):=by
 refine⟨?_,?_⟩
 ·intro h h' v pl zz1 k _;refine C9 zz1 λdj ls zz2 zz3 b lo pls=>?_;clear zz1;obtain rfl:=zz2;obtain rfl:=zz3
  have kl:∀l vs,l∈ls->h.PlainList l vs->h'.PlainList l vs:=λl vs hl ⟨n,e⟩=>Ag n (k l (.tail _ hl) _ e)
  exact C5 dj ls rfl rfl (b.keeps (λ_ x=>x) (λo es n e _=>k dj (.head _) o e) kl) lo λl hl=>AR (pls l hl) λvs p=>(Ag vs (kl l vs hl p))
 ·intro h v pl zz1 x hx;refine C9 zz1 λdj ls zz2 zz3 b lo pls=>?_;clear zz1;obtain rfl:=zz2;obtain rfl:=zz3
  rcases jG.mp hx with rfl|hx
  ·refine Ec b.obj λo es n e _ d=>?_
   exact Ac o e (F0 d)
  ·refine B1 (pls x hx) λvs n e=>?_
   exact Ac _ e (G6 rfl)
structure fv (m:jX->Option jB) (la lb dj sj:jL):Prop where
 a:m "a"=some (.ref la)
 b:m "b"=some (.ref lb)
 b2j:m "b2j"=some (.ref dj)
 bjunk:m "bjunk"=some (.ref sj)
 mb:m "matching_blocks"=some .none
 flm:m "find_longest_match"=none
 gmb:m "get_matching_blocks"=none
noncomputable def RM (w:jW) (as bs:List jX) (h:jY) (v:jB) (pl:List jL):Prop:=
 ∃I D m k la lb dj sj led ls,v=.ref I/\pl=I::D::la::lb::sj::dj::ls/\IN h I D m k/\fv m la lb dj sj/\Ak h (.ref la) (.list (as.map .str)) [la]/\Ak h (.ref lb) (.list (bs.map .str)) [lb]/\RJ w bs h (.ref dj) (dj::ls)/\h.get? sj=some (Cc led)
theorem Ko{h:jY}{l:jL}{xs:List jO}(r:Ak h (.ref l) (.list xs) [l]):∃o vs n,h.get? l=some o/\o.cls=.type "list"/\o.data=.seq vs n:=by
 delta h l xs at r
 generalize e1:kx l=v at r
 generalize e2:PyData.list xs=d at r
 cases r<;>first|(cases e2;done)|skip
 rename_i o vs n ys c d g r
 exact Pw o vs n g c d
theorem D5(w:jW)(as bs:List jX):Fg (RM w as bs):=by
 refine⟨?_,?_⟩
 ·rintro h h' v pl ⟨I,D,m,k,la,lb,dj,sj,led,ls,rfl,rfl,i,mo,ra,rb,rj,es⟩ kk tt
  refine⟨I,D,m,k,la,lb,dj,sj,led,ls,rfl,rfl,⟨kk I (.head _) _ i.inst,?_⟩,mo,CX ra (λb hb o e=>?_) tt,CX rb (λb hb o e=>?_) tt,(Cn w bs).keepBy rj (λb hb o e=>kk b (.tail _ (.tail _ (.tail _ (.tail _ (.tail _ hb))))) o e) tt,kk sj (.tail _ (.tail _ (.tail _ (.tail _ (.head _))))) _ es⟩
  ·refine Ao i.dict λes n e r=>?_
   exact AT es n (kk D (.tail _ (.head _)) _ e) r
  ·rw[jH.mp hb] at e ⊢
   exact kk la (.tail _ (.tail _ (.head _))) o e
  ·rw[jH.mp hb] at e ⊢
   exact kk lb (.tail _ (.tail _ (.tail _ (.head _)))) o e
 ·rintro h v pl ⟨I,D,m,k,la,lb,dj,sj,led,ls,rfl,rfl,i,mo,ra,rb,rj,es⟩ x hx
  rcases jG.mp hx with rfl|hx
  ·exact Ac _ i.inst ⟨λc e=>(by cases e),λf e=>(by cases e)⟩
  rcases jG.mp hx with rfl|hx
  ·refine Ao i.dict λes n e _=>?_
   exact Ac _ e (F0 rfl)
  rcases jG.mp hx with rfl|hx
  ·refine Ec (Ko ra) λo vs n g _ d=>?_
   exact Ac o g (G6 d)
  rcases jG.mp hx with rfl|hx
  ·refine Ec (Ko rb) λo vs n g _ d=>?_
   exact Ac o g (G6 d)
  rcases jG.mp hx with rfl|hx
  ·exact Ac _ es ⟨λc e=>(by cases e),λf e=>(by cases e)⟩
  ·exact(Cn w bs).solid rj x hx
section
variable {Γ:Cx}
noncomputable def N0 (σ:AX):List Nat->List AV->AX
 | i::is,d::ds=>N0 (σ.set i (some (.val d))) is ds
 | _,_=>σ
theorem DD.avoid{O:Ap}{h h':jY}{L:jL}(hL:O.has L)(hs:∀b,b≠L->∀o,h.get? b=some o->h'.get? b=some o)(hT:∀o,h.get? L=some o->¬(o.cls=.type "tuple"/\∃vs n,o.data=.seq vs n)):∀{as:List AV} {vs:List jB},DD O h as vs->DD O h' as vs
 | [],[],_=>trivial
 | _::_,_::_,⟨x,y⟩=>⟨VR.avoid x hL hs hT,DD.avoid hL hs hT y⟩
theorem Oa(N:Nm Γ)(Q:Unit->jE->Prop)(E:jB->jE->Prop):∀(is:List Nat) (es:List kH) (ds:List AV),DY Γ is es->∀(σ:AX) (O:Ap) (s:jE) (vs:List jB),(∀i∈is,i<σ.length)->is.length=ds.length->
 St Γ O σ s->DD O s.heap ds vs->(∀s',AI s s'->(∀b o,b≠Γ.env.locals->s.heap.get? b=some o->s'.heap.get? b=some o)->St Γ O (N0 σ is ds) s'->Q () s')->wpAny (model Γ.prog Γ.w) Γ.A (vY ((assignEach es Γ.env).map (·.2)) vs) Q E s:=by
 intro is
 delta Γ Q E at N is
 induction is with
 | nil=>
  intro es ds hn σ O s vs hlt hl t r q
  cases es with
  | cons=>exact hn.elim
  | nil=>
   cases ds with
   | cons=>cases hl
   | nil=>
    cases vs with
    | cons=>exact r.elim
    | nil=>exact jJ (q s (AI.re s) (λ_ _ _ e=>e) t)
 | cons i is ih=>
  intro es ds hn σ O s vs hlt hl t r q
  cases es with
  | nil=>exact hn.elim
  | cons e es=>
   cases e with
   | Name x p=>
    refine C1 hn λhi hk h=>?_
    cases ds with
    | nil=>cases hl
    | cons d ds=>
     cases vs with
     | nil=>exact r.elim
     | cons v ws=>
      obtain⟨r1,rs⟩:=r
      have e:assignEach (.Name x p::es) Γ.env=(false,assign (.Name x p) Γ.env)::assignEach es Γ.env:=rfl
      rw[e]
      refine Af t.ex λm n _=>?_
      refine rB (lI (AG N (b:=.val d) hi (hlt i (.head _)) hk t r1 λs1 a1 u1 t1=>?_))
      exact ih es ds h _ O s1 ws (λj hj=>by rw[nJ];exact hlt j (.tail _ hj)) (qW hl) t1 (DD.avoid (t.sub _ t.frame) (λb hb o e=>u1 b o hb e) (A5 n) rs) λs2 a2 u2 t2=>q s2 (a1.tr a2) (λb o hb e=>u2 b o hb (u1 b o hb e)) t2
   | _=>exact hn.elim
theorem QZ{σ:AX}{O:Ap}{s:jE}{es:List kH}{ee:List kH}{k k':Nat}{p p' pos:mf}{ss:List l9}{Q:uR->jE->Prop}{E:jB->jE->Prop}(N:Nm Γ)(hh:Γ.A.handled=none)(is:List Nat)(ds:List AV)(hn:DY Γ is es)(hl:is.length=ds.length)(hlt:∀i∈is,i<σ.length)
 (h:wpAny (model Γ.prog Γ.w) Γ.A (spliced (backTo p' (starEach ee Γ.env))) (λvs s1=>St Γ O σ s1/\kY s s1/\DD O s1.heap ds vs/\vs.length<=1000/\∀s2,AI s s2->(∀b o,b≠Γ.env.locals->s1.heap.get? b=some o->s2.heap.get? b=some o)->St Γ O (N0 σ is ds) s2->wpAny (model Γ.prog Γ.w) Γ.A (execs ss Γ.env) Q E s2) E s)
 (hs:autoParam (tK [oq es k p] (.Tuple ee k' p') pos.line Γ.env=pure false) aR)(hw:autoParam (nt [oq es k p] (.Tuple ee k' p') Γ.env=pure none) aR) :
 wpAny (model Γ.prog Γ.w) Γ.A (execs (.Assign [.Tuple es k p] (.Tuple ee k' p') pos::ss) Γ.env) Q E s:=by
 refine kg (wB (xr (lR h (λvs s1 hq=>?_) λ_ _ e=>e)) hs hw)
 refine Ue hq λt1 k1 rv hsz q=>?_
 refine⟨by rw[sizeLine_eq];lia,?_⟩
 have kp:kY s1 {s1 with heap:=s1.heap.push {cls:=.type "tuple",data:=.seq vs.toArray}}:=Keeps.push _ _
 have t2:=t1.of_keeps kp
 obtain⟨h1,h2⟩:=E2 hn
 have ht:vC (s1.heap.push {cls:=.type "tuple",data:=.seq vs.toArray}) s1.heap.objs.size vs.toArray:=⟨_,jQ _ rfl,rfl,0,rfl⟩
 refine wpAny_assign_Tuple hh ht (by rw[h1,hl,<-rv.length,kI]) h2 λh' he=>?_
 have k3:kY {s1 with heap:=s1.heap.push {cls:=.type "tuple",data:=.seq vs.toArray}} {s1 with heap:=h'}:=AT h' s1.toks rfl λb o e=>he b o (lw (kq e)) e
 refine Oa N _ _ is es ds hn σ O _ _ hlt hl (t2.of_keeps k3) ((rv.keeps (Ax kp)).keeps (Ax k3)) λs4 a4 u4 t4=>q s4 ?_ (λb o hb e=>u4 b o hb (Ax k3 _ _ (Ax kp _ _ e))) t4
 refine Ao k1 λh5 tk5 zz1 _=>?_;clear k1;obtain rfl:=zz1
 exact AI.tr (AS _ _ rfl) a4
end
end
noncomputable abbrev AM:=jX×Nat×Nat×Nat×Nat
noncomputable def Da (c:AM):jO:=.tuple [.str c.1,.int c.2.1,.int c.2.2.1,.int c.2.2.2.1,.int c.2.2.2.2]
noncomputable def BK (p:Nat×Nat):jO:=.tuple [.int p.1,.int p.2]
noncomputable def Df (bl:List Qj):List (Nat×Nat):=(0,0)::bl.map λt=>(t.1+t.2.2,t.2.1+t.2.2)
noncomputable def BO (bl:List Qj) (n m:Nat):List (Nat×Nat):=bl.map (λt=>(t.1,t.2.1))++[(n,m)]
noncomputable def Cu (bl:List Qj):List AM:=bl.map λt=>("equal",t.1,t.1+t.2.2,t.2.1,t.2.1+t.2.2)
noncomputable def BL (e b:Nat×Nat):jX:=if e.1<b.1 then(if e.2<b.2 then "replace" else "delete") else(if e.2<b.2 then "insert" else "")
noncomputable def AH (e b:Nat×Nat):List AM:=if BL e b="" then [] else [(BL e b,e.1,b.1,e.2,b.2)]
noncomputable def Cl (es bs:List (Nat×Nat)):List AM:=(es.zip bs).flatMap λp=>AH p.1 p.2
noncomputable def Ew (bl:List Qj) (n m:Nat):List AM:=Cu bl++Cl (Df bl) (BO bl n m)
noncomputable def EQ:List (Int×jX):=[(0,""),(1,"insert"),(2,"delete"),(3,"replace")]
noncomputable def OC (es bs:List (Nat×Nat)):Prop:=∀(k:Nat) (e b:Nat×Nat),es[k]?=some e->bs[k]?=some b->e.1<=b.1/\e.2<=b.2
noncomputable def J1:List jX:=["left","right","step","blocks","ends","begins","words","told","k","gone","come","word"]
theorem gb(pm cd doc dv kdv:jB):Bf (Az 48 pm cd doc dv kdv) (Am (stm 48)) ["left","right","step"] J1:=.of (by decide +kernel)
theorem NY{bl:List Qj}{i:Nat}{d:jO}(hd:(bl.map BX)[i]?=some d):∃t,bl[i]?=some t/\d=BX t:=by
 rw[j8] at hd
 refine Af (j6.mp hd) λm h1 h2=>?_
 exact Ac m h1 h2.symm
theorem Rz{w:jW}{A:kA}{s₀ s:jE}{O:Ap}{a:jL}{mg mb:jX->Option jB}{xG:jY}{pm cd doc dv kdv:jB}(F:Jq w mg mb xG)(hk:HK xG s₀)(l r:jX)(st:Nat)(bl:List Qj)(hl':l.length<1000)(hr':r.length<1000)(hbl:bl.length<=100)(n:Nat)
 (hcut:Fn pw w xG n (.ref F.a47) [] [.py (.str l),.py (.str r),.py (.int st),.py (NR 0 l.length 0 r.length)] [] (.py (.list (bl.map BX))))
 (N:Nm (CF pw w A s₀ s (Az 48 pm cd doc dv kdv) a J1 O))(room:A0 (A.deeper (callEnvC (Az 48 pm cd doc dv kdv) s.heap.objs.size a)) n)(P:AF->AX->Prop)
 (hend:Ex (CF pw w A s₀ s (Az 48 pm cd doc dv kdv) a J1 O) [some (.val (.py (.str l))),some (.val (.py (.str r))),some (.val (.py (.int st))),some (.val (.py (.list (bl.map BX)))),some (.val (.py (.list ((Df bl).map BK)))),some (.val (.py (.list ((BO bl l.length r.length).map BK)))),some (.val (.obj (Ez pw w EQ))),some (.own ((Cu bl).map Da)),none,none,none,none] (((Am (stm 48)).take 6).drop 5) P) :
 Ex (CF pw w A s₀ s (Az 48 pm cd doc dv kdv) a J1 O) (Bi [.py (.str l),.py (.str r),.py (.int st)] 9) ((Am (stm 48)).take 6) P:=by
 have hh:=room.handled
 have T:=F.T
 refine Ad (At N 3 (CI hcut room hk F.f47 (BU T hk F.g47) (Ab (Aa 0) (Ab (Aa 1) (Ab (Aa 2) (Ab (Au (ds:=[.int 0,.int (l.length:Nat),.int 0,.int (r.length:Nat)]) (Ab Ai (Ab (Ds (A1 T hk) (Aa 0) rfl (by rwa[hl'])) (Ab Ai (Ab (Ds (A1 T hk) (Aa 1) rfl (by rwa[hr'])) Ah))))) Ah))))) ?_)
 refine Ad (At N 4 (a:=.py (.list ((Df bl).map BK))) (Be (GN (ds:=[BK (0,0)]) (es:=(bl.map λt=>(t.1+t.2.2,t.2.1+t.2.2)).map BK) (Dy (ds:=[BK (0,0)]) (Ab (Au (ds:=[.int 0,.int 0]) (Ab Ai (Ab Ai Ah))) Ah))
  (Be (C4 N (ds:=bl.map BX) (ns:=["i","j","size"]) (BS.none (by decide +kernel) rfl) (C3 N hh (Aa 3)) ?_ ?_ ?_)) ?_)) ?_)
 ·simp
 ·simp only[jI];rwa[hbl]
 ·intro C hC N' i d hd
  refine Af (NY hd) λt ht zz1=>?_;obtain rfl:=zz1
  refine C6 _ (BK (t.1+t.2.2,t.2.1+t.2.2)) (by simp[ht]) Le.none (BV N' hh [0,1,2] (ds:=[_,_,_]) ⟨rfl,rfl,rfl,rfl,rfl,rfl,trivial⟩) ?_
  exact Au (ds:=[.int (t.1+t.2.2:Nat),.int (t.2.1+t.2.2:Nat)]) (Ab (Dh (Aa 0) (Aa 2)) (Ab (Dh (Aa 1) (Aa 2)) Ah))
 ·simp only[jI,j7,ln];rwa[hbl]
 refine Ad (At N 5 (a:=.py (.list ((BO bl l.length r.length).map BK))) (Ev.cast (Be (GN (ds:=(bl.map λt=>(t.1,t.2.1)).map BK) (es:=[BK (l.length,r.length)])
  (Be (C4 N (ds:=bl.map BX) (ns:=["i","j","size"]) (BS.none (by decide +kernel) rfl) (C3 N hh (Aa 3)) ?_ ?_ ?_)) (Dy (ds:=[BK (l.length,r.length)]) (Ab (Au (ds:=[.int (l.length:Nat),.int (r.length:Nat)]) (Ab (Ds (A1 T hk) (Aa 0) rfl (by rwa[hl'])) (Ab (Ds (A1 T hk) (Aa 1) rfl (by rwa[hr'])) Ah))) Ah)) ?_)) ?_) ?_)
 ·simp
 ·simp only[jI];rwa[hbl]
 ·intro C hC N' i d hd
  refine Af (NY hd) λt ht zz1=>?_;obtain rfl:=zz1
  refine C6 _ (BK (t.1,t.2.1)) (by simp[ht]) Le.none (BV N' hh [0,1,2] (ds:=[_,_,_]) ⟨rfl,rfl,rfl,rfl,rfl,rfl,trivial⟩) ?_
  exact Au (ds:=[.int (t.1:Nat),.int (t.2.1:Nat)]) (Ab (Aa 0) (Ab (Aa 1) Ah))
 ·simp only[jI,j7,ln];rwa[hbl]
 ·simp[BO]
 refine Ad (At N 6 (YU (ps:=EQ) (Fs Ai BF (Fs Ai BF (Fs Ai BF (Fs Ai BF W4)))) rfl rfl (by intro h;cases h) (jT rfl) (by decide)) ?_)
 refine Ad (Kj N (show jz ""∉J1 by decide +kernel) 7 (ds:=bl.map BX) (rs:=(Cu bl).map Da) (ns:=["i","j","size"]) (BS.none (by decide +kernel) rfl) (C3 N hh (Aa 3)) ?_ ?_ ?_ ?_)
 ·simp[Cu]
 ·simp only[Cu,jI];rwa[hbl]
 ·intro C hC N' i d hd
  refine Af (NY hd) λt ht zz1=>?_;obtain rfl:=zz1
  refine C6 _ (Da ("equal",t.1,t.1+t.2.2,t.2.1,t.2.1+t.2.2)) (by simp[ht,Cu]) Le.none (BV N' hh [0,1,2] (ds:=[_,_,_]) ⟨rfl,rfl,rfl,rfl,rfl,rfl,trivial⟩) ?_
  exact Au (ds:=[.str "equal",.int (t.1:Nat),.int (t.1+t.2.2:Nat),.int (t.2.1:Nat),.int (t.2.1+t.2.2:Nat)]) (Ab BF (Ab (Aa 0) (Ab (Dh (Aa 0) (Aa 2)) (Ab (Aa 1) (Ab (Dh (Aa 1) (Aa 2)) Ah)))))
 exact hend
theorem VJ{e b:Nat×Nat}(h1:e.1<=b.1)(h2:e.2<=b.2):EQ.lookup (2*(if(1:Int)<(b.1:Int)-e.1 then 1 else(b.1:Int)-e.1)+(if(1:Int)<(b.2:Int)-e.2 then 1 else(b.2:Int)-e.2))=some (BL e b):=by
 delta e b at h1 h2
 have ha:(if(1:Int)<(b.1:Int)-e.1 then 1 else(b.1:Int)-e.1)=if e.1<b.1 then 1 else 0:=by
  split<;>split<;>(clear_value *;lia)
 have hb:(if(1:Int)<(b.2:Int)-e.2 then 1 else(b.2:Int)-e.2)=if e.2<b.2 then 1 else 0:=by
  split<;>split<;>(clear_value *;lia)
 rw[ha,hb]
 unfold BL
 by_cases c1:e.1<b.1<;>by_cases c2:e.2<b.2<;>simp only[c1,c2,if_true,if_false]<;>decide +kernel
theorem Dj{l:List (Nat×Nat)}{i:Nat}{p:Nat×Nat}(h:l[i]?=some p):(l.map BK)[i]?=some (BK p):=by rw[j8,h];rfl
theorem Ry{w:jW}{A:kA}{s₀ s:jE}{O:Ap}{a:jL}{mg mb:jX->Option jB}{xG:jY}{pm cd doc dv kdv:jB}(F:Jq w mg mb xG)(hk:HK xG s₀)(l r:jX)(st:Nat)(bl:List Qj)(es bs:List (Nat×Nat))(pre:List AM)(hlen:es.length=bs.length)(hz:es.length<=200)(hpre:pre.length<=200)(hord:OC es bs)
 (N:Nm (CF pw w A s₀ s (Az 48 pm cd doc dv kdv) a J1 O))(hh:(A.deeper (callEnvC (Az 48 pm cd doc dv kdv) s.heap.objs.size a)).handled=none)(P:AF->AX->Prop)
 (hend:∀x y z u,Ex (CF pw w A s₀ s (Az 48 pm cd doc dv kdv) a J1 O) [some (.val (.py (.str l))),some (.val (.py (.str r))),some (.val (.py (.int st))),some (.val (.py (.list (bl.map BX)))),some (.val (.py (.list (es.map BK)))),some (.val (.py (.list (bs.map BK)))),some (.val (.obj (Ez pw w EQ))),some (.own ((pre++Cl es bs).map Da)),x,y,z,u] (((Am (stm 48)).take 6).drop 6) P) :
 Ex (CF pw w A s₀ s (Az 48 pm cd doc dv kdv) a J1 O) [some (.val (.py (.str l))),some (.val (.py (.str r))),some (.val (.py (.int st))),some (.val (.py (.list (bl.map BX)))),some (.val (.py (.list (es.map BK)))),some (.val (.py (.list (bs.map BK)))),some (.val (.obj (Ez pw w EQ))),some (.own (pre.map Da)),none,none,none,none] (((Am (stm 48)).take 6).drop 5) P:=by
 delta w A s₀ s O a mg mb xG pm cd doc dv kdv l r st bl pre P at F hk es bs hlen hz hpre hord N hh hend
 have T:=F.T
 have hR:AN 0 (es.length:Nat) 1=(kd es.length).map λn=>lX (n:Nat):=by
  have:=DQ (a:=0) (b:=es.length) (c:=1) (by decide)
  simpa using this
 have gl:∀k,(Cl (es.take k) (bs.take k)).length<=k:=by
  intro k
  have:∀(es bs:List (Nat×Nat)),(Cl es bs).length<=es.length:=by
   intro es
   induction es with
   | nil=>intro bs;exact kf _
   | cons e es ih=>
    intro bs
    cases bs with
    | nil=>exact kf _
    | cons b bs=>
     have:=ih bs
     unfold Cl at this ⊢
     rw[sO,lq,jZ]
     have h1:(AH e b).length<=1:=by unfold AH;split<;>simp
     simp only[j7];rwa[this,h1]
  have h:=this (es.take k) (bs.take k)
  rw[lm] at h
  rwa[h]
 refine Ad (EO N (ds:=AN 0 (es.length:Nat) 1) (Ga N hh (A1 T hk) (Ds (n:=es.length) (A1 T hk) (Aa 4) (by simp[IX]) (by rwa[hz])) (by have:=Fk (a:=0) (b:=es.length) (c:=1) (by rwa[]) (by rwa[hz]) (by decide) (by decide);exact this))
  (λk σ=>∃x y z u,σ=[some (.val (.py (.str l))),some (.val (.py (.str r))),some (.val (.py (.int st))),some (.val (.py (.list (bl.map BX)))),some (.val (.py (.list (es.map BK)))),some (.val (.py (.list (bs.map BK)))),some (.val (.obj (Ez pw w EQ))),some (.own ((pre++Cl (es.take k) (bs.take k)).map Da)),x,y,z,u]) ⟨none,none,none,none,by simp[Cl]⟩ ?_ ?_)
 ·intro k d σ1 hd zz1;refine Eb zz1 λx y z u zz2=>?_;clear zz1;obtain rfl:=zz2
  rw[hR] at hd
  obtain⟨hd,hke⟩:d=.int (k:Nat)/\k<es.length:=by
   rw[j8] at hd
   refine Af (j6.mp hd) λm h1 h2=>?_
   obtain⟨h3,h4⟩:=jK.mp h1
   rw[pk] at h4
   subst h4
   exact⟨h2.symm,by simpa using h3⟩
  subst hd
  obtain⟨e,he⟩:∃e,es[k]?=some e:=Ag _ (jP hke)
  obtain⟨b,hb⟩:∃b,bs[k]?=some b:=Ag _ (jP (by rwa[hlen,hke]))
  obtain⟨h1,h2⟩:=hord k e b he hb
  have hgap:Cl (es.take (k+1)) (bs.take (k+1))=Cl (es.take k) (bs.take k)++AH e b:=by
   unfold Cl
   rw[kN,kN,he,hb]
   simp only[om]
   rw[List.zip_append (by rw[lm,lm,hlen]),mF]
   simp
  have hkk:=gl k
  rw[hgap]
  generalize Cl (es.take k) (bs.take k)=gs at hkk ⊢
  refine Ac _ (BH N 8) ?_
  refine Ad (At N 9 (Dd (A7 (ds:=[.int b.1,.int b.2]) (Ay (d:=BK b) (Aa 5) (Aa 8) (by rwa[]) (by rwa[hz,hke]) (by rw[kr];exact Dj hb)) Ai (by decide) (by decide) rfl) (A7 (ds:=[.int e.1,.int e.2]) (Ay (d:=BK e) (Aa 4) (Aa 8) (by rwa[]) (by rwa[hz,hke]) (by rw[kr];exact Dj he)) Ai (by decide) (by decide) rfl)) ?_)
  refine Ad (At N 10 (Dd (A7 (ds:=[.int b.1,.int b.2]) (Ay (d:=BK b) (Aa 5) (Aa 8) (by rwa[]) (by rwa[hz,hke]) (by rw[kr];exact Dj hb)) Ai (by decide) (by decide) rfl) (A7 (ds:=[.int e.1,.int e.2]) (Ay (d:=BK e) (Aa 4) (Aa 8) (by rwa[]) (by rwa[hz,hke]) (by rw[kr];exact Dj he)) Ai (by decide) (by decide) rfl)) ?_)
  refine Ad (At N 11 (a:=.py (.str (BL e b))) (Oo (ps:=EQ) (Aa 6) (Bl (Gd Ai (Xb hh (A1 T hk) (Aa 9) Ai) (.inr (by decide))) (Xb hh (A1 T hk) (Aa 10) Ai)) (VJ h1 h2)) ?_)
  refine Ad (BI (b:=!decide (BL e b="")) (VM (Aa 11) BF) (λh=>?_) (λh=>?_))
  ·have hw:¬BL e b="":=by simpa using h
   refine Ad (AO N 7 (d:=Da (BL e b,e.1,b.1,e.2,b.2)) (Au (ds:=[.str (BL e b),.int e.1,.int b.1,.int e.2,.int b.2]) (Ab (Aa 11)
    (Ab (A7 (ds:=[.int e.1,.int e.2]) (Ay (d:=BK e) (Aa 4) (Aa 8) (by rwa[]) (by rwa[hz,hke]) (by rw[kr];exact Dj he)) Ai (by decide) (by decide) rfl)
    (Ab (A7 (ds:=[.int b.1,.int b.2]) (Ay (d:=BK b) (Aa 5) (Aa 8) (by rwa[]) (by rwa[hz,hke]) (by rw[kr];exact Dj hb)) Ai (by decide) (by decide) rfl)
    (Ab (A7 (ds:=[.int e.1,.int e.2]) (Ay (d:=BK e) (Aa 4) (Aa 8) (by rwa[]) (by rwa[hz,hke]) (by rw[kr];exact Dj he)) Ai (by decide) (by decide) rfl)
    (Ab (A7 (ds:=[.int b.1,.int b.2]) (Ay (d:=BK b) (Aa 5) (Aa 8) (by rwa[]) (by rwa[hz,hke]) (by rw[kr];exact Dj hb)) Ai (by decide) (by decide) rfl) Ah)))))) ?_ ?_)
   ·rw[jI,jZ];rwa[hz,hpre,hke,hkk]
   ·refine Aj (Aj (EH (some (.val (.py (.int (k:Nat))))) (some (.val (.py (.int ((b.1:Int)-e.1))))) (some (.val (.py (.int ((b.2:Int)-e.2))))) (some (.val (.py (.str (BL e b))))) ?_))
    have:AH e b=[(BL e b,e.1,b.1,e.2,b.2)]:=by unfold AH;rw[if_neg hw]
    rw[this,<-l5,kz (l₁:=pre++gs)]
    rfl
  ·have hw:BL e b="":=by simpa using h
   refine Aj (Aj (EH (some (.val (.py (.int (k:Nat))))) (some (.val (.py (.int ((b.1:Int)-e.1))))) (some (.val (.py (.int ((b.2:Int)-e.2))))) (some (.val (.py (.str (BL e b))))) ?_))
   have:AH e b=[]:=by unfold AH;rw[if_pos hw]
   rw[this,kF]
   rfl
 ·intro σ1 zz1;refine Eb zz1 λx y z u zz2=>?_;clear zz1;obtain rfl:=zz2
  refine Aj ?_
  have e1:(AN 0 (es.length:Nat) 1).length=es.length:=by rw[hR];simp
  rw[e1,lz,hlen,lz]
  exact hend x y z u
section
variable {Γ:Cx} {σ:AX} {P:AF->AX->Prop}
theorem QU(N:Nm Γ){O:Ap}{s:jE}{i:Nat}{x:jX}{a:jL}{R:nH->Prop}(t:St Γ O σ s)(hi:Γ.ns[i]?=some x)(h:σ[i]?=some (some (.at a R))):∃O',Fx Γ O s O' s/\St Γ O' (σ.set i (some (.val (.raw (.ref a))))) s/\a≠Γ.env.locals/\∃o,s.heap.get? a=some o/\R o:=by
 delta Γ σ O s i x a R at N t hi h
 obtain⟨kp,⟨m,n,vs⟩,cl,nd,lv,sb,fr,fs⟩:=t
 refine W2 (vs i x _ hi h) λv hd zz1 m1 zz2 f1 haL=>?_;obtain rfl:=zz1;obtain⟨o,g,p,z⟩:=zz2
 have hlt:i<σ.length:=(jK.mp h).1
 have hsub:∀b,Ap.has (O.filter λp=>!decide (p.2=a)) b->O.has b:=λb ⟨p,hp,e⟩=>Ac p ((j9.mp hp).1) e
 refine⟨O.filter λp=>!decide (p.2=a),⟨AI.re s,λb hb=>.inl (hsub b hb),λ_ o e=>(Ag o e),λ_ _ e _ _=>e,λ_ _ e _=>e⟩,⟨kp,(Ac m n λj y b e e'=>?_),cl,?_,λp hp=>lv p (j9.mp hp).1,λb hb=>?_,fr,fs⟩,haL,o,g,p⟩
 ·by_cases hj:j=i
  ·subst hj
   (replace e:=CQ hi e;subst e)
   rw[lN hlt] at e'
   cases e'
   exact Ac _ hd rfl
  ·rw[lO (ll hj)] at e'
   refine Af (vs j y b e e') λu hd' r'=>?_
   refine Ac u hd' ?_
   have other:∀a2,(y,a2)∈O->a2≠a:=by
    rintro a2 hm rfl
    have:=Ap.mem_inj nd m1 hm
    subst this
    exact hj ((mn (jK.mp e).1 N.nodup).mp (e.trans hi.symm))
   have keepm:∀a2,(y,a2)∈O->(y,a2)∈(O.filter λp=>!decide (p.2=a)):=λa2 hm=>j9.mpr ⟨hm,by simp[other a2 hm]⟩
   cases b with
   | val w=>
    cases w with
    | py d=>refine Af r' λbs r q=>?_;exact Ac bs r λb hb z=>q b hb (hsub b z)
    | «by» b=>exact r'
    | raw w=>exact r'
    | obj P=>refine C9 r' λa1 o e1 g p q z=>?_;exact C5 a1 o e1 g p (λh=>q (hsub a1 h)) z
    | st R ok=>refine Af r' λbs r q=>?_;exact Ac bs r λb hb z=>q b hb (hsub b z)
   | own es=>
    refine CR r' λa2 ws' as' e1 m1' l1' r1' q1' f1'=>?_
    exact CA a2 ws' as' e1 (keepm _ m1') l1' r1' (λb hb z=>q1' b hb (hsub b z)) f1'
   | «at» a2 P2=>
    refine CU r' λe1 m1' g2 f1'=>?_
    exact⟨e1,keepm _ m1',g2,f1'⟩
 ·exact p9 (pn _ pb) nd
 ·refine Af (sb b hb) λp hp e=>?_
  refine Ac p (j9.mpr ⟨hp,?_⟩) e
  have:p.2≠a:=by
   rw[e]
   rcases N.outer b hb with rfl|⟨o,ho⟩
   ·exact ll haL
   ·rintro rfl;exact B0 f1 ho
  simp[this]
noncomputable def Bb:Option Bd->Bool
 | some (.own _)=>false
 | some (.at _ _)=>false
 | _=>true
noncomputable def Cx.from (Γ:Cx) (s:jE):Cx:={Γ with s₀:=A6 s Γ.env.locals}
theorem St.rebase{O:Ap}{s:jE}(t:St Γ O σ s)(fl:σ.all Bb=true):St (Γ.from s) O σ s:=by
 delta Γ σ O s at t fl
 obtain⟨kp,⟨m,n,vs⟩,cl,nd,lv,sb,fr,fs⟩:=t
 refine⟨λb o e=>(Er e).1,(Ac m n λi x b e1 e2=>?_),cl,nd,lv,sb,fr,A3⟩
 refine Af (vs i x b e1 e2) λv h r=>?_
 have hb:Bb (some b)=true:=ky.mp fl _ (kt e2)
 refine Ac v h ?_
 cases b with
 | val w=>exact r
 | own ds=>cases hb
 | «at» a' P=>cases hb
theorem Om{O:Ap}{s:jE}(t:St Γ O σ s):∀b o,Γ.s₀.heap.get? b=some o->(Γ.from s).s₀.heap.get? b=some o:=λb o e=>(Bj λz=>by rw[z,t.fresh] at e;exact B6 e).trans (t.keep b o e)
theorem E5{s:jE}{b:jL}{o:nH}(hb:b≠Γ.env.locals)(e:s.heap.get? b=some o):(Γ.from s).s₀.heap.get? b=some o:=(Bj hb).trans e
theorem St.unbase{O O':Ap}{σ':AX}{s s':jE}(t:St Γ O σ s)(t':St (Γ.from s) O' σ' s'):St Γ O' σ' s':=by
 delta Γ σ O O' σ' s s' at t t'
 have up:=Om t
 obtain⟨kp,⟨m,n,vs⟩,cl,nd,lv,sb,fr,fs⟩:=t'
 refine⟨λb o e=>kp b o (up b o e),(Ac m n λi x b e1 e2=>?_),cl,nd,lv,sb,fr,t.fresh⟩
 refine Af (vs i x b e1 e2) λv h r=>?_
 have hn:∀a,(Γ.from s).s₀.heap.get? a=none->Γ.s₀.heap.get? a=none:=λa ha=>gn λo e=>B0 ha (up a o e)
 refine Ac v h ?_
 cases b with
 | val w=>exact r
 | own ds=>refine CR r λa vs as e m l r q z=>?_;exact CA a vs as e m l r q (hn a z)
 | «at» a' P=>refine Ue r λe m g z w=>?_;exact⟨e,m,g,hn a' z,w⟩
theorem Nm.rebase{O:Ap}{s:jE}(N:Nm Γ)(t:St Γ O σ s):Nm (Γ.from s):=by
 refine⟨N.nodup,N.kind,N.apart,N.names,λa ha=>?_⟩
 by_cases h:a=Γ.env.locals
 ·exact .inl h
 ·refine Af (t.sub a ha) λp hp e=>?_
  obtain⟨o,ho⟩:=t.live p hp
  exact .inr (Ag o (E5 h (e▸ho)))
theorem OX{O:Ap}{s:jE}{ss:List l9}{Q:uR->jE->Prop}{E:jB->jE->Prop}(N:Nm Γ)(t:St Γ O σ s)(fl:σ.all Bb=true)
 (h:Nm (Γ.from s)->Ex (Γ.from s) σ ss P)(q:∀O' fl af σ' s',Fx Γ O s O' s'->St Γ O' σ' s'->FR O' s'.heap af fl->P af σ'->Q fl s'):wpAny (model Γ.prog Γ.w) Γ.A (execs ss Γ.env) Q E s:=by
 refine h (N.rebase t) O s Q E (t.rebase fl) λO' fl af σ' s' a t' f p=>q O' fl af σ' s' ⟨a.alike,a.own,a.dom,a.kept,a.tups⟩ (t.unbase t') f p
end
theorem Fe{M:tM}{A:kA}{env:xy}{E:jB->jE->Prop}{s:jE}{pos:mf}{g d:jL}{id:String}{e:kH}{es:List kH}{Q:jB->jE->Prop}(hp:(e::es).all AE=true)
 (h:wpAny M A (spliced (backTo pos (starEach (e::es) env))) (λvs xJ=>xJ.heap.get? g=some (A8 id d)/\wpAny M A (call (.ref g) vs) Q E xJ) E s) :
 wpAny M A (kX pos (.ref g) [] (backTo pos (starEach (e::es) env)) []) Q E s:=by
 have hst:((backTo pos (starEach (e::es) env)).any (λx=>x.fst) || ([]:List (Option jX×vg jB)).any λx=>x.fst.isNone)=false:=by
  rw[Bh hp];rfl
 unfold kX
 refine jA (kE (AL hp (lR h (λvs xJ xI=>?_) λ_ _ x=>x)))
 obtain⟨hh,g',d',t,os⟩:=xJ
 obtain⟨hg,xI⟩:=xI
 refine jA (rt ?_)
 rw[hst]
 have L:wpAny M A (keeperOf (.ref g)) (λk s'=>k=.machine/\s'=⟨hh,g',d',t,os⟩) E ⟨hh,g',d',t,os⟩:=by
  unfold keeperOf
  refine jA (sq hg ?_)
  exact jJ ⟨rfl,rfl⟩
 refine jA (lR L (λk s' hk=>?_) λ_ _ x=>x)
 obtain⟨rfl,rfl⟩:=hk
 show wpAny _ _ (call (.ref g) vs []>>=λr=>do ml [r] point;pure r) _ _ _
 exact jA (lR xI (λr s' hr=>jA (kE (wpAny_point (jJ hr)))) λ_ _ x=>x)
noncomputable def Js (kvs:List (Int×jB)) (f:Int->Option Int):Prop:=∀k,match f k with|none=>valueAt kvs k=none|some r=>∃t,valueAt kvs k=some (.int r t)
theorem Js.none{kvs:List (Int×jB)}{f:Int->Option Int}(h:Js kvs f){k:Int}(e:f k=none):valueAt kvs k=none:=by have:=h k;rw[e] at this;exact this
theorem Js.some{kvs:List (Int×jB)}{f:Int->Option Int}(h:Js kvs f){k r:Int}(e:f k=some r):∃t,valueAt kvs k=some (.int r t):=by have:=h k;rw[e] at this;exact this
noncomputable def DI (w:jW) (f:Int->Option Int) (n:Nat) (o:nH):Prop:=∃kvs,o.IsDictOf (pQ pw w) kvs/\kvs.length<=n/\Js kvs f
theorem DI.solid{w:jW}{f:Int->Option Int}{n:Nat}{o:nH}(h:DI w f n o):FV o:=by
 refine Af h λkvs zz1 _=>?_;obtain⟨es,ep,hx,hd,_⟩:=zz1
 exact F0 hd
theorem DI.cls{w:jW}{f:Int->Option Int}{n:Nat}{o:nH}(h:DI w f n o):o.cls≠.type "tuple":=by
 refine Af h λkvs zz1 _=>?_;obtain⟨es,ep,hx,hd,_⟩:=zz1
 rw[hx.1]
 intro e
 injection e with e
 exact absurd e (by decide)
section
variable {Γ:Cx} {σ:AX} {P:AF->AX->Prop}
theorem RH{M:tM}{A:kA}{env:xy}{o i:kH}{pos:mf}{v:jB}{s:jE}{Q:Unit->jE->Prop}{E:jB->jE->Prop}(h:wpAny M A (eval o env) (λov xH=>wpAny M A (eval i env) (λiv xO=>wpAny M A (setItem ov iv v) Q E xO) E xH) E s) :
 wpAny M A (assign (.Subscript o i pos) env v) Q E s:=λΓ p hΓ=>by
 obtain⟨rl,e⟩:∃rl:jB->jB->List jB,assign (.Subscript o i pos) env v=(do
  let ov<-ml [v] (eval o env)
  let iv<-ml [v,ov] (eval i env)
  mQ pos
  ml [v,ov,iv] (setItem ov iv v)
  release (rl ov iv) []):=⟨_,assign_Subscript o i pos v⟩
 simp only[e,Sem.wp_bind',Sem.wp_holding,wx,Sem.wp_release]
 exact vZ M Γ _ (λov x8 xH xK=>vZ M Γ _ (λiv _ xO xN=>xN Γ _ hΓ) (λ_ _ _ h'=>h') _ _ (xK Γ _ hΓ)) (λ_ _ _ h'=>h') _ _ (h Γ _ hΓ)
theorem Ki(N:Nm Γ)(i:Nat){x:jX}{p dp pos:mf}(hP:∀a,P .next (σ.set i (some (.at a (DI Γ.w (λ_=>none) 0)))))(hi:autoParam (Γ.ns[i]?=some x) aR)(hlt:autoParam (i<σ.length) aN)(hk:autoParam (Γ.env.kindOf x=some .local) aR)
 (hs:autoParam (qV (.Dict [] [] dp) (some (.Name x p)) pos.line Γ.env=pure false) aR):X1 Γ σ (.Assign [.Name x p] (.Dict [] [] dp) pos) P:=by
 intro O s Q E t q
 refine l6 (wpAny_Dict_empty ?_) hs
 have k3:kY s {s with heap:=s.heap.push {cls:=.type "dict",data:=.dict #[]}}:=Keeps.push _ _
 have e3:s.heap.get? s.heap.objs.size=none:=Bk (jN _)
 have emap:(s.heap.push {cls:=.type "dict",data:=.dict #[]}).DictOf (pQ pw Γ.w) s.heap.objs.size []:=sJ _
 refine Af (pg.mp emap) λo ho hd=>?_
 have hD:DI Γ.w (λ_=>none) 0 o:=Ba [] hd (jN _) λ_=>rfl
 exact V5 N t k3 e3 ho hD hD.solid hD.cls hi hlt hk λs' a u t' f=>q _ .next .next _ s' f t' rfl (hP _)
theorem Qk(hw:Γ.prog=pw)(N:Nm Γ)(ik id:Nat){x y:jX}{np yp sp pos:mf}{je e:kH}{r j:Int}{d:jL}{f:Int->Option Int}{n:Nat}(hσ:(σ.set ik (some (.val (.py (.int r)))))[id]?=some (some (.at d (DI Γ.w f n))))(hn:n<=1000)(hf:f j=none)
 (he:Ev Γ σ e (.py (.int r)))(hj:Ev Γ (σ.set ik (some (.val (.py (.int r))))) je (.py (.int j)))
 (hP:P .next ((σ.set ik (some (.val (.py (.int r))))).set id (some (.at d (DI Γ.w (λk=>if k=j then some r else f k) (n+1))))))
 (hi:autoParam (Γ.ns[ik]?=some x) aR)(hlt:autoParam (ik<σ.length) aN)(hk:autoParam (Γ.env.kindOf x=some .local) aR)(hi2:autoParam (Γ.ns[id]?=some y) aR)(hkf:autoParam (Γ.env.scope.kind=.function) aR)(hd:autoParam ((y == ("__debug__":jX))=false) aK)
 (h2:autoParam (qK (λx=>x.snd) (assignEach [ku x np,uE (.Name y yp) je sp] Γ.env)=[assign (ku x np) Γ.env,assign (uE (.Name y yp) je sp) Γ.env]) aR)
 (hsw:autoParam (nt [ku x np,uE (.Name y yp) je sp] e Γ.env=pure none) aR) :
 X1 Γ σ (.Assign [.Name x np,.Subscript (.Name y yp) je sp] e pos) P:=by
 intro O s Q E t q
 refine oA (he O s _ E t λv s1 t1 k1 r1=>?_) h2 hsw
 refine lI (AG N (b:=.val (.py (.int r))) hi hlt hk t1 r1 λs2 a2 u2 t2=>?_)
 obtain⟨tv,rfl⟩:=r1.int_inv
 have f2:=(Fx.of_keeps k1).tr (Fx.ofBut t1 a2 u2 t2)
 refine RH (Hc id t2 (hj O s2 _ E t2 λjv s3 t3 k3 r3=>?_) hi2 hσ hkf hd)
 obtain⟨tj,rfl⟩:=r3.int_inv
 refine H0 (RG t3 hi2 hσ) λo ho zz1 _ _=>?_;obtain⟨kvs,hd3,hl,ha⟩:=zz1
 have hm:s3.heap.DictOf (pQ pw Γ.w) d kvs:=pg.mpr (Ac o ho hd3)
 rw[hw]
 refine wpAny_setItem_pairs (uM pw Γ.w j tj) hm (λh' hm' hs'=>?_) (kL (kL hl hn) (by decide))
 refine Af (pg.mp hm') λo' ho' hd'=>?_
 have hD:DI Γ.w (λk=>if k=j then some r else f k) (n+1) o':=by
  refine⟨_,hd',kL (stored_length_le _ _ _) (ub hl),λk=>?_⟩
  by_cases hkj:k=j
  ·subst hkj
   simp only[if_true]
   exact⟨tv,by rw[Ci (ha.none hf),if_pos rfl]⟩
  ·simp only[if_neg hkj]
   rw[Ci (ha.none hf),if_neg hkj]
   exact ha k
 obtain⟨t4,f4⟩:=ek (tk:=s3.toks+1) N t3 hi2 hσ hs' ho' hD hD.solid hD.cls
 exact q _ .next .next _ _ (f2.tr ((Fx.of_keeps k3).tr f4)) t4 rfl hP
theorem Po(hw:Γ.prog=pw)(N:Nm Γ)(id ig:Nat){x y:jX}{np yp ap pos:mf}{ss:List l9}{d:jL}{f:Int->Option Int}{n:Nat}(hσ:σ[id]?=some (some (.at d (DI Γ.w f n))))(hne:id≠ig)
 (fl:∀g,((σ.set ig (some (.val (.raw (.ref g))))).set id (some (.val (.raw (.ref d))))).all Bb=true)
 (h:∀g s,Γ.s₀.heap.get? d=none->(Γ.from s).s₀.heap.get? g=some (A8 "dict.get" d)->(∃o,(Γ.from s).s₀.heap.get? d=some o/\DI Γ.w f n o)->(∀b o,Γ.s₀.heap.get? b=some o->(Γ.from s).s₀.heap.get? b=some o)->Nm (Γ.from s)->Ex (Γ.from s) ((σ.set ig (some (.val (.raw (.ref g))))).set id (some (.val (.raw (.ref d))))) ss P)
 (hi:autoParam (Γ.ns[ig]?=some x) aR)(hlt:autoParam (ig<σ.length) aN)(hk:autoParam (Γ.env.kindOf x=some .local) aR)(hi2:autoParam (Γ.ns[id]?=some y) aR)(hkf:autoParam (Γ.env.scope.kind=.function) aR)(hd:autoParam ((y == ("__debug__":jX))=false) aK)
 (he:autoParam (eval ((ku y yp).Attribute "get" ap) Γ.env=(do
  let o<-eval (ku y yp) Γ.env
  mQ ap.atName
  let r<-ml [o] (pU o "get" true)
  letTemporaryGo (ku y yp) o r
  pure r)) aR)
 (hs:autoParam (qV ((ku y yp).Attribute "get" ap) (some (.Name x np)) pos.line Γ.env=pure false) aR) :
 Ex Γ σ (.Assign [.Name x np] (.Attribute (.Name y yp) "get" ap) pos::ss) P:=by
 intro O s Q E t q
 refine kg (l6 (sF (Hc id t ?_ hi2 hσ hkf hd) he) hs)
 refine H0 (RG t hi2 hσ) λo ho hD _ _=>?_
 have hD2:=hD
 refine Af hD2 λkvs zz1 _=>?_;obtain⟨es,ep,hex,hdat,_⟩:=zz1
 rw[hw]
 refine Pz ho hex hdat ?_
 rw[<-hw]
 have kp:kY s {s with heap:=s.heap.push (A8 "dict.get" d),toks:=s.toks+1}:=Keeps.pushT _ _ _
 have e1:s.heap.get? s.heap.objs.size=none:=Bk (jN _)
 have eg:(s.heap.push (A8 "dict.get" d)).get? s.heap.objs.size=some (A8 "dict.get" d):=jQ _ rfl
 have t1:=t.of_keeps kp
 have hgL:s.heap.objs.size≠Γ.env.locals:=λz=>by refine Af t.ex λmm zz1 _=>?_;obtain⟨o,_,_,e,_⟩:=zz1;rw[<-z,e1] at e;exact B6 e
 refine AG N (i:=ig) (b:=.val (.raw (.ref s.heap.objs.size))) hi hlt hk t1 rfl λs2 a2 u2 t2=>?_
 have f2:=(Fx.of_keeps kp).tr (Fx.ofBut t1 a2 u2 t2)
 refine H0 (QU N t2 hi2 (show(σ.set ig (some (.val (.raw (.ref s.heap.objs.size)))))[id]?=some (some (.at d (DI Γ.w f n))) from(lO (ll hne)).trans hσ)) λO3 f3 t3 hdL zr0=>Af zr0 λo3 ho3 hD3=>?_
 refine OX N t3 (fl _) (λN'=>h _ s2 (XA t hi2 hσ).2.1 (E5 hgL (u2 _ _ hgL eg)) (Ac o3 (E5 hdL ho3) hD3) (Om t3) N') λO' fl af σ' s' fx t' fr p=>q O' fl af σ' s' ((f2.tr f3).tr fx) t' fr p
theorem Pt(hw:Γ.prog=pw){g d:jL}{f:Int->Option Int}{n:Nat}{fe e1 e2:kH}{i c:Int}{cp:mf}(hg:Γ.s₀.heap.get? g=some (A8 "dict.get" d))(hd:∃o,Γ.s₀.heap.get? d=some o/\DI Γ.w f n o)(lo:(d == sysModules)=false)(hf:Ev Γ σ fe (.raw (.ref g)))(h1:Ev Γ σ e1 (.py (.int i)))(h2:Ev Γ σ e2 (.py (.int c)))(hp:autoParam ([e1,e2].all AE=true) aR)
 (he:autoParam (eval (.Call fe [e1,e2] [] cp) Γ.env=(do kX cp (<-eval fe Γ.env) [] (backTo cp (starEach [e1,e2] Γ.env)) (l8 cp (lu [] Γ.env)))) aR):Ev Γ σ (.Call fe [e1,e2] [] cp) (.py (.int ((f i).getD c))):=by
 intro O s Q E t q
 refine qQ (hf O s _ E t λv s1 t1 k1 r1=>?_) he
 obtain rfl:v=.ref g:=r1
 refine Fe hp (Ab h1 (Ab h2 Ah (by simpa using (ky.mp hp e2 (by simp)))) (by simpa using (ky.mp hp e1 (by simp))) O s1 _ _ E t1 λvs s2 t2 k2 r2=>⟨t2.keep _ _ hg,?_⟩)
 refine BD r2.two λv u zz1 ra rb=>?_;obtain rfl:=zz1
 obtain⟨ta,rfl⟩:=ra.int_inv
 obtain⟨tb,rfl⟩:=rb.int_inv
 refine Af hd λo ho zr0=>Bu zr0 λkvs hd hl ha=>?_
 have hm:s2.heap.DictOf (pQ pw Γ.w) d kvs:=pg.mpr (Ac o (t2.keep _ _ ho) hd)
 rw[hw]
 refine Vr (t2.keep _ _ hg) hm.mapOf lo ?_
 have kk:=Keeps.tr (Keeps.tr k1 k2) (Keeps.rfl' (tk:=s2.toks+1))
 refine q _ _ (t.of_keeps kk) kk ?_
 cases e:f i with
 | none=>rw[ha.none e];exact VR.int ..
 | some r=>obtain⟨t',e'⟩:=ha.some e;rw[e'];exact VR.int ..
theorem DU(hw:Γ.prog=pw){g d:jL}{led:Bool}{fe e1:kH}{x:jX}{cp:mf}(hg:Γ.s₀.heap.get? g=some (A8 "set.__contains__" d))(hd:Γ.s₀.heap.get? d=some (Cc led))(hf:Ev Γ σ fe (.raw (.ref g)))(h1:Ev Γ σ e1 (.py (.str x)))(hp:autoParam ([e1].all AE=true) aR)
 (he:autoParam (eval (.Call fe [e1] [] cp) Γ.env=(do kX cp (<-eval fe Γ.env) [] (backTo cp (starEach [e1] Γ.env)) (l8 cp (lu [] Γ.env)))) aR):Ev Γ σ (.Call fe [e1] [] cp) (.py (.bool false)):=by
 intro O s Q E t q
 refine qQ (hf O s _ E t λv s1 t1 k1 r1=>?_) he
 obtain rfl:v=.ref g:=r1
 refine Fe hp (Ab h1 Ah (by simpa using (ky.mp hp e1 (by simp))) O s1 _ _ E t1 λvs s2 t2 k2 r2=>⟨t2.keep _ _ hg,?_⟩)
 refine Af r2.one λv zz1 ra=>?_;obtain rfl:=zz1
 obtain⟨ta,rfl⟩:=ra.str_inv
 rw[hw]
 refine Jn (t2.keep _ _ hg) (t2.keep _ _ hd) ?_
 have kk:=Keeps.tr (Keeps.tr k1 k2) (Keeps.rfl' (tk:=s2.toks+1))
 exact q _ _ (t.of_keeps kk) kk (VR.bool ..)
end
section
open PySem.Builtin PySem.Builtin.ObjectAttr
section
variable {w:jW} {h:jY} {M:tM}
theorem Jl(K:Bn w h):h.get? CM=some (Hz w.params):=K.get CM (by kernel_rfl)
theorem RB(K:Bn w h):mD M h (mroOf (.ref CM)) [.ref CM,.type "tuple",.type "object"]:=(xa K.k (cd:={name:=jz "Match",bases:=[jV "tuple"],mro:=[kx CM,jV "tuple",jV "object"],ns:=134,qualname:=jz "Match",hasDict:=false}) (by kernel_rfl)).andThen .now
theorem Xp(K:Bn w h):mD M h (classData CM) {name:=jz "Match",bases:=[jV "tuple"],mro:=[kx CM,jV "tuple",jV "object"],ns:=134,qualname:=jz "Match",hasDict:=false}:=xa K.k (by kernel_rfl)
theorem Ov(K:Bn w h):mD M h (se (.ref CM)) none:=by
 intro A Q E s k q
 unfold se
 refine jA (RB K A _ E s k ?_)
 rw[mV]
 refine jA (jA (jA (jA (oz (k _ _ (Jl K)) (jJ ?_)))))
 exact jJ (jJ (jJ q))
theorem FZ:se (.type "tuple")=pure (some "tuple.__new__"):=F.called_tuple.made
theorem RF:Builtin.Slots.bestBase [.type "tuple"]=pure (.type "tuple"):=by kernel_rfl
theorem Up(K:Bn w h):mD M h (uj (.ref CM)) (.type "tuple"):=by
 intro A Q E s k q
 unfold uj
 refine jA (RB K A _ E s k ?_)
 rw[mV]
 refine jA (jA (jA (Ov K A _ E s k ?_)))
 rw[if_neg (by decide)]
 dsimp only
 refine jA (Xp K A _ E s k ?_)
 dsimp only
 rw[RF]
 refine jA (jJ (jJ ?_))
 dsimp only
 rw[mV,FZ]
 refine jA (jA (jJ ?_))
 rw[if_pos (by rfl)]
 exact jJ (jJ (jJ q))
end
end
section
open PySem.Builtin PySem.Builtin.ObjectAttr
section
variable {w:jW} {M:tM}
theorem VU:wo "tuple.__new__"=some ("tuple","__new__"):=by decide +kernel
theorem XS:qt "tuple.__new__"=some .builtinFn:=by decide +kernel
theorem ON:plainId "tuple.__new__"=true:=by decide +kernel
theorem XU(t:jL):(match oQ "tuple.__new__" with|some sig=>qI "tuple.__new__" sig {pos:=[kx CM,kx t]} | x=>pure ())=pure ():=by
 rw[vW (id:="tuple.__new__") (n:=['_','_','w','e','n','_','_']) (o:=['e','l','p','u','t']) (by kernel_rfl) PySem.F.owner_tuple];kernel_rfl
theorem Pd{h:jY}(K:Bn w h):mD M h (Bind.madeHere "tuple.__new__" (.ref CM)) ():=by
 refine(Up K).andThen ?_
 rw[FZ]
 exact pR (by kernel_rfl)
noncomputable abbrev T4 (D:jL) (items:Array jB):nH:={cls:=.ref CM,dict:=some D,data:=.seq items}
theorem IE{A:kA}{R:sY->jE->Prop}{hh:jY}{g:Array vz}{d:Drawn}{tk:Nat}{os:lJ}{t:jL}{o:nH}{items:Array jB}{n:Nat}(K:Bn w hh)(ht:hh.get? t=some o)(hc:o.cls=.type "tuple")(hd:o.data=.seq items n)(hsz:items.size<=sizeLine)
 (q:∀h':jY,(∀b o',hh.get? b=some o'->h'.get? b=some o')->R (.ok (.ret (.ref (h'.objs.size+1)))) ⟨(h'.push emptyDict).push (T4 h'.objs.size items),g,d,tk,os⟩) :
 codeAny (model pw w) A (.call (.builtin "tuple.__new__") ⟨[.ref CM,.ref t],[]⟩) R ⟨hh,g,d,tk,os⟩:=by
 have hI:mD (model pw w) hh (isType (.ref CM)) true:=by
  intro A Q E s' k q
  unfold isType w6
  exact jA (oz (k _ _ (Jl K)) (jJ q))
 have hS:mD (model pw w) hh (isSubtype (.ref CM) (.type "tuple")) true:=qz K.k (by kernel_rfl)
 have hB:mD (model pw w) hh (uj (.ref CM)) (.type "tuple"):=Up K
 have hM:mD (model pw w) hh (se (.type "tuple")) (some "tuple.__new__"):=pR FZ
 have hMH:mD (model pw w) hh (Bind.madeHere "tuple.__new__" (.ref CM)) ():=Pd K
 have hN:mD (model pw w) hh (typeLookup (.ref CM) "__init__") (some (.builtin "object.__init__")):=pW K.k (by kernel_rfl)
 refine vN (tL ON _) ?_
 unfold checkBuiltinCall
 rw[XS,VU]
 dsimp only
 rw[if_pos (by decide)]
 refine jA (hI.at ?_)
 refine jA (hS.at ?_)
 rw[if_neg (by decide)]
 refine jA (hB.at ?_)
 refine jA (hM.at ?_)
 dsimp only
 rw[if_neg (by decide +kernel)]
 have ck:=XU t
 refine ly ck ?_
 refine pD F.entry_tuple_new ?_
 rw[nz ON]
 have L0:mD (model pw w) hh (typeOf (.ref t)) (.type "tuple"):=hc▸(oO ht).andThen .now
 unfold km.«tuple.__new__»
 dsimp only
 refine jA (hI.at ?_)
 rw[if_neg (by decide)]
 refine jA (hS.at ?_)
 rw[if_neg (by decide)]
 refine jA (hMH.at ?_)
 refine jA (hN.at ?_)
 rw[if_pos (by rfl)]
 refine jA (ly (show noKeywords "tuple" {pos:=[kx CM,kx t]}=pure () by rfl) ?_)
 refine jA (ly (show checkCount "tuple" 0 1 [kx t].length=pure () by rfl) ?_)
 rw[if_neg (by decide)]
 refine jA (wpAny_collect_seq t (.inr rfl) ht hc hd (λh' hk=>?_) hsz)
 refine jA (jJ ?_)
 refine jA (wpAny_alloc ?_)
 refine jA ?_
 have e:items.toList.toArray=items:=by simp
 rw[e]
 unfold newObj
 dsimp only
 rw[if_neg (by omega)]
 unfold newObjAsIs classHasDel
 refine jA (wpAny_alloc (jA (jA (sq (jF _ (jF _ (hk _ _ (Jl K)))) (jJ ?_)))))
 dsimp only
 rw[if_neg (by decide)]
 refine jJ (jJ ?_)
 have q:=q h' hk
 rw[<-mR h' emptyDict] at q
 exact q
end
end
section
open PySem.Builtin PySem.Builtin.ObjectAttr
noncomputable def Qi (i j k:Int):jO:=.dict [(.tuple [.int i,.int j,.int k],.none)]
theorem YO{w:jW}{xG:jY}{n:Nat}{f:jL}{o:nH}{fd:nU}{st:l9}{ps ns:List jX}{avs:List AV}{r:AV}(K:Bn w xG)(lim:xG.NoLimit)(ho:(KK w.params).lookup f=some o)(hd:o.data=.func fd)(X:Bf fd (Am st) ps ns)(hcd:codeIn (KK w.params) fd.code fd.qualname=true)(hlen:avs.length=ps.length)
 (hbind:∀vs,vs.length=ps.length->l3 fd ⟨vs,[]⟩=pure (ps.zip vs))
 (hB:∀A s O,HK xG s->Nm (Dx pw w A s fd f ns O)->A0 (A.deeper (callEnvC fd s.heap.objs.size f)) n->Ex (Dx pw w A s fd f ns O) (Bi avs (ns.length-ps.length)) (Am st) (λaf _=>af=.ret r)):Fn pw w xG (n+1) (.ref f) [] avs [] r:=
 I3 X (K.get f ho) hd lim (tV K.k hcd) hlen (λs vs _ hl=>.of_eq (hbind vs hl)) hB
theorem Ol{w:jW}{A:kA}{s:jE}{Q:jB×List jB->jE->Prop}{E:jB->jE->Prop}{pl:vg Bool}(K:Bn w s.heap)(q:Q (.builtin "tuple.__new__",[]) {s with toks:=s.toks+1}):wpAny (model pw w) A (nv (.type "tuple") "__new__" pl) Q E s:=by
 have hs:specialOf (.type "tuple") "__getattribute__"=pure (some (.builtin "type.__getattribute__")):=by
  unfold specialOf
  show typeLookup (.type "type") _=_
  rw[lT,kZ];kernel_rfl
 unfold nv
 rw[hs]
 refine jA (jJ ?_)
 dsimp only
 rw[if_pos canon_tga]
 refine jA ?_
 have fm:=λQ E r (e:findCls (KK w.params) (.type "tuple") (.type "type") "__new__"=some r) h=>@cls_open pw w A E s (KK w.params) (.type "tuple") (.type "type") "__new__" r false Q none K.k (pR (by rfl)) (pR (by rfl)) (by kernel_rfl) (looks_hook K.k (by kernel_rfl)) (by kernel_rfl) e h
 refine fm _ _ (.val (.builtin "tuple.__new__")) (by kernel_rfl) (jJ ?_)
 exact handed_on (by rfl) (jJ q)
section
variable {Γ:Cx} {σ:AX}
theorem Kz{mg mb:jX->Option jB}{xG:jY}{e1 e2:kH}{tp ap cp:mf}{i j k:Int}(hw:Γ.prog=pw)(K:Bn Γ.w xG)(hk:HK xG Γ.s₀)(hT:Ev Γ σ (.Name (jz "tuple") tp) (.raw (.type "tuple")))(h1:Ev Γ σ e1 (.raw (.ref CM)))(h2:Ev Γ σ e2 (.py (.tuple [.int i,.int j,.int k])))
 {pl:vg Bool}(hp:autoParam ([e1,e2].all AE=true) aR)
 (he:autoParam (eval (.Call (.Attribute (.Name (jz "tuple") tp) "__new__" ap) [e1,e2] [] cp) Γ.env=(do
  let ov<-eval (.Name (jz "tuple") tp) Γ.env
  mQ ap.atName
  let (f,first)<-ml [ov] (nv ov "__new__" pl)
  kX cp f first (backTo cp (starEach [e1,e2] Γ.env)) [])) aR) :
 Ev Γ σ (.Call (.Attribute (.Name (jz "tuple") tp) "__new__" ap) [e1,e2] [] cp) (.py (Qi i j k)):=by
 intro O s Q E t q
 refine mh (pl:=pl) (hT O s _ E t λv s1 t1 k1 r1=>?_) he
 obtain rfl:v=.type "tuple":=r1
 have K1:Bn Γ.w s1.heap:=K.keeps λb o e=>t1.keep _ _ (hk b o e)
 rw[hw]
 refine Ol K1 ?_
 rw[<-hw]
 have k2:kY s1 {s1 with toks:=s1.toks+1}:=Keeps.rfl'
 have t2:=t1.of_keeps k2
 refine callWith_builtin (Bh hp) (AL hp (Ab h1 (Ab h2 Ah (by simpa using (ky.mp hp e2 (by simp)))) (by simpa using (ky.mp hp e1 (by simp))) O _ _ _ E t2 λvs s3 t3 k3 r3=>?_))
 refine BD r3.two λv u zz1 ra rb=>?_;obtain rfl:=zz1
 obtain rfl:v=.ref CM:=ra
 refine Cf rb.tuple_inv λa ws as zz1 zz2 rs qs=>?_;obtain rfl:=zz1;obtain⟨o,ho,hc,n,hd⟩:=zz2
 have K3:Bn Γ.w s3.heap:=K.keeps λb o e=>t3.keep _ _ (hk b o e)
 obtain⟨hh,g,d,tk,os⟩:=s3
 have hsz:ws.size<=sizeLine:=by
  have:=Al rs
  rw[kh] at this
  rw[this];exact jT rfl
 refine mS ?_
 rw[hw]
 refine IE K3 ho hc hd hsz λh' k4=>?_
 have k5:kY ⟨hh,g,d,tk,os⟩ ⟨(h'.push emptyDict).push (T4 h'.objs.size ws),g,d,tk,os⟩:=AT _ tk rfl λb o e=>jF _ (jF _ (k4 b o e))
 have kk:=Keeps.tr (Keeps.tr (Keeps.tr k1 k2) k3) k5
 have eo:((h'.push emptyDict).push (T4 h'.objs.size ws)).get? (h'.objs.size+1)=some (T4 h'.objs.size ws):=by rw[<-mR h' emptyDict];exact jQ _ rfl
 refine q _ _ (t.of_keeps kk) kk (Ac ((h'.objs.size+1)::as) (.mt eo rfl rfl (Ae.keeps (Ax k5) rs)) λb hb=>?_)
 rcases jG.mp hb with rfl|hb
 ·rintro⟨p,hp,e⟩
  obtain⟨o',ho'⟩:=t3.live p hp
  have:=kq (k4 _ _ ho')
  rw[e] at this
  exact absurd this (pq.mpr (qX _))
 ·exact qs b hb
end
theorem fZ(P:jC):Bf (Bq (G0 P)) (Am (BB 3 4)) ["_cls","a","b","size"] ["_cls","a","b","size"]:=.of' rfl rfl rfl (by decide +kernel)
theorem aU(P:jC)(u v x y:jB):l3 (Bq (G0 P)) ⟨[u,v,x,y],[]⟩=pure [((jz "_cls"),u),((jz "a"),v),((jz "b"),x),((jz "size"),y)]:=by rfl
theorem ae{w:jW}{xG:jY}{mg mb:jX->Option jB}(K:Bn w xG)(T:Br mg mb xG)(i j k:Int):Fn pw w xG 1 (.ref 82) [] [.raw (.ref CM),.py (.int i),.py (.int j),.py (.int k)] [] (.py (Qi i j k)):=by
 refine YO (o:=G0 w.params) (fd:=Bq (G0 w.params)) (st:=BB 3 4) K T.gl.nolimit (by kernel_rfl) (by kernel_rfl) (fZ _) (by kernel_rfl) rfl (λvs hl=>by refine Eb (Yw hl) λv u x y zz1=>?_;obtain rfl:=zz1;exact aU _ v u x y) λA s O hk N room=>?_
 refine Ad (Iz ?_)
 refine Ad (AQ (Kz (mg:=mg) (mb:=mb) rfl K hk (A1 T hk) (Aa 0) (Au (ds:=[.int i,.int j,.int k]) (Ab (Aa 1) (Ab (Aa 2) (Ab (Aa 3) Ah))))) ?_)
 rfl
end
section
open PySem.Builtin PySem.Builtin.ObjectAttr
theorem Yn:qt "object.__init__"=some .slot:=by decide +kernel
theorem Ws:wo "object.__init__"=some ("object","__init__"):=by decide +kernel
theorem O0:plainId "object.__init__"=true:=by decide +kernel
theorem Ut(a:jB)(rest:List jB):su "object.__init__" ⟨a::rest,[]⟩:=by unfold su;kernel_rfl
theorem YH{w:jW}{A:kA}{R:sY->jE->Prop}{s:jE}{a:jL}{o:nH}{rest:List jB}(K:Bn w s.heap)(ho:s.heap.get? a=some o)(hc:o.cls=.ref CM)(q:R (.ok (.ret .none)) s) :
 codeAny (model pw w) A (.call (.builtin "object.__init__") ⟨.ref a::rest,[]⟩) R s:=by
 delta w A R a o at s rest K ho hc q
 obtain⟨hh,g,d,tk,os⟩:=s
 have L0:mD (model pw w) hh (typeOf (.ref a)) (.ref CM):=hc▸(oO ho).andThen .now
 have L1:mD (model pw w) hh (isInstance (.ref a) (.type "object")) true:=L0.andThen (qz K.k (by kernel_rfl))
 have hN:mD (model pw w) hh (typeLookup (.ref CM) "__init__") (some (.builtin "object.__init__")):=pW K.k (by kernel_rfl)
 have hM:mD (model pw w) hh (se (.ref CM)) none:=Ov K
 refine vN (tL O0 _) (tW (s:=⟨hh,g,d,tk,os⟩) Yn Ws L1 (Ut _ _) ?_)
 refine pD F.entry_object_init ?_
 rw[nz O0]
 unfold km.«object.__init__»
 dsimp only
 cases rest with
 | nil=>
  rw[if_neg (by decide)]
  exact jJ q
 | cons x xs=>
  rw[if_pos (by rfl)]
  refine jA (L0.at ?_)
  refine jA (hN.at ?_)
  refine jA (hM.at ?_)
  rw[if_neg (by decide),if_neg (by decide)]
  exact jJ q
theorem Wy{w:jW}{xG:jY}{mg mb:jX->Option jB}(x1:Bn w xG)(T:Br mg mb xG)(i j k:Int):Fn pw w xG 2 (.ref CM) [] [.py (.int i),.py (.int j),.py (.int k)] [] (.py (Qi i j k)):=by
 intro A O s vs kvs Q E room hk own rv rk q
 have K:Bn w s.heap:=x1.up hk
 refine Cf rv.three λu v x zz1 ru rw' rx=>?_;obtain rfl:=zz1
 obtain rfl:kvs=[]:=by cases kvs with|nil=>rfl|cons _ _=>exact rk.elim
 obtain⟨hh,g,d,tk,os⟩:=s
 have hC:=Jl K
 have typ:mD (model pw w) hh (isInstance (.ref CM) (.type "type")) true:=looks_instIn K.k (by kernel_rfl)
 have call:mD (model pw w) hh (specialOf (.ref CM) "__call__") (some (.builtin "type.__call__")):=looks_specialIn K.k (by kernel_rfl)
 show wpAny (model pw w) A (PySem.call (.ref CM) [u,v,x] []) Q E ⟨hh,g,d,tk,os⟩
 refine mS (ve ?_)
 show wpAny _ _ (wt (.ref CM) _) _ _ _
 refine nd_load hC ?_
 show wpAny _ _ (vO (.ref CM) _) _ _ _
 unfold vO
 refine jA (call.at ?_)
 dsimp only
 rw[tc_bind]
 refine jA (jJ (jA (jJ ?_)))
 refine jJ (a:=Fin.again (.call (.builtin "type.__call__") ⟨.ref CM::[u,v,x],[]⟩)) (And.intro rfl ?_)
 refine codeAny_call_builtin_at (sM _ (by decide +kernel)) entry_typeCall (tW tc_kind tc_split typ (tc_args _ _ _) ?_)
 unfold km.«type.__call__»
 dsimp only
 rw[if_neg (by decide)]
 refine jA ((RB K).at ?_)
 rw[if_neg (by decide)]
 refine jA ((Ov K).at ?_)
 dsimp only
 refine jA ?_
 have fm:=λQ E r (e:findCls (KK w.params) (.ref CM) (.type "type") "__new__"=some r) h=>@cls_read pw w (A.under (.builtin "type.__call__" ⟨.ref CM::[u,v,x],[]⟩)) E ⟨hh,g,d,tk,os⟩ (KK w.params) (.type "type") "__new__" CM r false Q K.k (by kernel_rfl) e h
 refine fm _ _ (.get (.builtin "staticmethod.__get__") (.ref 136) .none (.ref CM)) (by kernel_rfl) (jA (kE (mS (sm_get K.k (f:=.ref 82) (rest:=[]) (by kernel_rfl) ?_))))
 refine jJ ?_
 refine handed_on (by rfl) ?_
 refine jA (kE ?_)
 have rm:A0 (A.under (.builtin "type.__call__" ⟨.ref CM::[u,v,x],[]⟩)) 1:=A0.under room
 have own':CJ O ⟨hh,g,d,tk+1,os⟩:=⟨own.nodup,own.live⟩
 refine ae x1 T i j k (A.under (.builtin "type.__call__" ⟨.ref CM::[u,v,x],[]⟩)) O ⟨hh,g,d,tk+1,os⟩ [.ref CM,u,v,x] [] _ _ rm hk own' ⟨rfl,ru,rw',rx,trivial⟩ trivial λy s1 k1 r1=>?_
 have kk:kY ⟨hh,g,d,tk,os⟩ s1:=Keeps.tr Keeps.rfl' k1
 have hq:=q y s1 kk r1
 refine Af r1 λas r1 _=>?_
 obtain⟨a,o,rfl,ho,hc⟩:∃a o,y=.ref a/\s1.heap.get? a=some o/\o.cls=.ref CM:=by
  unfold Qi at r1
  cases r1 with
  | mt e1 e2 e3 e4=>exact FQ _ _ rfl e1 e2
 have K1:Bn w s1.heap:=K.keeps (Ax kk)
 obtain⟨h1,g1,d1,tk1,os1⟩:=s1
 have L0:mD (model pw w) h1 (typeOf (.ref a)) (.ref CM):=hc▸(oO ho).andThen .now
 have hS:mD (model pw w) h1 (isSubtype (.ref CM) (.ref CM)) true:=qz K1.k (by kernel_rfl)
 have hN:mD (model pw w) h1 (typeLookup (.ref CM) "__init__") (some (.builtin "object.__init__")):=pW K1.k (by kernel_rfl)
 unfold isInstance callSpecial? specialOf
 refine jA (jA (L0.at (hS.at ?_)))
 rw[if_neg (by decide)]
 refine jA (kE (jA (jA (L0.at (hN.at ?_)))))
 dsimp only
 refine kE ?_
 rw[oi_bind]
 refine jA (jJ (jA (mS (YH K1 ho hc ?_))))
 refine jJ (jJ ?_)
 exact hq
theorem PF{M:tM}{w:jW}{A:kA}{env:xy}{E:jB->jE->Prop}{s:jE}{pos:mf}{e:kH}{es:List kH}{Q:jB->jE->Prop}(hp:(e::es).all AE=true)
 (h:wpAny M A (spliced (backTo pos (starEach (e::es) env))) (λvs xJ=>Bn w xJ.heap/\wpAny M A (call (.ref CM) vs) Q E xJ) E s) :
 wpAny M A (kX pos (.ref CM) [] (backTo pos (starEach (e::es) env)) []) Q E s:=by
 have hst:((backTo pos (starEach (e::es) env)).any (λx=>x.fst) || ([]:List (Option jX×vg jB)).any λx=>x.fst.isNone)=false:=by
  rw[Bh hp];rfl
 unfold kX
 refine jA (kE (AL hp (lR h (λvs xJ xI=>?_) λ_ _ x=>x)))
 obtain⟨hh,g',d',t,os⟩:=xJ
 obtain⟨K,xI⟩:=xI
 refine jA (rt ?_)
 rw[hst]
 have L:wpAny M A (keeperOf (.ref CM)) (λk s'=>k=.machine/\s'=⟨hh,g',d',t,os⟩) E ⟨hh,g',d',t,os⟩:=by
  unfold keeperOf
  refine jA (sq (Jl K) ?_)
  show wpAny _ _ (specialOf (.ref CM) "__call__">>=_) _ _ _
  refine jA ((looks_specialIn K.k (by kernel_rfl:specialIn (KK w.params) (.ref CM) "__call__"=some (some (.builtin "type.__call__")))).at ?_)
  exact jJ ⟨rfl,rfl⟩
 refine jA (lR L (λk s' hk=>?_) λ_ _ x=>x)
 obtain⟨rfl,rfl⟩:=hk
 show wpAny _ _ (call (.ref CM) vs []>>=λr=>do ml [r] point;pure r) _ _ _
 exact jA (lR xI (λr s' hr=>jA (kE (wpAny_point (jJ hr)))) λ_ _ x=>x)
theorem Xd{Γ:Cx}{σ:AX}{mg mb:jX->Option jB}{xG:jY}{f e1 e2 e3:kH}{cp:mf}{i j k:Int}(hw:Γ.prog=pw)(K:Bn Γ.w xG)(T:Br mg mb xG)(room:A0 Γ.A 2)(hk:HK xG Γ.s₀)(hf:Ev Γ σ f (.raw (.ref CM)))(h1:Ev Γ σ e1 (.py (.int i)))(h2:Ev Γ σ e2 (.py (.int j)))(h3:Ev Γ σ e3 (.py (.int k)))
 (hp:autoParam ([e1,e2,e3].all AE=true) aR)
 (he:autoParam (eval (.Call f [e1,e2,e3] [] cp) Γ.env=(do kX cp (<-eval f Γ.env) [] (backTo cp (starEach [e1,e2,e3] Γ.env)) (l8 cp (lu [] Γ.env)))) aR):Ev Γ σ (.Call f [e1,e2,e3] [] cp) (.py (Qi i j k)):=by
 intro O s Q E t q
 refine qQ (hf O s _ E t λv s1 t1 k1 r1=>?_) he
 obtain rfl:v=.ref CM:=r1
 refine PF (w:=Γ.w) hp (Ab h1 (Ab h2 (Ab h3 Ah (by simpa using (ky.mp hp e3 (by simp)))) (by simpa using (ky.mp hp e2 (by simp)))) (by simpa using (ky.mp hp e1 (by simp))) O s1 _ _ E t1 λvs s2 t2 k2 r2=>⟨K.keeps λb o e=>t2.keep _ _ (hk b o e),?_⟩)
 rw[hw]
 exact Wy K T i j k Γ.A O s2 vs [] Q E room (λb o e=>t2.keep _ _ (hk _ _ e)) t2.ownOk r2 trivial λv s3 k3 r3=>q v s3 (t2.of_keeps k3) (Keeps.tr (Keeps.tr k1 k2) k3) r3
end
theorem Wd{a i k:Nat}(h:a<=i)(l:k<=i+1-a):a<=i+1-k:=
 Nat.le_sub_of_add_le (oZ a k▸Nat.add_le_of_le_sub (pJ h) l)
theorem OT{a i k:Nat}(h:a<=i+1)(l:k<=i+1-a):1+k<=i+1+1-a:=by
 rw[Nat.succ_sub h,oZ];exact ub l
theorem Wf{a i k b:Nat}(l:k<=i+1-a)(h:i<b):i+1-k+k<=b:=by
 rw[oB (kL l (pY _ _))];exact h
theorem Wc{a i k:Nat}(h:a<i+1-k):a+k<=i:=wL (Nat.add_lt_of_lt_sub h)
section
variable {α:Type} [DecidableEq α] (as bs:List α) (alo blo bhi:Nat)
noncomputable def Dt (i j:Nat):Prop:=∃x,as[i]?=some x/\bs[j]?=some x
instance (i j:Nat):Decidable (Dt as bs i j):=
 match h:as[i]?,h':bs[j]? with
 | some x,some y=>if e:x=y then isTrue (Ac x h (e▸h')) else isFalse λEM=>Af EM λz h1 h2=>by rw[h] at h1;rw[h'] at h2;(replace h1:=si h1;subst h1);(replace h2:=sj h2;subst h2);exact e rfl
 | none,_=>isFalse λEM=>Af EM λz h1 _=>by exact B0 h h1
 | some _,none=>isFalse λEM=>Af EM λz _ h2=>by exact B0 h' h2
noncomputable def AY:Nat->Nat->Nat
 | 0,j=>if Dt as bs 0 j then 1 else 0
 | i+1,j=>if Dt as bs (i+1) j then 1+(if alo<i+1/\blo<j then AY i (j-1) else 0) else 0
theorem Dg(i j:Nat):AY as bs alo blo i j=if Dt as bs i j then 1+(if alo<i/\blo<j then AY as bs alo blo (i-1) (j-1) else 0) else 0:=by
 cases i with
 | zero=>unfold AY;split<;>simp
 | succ i=>rw[AY];rfl
theorem UO{i j:Nat}(h:¬Dt as bs i j):AY as bs alo blo i j=0:=by rw[Dg,if_neg h]
theorem Fl:∀{i j:Nat},alo<=i->blo<=j->AY as bs alo blo i j<=i+1-alo/\AY as bs alo blo i j<=j+1-blo
 | 0,j,hi,hj=>by rw[Dg];split<;>(try split)<;>lia
 | i+1,j,hi,hj=>by
  rw[Dg]
  split
  ·split
   ·rename_i h
    have:=Fl (i:=i) (j:=j-1) (wL h.1) (Nat.le_pred_of_lt h.2)
    rw[td]
    obtain⟨j,rfl⟩:=Nat.exists_eq_succ_of_ne_zero (Nat.ne_zero_of_lt h.2)
    exact⟨OT (pK h.1) this.1,OT (pK h.2) this.2⟩
   ·rwa[hi,hj]
  ·rwa[]
theorem G9:∀{i j:Nat},alo<=i->blo<=j->alo+AY as bs alo blo i j<=i->blo+AY as bs alo blo i j<=j->¬Dt as bs (i-AY as bs alo blo i j) (j-AY as bs alo blo i j)
 | 0,j,hi,hj=>by
  rw[Dg]
  split
  ·split<;>lia
  ·intro _ _;simpa using ‹¬_›
 | i+1,j,hi,hj=>by
  rw[Dg]
  split
  ·split
   ·rename_i h
    rw[td]
    intro h1 h2
    have:=G9 (i:=i) (j:=j-1) (by rwa[hi,h]) (by rwa[hj,h]) (by rwa[h1]) (by rwa[hj,h,h2])
    rw[show i+1-(1+AY as bs alo blo i (j-1))=i-AY as bs alo blo i (j-1) by rwa[],show j-(1+AY as bs alo blo i (j-1))=j-1-AY as bs alo blo i (j-1) by rwa[]]
    exact this
   ·intro h1 h2;lia
  ·intro _ _;simpa using ‹¬_›
noncomputable def Gq (i:Nat):List Nat:=(kd bs.length).filter λk=>decide (Dt as bs i k/\blo<=k/\k<bhi)
theorem CZ{i k:Nat}:k∈Gq as bs blo bhi i↔Dt as bs i k/\blo<=k/\k<bhi:=by
 unfold Gq
 rw[j9,decide_eq_true_eq,mr]
 refine⟨λh=>h.2,λh=>⟨?_,h⟩⟩
 obtain⟨⟨x,_,e⟩,_⟩:=h
 exact(jK.mp e).1
noncomputable def Fw (i:Nat) (L:List Nat):Int->Option Int:=λk=>if 0<=k/\k.toNat∈L then some (AY as bs alo blo i k.toNat:Int) else none
theorem UN(i:Nat)(L:List Nat)(j:Nat):Fw as bs alo blo i (L++[j])=λk=>if k=(j:Int) then some ((AY as bs alo blo i j:Nat):Int) else Fw as bs alo blo i L k:=by
 funext k
 unfold Fw
 by_cases h:k=(j:Int)
 ·subst h;simp
 ·rw[if_neg h]
  have:(0<=k/\k.toNat∈L++[j])↔(0<=k/\k.toNat∈L):=by
   rw[jU,jH]
   refine⟨λEM=>Cg EM λh1 h2=>⟨h1,h2.resolve_right λe=>h ?_⟩,λEM=>Cg EM λh1 h2=>⟨h1,.inl h2⟩⟩
   lia
  by_cases h':(0<=k/\k.toNat∈L)
  ·rw[if_pos (this.mpr h'),if_pos h']
  ·rw[if_neg (λz=>h' (this.mp z)),if_neg h']
noncomputable def HU:Nat->Int->Option Int
 | 0=>λ_=>none
 | t+1=>Fw as bs alo blo (alo+t) (Gq as bs blo bhi (alo+t))
theorem UZ{t j:Nat}(he:Dt as bs (alo+t) j)(h1:blo<=j)(h2:j<bhi):(HU as bs alo blo bhi t ((j:Int)-1)).getD 0+1=(AY as bs alo blo (alo+t) j:Int):=by
 rw[Dg,if_pos he]
 cases t with
 | zero=>simp[HU]
 | succ t=>
  have hL:HU as bs alo blo bhi (t+1)=Fw as bs alo blo (alo+t) (Gq as bs blo bhi (alo+t)):=rfl
  by_cases hb:blo<j
  ·rw[if_pos (⟨by rwa[],hb⟩:alo<alo+(t+1)/\blo<j),hL]
   unfold Fw
   have e1:((j:Int)-1).toNat=j-1:=by rwa[h1,hb]
   rw[e1,show alo+(t+1)-1=alo+t by rwa[]]
   by_cases hq:Dt as bs (alo+t) (j-1)
   ·rw[if_pos ⟨by rwa[h1,hb],(CZ as bs blo bhi).mpr ⟨hq,by rwa[h1,hb,e1],by rwa[h2,hb,e1]⟩⟩]
    simp;rwa[]
   ·rw[if_neg λz=>hq ((CZ as bs blo bhi).mp z.2).1,UO as bs alo blo hq]
    simp
  ·rw[if_neg (λ(z:alo<alo+(t+1)/\blo<j)=>hb z.2),hL]
   unfold Fw
   rw[if_neg]
   ·simp
   ·rintro⟨h3,h4⟩
    have:=((CZ as bs blo bhi).mp h4).2.1
    rwa[h1,hb,h3,this]
noncomputable abbrev A9:=Nat×Nat×Nat
noncomputable def EJ (i:Nat) (b:A9) (j:Nat):A9:=if b.2.2<AY as bs alo blo i j then(i+1-AY as bs alo blo i j,j+1-AY as bs alo blo i j,AY as bs alo blo i j) else b
noncomputable def Hu (b:A9) (i:Nat):A9:=(Gq as bs blo bhi i).foldl (EJ as bs alo blo i) b
noncomputable def flm (ahi:Nat):A9:=((kd (ahi-alo)).map (alo+·)).foldl (Hu as bs alo blo bhi) (alo,blo,0)
structure Fz (S:Nat->Nat->Prop) (b:A9):Prop where
 max:∀i j,S i j->AY as bs alo blo i j<=b.2.2
 is:b=(alo,blo,0)\/∃i j,S i j/\0<AY as bs alo blo i j/\b=(i+1-AY as bs alo blo i j,j+1-AY as bs alo blo i j,AY as bs alo blo i j)
theorem Fz.step{S:Nat->Nat->Prop}{b:A9}(h:Fz as bs alo blo S b)(i j:Nat):Fz as bs alo blo (λi' j'=>S i' j'\/(i'=i/\j'=j)) (EJ as bs alo blo i b j):=by
 obtain⟨hm,hs⟩:=h
 unfold EJ
 split
 ·rename_i hlt
  refine⟨λi' j' z=>?_,.inr (FQ i j (.inr ⟨rfl,rfl⟩) (by rwa[hlt]) rfl)⟩
  rcases z with z|⟨rfl,rfl⟩
  ·exact pK (nq (hm _ _ z) hlt)
  ·exact jN _
 ·rename_i hlt
  refine⟨λi' j' z=>?_,hs.imp id λ⟨i',j',a,b,c⟩=>FQ i' j' (.inl a) b c⟩
  rcases z with z|⟨rfl,rfl⟩
  ·exact hm _ _ z
  ·exact og hlt
theorem Fz.congr{S S':Nat->Nat->Prop}{b:A9}(h:Fz as bs alo blo S b)(e:∀i j,S i j↔S' i j):Fz as bs alo blo S' b:=by
 obtain⟨hm,hs⟩:=h
 exact⟨λi j z=>hm i j ((e i j).mpr z),hs.imp id λ⟨i,j,a,b,c⟩=>FQ i j ((e i j).mp a) b c⟩
theorem Fz.steps{i:Nat}:∀{L:List Nat} {S:Nat->Nat->Prop} {b:A9},Fz as bs alo blo S b->Fz as bs alo blo (λi' j'=>S i' j'\/(i'=i/\j'∈L)) (L.foldl (EJ as bs alo blo i) b)
 | [],S,b,h=>h.congr as bs alo blo λi j=>by simp
 | x::L,S,b,h=>(Fz.steps (L:=L) (h.step as bs alo blo i x)).congr as bs alo blo λi' j'=>by
  rw[jG]
  constructor
  ·rintro((z|⟨z1,z2⟩)|⟨z1,z2⟩)
   ·exact .inl z
   ·exact .inr ⟨z1,.inl z2⟩
   ·exact .inr ⟨z1,.inr z2⟩
  ·rintro(z|⟨z1,z2|z2⟩)
   ·exact .inl (.inl z)
   ·exact .inl (.inr ⟨z1,z2⟩)
   ·exact .inr ⟨z1,z2⟩
theorem Fz.rounds:∀{I:List Nat} {S:Nat->Nat->Prop} {b:A9},Fz as bs alo blo S b->Fz as bs alo blo (λi' j'=>S i' j'\/(i'∈I/\j'∈Gq as bs blo bhi i')) (I.foldl (Hu as bs alo blo bhi) b)
 | [],S,b,h=>h.congr as bs alo blo λi j=>by simp
 | x::I,S,b,h=>(Fz.rounds (I:=I) (h.steps as bs alo blo (i:=x) (L:=Gq as bs blo bhi x))).congr as bs alo blo λi' j'=>by
  rw[jG]
  constructor
  ·rintro((z|⟨rfl,z2⟩)|⟨z1,z2⟩)
   ·exact .inl z
   ·exact .inr ⟨.inl rfl,z2⟩
   ·exact .inr ⟨.inr z1,z2⟩
  ·rintro(z|⟨rfl|z1,z2⟩)
   ·exact .inl (.inl z)
   ·exact .inl (.inr ⟨rfl,z2⟩)
   ·exact .inr ⟨z1,z2⟩
theorem Pk(ahi:Nat):Fz as bs alo blo (λi j=>alo<=i/\i<ahi/\j∈Gq as bs blo bhi i) (flm as bs alo blo bhi ahi):=by
 have h0:Fz as bs alo blo (λ_ _=>False) (alo,blo,0):=⟨λ_ _ z=>z.elim,.inl rfl⟩
 refine(h0.rounds as bs alo blo bhi (I:=(kd (ahi-alo)).map (alo+·))).congr as bs alo blo λi j=>?_
 rw[kn,false_or]
 constructor
 ·rintro⟨⟨k,hk,rfl⟩,z⟩
  have:=mr.mp hk
  exact⟨by rwa[],by rwa[this],z⟩
 ·rintro⟨h1,h2,z⟩
  exact⟨⟨i-alo,mr.mpr (by rwa[h1,h2]),by rwa[h1]⟩,z⟩
structure ZM (ahi:Nat) (t:A9):Prop where
 i0:alo<=t.1
 i1:t.1+t.2.2<=ahi
 j0:blo<=t.2.1
 j1:t.2.1+t.2.2<=bhi
 ahead:alo<t.1->blo<t.2.1->¬Dt as bs (t.1-1) (t.2.1-1)
 behind:t.1+t.2.2<ahi->t.2.1+t.2.2<bhi->¬Dt as bs (t.1+t.2.2) (t.2.1+t.2.2)
theorem F8{ahi:Nat}(hi:alo<=ahi)(hj:blo<=bhi):ZM as bs alo blo bhi ahi (flm as bs alo blo bhi ahi):=by
 obtain⟨hm,hs⟩:=Pk as bs alo blo bhi ahi
 have big:∀i j,alo<=i->i<ahi->blo<=j->j<bhi->Dt as bs i j->AY as bs alo blo i j<=(flm as bs alo blo bhi ahi).2.2:=λi j h1 h2 h3 h4 h5=>hm i j ⟨h1,h2,(CZ as bs blo bhi).mpr ⟨h5,h3,h4⟩⟩
 rcases hs with e|⟨i,j,⟨h1,h2,h3⟩,h4,e⟩
 ·rw[e] at big ⊢
  refine⟨jN _,hi,jN _,hj,λh=>absurd h (lp _),λh1 h2 h3=>?_⟩
  have:=big alo blo (jN _) (by simpa using h1) (jN _) (by simpa using h2) (by simpa using h3)
  rw[Dg,if_pos (by simpa using h3)] at this
  simp at this
 ·refine C1 ((CZ as bs blo bhi).mp h3) λh5 h6 h7=>?_
  obtain⟨l1,l2⟩:=Fl as bs alo blo h1 h6
  have st:=G9 as bs alo blo h1 h6
  have nx:Dt as bs (i+1) (j+1)->AY as bs alo blo (i+1) (j+1)=1+AY as bs alo blo i j:=λz=>by
   rw[Dg,if_pos z,if_pos ⟨wK h1,wK h6⟩];rfl
  rw[e] at big ⊢
  dsimp only at big
  have big:=big (i+1) (j+1)
  generalize AY as bs alo blo i j=k at *
  refine⟨Wd h1 l1,Wf l1 h2,Wd h6 l2,Wf l2 h7,λa b=>?_,λa b c=>?_⟩
  ·dsimp only at a b ⊢
   rw[wC,wC (j+1)]
   exact st (Wc a) (Wc b)
  ·dsimp only at a b c
   rw[oB (kL l1 (pY _ _))] at a c
   rw[oB (kL l2 (pY _ _))] at b c
   have:=big (pJ h1) a (pJ h6) b c
   rw[nx c,oZ] at this
   exact absurd this (Nat.not_succ_le_self k)
end
theorem J8{h:jY}:∀{vs:List jB} {ns:List Int},tw vs ns->Ae h vs (ns.map .int) []:=by
 intro vs ns r
 induction r with
 | nil=>exact .nil
 | cons i t x ih=>exact .cons (.int i t) ih
section
variable {Γ:Cx} {σ:AX}
theorem Vg(hw:Γ.prog=pw){y:jX}{e1 e2:kH}{yp ap cp:mf}{bs:List jX}{x:jX}{pl:vg Bool}(ib:Nat)(hσ:σ[ib]?=some (some (.val (.st (RJ Γ.w bs) (Cn Γ.w bs)))))(h1:Ev Γ σ e1 (.py (.str x)))(h2:Ev Γ σ e2 (.py (.list [])))
 (hi:autoParam (Γ.ns[ib]?=some y) aR)(hk:autoParam (Γ.env.scope.kind=.function) aR)(hd:autoParam ((y == ("__debug__":jX))=false) aK)(hp:autoParam ([e1,e2].all AE=true) aR)
 (he:autoParam (eval (.Call (.Attribute (.Name y yp) "get" ap) [e1,e2] [] cp) Γ.env=(do
  let ov<-eval (.Name y yp) Γ.env
  mQ ap.atName
  let (f,first)<-ml [ov] (nv ov "get" pl)
  kX cp f first (backTo cp (starEach [e1,e2] Γ.env)) [])) aR) :
 Ev Γ σ (.Call (.Attribute (.Name y yp) "get" ap) [e1,e2] [] cp) (.py (.list ((Oj bs bs.length x).map .int))):=by
 intro O s Q E t q
 refine mh (pl:=pl) (EX ib t (λv rv=>?_) hi hσ hk hd) he
 refine Af rv λpls zz1 hO=>?_;obtain⟨dj,ls,rfl,rfl,⟨⟨kvs,hm,hle,f0,f1,f2⟩⟩,lo,_⟩:=zz1
 rw[hw]
 refine mK hm.typeIs F.plainAttrs_dict uZ PySem.F.type_dict_get hm.mapOf.noDict ?_
 rw[<-hw]
 refine callWith_builtin (Bh hp) (AL hp (Ab h1 (Ab h2 Ah (by simpa using (ky.mp hp e2 (by simp)))) (by simpa using (ky.mp hp e1 (by simp))) O _ _ _ E t λvs s3 t3 k3 r3=>?_))
 refine BD r3.two λv u zz1 ra rb=>?_;obtain rfl:=zz1
 obtain⟨ta,rfl⟩:=ra.str_inv
 have hm3:s3.heap.DictOf (mO pw Γ.w) dj kvs:=hm.keep (Ax k3)
 rw[hw]
 refine call_meetsIn uZ hm3.typeIs uT (PySem.F.args_dict_get_3 _ _ _) (wq (mO pw Γ.w) dj (qZ pw Γ.w x ta) lo u) (Ac _ hm3.mapOf ?_)
 have kk:=Keeps.tr k3 (Keeps.rfl' (tk:=s3.toks+1))
 refine q _ _ (t.of_keeps kk) kk ?_
 by_cases hx:Oj bs bs.length x=[]
 ·rw[f0 x hx,hx]
  exact rb
 ·refine E8 (f1 x hx) λl vs e hl zz1 ia=>?_;obtain⟨n,pl⟩:=zz1
  rw[e]
  refine Ac [l] (.list (Ax k3 _ _ pl) rfl rfl (J8 ia)) λb hb=>?_
  rw[jH.mp hb]
  exact hO l (.tail _ hl)
theorem V4(N:Nm Γ){O:Ap}{s:jE}{i:Nat}{x:jX}{a:AV}(t:St Γ O σ s)(hi:Γ.ns[i]?=some x)(h:σ[i]?=some (some (.val a))):∃v,VR O s.heap a v/\St Γ O (σ.set i (some (.val (.raw v)))) s:=by
 delta Γ σ O s i x a at N t hi h
 obtain⟨kp,⟨m,n,vs⟩,cl,nd,lv,sb,fr,fs⟩:=t
 refine Af (vs i x _ hi h) λv hd r=>?_
 have hlt:i<σ.length:=(jK.mp h).1
 refine⟨v,r,kp,(Ac m n λj y b e e'=>?_),cl,nd,lv,sb,fr,fs⟩
 by_cases hj:j=i
 ·subst hj
  (replace e:=CQ hi e;subst e)
  rw[lN hlt] at e'
  cases e'
  exact Ac v hd rfl
 ·rw[lO (ll hj)] at e'
  exact vs j y b e e'
theorem Fo{O:Ap}{s:jE}{I D:jL}{m:jX->Option jB}{k:Nat}{x y:jX}{sp pos:mf}{v:jB}{Q:jB->jE->Prop}{E:jB->jE->Prop}(hw:Γ.prog=pw)(K:Bn Γ.w s.heap)(i:IN s.heap I D m k)(is:Nat)(t:St Γ O σ s)(hσ:σ[is]?=some (some (.val (.raw (.ref I)))))(hv:m x=some v)
 (q:Q v {s with toks:=s.toks+1})(hi:autoParam (Γ.ns[is]?=some y) aR)(hk:autoParam (Γ.env.scope.kind=.function) aR)(hd:autoParam ((y == ("__debug__":jX))=false) aK)(hh:autoParam (handedIn v=true) aR)(ha:autoParam (vv (KK Γ.w.params) (.ref CS) x=some none) aK)
 (he:autoParam (eval ((ku y sp).Attribute x pos) Γ.env=(do
  let o<-eval (ku y sp) Γ.env
  mQ pos.atName
  let r<-ml [o] (pU o x true)
  letTemporaryGo (ku y sp) o r
  pure r)) aR):wpAny (model Γ.prog Γ.w) Γ.A (eval (.Attribute (.Name y sp) x pos) Γ.env) Q E s:=by
 refine sF (Bw is t ?_ hi hσ hk hd) he
 rw[hw]
 exact Rh K i hv q hh ha
end
section
variable {Γ:Cx} {σ:AX} {P:AF->AX->Prop} {pos:mf}
theorem Ql(hP:P .cont σ):X1 Γ σ (.Continue pos) P:=
 λO s Q E t q=>wpAny_Continue (q O _ .cont σ s (Fx.re Γ O s) t rfl hP)
theorem Ux(N:Nm Γ)(id iy:Nat){x y:jX}{xp yp:mf}{a:jL}{R:nH->Prop}(hσ:σ[id]?=some (some (.at a R)))(hP:P .next ((σ.set id none).set iy (some (.at a R))))
 (hi:autoParam (Γ.ns[id]?=some x) aR)(hkf:autoParam (Γ.env.scope.kind=.function) aR)(hd:autoParam ((x == ("__debug__":jX))=false) aK)(hi2:autoParam (Γ.ns[iy]?=some y) aR)(hlt:autoParam (iy<σ.length) aN)(hk:autoParam (Γ.env.kindOf y=some .local) aR)
 (hs:autoParam (qV (.Name x xp) (some (.Name y yp)) pos.line Γ.env=pure false) aR):X1 Γ σ (.Assign [.Name y yp] (.Name x xp) pos) P:=by
 intro O s Q E t q
 refine l6 (Hc id t ?_ hi hσ hkf hd) hs
 refine H0 (RG t hi hσ) λo ho hR hz hc=>?_
 refine C1 (XA t hi hσ) λ_ h0 haL=>?_
 obtain⟨t1,f1⟩:=QV N y t hi hσ
 refine AG N (i:=iy) (b:=.at a R) hi2 (by rw[nJ];exact hlt) hk t1 ⟨rfl,.head _,(H5 o ho hR hz hc),h0,haL⟩ λs2 a2 u2 t2=>?_
 exact q _ .next .next _ s2 (f1.tr (Fx.ofBut t1 a2 u2 t2)) t2 rfl hP
end
noncomputable def RL (Γ:Cx):List Nat->List jX->Prop
 | [],[]=>True
 | i::is,x::xs=>Γ.ns[i]?=some x/\Γ.env.kindOf x=some .local/\RL Γ is xs
 | _,_=>False
theorem PH{Γ:Cx}(N:Nm Γ)(Q:Unit->jE->Prop)(E:jB->jE->Prop):∀(is:List Nat) (xs:List jX) (ds:List jO),RL Γ is xs->∀(σ:AX) (O:Ap) (s:jE) (vs:List jB) (as:List jL),(∀i∈is,i<σ.length)->is.length=ds.length->
 St Γ O σ s->Ae s.heap vs ds as->(∀b∈as,¬O.has b)->(∀s',AI s s'->(∀b o,b≠Γ.env.locals->s.heap.get? b=some o->s'.heap.get? b=some o)->St Γ O (F2 σ is ds) s'->Q () s')->wpAny (model Γ.prog Γ.w) Γ.A (vY (xs.map λn=>bindName Γ.env n) vs) Q E s:=by
 intro is
 delta Γ Q E at N is
 induction is with
 | nil=>
  intro xs ds hn σ O s vs as hlt hl t r qa q
  cases xs with
  | cons=>exact hn.elim
  | nil=>
   cases ds with
   | cons=>cases hl
   | nil=>
    obtain rfl:=Bg r
    exact jJ (q s (AI.re s) (λ_ _ _ e=>e) t)
 | cons i is ih=>
  intro xs ds hn σ O s vs as hlt hl t r qa q
  cases xs with
  | nil=>exact hn.elim
  | cons x xs=>
   refine C1 hn λhi hk h=>?_
   cases ds with
   | nil=>cases hl
   | cons d ds=>
    refine Cz (AK r) λv ws bs cs zz1 r1 rs zz2=>?_;obtain rfl:=zz1;obtain rfl:=zz2
    rw[kM]
    refine rB (bindName_ (AG N (b:=.val (.py d)) hi (hlt i (.head _)) hk t (Ac _ r1 λb hb=>qa b (lM _ hb)) λs1 a1 u1 t1=>?_))
    have f1:=Fx.ofBut t a1 u1 t1
    exact ih xs ds h _ O s1 ws cs (λj hj=>by rw[nJ];exact hlt j (.tail _ hj)) (qW hl) t1 (DP t N.names f1 rs λb hb=>qa b (kO _ hb)) (λb hb=>qa b (kO _ hb)) λs2 a2 u2 t2=>q s2 (a1.tr a2) (λb o hb e=>u2 b o hb (u1 b o hb e)) t2
theorem Hb{h:jY}{vs:List jB}{ds:List jO}{as:List jL}(r:Ae h vs ds as):∃bs,Ae h vs.reverse ds.reverse bs/\∀b∈bs,b∈as:=by
 refine Ae.ind (P:=λvs ds as=>∃bs,Ae h vs.reverse ds.reverse bs/\∀b∈bs,b∈as) (Ac [] .nil λ_ h=>h) (λ{v vs d ds as cs} r _ ih=>?_) r
 refine Af ih λbs r1 q1=>?_
 refine Ac (bs++(as++[])) ?_ λb hb=>?_
 ·rw[wE,wE]
  exact EE r1 (.cons r .nil)
 ·rw[kF] at hb
  exact(jU.mp hb).elim (λhb=>kO _ (q1 b hb)) λhb=>lM _ hb
theorem DB{Γ:Cx}{σ:AX}{P:AF->AX->Prop}{pos:mf}(N:Nm Γ)(hh:Γ.A.handled=none){es:List kH}{k:Nat}{p:mf}{e:kH}{ds:List jO}(is:List Nat)(names:List jX)(h:Ev Γ σ e (.py (.tuple ds)))(hn:RL Γ is.reverse names.reverse)(hP:P .next (F2 σ is.reverse ds.reverse))
 (hlt':autoParam ((is.all λi=>mw i σ.length)=true) aR)(hl:autoParam (is.length=ds.length) aR)(hl2:autoParam (names.length=ds.length) aR)
 (hs:autoParam (tK [oq es k p] e pos.line Γ.env=pure false) aR)(hw:autoParam (nt [oq es k p] e Γ.env=pure (some names)) aR):X1 Γ σ (.Assign [.Tuple es k p] e pos) P:=by
 intro O s Q E t q
 have hlt:∀i∈is.reverse,i<σ.length:=λi hi=>jT (ky.mp hlt' i (wO.mp hi))
 refine Assign_Tuple_swapped (h O s _ E t λv s1 t1 k1 r1=>?_) hs hw
 refine Cf r1.tuple_inv λa vs as zz1 ht rs qs=>?_;obtain rfl:=zz1
 have hsz:vs.size=ds.length:=by rw[<-Al rs];simp
 rw[hl2,<-hsz]
 refine unpackItems_tuple hh ht λh' he=>?_
 have kk:kY s1 {s1 with heap:=h'}:=AT h' s1.toks rfl λb o e=>he b o (lw (kq e)) e
 refine Af (Hb (Ae.keeps (Ax kk) rs)) λbs r2 q2=>?_
 exact PH N _ _ is.reverse names.reverse ds.reverse hn _ _ _ _ _ hlt (by rw[sH,sH,hl]) (t1.of_keeps kk) r2 (λb hb=>qs b (q2 b hb)) λs2 a2 u2 t2=>q _ .next .next _ s2 (((Fx.of_keeps k1).tr (Fx.of_keeps kk)).tr (Fx.ofBut (t1.of_keeps kk) a2 u2 t2)) t2 rfl hP
noncomputable def HR:List jX:=["self","alo","ahi","blo","bhi","a","b","b2j","isbjunk","besti","bestj","bestsize","j2len","nothing","i","j2lenget","newj2len","j","k"]
theorem d4(P:jC):Bf (Bq (BQ P)) (Am (BB 5 6)) ["self","alo","ahi","blo","bhi"] HR:=.of' rfl rfl rfl (by decide +kernel)
theorem gK{α:Type}{vs:List α}(h:vs.length=5):∃v u x y z,vs=[v,u,x,y,z]:=
 Ao (Pe h) λv ws e h=>Eb (Yw h) λu x y z e3=>eS v u x y z (e.trans (congrArg _ e3))
noncomputable abbrev pI (i:Int):Option Bd:=some (.val (.py (.int i)))
noncomputable abbrev TK (as:List jX):Option Bd:=some (.val (.py (.list (as.map .str))))
noncomputable abbrev Hf (w:jW) (as bs:List jX) (I g:jB) (alo ahi blo bhi:Nat) (b:A9) (j2 i jg nj j k:Option Bd):AX:=
 [some (.val (.raw I)),pI alo,pI ahi,pI blo,pI bhi,TK as,TK bs,some (.val (.st (RJ w bs) (Cn w bs))),some (.val (.raw g)),pI b.1,pI b.2.1,pI b.2.2,j2,some (.val (.py (.list []))),i,jg,nj,j,k]
noncomputable def OF (bs:List jX) (x:jX):List Nat:=(kd bs.length).filter λk=>decide (bs[k]?=some x)
theorem YJ(bs:List jX)(x:jX):(Oj bs bs.length x).map lX=(OF bs x).map λj=>lX (j:Nat):=by
 unfold Oj OF
 rw[ms];rfl
noncomputable def Kv (blo bhi:Nat) (k:Nat):Bool:=decide (blo<=k/\k<bhi)
theorem VK{as bs:List jX}{i blo bhi:Nat}{x:jX}(h:as[i]?=some x):Gq as bs blo bhi i=(OF bs x).filter (Kv blo bhi):=by
 unfold Gq OF Kv
 rw[List.filter_filter]
 refine List.filter_congr λk _=>?_
 have:Dt as bs i k↔bs[k]?=some x:=by
  constructor
  ·intro zz1;refine Af zz1 λy h1 h2=>?_
   (replace h1:=CQ h h1;subst h1);exact h2
  ·exact λe=>Ac x h e
 rw[<-Bool.decide_and,decide_eq_decide,this]
 exact⟨λEM=>Cg EM λa b=>⟨b,a⟩,λEM=>Cg EM λa b=>⟨b,a⟩⟩
theorem IQ(bs:List jX)(x:jX):(OF bs x).Pairwise (· < ·):=uf _ pF
theorem Yj{bs:List jX}{x:jX}{j:Nat}(h:j∈OF bs x):bs[j]?=some x:=of_decide_eq_true (j9.mp h).2
theorem V2{l:List Nat}{m j blo bhi:Nat}(hs:l.Pairwise (· < ·))(hj:l[m]?=some j)(hb:bhi<=j):(l.take m).filter (Kv blo bhi)=l.filter (Kv blo bhi):=by
 delta l m j blo bhi at hs hj hb
 have e:l=l.take m++l.drop m:=(pN m l).symm
 conv=>rhs;rw[e,sQ]
 have:(l.drop m).filter (Kv blo bhi)=[]:=by
  rw[List.filter_eq_nil_iff]
  intro k hk
  obtain⟨n,hn⟩:=List.mem_iff_getElem?.mp hk
  rw[qL] at hn
  have:j<=k:=by
   cases n with
   | zero=>rw[tE,hj] at hn;(replace hn:=si hn;subst hn);exact jN _
   | succ n=>
    obtain⟨h1,e1⟩:=jK.mp hj
    obtain⟨h2,e2⟩:=jK.mp hn
    have:=nB.mp hs m (m+(n+1)) h1 h2 (by rwa[])
    rw[e1,e2] at this
    exact pK this
  unfold Kv
  rw[decide_eq_true_eq]
  rwa[hb,this]
 rw[this,kF]
theorem UF{l:List Nat}{m j:Nat}(hj:l[m]?=some j)(p:Nat->Bool):(l.take (m+1)).filter p=(l.take m).filter p++(if p j then [j] else []):=by
 rw[kN,hj,sQ]
 congr 1
 simp only[om,List.filter_cons,List.filter_nil]
section
variable {Γ:Cx} {σ:AX}
theorem Dl{l r:kH}{pos:mf}{as:List jX}{n:Nat}(hl:Ev Γ σ l (.py (.list (as.map .str))))(hr:Ev Γ σ r (.py (.int n)))(hn:n<as.length)(hs:as.length<=100)
 (hsub:autoParam (∀o x,subscripted r false o x=th [o,x] (getItem o x)) aI):Ev Γ σ (.Subscript l r pos) (.py (.str ((as[n]?).getD mH))):=by
 refine Ay (d:=.str ((as[n]?).getD mH)) hl hr (by rwa[]) (by rwa[hn,hs]) ?_ hsub
 rw[kr,j8,jP hn]
 rfl
end
theorem WV{w:jW}{A:kA}{s s2:jE}{O:Ap}{as bs:List jX}{I:jB}{g sj:jL}{led:Bool}{mg mb:jX->Option jB}{xG:jY}(K:Bn w xG)(T:Br mg mb xG)(hgM:mg "Match"=some (.ref CM))
 (hk:HK xG (Cx.from (Dx pw w A s (Bq (BQ w.params)) 196 HR O) s2).s₀)(N:Nm (Cx.from (Dx pw w A s (Bq (BQ w.params)) 196 HR O) s2))(room:A0 (A.deeper (callEnvC (Bq (BQ w.params)) s.heap.objs.size 196)) 2)
 (hg:(Cx.from (Dx pw w A s (Bq (BQ w.params)) 196 HR O) s2).s₀.heap.get? g=some (A8 "set.__contains__" sj))(hs:(Cx.from (Dx pw w A s (Bq (BQ w.params)) 196 HR O) s2).s₀.heap.get? sj=some (Cc led))
 (alo ahi blo bhi:Nat)(hA:ahi<=as.length)(hB:bhi<=bs.length)(lA:as.length<=100)(lB:bs.length<=100)(b:A9)(fo:ZM as bs alo blo bhi ahi b)(j2 i jg nj j k:Option Bd) :
 Ex (Cx.from (Dx pw w A s (Bq (BQ w.params)) 196 HR O) s2) (Hf w as bs I (.ref g) alo ahi blo bhi b j2 i jg nj j k) ((Am (BB 5 6)).drop 8) (λaf _=>af=.ret (.py (Qi b.1 b.2.1 b.2.2))):=by
 delta w A s s2 O as bs I g sj led mg mb xG alo ahi blo bhi b j2 i jg nj j k at K T hgM hk N room hg hs hA hB lA lB fo
 obtain⟨i0,i1,j0,j1,ha,hb⟩:=fo
 have eqs:∀{p q:Nat},p<as.length->q<bs.length->(((as[p]?).getD mH=(bs[q]?).getD mH)↔Dt as bs p q):=λ{p q} h1 h2=>by
  rw[jP h1,jP h2]
  constructor
  ·intro e;exact⟨_,jP h1,by rw[jP h2];exact congrArg some e.symm⟩
  ·intro zz1;refine Af zz1 λx e1 e2=>?_
   rw[jP h1] at e1
   rw[jP h2] at e2
   (replace e1:=si e1;subst e1);exact(kR e2).symm
 refine Ad (Ef (n:=0) (λn σ=>n=0/\σ=Hf w as bs I (.ref g) alo ahi blo bhi b j2 i jg nj j k) ⟨rfl,rfl⟩ λn σ1 hσ=>?_)
 obtain⟨rfl,rfl⟩:=hσ
 refine Ba false (Tv.cast (By (AP (c:=decide ((b.1:Int)>alo)) (An (Aa 9) (Aa 1)) λh1=>AP (c:=decide ((b.2.1:Int)>blo)) (An (Aa 10) (Aa 3)) λh2=>
  AP (c:=true) (VN (c:=false) (Fi (DU rfl hg hs (Aa 8) (Dl (n:=b.2.1-1) (Aa 6) (Ev.cast (Dd (Aa 10) Ai) ?_) ?_ lB)))) λ_=>
  AP (c:=decide ((as[b.1-1]?).getD mH=(bs[b.2.1-1]?).getD mH)) (IC (Dl (n:=b.1-1) (Aa 5) (Ev.cast (Dd (Aa 9) Ai) ?_) ?_ lA) (Dl (n:=b.2.1-1) (Aa 6) (Ev.cast (Dd (Aa 10) Ai) ?_) ?_ lB)) λ_=>BC)) ?_) (λh=>(nomatch h)) λ_=>Aj ?_
 ·have h1:=of_decide_eq_true h1;have h2:=of_decide_eq_true h2
  refine congrArg (λz=>AV.py (.int z)) ?_;rwa[h2]
 ·have h1:=of_decide_eq_true h1;have h2:=of_decide_eq_true h2;rwa[hB,j1,h2]
 ·have h1:=of_decide_eq_true h1;have h2:=of_decide_eq_true h2
  refine congrArg (λz=>AV.py (.int z)) ?_;rwa[h1]
 ·have h1:=of_decide_eq_true h1;have h2:=of_decide_eq_true h2;rwa[hA,i1,h1]
 ·have h1:=of_decide_eq_true h1;have h2:=of_decide_eq_true h2
  refine congrArg (λz=>AV.py (.int z)) ?_;rwa[h2]
 ·have h1:=of_decide_eq_true h1;have h2:=of_decide_eq_true h2;rwa[hB,j1,h2]
 ·rw[pG]
  intro h
  simp only[kJ,decide_eq_true_eq,oE,sL] at h
  obtain⟨h1,h2,h3⟩:=h
  exact ha (by rwa[i0,h1]) (by rwa[j0,h2]) ((eqs (by rwa[hA,i0,i1,h1]) (by rwa[hB,j0,j1,h2])).mp h3)
 refine Ad (Ef (n:=0) (λn σ=>n=0/\σ=Hf w as bs I (.ref g) alo ahi blo bhi b j2 i jg nj j k) ⟨rfl,rfl⟩ λn σ1 hσ=>?_)
 obtain⟨rfl,rfl⟩:=hσ
 refine Ba false (Tv.cast (By (AP (c:=decide (((b.1:Int)+(b.2.2:Int))<ahi)) (An (Bl (Aa 9) (Aa 11)) (Aa 2)) λh1=>AP (c:=decide (((b.2.1:Int)+(b.2.2:Int))<bhi)) (An (Bl (Aa 10) (Aa 11)) (Aa 4)) λh2=>
  AP (c:=true) (VN (c:=false) (Fi (DU rfl hg hs (Aa 8) (Dl (n:=b.2.1+b.2.2) (Aa 6) (Ev.cast (Bl (Aa 10) (Aa 11)) ?_) ?_ lB)))) λ_=>
  AP (c:=decide ((as[b.1+b.2.2]?).getD mH=(bs[b.2.1+b.2.2]?).getD mH)) (IC (Dl (n:=b.1+b.2.2) (Aa 5) (Ev.cast (Bl (Aa 9) (Aa 11)) ?_) ?_ lA) (Dl (n:=b.2.1+b.2.2) (Aa 6) (Ev.cast (Bl (Aa 10) (Aa 11)) ?_) ?_ lB)) λ_=>BC)) ?_) (λh=>(nomatch h)) λ_=>Aj ?_
 ·refine congrArg (λz=>AV.py (.int z)) ?_;push_cast;rfl
 ·have h1:=of_decide_eq_true h1;have h2:=of_decide_eq_true h2;rwa[hB,h2]
 ·refine congrArg (λz=>AV.py (.int z)) ?_;push_cast;rfl
 ·have h1:=of_decide_eq_true h1;have h2:=of_decide_eq_true h2;rwa[hA,h1]
 ·refine congrArg (λz=>AV.py (.int z)) ?_;push_cast;rfl
 ·have h1:=of_decide_eq_true h1;have h2:=of_decide_eq_true h2;rwa[hB,h2]
 ·rw[pG]
  intro h
  simp only[kJ,decide_eq_true_eq,oE,sL] at h
  obtain⟨h1,h2,h3⟩:=h
  exact hb (by rwa[i1,h1]) (by rwa[j1,h2]) ((eqs (by rwa[hA,h1]) (by rwa[hB,h2])).mp h3)
 refine Ad (Ef (n:=0) (λn σ=>n=0/\σ=Hf w as bs I (.ref g) alo ahi blo bhi b j2 i jg nj j k) ⟨rfl,rfl⟩ λn σ1 hσ=>?_)
 obtain⟨rfl,rfl⟩:=hσ
 refine Ba false (Tv.cast (By (AP (c:=decide ((b.1:Int)>alo)) (An (Aa 9) (Aa 1)) λh1=>AP (c:=decide ((b.2.1:Int)>blo)) (An (Aa 10) (Aa 3)) λh2=>
  AP (c:=false) (d:=false) (Fi (DU rfl hg hs (Aa 8) (Dl (n:=b.2.1-1) (Aa 6) (Ev.cast (Dd (Aa 10) Ai) ?_) ?_ lB))) λh=>(nomatch h))) ?_) (λh=>(nomatch h)) λ_=>Aj ?_
 ·have h1:=of_decide_eq_true h1;have h2:=of_decide_eq_true h2
  refine congrArg (λz=>AV.py (.int z)) ?_;rwa[h2]
 ·have h1:=of_decide_eq_true h1;have h2:=of_decide_eq_true h2;rwa[hB,j1,h2]
 ·simp
 refine Ad (Ef (n:=0) (λn σ=>n=0/\σ=Hf w as bs I (.ref g) alo ahi blo bhi b j2 i jg nj j k) ⟨rfl,rfl⟩ λn σ1 hσ=>?_)
 obtain⟨rfl,rfl⟩:=hσ
 refine Ba false (Tv.cast (By (AP (c:=decide (((b.1:Int)+(b.2.2:Int))<ahi)) (An (Bl (Aa 9) (Aa 11)) (Aa 2)) λh1=>AP (c:=decide (((b.2.1:Int)+(b.2.2:Int))<bhi)) (An (Bl (Aa 10) (Aa 11)) (Aa 4)) λh2=>
  AP (c:=false) (d:=false) (Fi (DU rfl hg hs (Aa 8) (Dl (n:=b.2.1+b.2.2) (Aa 6) (Ev.cast (Bl (Aa 10) (Aa 11)) ?_) ?_ lB))) λh=>(nomatch h))) ?_) (λh=>(nomatch h)) λ_=>Aj ?_
 ·refine congrArg (λz=>AV.py (.int z)) ?_;push_cast;rfl
 ·have h1:=of_decide_eq_true h1;have h2:=of_decide_eq_true h2;rwa[hB,h2]
 ·simp
 exact Ad (AQ (Xd rfl K T room hk (BU T hk hgM) (Aa 9) (Aa 10) (Aa 11)) rfl)
noncomputable abbrev fG (w:jW) (A:kA) (s s2:jE) (O:Ap):Cx:=Cx.from (Dx pw w A s (Bq (BQ w.params)) 196 HR O) s2
noncomputable def WR:l9->List l9
 | .For _ _ b _ _=>b
 | _=>[]
theorem Yk(bs:List jX)(x:jX):(OF bs x).length<=bs.length:=by
 have:=vH (λk=>decide (bs[k]?=some x)) (kd bs.length)
 rw[lG] at this
 exact this
theorem U9{w:jW}{A:kA}{s s2 s3:jE}{O:Ap}{as bs:List jX}{I:jB}{g:jL}{mg mb:jX->Option jB}{xG:jY}(K:Bn w xG)(T:Br mg mb xG)
 (hk:HK xG (Cx.from (fG w A s s2 O) s3).s₀)(N:Nm (Cx.from (fG w A s s2 O) s3))(room:A0 (A.deeper (callEnvC (Bq (BQ w.params)) s.heap.objs.size 196)) 2)
 (alo ahi blo bhi t:Nat)(hA:ahi<=as.length)(hB:bhi<=bs.length)(lA:as.length<=100)(lB:bs.length<=100)(ht:alo+t<ahi)(b:A9)(d jg:jL)(n:Nat)
 (lo:(d == sysModules)=false)(hjg:(Cx.from (fG w A s s2 O) s3).s₀.heap.get? jg=some (A8 "dict.get" d))(hd:∃o,(Cx.from (fG w A s s2 O) s3).s₀.heap.get? d=some o/\DI w (HU as bs alo blo bhi t) n o)
 (y z nj:Option Bd)(hy:Bb y=true)(hz:Bb z=true)(P:AF->AX->Prop)
 (hP:∀d2 n y z,n<=100->Bb y=true->Bb z=true->P .next (Hf w as bs I (.ref g) alo ahi blo bhi (Hu as bs alo blo bhi b (alo+t)) (some (.at d2 (DI w (HU as bs alo blo bhi (t+1)) n))) (pI (alo+t:Nat)) (some (.val (.raw (.ref jg)))) none y z)) :
 Ex (Cx.from (fG w A s s2 O) s3) (Hf w as bs I (.ref g) alo ahi blo bhi b (some (.val (.raw (.ref d)))) (pI (alo+t:Nat)) (some (.val (.raw (.ref jg)))) nj y z)
  ((WR (((Am (BB 5 6)).drop 7).headD (.Pass ⟨0,0,0,0⟩))).drop 1) P:=by
 delta w A s s2 s3 O as bs I g mg mb xG alo ahi blo bhi t b d jg n y z nj P at K T hk N room hA hB lA lB ht lo hjg hd hy hz hP
 have hh:(Cx.from (fG w A s s2 O) s3).A.handled=none:=room.handled
 have hit:alo+t<as.length:=by rwa[hA,ht]
 have hx:as[alo+t]?=some (as[alo+t]):=jP hit
 generalize hxe:as[alo+t]=x at hx
 have hwin:Gq as bs blo bhi (alo+t)=(OF bs x).filter (Kv blo bhi):=VK hx
 have hpl:=Yk bs x
 refine Ad (Ki N 16 λd2=>?_)
 have OI:∀n y z,n<=100->Bb y=true->Bb z=true->Ex (Cx.from (fG w A s s2 O) s3) (Hf w as bs I (.ref g) alo ahi blo bhi (((OF bs x).filter (Kv blo bhi)).foldl (EJ as bs alo blo (alo+t)) b) (some (.val (.raw (.ref d)))) (pI (alo+t:Nat)) (some (.val (.raw (.ref jg)))) (some (.at d2 (DI w (Fw as bs alo blo (alo+t) ((OF bs x).filter (Kv blo bhi))) n))) y z)
  ((WR (((Am (BB 5 6)).drop 7).headD (.Pass ⟨0,0,0,0⟩))).drop 3) P:=λn y z hn hy hz=>by
  refine Ad (Ux N 16 12 rfl (Aj ?_))
  have:=hP d2 n y z hn hy hz
  unfold Hu at this
  rw[show HU as bs alo blo bhi (t+1)=Fw as bs alo blo (alo+t) (Gq as bs blo bhi (alo+t)) from rfl,hwin] at this
  exact this
 refine Ad (EO N (ds:=(OF bs x).map λj=>lX (j:Nat)) (C3 N hh (Ev.cast (Vg rfl 7 rfl (Ay (d:=.str x) (Aa 5) (Aa 14) (by rwa[]) (by(clear_value *;omega)) (by rw[kr,j8,hx];rfl)) (Aa 13)) (by rw[YJ])))
  (λm σ=>∃n y z,n<=m/\Bb y=true/\Bb z=true/\σ=Hf w as bs I (.ref g) alo ahi blo bhi ((((OF bs x).take m).filter (Kv blo bhi)).foldl (EJ as bs alo blo (alo+t)) b) (some (.val (.raw (.ref d)))) (pI (alo+t:Nat)) (some (.val (.raw (.ref jg)))) (some (.at d2 (DI w (Fw as bs alo blo (alo+t) (((OF bs x).take m).filter (Kv blo bhi))) n))) y z) ?_ ?_ ?_)
 ·refine FP 0 y z (jN _) hy hz ?_
  have:Fw as bs alo blo (alo+t) []=λ_=>none:=by funext k;unfold Fw;rw[if_neg];rintro⟨_,h⟩;cases h
  rw[show(((OF bs x).take 0).filter (Kv blo bhi))=[] from rfl,this]
  rfl
 ·intro m dd σ1 hdd zz1;refine Cf zz1 λn' y z hn' hy hz zz2=>?_;clear zz1;obtain rfl:=zz2
  rw[j8] at hdd
  refine Af (j6.mp hdd) λj hj zz1=>?_;obtain rfl:=zz1
  have hjm:=Yj (kt hj)
  have hml:m<(OF bs x).length:=(jK.mp hj).1
  have hjl:j<bs.length:=(jK.mp hjm).1
  have he:Dt as bs (alo+t) j:=Ac x hx hjm
  have tn:=UF hj (Kv blo bhi)
  generalize hL:((OF bs x).take m).filter (Kv blo bhi)=L at *
  generalize hB0:L.foldl (EJ as bs alo blo (alo+t)) b=B at *
  refine Ac _ (BH N 17) ?_
  refine Ad (BI (b:=decide ((j:Int)<blo)) (An (Aa 17) (Aa 3)) (λh=>Ad (Ql ?_)) (λh=>Aj ?_))
  ·have h:=of_decide_eq_true h
   rw[show Kv blo bhi j=false by unfold Kv;rw[decide_eq_false_iff_not];rwa[h]] at tn
   refine FP n' (some (.val (.py (.int j)))) z (by rwa[hn']) rfl hz ?_
   rw[tn,if_neg lg,kF,hB0]
   rfl
  have h1:=of_decide_eq_false h
  refine Ad (BI (b:=decide ((j:Int)>=bhi)) (An (Aa 17) (Aa 4)) (λh=>Ad (L4 ?_)) (λh=>Aj ?_))
  ·have h:=of_decide_eq_true h
   have tc:=V2 (blo:=blo) (bhi:=bhi) (IQ bs x) hj (by rwa[h])
   rw[hL] at tc
   have:=OI n' (some (.val (.py (.int j)))) z (by rwa[lB,hpl,hn',hml]) rfl hz
   rw[<-tc,hB0] at this
   exact this
  have h2:=of_decide_eq_false h
  have hin:Kv blo bhi j=true:=by unfold Kv;rw[decide_eq_true_eq];rwa[h1,h2]
  rw[hin,if_pos rfl] at tn
  have hjL:j∉L:=by
   intro hm
   rw[<-hL] at hm
   have hm:=(j9.mp hm).1
   obtain⟨q,hq1,hq2⟩:=vR.mp hm
   rw[List.getElem_take] at hq2
   rw[lm] at hq1
   obtain⟨h3,e3⟩:=jK.mp hj
   have:=nB.mp (IQ bs x) q m (by(clear_value *;omega)) h3 (by(clear_value *;omega))
   rw[hq2,e3] at this
   exact absurd this (lp _)
  refine Ad (Qk rfl N 18 16 (r:=(AY as bs alo blo (alo+t) j:Nat)) (j:=(j:Int)) (f:=Fw as bs alo blo (alo+t) L) (n:=n') (d:=d2) rfl (by rwa[lB,hpl,hn',hml]) (by unfold Fw;rw[if_neg];rintro⟨_,h⟩;rw[kr] at h;exact hjL h)
   (Ev.cast (Bl (Pt rfl hjg hd lo (Aa 15) (Dd (Aa 17) Ai) Ai) Ai) (by rw[UZ as bs alo blo bhi he (by rwa[h1]) (by rwa[h2])])) (Aa 17) ?_)
  rw[<-UN]
  have done:∀B',B'=EJ as bs alo blo (alo+t) B j->∃n y z,n<=m+1/\Bb y=true/\Bb z=true/\Hf w as bs I (.ref g) alo ahi blo bhi B' (some (.val (.raw (.ref d)))) (pI (alo+t:Nat)) (some (.val (.raw (.ref jg)))) (some (.at d2 (DI w (Fw as bs alo blo (alo+t) (L++[j])) (n'+1)))) (pI (j:Nat)) (pI (AY as bs alo blo (alo+t) j:Nat)) =
   Hf w as bs I (.ref g) alo ahi blo bhi ((((OF bs x).take (m+1)).filter (Kv blo bhi)).foldl (EJ as bs alo blo (alo+t)) b) (some (.val (.raw (.ref d)))) (pI (alo+t:Nat)) (some (.val (.raw (.ref jg)))) (some (.at d2 (DI w (Fw as bs alo blo (alo+t) (((OF bs x).take (m+1)).filter (Kv blo bhi))) n))) y z:=λB' e=>by
   refine FP (n'+1) (pI (j:Nat)) (pI (AY as bs alo blo (alo+t) j:Nat)) (by rwa[hn']) rfl rfl ?_
   rw[tn,mq,hB0,e]
   rfl
  obtain⟨lA1,lB1⟩:=Fl as bs alo blo (i:=alo+t) (j:=j) (by rwa[]) (by rwa[h1])
  refine Ad (BI (b:=decide (((AY as bs alo blo (alo+t) j:Nat):Int)>(B.2.2:Nat))) (An (Aa 18) (Aa 11)) (λh=>?_) (λh=>Aj (Aj ?_)))
  ·have h:=of_decide_eq_true h
   refine Ad (DB N hh [9,10,11] ["besti","bestj","bestsize"] (Au (ds:=[.int ((alo+t+1-AY as bs alo blo (alo+t) j:Nat):Int),.int ((j+1-AY as bs alo blo (alo+t) j:Nat):Int),.int (AY as bs alo blo (alo+t) j:Nat)]) (Ab (Ev.cast (Bl (Dd (Aa 14) (Aa 18)) Ai) (congrArg (λz=>AV.py (.int z)) (by rwa[h1,lA1]))) (Ab (Ev.cast (Bl (Dd (Aa 17) (Aa 18)) Ai) (congrArg (λz=>AV.py (.int z)) (by rwa[h1,lB1]))) (Ab (Aa 18) Ah)))) ⟨rfl,rfl,rfl,rfl,rfl,rfl,trivial⟩ (Aj (Aj ?_)))
   exact done (alo+t+1-AY as bs alo blo (alo+t) j,j+1-AY as bs alo blo (alo+t) j,AY as bs alo blo (alo+t) j) (by unfold EJ;rw[if_pos (by rwa[h])])
  ·have h:=of_decide_eq_false h
   exact done B (by unfold EJ;rw[if_neg (by rwa[h])])
 ·intro σ1 zz1;refine Cf zz1 λn' y z hn' hy hz zz2=>?_;clear zz1;obtain rfl:=zz2
  rw[jI] at hn' ⊢
  rw[lz]
  exact Aj (OI n' y z (by rwa[lB,hpl,hn']) hy hz)
theorem V3{w:jW}{xG h:jY}(K:Bn w xG)(hk:∀b o,xG.get? b=some o->h.get? b=some o){d:jL}(hd:h.get? d=none):(d == sysModules)=false:=by
 rw[beq_eq_false_iff_ne]
 rintro rfl
 have:=hk _ _ (K.get 1 (o:=pe w.params) (by kernel_rfl):xG.get? sysModules=_)
 have hd:h.get? 1=none:=hd
 exact B0 hd this
theorem YN{w:jW}{as bs:List jX}{I g:jB}{alo ahi blo bhi:Nat}{b:A9}{j2 i jg nj j k:Option Bd}(h1:Bb j2=true)(h2:Bb i=true)(h3:Bb jg=true)(h4:Bb nj=true)(h5:Bb j=true)(h6:Bb k=true):(Hf w as bs I g alo ahi blo bhi b j2 i jg nj j k).all Bb=true:=by
 show(true&&(true&&(true&&(true&&(true&&(true&&(true&&(true&&(true&&(true&&(true&&(true&&(Bb j2&&(true&&(Bb i&&(Bb jg&&(Bb nj&&(Bb j&&(Bb k&&true)))))))))))))))))))=true
 rw[h1,h2,h3,h4,h5,h6];rfl
theorem WT{w:jW}{A:kA}{s s2:jE}{O:Ap}{as bs:List jX}{I:jB}{g sj:jL}{led:Bool}{mg mb:jX->Option jB}{xG:jY}(K:Bn w xG)(T:Br mg mb xG)(hgM:mg "Match"=some (.ref CM))
 (hk:HK xG (fG w A s s2 O).s₀)(N:Nm (fG w A s s2 O))(room:A0 (A.deeper (callEnvC (Bq (BQ w.params)) s.heap.objs.size 196)) 2)
 (hg:(fG w A s s2 O).s₀.heap.get? g=some (A8 "set.__contains__" sj))(hs:(fG w A s s2 O).s₀.heap.get? sj=some (Cc led))
 (alo ahi blo bhi:Nat)(hi:alo<=ahi)(hj:blo<=bhi)(hA:ahi<=as.length)(hB:bhi<=bs.length)(lA:as.length<=100)(lB:bs.length<=100) :
 Ex (fG w A s s2 O) [some (.val (.raw I)),pI alo,pI ahi,pI blo,pI bhi,TK as,TK bs,some (.val (.st (RJ w bs) (Cn w bs))),some (.val (.raw (.ref g))),none,none,none,none,none,none,none,none,none,none]
  ((Am (BB 5 6)).drop 2) (λaf _=>af=.ret (.py (Qi (flm as bs alo blo bhi ahi).1 (flm as bs alo blo bhi ahi).2.1 (flm as bs alo blo bhi ahi).2.2))):=by
 delta w A s s2 O as bs I g sj led mg mb xG alo ahi blo bhi at K T hgM hk N room hg hs hi hj hA hB lA lB
 have hh:(fG w A s s2 O).A.handled=none:=room.handled
 refine Ad (BI (b:=false) (G3 (Aa 2) Fu (λO h v r=>by obtain⟨t,rfl⟩:=VR.int_inv (O:=O) r;rfl)) (λh=>nomatch h) (λ_=>Aj ?_))
 refine Ad (BI (b:=false) (G3 (Aa 4) Fu (λO h v r=>by obtain⟨t,rfl⟩:=VR.int_inv (O:=O) r;rfl)) (λh=>nomatch h) (λ_=>Aj ?_))
 refine Ad (DB N hh [9,10,11] ["besti","bestj","bestsize"] (Au (ds:=[.int alo,.int blo,.int (0:Nat)]) (Ab (Aa 1) (Ab (Aa 3) (Ab Ai Ah)))) ⟨rfl,rfl,rfl,rfl,rfl,rfl,trivial⟩ ?_)
 refine Ad (Ki N 12 λd0=>?_)
 refine Ad (At N 13 (Dy (ds:=[]) Ah) ?_)
 have hR1:AN alo ahi 1=((kd (ahi-alo)).map (alo+·)).map λn=>lX (n:Nat):=by
  have:=DQ (a:=alo) (b:=ahi) (c:=1) (by decide)
  simpa using this
 refine Ad (EO N (ds:=AN alo ahi 1) (I5 N hh (A1 T hk) (Aa 1) (Aa 2) (by have:=Fk (a:=alo) (b:=ahi) (c:=1) (by rwa[hi,hA,lA]) (by rwa[hA,lA]) (by decide) (by decide);exact this))
  (λt σ=>∃d n i jg j k,n<=100/\Bb i=true/\Bb jg=true/\Bb j=true/\Bb k=true/\σ=Hf w as bs I (.ref g) alo ahi blo bhi ((((kd (ahi-alo)).map (alo+·)).take t).foldl (Hu as bs alo blo bhi) (alo,blo,0)) (some (.at d (DI w (HU as bs alo blo bhi t) n))) i jg none j k) ?_ ?_ ?_)
 ·exact ZG d0 0 none none none none (by rwa[]) rfl rfl rfl rfl rfl
 ·rintro t dd σ1 hdd ⟨d,n,i,jg,j,k,hn,h1,h2,h3,h4,rfl⟩
  rw[hR1,j8] at hdd
  refine Af (j6.mp hdd) λi' hi' zz1=>?_;obtain rfl:=zz1
  have hti:i'=alo+t/\alo+t<ahi:=by
   rw[j8] at hi'
   refine Af (j6.mp hi') λq hq zz1=>?_;obtain rfl:=zz1
   obtain⟨h5,h6⟩:=jK.mp hq
   rw[lG] at h5
   rw[pk] at h6
   rwa[h5,h6]
  obtain⟨rfl,hta⟩:=hti
  have htk:((kd (ahi-alo)).map (alo+·)).take (t+1)=((kd (ahi-alo)).map (alo+·)).take t++[alo+t]:=by rw[kN,hi'];rfl
  generalize hB0:(((kd (ahi-alo)).map (alo+·)).take t).foldl (Hu as bs alo blo bhi) (alo,blo,0)=B at *
  refine Ac _ (BH N 14) ?_
  refine Po rfl N 12 15 (d:=d) (f:=HU as bs alo blo bhi t) (n:=n) rfl (by decide) (λg'=>YN rfl rfl rfl rfl h3 h4) λjg' s3 hd0 hjg hd hup N'=>?_
  refine U9 K T (λb o e=>hup b o (hk b o e)) N' room alo ahi blo bhi t hA hB lA lB hta B d jg' n (V3 K hk hd0) hjg hd j k none h3 h4 _ λd2 n' y z hn' hy hz=>?_
  refine ZG d2 n' (pI (alo+t:Nat)) (some (.val (.raw (.ref jg')))) y z hn' rfl rfl hy hz ?_
  rw[htk,mq,hB0]
  rfl
 ·rintro σ1 ⟨d,n,i,jg,j,k,hn,h1,h2,h3,h4,rfl⟩
  rw[hR1,jI,lz]
  refine Aj ?_
  exact WV K T hgM hk N room hg hs alo ahi blo bhi hA hB lA lB _ (F8 as bs alo blo bhi hi hj) _ _ _ _ _ _
theorem aw{w:jW}{as bs:List jX}{mg mb:jX->Option jB}{xG:jY}(K:Bn w xG)(T:Br mg mb xG)(hgM:mg "Match"=some (.ref CM))
 (alo ahi blo bhi:Nat)(hi:alo<=ahi)(hj:blo<=bhi)(hA:ahi<=as.length)(hB:bhi<=bs.length)(lA:as.length<=100)(lB:bs.length<=100) :
 Fn pw w xG 3 (.ref 196) [] [.st (RM w as bs) (D5 w as bs),.py (.int alo),.py (.int ahi),.py (.int blo),.py (.int bhi)] [] (.py (Qi (flm as bs alo blo bhi ahi).1 (flm as bs alo blo bhi ahi).2.1 (flm as bs alo blo bhi ahi).2.2)):=by
 delta w as bs mg mb xG alo ahi blo bhi at K T hgM hi hj hA hB lA lB
 refine I3 (d4 w.params) (K.get 196 (o:=BQ w.params) (by kernel_rfl)) (by kernel_rfl) T.gl.nolimit (tV K.k (by kernel_rfl)) rfl
  (λs vs hk hl=>by obtain⟨v,u,x,y,z,zz1⟩:=(gK hl);obtain rfl:=zz1;exact .of_defaults (T:=189) (o:=IA w.params) (n:=0) rfl (hk _ _ (K.get 189 (by kernel_rfl))) rfl rfl rfl) λA s O hk N room=>?_
 have hh:(A.deeper (callEnvC (Bq (BQ w.params)) s.heap.objs.size 196)).handled=none:=room.handled
 intro O1 s1 Q E t q
 refine Fp t λs2 k2 t2=>?_
 refine Af (V4 N t2 (i:=0) rfl rfl) λv zz1 t3=>?_;obtain⟨pl,⟨I,D,m,k,la,lb,dj,sj,led,ls,rfl,rfl,i,mo,ra,rb,rj,es⟩,hO⟩:=zz1
 have K2:Bn w s2.heap:=K.keeps λb o e=>t3.keep _ _ (hk b o e)
 have eg0:s2.heap.get? s2.heap.objs.size=none:=Bk (jN _)
 have eg:(s2.heap.push (A8 "set.__contains__" sj)).get? s2.heap.objs.size=some (A8 "set.__contains__" sj):=jQ _ rfl
 have kp:kY s2 {s2 with heap:=s2.heap.push (A8 "set.__contains__" sj),toks:=s2.toks+1+1+1+1+1}:=Keeps.pushT _ _ _
 have hgL:s2.heap.objs.size≠(callEnvC (Bq (BQ w.params)) s.heap.objs.size 196).locals:=λz=>by
  refine Af t3.ex λmm zz1 _=>?_;obtain⟨o,_,_,e,_⟩:=zz1
  have e:s2.heap.get? (callEnvC (Bq (BQ w.params)) s.heap.objs.size 196).locals=some o:=e
  rw[<-z,eg0] at e;exact B6 e
 have hsL:sj≠(callEnvC (Bq (BQ w.params)) s.heap.objs.size 196).locals:=λz=>hO sj (by simp) (z▸t3.sub _ t3.frame)
 have t3:St (Dx pw w A s (Bq (BQ w.params)) 196 HR O) O1 [some (.val (.raw (.ref I))),pI alo,pI ahi,pI blo,pI bhi,none,none,none,none,none,none,none,none,none,none,none,none,none,none] s2:=t3
 refine QZ (O:=O1) (σ:=[some (.val (.raw (.ref I))),pI alo,pI ahi,pI blo,pI bhi,none,none,none,none,none,none,none,none,none,none,none,none,none,none]) N hh [5,6,7,8] [.py (.list (as.map .str)),.py (.list (bs.map .str)),.st (RJ w bs) (Cn w bs),.raw (.ref s2.heap.objs.size)] ⟨rfl,rfl,rfl,rfl,rfl,rfl,rfl,rfl,trivial⟩ rfl (λi hi=>jT (ky.mp (show([5,6,7,8].all λi=>mw i 19)=true from rfl) i hi)) ?_
 refine args_cons (Fo rfl K2 i 0 t3 rfl mo.a (args_cons (Fo rfl K2 i 0 (t3.keeps λ_ _ e=>e) rfl mo.b (args_cons (Fo rfl K2 i 0 (t3.keeps λ_ _ e=>e) rfl mo.b2j (args_cons (Attribute_any_ (Fo rfl K2 i 0 (t3.keeps λ_ _ e=>e) rfl mo.bjunk (Ic es (pX ?_))))))))))
 refine⟨t3.of_keeps kp,kp,⟨(Ac [la] (Ak.keeps (Ax kp) ra) ?_),(Ac [lb] (Ak.keeps (Ax kp) rb) ?_),(Ac (dj::ls) ((Cn w bs).keeps rj (Ax kp)) ?_),rfl,trivial⟩,jT rfl,λs5 a5 u5 t5=>?_⟩
 ·intro a ha;rw[jH.mp ha];exact hO la (by simp)
 ·intro a ha;rw[jH.mp ha];exact hO lb (by simp)
 ·intro a ha;exact hO a (.tail _ (.tail _ (.tail _ (.tail _ (.tail _ ha)))))
 ·have u5':∀b o,b≠(callEnvC (Bq (BQ w.params)) s.heap.objs.size 196).locals->s2.heap.get? b=some o->s5.heap.get? b=some o:=λb o hb e=>u5 b o hb (Ax kp b o e)
  refine OX N t5 rfl (λN'=>WT K T hgM (λb o e=>Om t5 b o (hk b o e)) N' room (E5 hgL (u5 _ _ hgL eg)) (E5 hsL (u5' _ _ hsL es)) alo ahi blo bhi hi hj hA hB lA lB) λO' fl af σ' s' fx t' fr p=>q O' fl af σ' s' (((Fx.of_keeps k2).tr (Fx.ofBut t3 a5 u5' t5)).tr fx) t' fr p
noncomputable def GY (h:jY) (t:jL) (items:Array jB):Prop:=∃o n,h.get? t=some o/\o.data=.seq items n
theorem GY.keeps{h h':jY}{t:jL}{items:Array jB}(r:GY h t items)(k:∀o,h.get? t=some o->h'.get? t=some o):GY h' t items:=Ao r λo n e d=>(AT o n (k o e) d)
section
variable {prog:lD} {w:jW} {A:kA} {E:jB->jE->Prop} {s:jE}
theorem Wg{it t:jL}{i:Nat}{items:Array jB}{x:jB}{Q:Option jB->jE->Prop}(hit:uU s.heap it t i)(ht:GY s.heap t items)(hx:items[i]?=some x)
 (hQ:∀h',uU h' it t (i+1)->oo it s.heap h'->Q (some x) {s with heap:=h'}):wpAny (model prog w) A (pyNext (.ref it)) Q E s:=by
 have hit':=hit
 refine Bu hit' λo ho hc hd=>?_
 refine Ao ht λot n ht hdt=>?_
 unfold pyNext
 refine jA (pA (mZ (name:=jz "__next__") hit.typeIs pp (lH pp hit.typeIs xg ?_ (xA _))))
 show wpAny _ _ (field (.ref it) 0>>=_) _ _ s
 refine jA (nQ ho hd (x:=.ref t) rfl ?_)
 rw[if_neg (show ¬((kx t == jD)=true) from lg)]
 refine jA (nQ ho hd (x:=.int i 0) rfl ?_)
 show wpAny _ _ (rU (.ref t)>>=_) _ _ s
 refine jA (mX ht hdt ?_)
 simp only[kr,hx]
 refine jA (sT ho hd (by simp) (jJ (Ac x rfl (jJ (hQ _ (Ba _ (mM _ ho (vP (qN hd _))) ((wI ..).trans hc) ?_) (ma ..))))))
 rw[qN hd];simp[rawInt]
theorem Yd{it t:jL}{i:Nat}{items:Array jB}{Q:Option jB->jE->Prop}(hh:A.handled=none)(hit:uU s.heap it t i)(ht:GY s.heap t items)(hx:items[i]?=none)
 (hQ:∀h',tZ it s.heap h'->Q none {s with heap:=h'}):wpAny (model prog w) A (pyNext (.ref it)) Q E s:=by
 delta prog w A E s it t i items Q at hh hit ht hx hQ
 have hit':=hit
 refine Bu hit' λo ho hc hd=>?_
 refine Ao ht λot n ht hdt=>?_
 unfold pyNext
 refine jA (pA (mZ (name:=jz "__next__") hit.typeIs pp (lH pp hit.typeIs xg ?_ (xA _))))
 show wpAny _ _ (field (.ref it) 0>>=_) _ _ s
 refine jA (nQ ho hd (x:=.ref t) rfl ?_)
 rw[if_neg (show ¬((kx t == jD)=true) from lg)]
 refine jA (nQ ho hd (x:=.int i 0) rfl ?_)
 show wpAny _ _ (rU (.ref t)>>=_) _ _ s
 refine jA (mX ht hdt ?_)
 simp only[kr,hx]
 refine jA (so (jA (sT ho hd (by simp) ?_)))
 show wpAny _ _ (newExc (.type "StopIteration") []>>=_) _ _ _
 refine jA ?_
 simp only[newExc,newTuple]
 refine jA (oW ?_ (by size_fits))
 refine jA (m:=sU _ _) (ly (a:=jD) (by first|rfl|(simp only[sU];rfl)) ?_)
 refine oW ?_ (by size_fits)
 unfold raiseNew
 refine jA (wpAny_handled ?_)
 first|rw[show A.in1.handled=none from hh]|rw[hh]
 refine jA (jJ (wpAny_throw ?_))
 refine jA (wpAny_isInstance (T:="StopIteration") (b:=true) (Ac _ (jQ _ rfl) rfl) isSubtype_stop ?_)
 exact jJ (hQ _ (((ma ..).extBut.push _).push _))
theorem OU{it t:jL}{items:Array jB}(hne:t≠it):∀(n i:Nat) (s:jE) (Q:List jB->jE->Prop),uU s.heap it t i->GY s.heap t items->i+n<=items.size->
 (∀h',uU h' it t (i+n)->oo it s.heap h'->Q ((items.toList.drop i).take n) {s with heap:=h'})->wpAny (model prog w) A (draw (.ref it) n) Q E s
 | 0,i,s,Q,hit,_,_,hQ=>by
  show wpAny _ _ (pure []) Q E s
  exact jJ (by simpa using hQ s.heap hit (Heap.SameBut.refl ..))
 | n+1,i,s,Q,hit,ht,hle,hQ=>by
  have hlt:i<items.size:=by rwa[hle]
  show wpAny _ _ (pyNext (.ref it)>>=_) Q E s
  refine jA (Wg hit ht (x:=items[i]) (by simp[hlt]) λxI xY xW=>?_)
  refine jA (kE (OU hne n (i+1) _ _ xY (ht.keeps λo e=>(xW.2 t hne).trans e) (by rwa[hle]) λxK x9 ya=>jJ ?_))
  have hd:items.toList.drop i=items[i]::items.toList.drop (i+1):=by simp[List.drop_eq_getElem_cons,hlt]
  have:=hQ xK (by rw[show i+(n+1)=i+1+n by rwa[]];exact x9) (xW.trans ya)
  rw[hd,List.take_succ_cons] at this
  exact this
theorem EI{w:jW}{h:jY}{t:jL}{o:nH}{M:tM}(K:Bn w h)(ho:h.get? t=some o)(hc:o.cls=.ref CM):mD M h (specialOf (.ref t) "__iter__") (some (.builtin "tuple.__iter__")):=by
 unfold specialOf
 exact(hc▸(oO ho).andThen .now:mD M h (typeOf (.ref t)) (.ref CM)).andThen (pW K.k (by kernel_rfl))
end
section
variable {w:jW} {A:kA} {E:jB->jE->Prop} {s:jE} {t:jL} {o:nH}
theorem XX:qt "tuple.__iter__"=some .slot:=by decide +kernel
theorem VY:wo "tuple.__iter__"=some ("tuple","__iter__"):=by decide +kernel
theorem XY(self:jB):bindSpecial (.builtin "tuple.__iter__") self=pure (.builtin "tuple.__iter__",[self]):=slot_tuple_iter.bind self
theorem YZ{Q:jB->jE->Prop}(K:Bn w s.heap)(ho:s.heap.get? t=some o)(hc:o.cls=.ref CM)
 (hQ:Q (.ref s.heap.objs.size) {s with heap:=s.heap.push {cls:=.type "tuple_iterator",data:=.fields #[.ref t,.int 0 0]}}):wpAny (model pw w) A (pyIter (.ref t)) Q E s:=by
 delta w A E t o Q at s K ho hc hQ
 obtain⟨hh,g,d,tk,os⟩:=s
 have L:=EI (M:=model pw w) K ho hc
 have LI:mD (model pw w) hh (isInstance (.ref t) (.type "tuple")) true:=(hc▸(oO ho).andThen .now:mD (model pw w) hh (typeOf (.ref t)) (.ref CM)).andThen (qz K.k (by kernel_rfl))
 unfold pyIter
 refine jA (L.at ?_)
 dsimp only
 refine jA ?_
 unfold callSpecialIfBoundUnlessNone? xw
 refine kE (jA (jA (L.at ?_)))
 dsimp only
 refine jA (nd_ask (nd_pure ?_))
 have tail:∀(f:vg (Option (jB×List jB))->vg (Option (jB×List jB))),True:=λ_=>trivial
 have core:∀(b:Bool) (Q':Option (jB×List jB)->jE->Prop),Q' (some (.builtin "tuple.__iter__",[.ref t])) ⟨hh,g,d,tk,os⟩->wpAny (model pw w) A (if b then(do return some (<-bindSpecial (.builtin "tuple.__iter__") (.ref t))) else(do return some (<-bindSpecial (.builtin "tuple.__iter__") (.ref t)):vg (Option (jB×List jB))).tryCatch λ_=>do rule "special.get-raises-dropped";pure none) Q' E ⟨hh,g,d,tk,os⟩:=by
  intro b Q' q
  rw[XY]
  cases b with
  | true=>exact jA (jJ (jJ q))
  | false=>
   rw[if_neg lg]
   exact vq (jA (jJ (jJ q)))
 refine core _ _ ?_
 dsimp only
 rw[if_neg (by decide)]
 refine jA (mS ?_)
 refine sV slot_tuple_iter.plain entry_tuple_iter (tW (s:=⟨hh,g,d,tk,os⟩) XX VY LI (args_tuple_iter _) ?_)
 show wpAny _ _ (do ret (<-newFields "tuple_iterator" [.ref t,rawInt 0])) _ _ _
 refine jA (oW (jJ ?_))
 refine jJ ?_
 dsimp only
 refine jA (vc (T:="tuple_iterator") (Ac _ (jQ _ rfl) rfl) pp.lookup ?_)
 exact jJ hQ
theorem Vo{items:Array jB}{n:Nat}{Q:List jB->jE->Prop}(K:Bn w s.heap)(hh:A.handled=none)(ho:s.heap.get? t=some o)(hc:o.cls=.ref CM)(hd:o.data=.seq items n)
 (hQ:∀h',tZ s.heap.objs.size s.heap h'->Q items.toList {s with heap:=h'}):wpAny (model pw w) A (unpackItems (.ref t) items.size none) Q E s:=by
 delta w A E s t o items n Q at K hh ho hc hd hQ
 have hlt:t≠s.heap.objs.size:=lw (kq ho)
 have L:=EI (M:=model pw w) K ho hc
 have hr:GY s.heap t items:=AT o n ho hd
 unfold unpackItems notIterableAtAll
 refine jA (jA (L.here ?_))
 rw[if_pos (by rfl)]
 refine jJ ?_
 rw[if_neg (by decide)]
 refine jA (kE (YZ K ho hc ?_))
 dsimp only
 have hrp:GY (s.heap.push {cls:=.type "tuple_iterator",data:=.fields #[.ref t,.int 0 0]}) t items:=hr.keeps λo e=>jF _ e
 refine jA (kE (OU hlt items.size 0 _ _ (Ba _ (jQ _ rfl) rfl rfl) hrp (by rwa[]) λxI xY xW=>?_))
 have hall:List.take items.size (List.drop 0 items.toList)=items.toList:=by
  rw[xC];exact rq (by simp)
 rw[hall,if_neg (by simp)]
 have yb:GY xI t items:=hrp.keeps λo e=>(xW.2 t hlt).trans e
 refine jA (kE (Yd hh xY yb (by simp) λxK yc=>?_))
 simp only[Option.isSome_none,nh,if_false]
 refine jJ (hQ xK λb o hb e=>yc b o hb (xW.extBut b o hb (jF _ e)))
end
section
variable {Γ:Cx} {σ:AX} {P:AF->AX->Prop} {pos:mf}
theorem Ra{O:Ap}{h:jY}{i j k:Int}{v:jB}(r:VR O h (.py (Qi i j k)) v):∃a o vs n as,v=.ref a/\h.get? a=some o/\o.cls=.ref CM/\o.data=.seq vs n/\Ae h vs.toList [.int i,.int j,.int k] as/\¬O.has a/\∀b∈as,¬O.has b:=by
 delta O h k at i j v r
 refine Af r λas r q=>?_
 unfold Qi at r
 cases r with
 | mt e1 e2 e3 e4=>exact eQ _ _ _ _ _ rfl e1 e2 e3 e4 (q _ (.head _)) λb hb=>q b (.tail _ hb)
theorem XB{xG:jY}(hw:Γ.prog=pw)(K:Bn Γ.w xG)(hk:HK xG Γ.s₀)(N:Nm Γ)(hh:Γ.A.handled=none)(is:List Nat){es:List kH}{k:Nat}{p:mf}{i j l:Int}(hn:DY Γ is es)(hlt':autoParam ((is.all λi=>mw i σ.length)=true) aR)(hl:autoParam (is.length=3) aR):As Γ σ (.Tuple es k p) (Qi i j l) (F2 σ is [.int i,.int j,.int l]):=by
 intro O s v Q E t r q
 have hlt:∀i∈is,i<σ.length:=λi hi=>jT (ky.mp hlt' i hi)
 refine W1 (Ra r) λa o vs n as zz1 ho hc hd rs _ qs=>?_;obtain rfl:=zz1
 obtain⟨h1,h2⟩:=E2 hn
 have hsz:vs.size=3:=by have:=Al rs;simpa using this
 have Ks:Bn Γ.w s.heap:=K.keeps λb o e=>t.keep _ _ (hk b o e)
 rw[PyProof.Rows.assign_Tuple]
 refine jA (rt ?_)
 unfold unpack
 rw[h1,hl,h2]
 rw[<-hsz]
 refine jA (kE ?_)
 have cu:=λQ hQ=>@Vo Γ.w Γ.A E s a o vs n Q Ks hh ho hc hd hQ
 rw[<-hw] at cu
 refine cu _ λh' he=>?_
 have kk:kY s {s with heap:=h'}:=AT h' s.toks rfl λb o e=>he b o (lw (kq e)) e
 exact HS N _ _ is es [.int i,.int j,.int l] hn _ _ _ _ _ hlt hl (t.of_keeps kk) (Ae.keeps (Ax kk) rs) qs λs2 a2 u2 t2=>q s2 (AI.tr (AS h' s.toks rfl) a2) (λb o hb e=>u2 b o hb (Ax kk b o e)) t2
theorem Uw(N:Nm Γ)(ix:Nat){es:List kH}{k:Nat}{p xp:mf}{x:jX}{e:kH}{d:jO}{σ':AX}(h:Ev Γ σ e (.py d))(ha:As Γ σ (.Tuple es k p) d σ')(hP:P .next (σ'.set ix (some (.val (.py d)))))
 (hi:autoParam (Γ.ns[ix]?=some x) aR)(hlt:autoParam (ix<σ'.length) aN)(hk:autoParam (Γ.env.kindOf x=some .local) aR)
 (h2:autoParam (qK (λx=>x.snd) (assignEach [oq es k p,ku x xp] Γ.env)=[assign (oq es k p) Γ.env,assign (ku x xp) Γ.env]) aR)
 (hsw:autoParam (nt [oq es k p,ku x xp] e Γ.env=pure none) aR):X1 Γ σ (.Assign [.Tuple es k p,.Name x xp] e pos) P:=by
 intro O s Q E t q
 refine oA (h O s _ E t λv s1 t1 k1 r1=>?_) h2 hsw
 refine ha O s1 v _ E t1 r1 λs2 a2 u2 t2=>?_
 have f2:=Fx.ofBut t1 a2 u2 t2
 have r2:VR O s2.heap (.py d) v:=VR.avoid (O:=O) r1 (t1.sub _ t1.frame) (λb hb o e=>u2 b o hb e) (by refine Af t1.ex λm n _=>?_;exact A5 n)
 refine lI (AG N (b:=.val (.py d)) hi hlt hk t2 r2 λs3 a3 u3 t3=>?_)
 exact q O .next .next _ s3 (((Fx.of_keeps k1).tr f2).tr (Fx.ofBut t2 a3 u3 t3)) t3 rfl hP
end
section
variable {w:jW} {A:kA} {E:jB->jE->Prop} {s:jE} {x y:jL} {ox oy:nH} {a b c a' b' c':Int} {ta tb tc ta' tb' tc':ut} {n n':Nat}
theorem XV:qt "tuple.__lt__"=some .slot:=by decide +kernel
theorem VV:wo "tuple.__lt__"=some ("tuple","__lt__"):=by decide +kernel
theorem XW(self:jB):bindSpecial (.builtin "tuple.__lt__") self=pure (.builtin "tuple.__lt__",[self]):=uY.bind self
theorem Yv{p q:Int}{t u:ut}{Q:jB->jE->Prop}(h:Q (.bool (decide (p<q))) s):wpAny (model pw w) A (w0 .Lt (.int p t) (.int q u)) Q E s:=by
 show wpAny (model pw w) A (compareOp .Lt (.int p t) (.int q u)) Q E s
 exact P.lt_int h
noncomputable def WE (a b c a' b' c':Int):Bool:=if a=a' then(if b=b' then decide (c<c') else decide (b<b')) else decide (a<a')
theorem RC{Q:Fin->jE->Prop}(K:Bn w s.heap)(hx:s.heap.get? x=some ox)(dx:ox.data=.seq #[.int a ta,.int b tb,.int c tc] n)(hy:s.heap.get? y=some oy)(cy:oy.cls=.ref CM)(dy:oy.data=.seq #[.int a' ta',.int b' tb',.int c' tc'] n')
 (h:Q (.done (.ret (.bool (WE a b c a' b' c')))) s):wpAny (model pw w) A (km.«tuple.__lt__» ⟨[.ref x,.ref y],[]⟩) Q E s:=by
 have LI:mD (model pw w) s.heap (isInstance (.ref y) (.type "tuple")) true:=(cy▸(oO hy).andThen .now:mD (model pw w) s.heap (typeOf (.ref y)) (.ref CM)).andThen (qz K.k (by kernel_rfl))
 show wpAny _ _ (nc "__lt__" 1 ⟨[.ref x,.ref y],[]⟩>>=_) _ _ _
 refine jA (ly (show nc "__lt__" 1 ⟨[.ref x,.ref y],[]⟩=pure (.ref x,[.ref y]) by kernel_rfl) ?_)
 dsimp only
 refine jA (LI.here ?_)
 rw[if_neg (by decide)]
 refine jA (show wpAny _ _ (rU (.ref x)>>=_) _ _ _ from jA (mX hx dx (jJ ?_)))
 refine jA (show wpAny _ _ (rU (.ref y)>>=_) _ _ _ from jA (mX hy dy (jJ ?_)))
 unfold WE at h
 simp -iota only[sO,List.zip_nil_right,mV,uJ]
 have hit:∀{p q:Int} {t u:ut} {Q':ForInStep (Option Fin×Unit)->jE->Prop},p≠q->Q' (.done (some (.done (.ret (.bool (decide (p<q))))),())) s->wpAny (model pw w) A (do
  let __do_lift<-eqBool (jR p t) (jR q u)
  if(!__do_lift)=true then do
      rule "tuple.compare.by-the-first-pair-that-differs"
      let __do_lift<-w0 CmpOp.Lt (jR p t) (jR q u)
      let __do_lift<-ret __do_lift
      pure (wb (some __do_lift,()))
   else pure (te (none,()))) Q' E s:=by
  intro p q t u Q' hne hq
  refine jA (pf ?_)
  rw[if_pos (by rw[oM,beq_eq_false_iff_ne];exact hne)]
  exact jA (so (jA (Yv (jA (jJ (jJ hq))))))
 have go:∀{p:Int} {t u:ut} {Q':ForInStep (Option Fin×Unit)->jE->Prop},Q' (.yield (none,())) s->wpAny (model pw w) A (do
  let __do_lift<-eqBool (jR p t) (jR p u)
  if(!__do_lift)=true then do
      rule "tuple.compare.by-the-first-pair-that-differs"
      let __do_lift<-w0 CmpOp.Lt (jR p t) (jR p u)
      let __do_lift<-ret __do_lift
      pure (wb (some __do_lift,()))
   else pure (te (none,()))) Q' E s:=by
  intro p t u Q' hq
  refine jA (pf ?_)
  rw[if_neg (by simp)]
  exact jJ hq
 by_cases e1:a=a'
 ·subst e1
  rw[if_pos rfl] at h
  refine jA (jA (go ?_))
  by_cases e2:b=b'
  ·subst e2
   rw[if_pos rfl] at h
   refine jA (go ?_)
   by_cases e3:c=c'
   ·subst e3
    rw[show decide (c<c)=false by simp] at h
    refine jA (go (jJ ?_))
    exact jJ h
   ·exact jA (hit e3 (jJ (jJ h)))
  ·rw[if_neg e2] at h
   exact jA (hit e2 (jJ (jJ h)))
 ·rw[if_neg e1] at h
  exact jA (jA (hit e1 (jJ (jJ h))))
theorem eZ{Q:Bool->jE->Prop}(K:Bn w s.heap)(hu:A.units<cLine)(hx:s.heap.get? x=some ox)(cx:ox.cls=.ref CM)(dx:ox.data=.seq #[.int a ta,.int b tb,.int c tc] n)(hy:s.heap.get? y=some oy)(cy:oy.cls=.ref CM)(dy:oy.data=.seq #[.int a' ta',.int b' tb',.int c' tc'] n')
 (h:Q (WE a b c a' b' c') s):wpAny (model pw w) A (keyLt' oneType' (.ref x) (.ref y)) Q E s:=by
 have L:mD (model pw w) s.heap (specialOf (.ref x) "__lt__") (some (.builtin "tuple.__lt__")):=by
  unfold specialOf
  exact(cx▸(oO hx).andThen .now:mD (model pw w) s.heap (typeOf (.ref x)) (.ref CM)).andThen (pW K.k (by kernel_rfl))
 have LI:mD (model pw w) s.heap (isInstance (.ref x) (.type "tuple")) true:=(cx▸(oO hx).andThen .now:mD (model pw w) s.heap (typeOf (.ref x)) (.ref CM)).andThen (qz K.k (by kernel_rfl))
 rw[keyLt'_oneType,oneLt'_eq]
 simp only[if_true]
 refine jA (wpAny_cRoomFor hu ?_)
 refine jA ?_
 unfold callSpecialIfBound? xw
 refine kE (jA (jA (L.here ?_)))
 dsimp only
 refine jA (nd_ask (nd_pure ?_))
 have core:∀(b:Bool) (Q':Option (jB×List jB)->jE->Prop),Q' (some (.builtin "tuple.__lt__",[.ref x])) s->wpAny (model pw w) A (if b then(do return some (<-bindSpecial (.builtin "tuple.__lt__") (.ref x))) else(do return some (<-bindSpecial (.builtin "tuple.__lt__") (.ref x)):vg (Option (jB×List jB))).tryCatch λ_=>do rule "special.get-raises-dropped";pure none) Q' E s:=by
  intro b Q' q
  rw[XW]
  cases b with
  | true=>exact jA (jJ (jJ q))
  | false=>
   rw[if_neg lg]
   exact vq (jA (jJ (jJ q)))
 refine core _ _ ?_
 dsimp only
 refine jA (mS ?_)
 refine sV uY.plain PySem.F.entry_tuple_lt (tW XV VV LI (PySem.F.args_tuple_lt_2 _ _) ?_)
 refine RC K hx dx hy cy dy ?_
 refine jJ ?_
 exact nO h
end
section
set_option backward.match.sparseCases true
noncomputable def CE (r:Nat->Int) (vs:List jB):List jB:=if vs.length<2 then vs else(D1 (CW r) (kas_sort vs.length)).toList.map λi=>vs.getD i jD
noncomputable def Dk (h:jY) (a:jL) (vs:List jB):jY:=((h.update a (kB λ_=>(#[]:Array jB))).push (seqObj "tuple" vs.toArray 0)).push (seqObj "list" #[] 0)
theorem D9{h:jY}{a b:jL}{vs:List jB}{o:nH}(hb:b≠a)(e:h.get? b=some o):(Dk h a vs).get? b=some o:=
 jF _ (jF _ ((mj _ _ _ _ hb).trans e))
section
variable {prog:lD} {w:jW} {A:kA} {E:jB->jE->Prop} {s:jE} {a:jL} {vs:List jB} {T:jB} {r:Nat->Int}
theorem Kq(hr:∀i j,i<vs.length->j<vs.length->r i=r j->i=j):(CE r vs).length=vs.length:=by
 unfold CE
 split
 ·rfl
 ·rw[jI,kh,(G5 (by(rename_i z0;rwa[z0])) hr).1.size_eq];simp
theorem UK{n:Nat}{P:PySem.Fin->jE->Prop}(ho:s.heap.get? a=some (seqObj "list" vs.toArray n))(h64:vs.length<64)(hT:∀v∈vs,mD (model prog w) (Dk s.heap a vs) (typeOf v) T)(hT1:(T != jV "tuple")=true)(hT2:(T == T)=true)
 (hr:∀i j,i<vs.length->j<vs.length->r i=r j->i=j)(hc:∀i j C,i<vs.length->j<vs.length->C (CW r i j) {s with heap:=Dk s.heap a vs}->kas_ask prog w A oneType' vs i j C {s with heap:=Dk s.heap a vs})
 (h:P (.done (.ret .none)) {s with heap:=(Dk s.heap a vs).update a (kB λ_=>(CE r vs).toArray)}):wpAny (model prog w) A (km.«list.sort» ⟨[.ref a],[]⟩) P E s:=by
 delta prog w A E s a vs T r n P at ho h64 hT hT1 hT2 hr hc h
 have s1:=ma s.heap a (kB λ_=>(#[]:Array jB))
 obtain⟨e1,ho1⟩:∃e1,(s.heap.update a (kB λ_=>(#[]:Array jB))).get? a=some (seqObj "list" #[] e1):=Ag _ (oP ho λ_=>#[])
 have ho3:(Dk s.heap a vs).get? a=some (seqObj "list" #[] e1):=jF _ (jF _ ho1)
 have hlen:=Kq (vs:=vs) hr
 rw[list_sort_plain]
 refine jA (wA ho rfl ?_)
 refine jA (qq ho rfl ?_ (by rw[kI,sizeLine_eq];rwa[h64]) (kf _))
 refine jA (u0 ho1 rfl ?_)
 refine jA (wpAny_newTuple ?_ (by show vs.length<=_;rw[sizeLine_eq];rwa[h64]))
 refine jA (vU ?_ (kf _))
 refine kE ?_
 show wpAny (model prog w) A _ P E {s with heap:=Dk s.heap a vs}
 dsimp only
 have OI:∀(st':SortSt),(arrOf st').map (·.2)=(CE r vs).toArray->vB st'=none->wpAny (model prog w) A (do
  let touched:=(<-seqEpoch a) != e1
  qp (.ref a) λ_=>(arrOf st').map (·.2)
  if let some e:=vB st' then rule "list.sort.comparison-raised";throw e
  if touched then rule "list.sort.modified";raiseError "ValueError" "list modified during sort"
  ret .none) P E {s with heap:=Dk s.heap a vs}:=λst' hout hf=>by
  rw[hout]
  refine jA (u0 ho3 rfl ?_)
  refine jA (qq ho3 rfl ?_ (kf _) (by rw[kI,hlen,sizeLine_eq];rwa[h64]))
  rw[hf]
  simp only[bne_self_eq_false,nh,if_false]
  exact jJ h
 by_cases h2:vs.length<2
 ·have hn2:vs.toArray.size<2:=by rw[kI];rwa[h2]
  rw[if_pos hn2,if_pos hn2]
  refine jA (jJ ?_)
  refine jA (jJ (a:=((),sD general' (vs.toArray.zip vs.toArray) #[] 7 none)) ?_)
  refine OI _ ?_ rfl
  unfold CE
  rw[if_pos h2]
  show(vs.toArray.zip vs.toArray).map (·.2)=_
  apply nb.mp
  rw[pP,wF]
  exact wP (jN _)
 ·have hn2:¬vs.toArray.size<2:=by rw[kI];rwa[h2]
  rw[if_neg hn2,if_neg hn2]
  refine jA (kas_kind (by rwa[h2]) hT hT1 hT2 ?_)
  have est:sD oneType' (vs.toArray.zip vs.toArray) #[] 7 none=kas_st oneType' (wz vs) (ke (kd vs.length)):=by
   have e:=kas_range (wz vs)
   rw[pairsOf_size] at e
   show sD oneType' (wz vs) #[] 7 none=sD oneType' ((ke (kd vs.length)).map (kas_item (wz vs))) #[] 7 none
   rw[e]
  have ask:(kas_sort vs.length).kasWp (kas_ask prog w A oneType' vs) (λp s'=>s'={s with heap:=Dk s.heap a vs}/\p=D1 (CW r) (kas_sort vs.length)) {s with heap:=Dk s.heap a vs}:=
   Rf (Inv:=λs'=>s'={s with heap:=Dk s.heap a vs}) (ok:=(· < vs.length)) (λi j C s' oi oj hI hC=>by subst hI;exact hc i j C oi oj (hC _ rfl)) _ _ (TP (by rwa[h2]) hr) rfl λs' hI=>⟨hI,rfl⟩
  rw[kas_ask_eq] at ask
  have TT:=kas_runs (E:=E) (Q:=λ_ st' s'=>(arrOf st').map (·.2)=(CE r vs).toArray/\vB st'=none/\s'={s with heap:=Dk s.heap a vs})
   (by rwa[h2]) h64 (λp' st' s' a1 a2 a3 a4=>⟨by
    apply nb.mp
    unfold CE
    rw[if_neg h2,a2,Array.map_map,pP,a4.2]
    exact lS λi _=>by show(kas_item (wz vs) i).2=_;rw[kas_item_eq],a3,a4.1⟩) ask
  rw[<-est] at TT
  refine jA (lR TT ?_ λ_ _ e=>e)
  intro zz1 s' zz2;obtain⟨⟨⟩,st'⟩:=zz1;refine C1 zz2 λha hf zz3=>?_;clear zz2;obtain rfl:=zz3
  dsimp only
  exact OI st' ha hf
end
end
theorem II{h:jY}{d:jO}{ds:List jO}{ws:List jB}{as:List jL}(r:Ae h ws (ds++[d]) as):∃ws' v as' bs,ws=ws'++[v]/\Ae h ws' ds as'/\Ak h v d bs/\as=as'++bs:=by
 delta h d at ds ws as r
 induction ds generalizing ws as with
 | nil=>
  refine Cz (AK r) λv us bs cs e1 r1 rs e2=>?_
  obtain rfl:=Bg rs
  cases rs
  exact GR [] v [] bs e1 .nil r1 (e2.trans (kF _))
 | cons e ds ih=>
  refine Cz (AK r) λv us bs cs e1 r1 rs e2=>Cz (ih rs) λws' u as' bs' e3 r2 r3 e4=>?_
  exact GR (v::ws') u (bs++as') bs' (e1.trans (congrArg _ e3)) (.cons r1 r2) r3 (e2.trans ((congrArg _ e4).trans (l5 ..).symm))
section
variable {Γ:Cx} {σ:AX} {pos:mf} {P:AF->AX->Prop}
theorem EZ(N:Nm Γ){O:Ap}{s:jE}{i:Nat}{x:jX}{ds:List jO}(t:St Γ O σ s)(hi:Γ.ns[i]?=some x)(hσ:σ[i]?=some (some (.own ds))) :
 ∃m a ws as,s.heap.Ns Γ.env.locals m/\Gk s.heap Γ.env m x (.ref a)/\s.heap.PlainList a ws/\Ae s.heap ws.toList ds as/\(∀b∈as,¬O.has b)/\(O.has a/\Γ.s₀.heap.get? a=none)/\
  ∀(h':jY) (tk:Nat) (ws':Array jB) (ds':List jO) (as':List jL),(∀b,b≠a->∀o,s.heap.get? b=some o->h'.get? b=some o)->h'.PlainList a ws'->Ae h' ws'.toList ds' as'->(∀b∈as',¬O.has b)->St Γ O (σ.set i (some (.own ds'))) {s with heap:=h',toks:=tk}/\Fx Γ O s O {s with heap:=h',toks:=tk}:=by
 delta Γ σ O s i x ds at N t hi hσ
 obtain⟨kp,⟨m,n,vs⟩,cl,nd,lv,sb,fr,fs⟩:=t
 have hlt:i<σ.length:=(jK.mp hσ).1
 refine Af (vs i x _ hi hσ) λv0 hd zr0=>CR zr0 λa ws as zz1 m1 l1 r1 q1 f1=>?_;obtain rfl:=zz1
 refine eU m a ws as n hd l1 r1 q1 ⟨(Ac _ m1 rfl),f1⟩ λh' tk ws' ds' as' hget hl' r' q'=>?_
 have haO:O.has a:=Ac _ m1 rfl
 have hT:∀o,s.heap.get? a=some o->¬(o.cls=.type "tuple"/\∃vs n,o.data=.seq vs n):=by
  obtain⟨n,e⟩:=l1
  rintro o e' ⟨hc,_⟩
  (replace e':=CQ e e';subst e');exact absurd (show jV "list"=jV "tuple" from hc) (by decide)
 have hLa:=En n l1.isList
 refine⟨⟨λb o e=>hget b (λz=>by rw[z,f1] at e;exact B6 e) o (kp b o e),(Ac m (n.at' λo e=>hget _ (ll hLa) o e) λj y b e e'=>?_),λy c e=>?_,nd,λp hp=>?_,sb,fr,fs⟩,⟨(AS _ _ rfl),λ_ h=>.inl h,λb o e=>?_,λb o e h1 _=>hget b (λz=>h1 (z▸haO)) o e,λb o e q=>hget b (λz=>hT o (z▸e) q) o e⟩⟩
 ·have held:∀{y:jX} {u:jB},Gk s.heap Γ.env m y u->Gk h' Γ.env m y u:=λz=>z.imp id λ⟨k,c,hc,o,ho,hd⟩=>⟨k,c,hc,o,hget c (ll (Cq (Ac o ho hd) l1.isList)) _ ho,hd⟩
  by_cases hj:j=i
  ·subst hj
   (replace e:=CQ hi e;subst e)
   rw[lN hlt] at e'
   cases e'
   exact⟨.ref a,held hd,a,ws',as',rfl,m1,hl',r',q',f1⟩
  ·rw[lO (ll hj)] at e'
   refine Af (vs j y b e e') λu hd' r'=>?_
   refine Ac u (held hd') ?_
   have other:∀a2,(y,a2)∈O->a2≠a:=by
    rintro a2 hm rfl
    have:=Ap.mem_inj nd m1 hm
    subst this
    exact hj ((mn (jK.mp e).1 N.nodup).mp (e.trans hi.symm))
   cases b with
   | val w=>exact VR.avoid (O:=O) r' haO hget hT
   | own es=>
    refine CR r' λa2 ws' as' e1 m1' l1' r1' q1' f1'=>?_
    exact CA a2 ws' as' e1 m1' (AR l1' λn e=>(Ag n (hget _ (other _ m1') _ e))) (Aq hget hT r1' λhm=>q1' _ hm haO) q1' f1'
   | «at» a2 P2=>
    refine CU r' λe1 m1' zz1 f1'=>?_;obtain⟨o2,g2,p2⟩:=zz1
    exact⟨e1,m1',(Ac o2 (hget _ (other _ m1') _ g2) p2),f1'⟩
 ·refine Ao (cl y c e) λu o ho hd=>?_
  exact AT u o (hget c (ll (Cq (Ac o ho hd) l1.isList)) _ ho) hd
 ·obtain⟨o1,e1⟩:=lv p hp
  by_cases hp':p.2=a
  ·obtain⟨k,e'⟩:=hl';exact Ag _ (hp'▸e')
  ·exact Ag o1 (hget _ hp' _ e1)
 ·by_cases hb:b=a
  ·obtain⟨k,e'⟩:=hl';exact Ag _ (hb▸e')
  ·exact Ag o (hget b hb o e)
theorem EY(N:Nm Γ){s:jE}{m:jX->Option jB}{x:jX}{p:mf}{v:jB}{Q:jB->jE->Prop}{E:jB->jE->Prop}(n:s.heap.Ns Γ.env.locals m)(hd':Gk s.heap Γ.env m x v)(q:Q v s)(hd:autoParam ((x == ("__debug__":jX))=false) aK):wpAny (model Γ.prog Γ.w) Γ.A (eval (.Name x p) Γ.env) Q E s:=by
 rcases hd' with⟨k1,e1⟩|⟨k1,c,hc,ic⟩
 ·exact nF (mC N.kind k1 n e1 q) hd
 ·exact nF (on N.kind k1 hc ic q) hd
theorem ZO(N:Nm Γ)(i:Nat){x:jX}{xp p ap cp:mf}{k:Nat}{es:List kH}{pl:vg Bool}{ds:List jO}{d:jO}{σ':AX}(hσ:σ[i]?=some (some (.own (ds++[d]))))(hs:ds.length<=100000)(ha:As Γ (σ.set i (some (.own ds))) (.Tuple es k p) d σ')(hP:P .next σ')
 (hi:autoParam (Γ.ns[i]?=some x) aR)(hd:autoParam ((x == ("__debug__":jX))=false) aK)
 (he:autoParam (eval (.Call (.Attribute (.Name x xp) "pop" ap) [] [] cp) Γ.env=(do
  let ov<-eval (.Name x xp) Γ.env
  mQ ap.atName
  let (f,first)<-ml [ov] (nv ov "pop" pl)
  kX cp f first (backTo cp (starEach [] Γ.env)) [])) aR)
 (hss:autoParam (tK [oq es k p] (.Call (.Attribute (.Name x xp) "pop" ap) [] [] cp) pos.line Γ.env=pure false) aR)(hw:autoParam (nt [oq es k p] (.Call (.Attribute (.Name x xp) "pop" ap) [] [] cp) Γ.env=pure none) aR) :
 X1 Γ σ (.Assign [.Tuple es k p] (.Call (.Attribute (.Name x xp) "pop" ap) [] [] cp) pos) P:=by
 intro O s Q E t q
 refine Pp (EZ N t hi hσ) λm a ws as n hd' zz1 rs qs zz2 turn=>?_;obtain⟨c,hl⟩:=zz1;obtain⟨haO,_⟩:=zz2
 refine Cz (II rs) λws' v as' bs hws r1 r2 zz1=>?_;obtain rfl:=zz1
 have hsz:ws.size=ws'.length+1:=by rw[<-kh,hws];simp
 have hle:ws.size<=sizeLine:=by
  have:=Al r1
  rw[hsz,this,sizeLine_eq];rwa[hs,this]
 refine wB (mh (pl:=pl) (EY N n hd' (mK (T:="list") (Ac _ hl rfl) F.plainAttrs_list F.slot_list_pop F.type_list_pop (λb hb=>by cases hb;exact Ac _ hl rfl) ?_) hd) he) hss hw
 have hy:ws[ws.size-1]?=some v:=by
  rw[<-oH,hws,hsz];simp
 refine PySem.P.pop_list (y:=v) hl hy ?_ hle
 have hpl:∃k,(s.heap.update a (kB λxs=>xs.eraseIdxIfInBounds (ws.size-1))).get? a=some (seqObj "list" (ws.eraseIdxIfInBounds (ws.size-1)) k):=Ag _ (oP hl λxs=>xs.eraseIdxIfInBounds (ws.size-1))
 have hget:∀b,b≠a->∀o,s.heap.get? b=some o->(s.heap.update a (kB λxs=>xs.eraseIdxIfInBounds (ws.size-1))).get? b=some o:=λb hb o e=>(mj _ _ _ _ hb).trans e
 have hT:∀o,s.heap.get? a=some o->¬(o.cls=.type "tuple"/\∃vs n,o.data=.seq vs n):=by
  rintro o e' ⟨hc,_⟩
  (replace e':=CQ hl e';subst e');exact absurd (show jV "list"=jV "tuple" from hc) (by decide)
 have e:(ws.eraseIdxIfInBounds (ws.size-1)).toList=ws':=by
  rw[Array.eraseIdxIfInBounds,dif_pos (by omega),Array.toList_eraseIdx,hws,hsz]
  simp[List.eraseIdx_append_of_length_le]
 have na:∀b∈as'++bs,b≠a:=λb hb z=>qs b hb (z▸haO)
 refine Cg (turn _ s.toks _ ds as' hget hpl (by rw[e];exact Aq hget hT r1 λhm=>na a (lM _ hm) rfl) λb hb=>qs b (lM _ hb)) λt1 f1=>?_
 refine ha O _ v _ _ t1 (Ac bs (Bo hget hT r2 λhm=>na a (kO _ hm) rfl) λb hb=>qs b (kO _ hb)) λs2 a2 u2 t2=>?_
 exact q O .next .next _ s2 (f1.tr (Fx.ofBut t1 a2 u2 t2)) t2 rfl hP
end
noncomputable def Fq (t:A9):jO:=Qi t.1 t.2.1 t.2.2
noncomputable def fA (l:List A9):Prop:=l.Pairwise λx y=>x.1<y.1
theorem Zy{α:Type}(f:α->Int):∀{a b:List α},a.Perm b->a.Pairwise (λx y=>f x<f y)->b.Pairwise (λx y=>f x<f y)->a=b
 | [],b,p,_,_=>(List.nil_perm.mp p).symm
 | x::a,[],p,_,_=>by simpa using p.length_eq
 | x::a,y::b,p,ha,hb=>by
  obtain⟨hx,ha2⟩:=ow.mp ha
  obtain⟨hy,hb2⟩:=ow.mp hb
  have e:x=y:=by
   rcases jG.mp (p.mem_iff.mp (.head _)) with e|hxb
   ·exact e
   ·rcases jG.mp (p.mem_iff.mpr (.head _)) with e|hya
    ·exact e.symm
    ·have h1:=hy x hxb;have h2:=hx y hya;lia
  subst e
  rw[Zy f (List.perm_cons x |>.mp p) ha2 hb2]
section
variable {α:Type} (f:α->Int) (d0:α)
noncomputable def BN (ts:List α) (i:Nat):Int:=f (ts.getD i d0)
variable {ts ts':List α}
theorem Gx(p:ts.Perm ts')(ha:ts'.Pairwise λx y=>f x<f y):∀i j,i<ts.length->j<ts.length->BN f d0 ts i=BN f d0 ts j->i=j:=by
 have hn:(ts.map f).Nodup:=by
  rw[(p.map f).nodup_iff]
  unfold List.Nodup
  rw[pE]
  exact ha.imp λh=>by rwa[h]
 intro i j hi hj h
 unfold BN at h
 have e:∀k (hk:k<ts.length),f (ts.getD k d0)=(ts.map f)[k]'(by rw[jI];exact hk):=λk hk=>by simp[mU,hk]
 rw[e i hi,e j hj] at h
 have hp:=nB.mp hn
 rcases Nat.lt_trichotomy i j with hij|hij|hij
 ·exact absurd h (hp i j _ _ hij)
 ·exact hij
 ·exact absurd h.symm (hp j i _ _ hij)
theorem Wm(p:ts.Perm ts')(ha:ts'.Pairwise λx y=>f x<f y)(hn:¬ts.length<2):(D1 (CW (BN f d0 ts)) (kas_sort ts.length)).toList.map (λi=>ts.getD i d0)=ts':=by
 obtain⟨hp,hs⟩:=G5 (r:=BN f d0 ts) (n:=ts.length) (by rwa[hn]) (Gx f d0 p ha)
 generalize D1 (CW (BN f d0 ts)) (kas_sort ts.length)=q at hp hs
 have hq:q.size=ts.length:=by rw[hp.size_eq];simp
 refine Zy f ?_ ?_ ha
 ·refine vT ?_ p
  have h1:q.toList.Perm (kd ts.length):=by have:=hp.toList;simpa using this
  refine(h1.map _).trans ?_
  have:(kd ts.length).map (λi=>ts.getD i d0)=ts:=by
   refine wS (by simp) λk h1 h2=>?_
   simp[mU,h2]
  rw[this]
 ·rw[pE,nB]
  intro i j hi hj hij
  rw[kh] at hi hj
  have:=hs i j hij (by rwa[hq,hj])
  unfold RR BN at this
  have e:∀k (hk:k<q.size),q.getD k 0=q.toList[k]'(by rw[kh];exact hk):=λk hk=>by simp[wc,hk]
  rw[e i hi,e j hj] at this
  exact this
theorem Kn(g:α->jO){h:jY}{ws:List jB}{as:List jL}(rs:Ae h ws (ts.map g) as)(p:ts.Perm ts')(ha:ts'.Pairwise λx y=>f x<f y):∃as',Ae h (CE (BN f d0 ts) ws) (ts'.map g) as'/\∀b∈as',b∈as:=by
 have hlen:ws.length=ts.length:=by rw[Al rs,jI]
 unfold CE
 rw[hlen]
 by_cases h2:ts.length<2
 ·rw[if_pos h2]
  have:ts=ts':=by
   match ts,h2,p with
   | [],_,p=>exact p.nil_eq
   | [z],_,p=>exact(List.perm_singleton.mp p.symm).symm
  rw[<-this]
  exact Ac as rs λ_ h=>h
 ·rw[if_neg h2]
  refine Af (FF rs (D1 (CW (BN f d0 ts)) (kas_sort ts.length)).toList) λbs r1 q1=>?_
  obtain⟨hp,hs⟩:=G5 (r:=BN f d0 ts) (n:=ts.length) (by rwa[h2]) (Gx f d0 p ha)
  have hlt:∀k∈(D1 (CW (BN f d0 ts)) (kas_sort ts.length)).toList,k<ts.length:=λk hk=>by
   have h1:(D1 (CW (BN f d0 ts)) (kas_sort ts.length)).toList.Perm (kd ts.length):=by have:=hp.toList;simpa using this
   exact mr.mp (h1.mem_iff.mp hk)
  refine Ac bs ?_ q1
  have e1:∀(l:List Nat),(∀k∈l,k<ts.length)->l.filterMap (ws[·]?)=l.map λi=>ws.getD i jD:=λl hl=>by
   induction l with
   | nil=>rfl
   | cons k l ih=>
    have hk:=hl k (.head _)
    rw[wa,jP (by lia),kM,ih λk hk=>hl k (.tail _ hk)]
    simp[mU,show k<ws.length by rwa[hlen,hk]]
  have e2:∀(l:List Nat),(∀k∈l,k<ts.length)->l.filterMap ((ts.map g)[·]?)=(l.map λi=>ts.getD i d0).map g:=λl hl=>by
   induction l with
   | nil=>rfl
   | cons k l ih=>
    have hk:=hl k (.head _)
    rw[wa,jP (by rw[jI];rwa[hk]),kM,kM,ih λk hk=>hl k (.tail _ hk)]
    simp[mU,hk]
  rw[e1 _ hlt,e2 _ hlt,Wm f d0 p ha h2] at r1
  exact r1
end
noncomputable def t0:A9:=(0,0,0)
noncomputable def fT (t:A9):Int:=(t.1:Nat)
theorem Ob{h:jY}{ts:List A9}{ws:List jB}{as:List jL}(r:Ae h ws (ts.map Fq) as){i:Nat}(hi:i<ts.length):∃b o n ta tb tc,ws.getD i jD=.ref b/\b∈as/\h.get? b=some o/\o.cls=.ref CM/\o.data=.seq #[.int (ts.getD i t0).1 ta,.int (ts.getD i t0).2.1 tb,.int (ts.getD i t0).2.2 tc] n:=by
 delta h ts ws as i at r hi
 have hd:(ts.map Fq)[i]?=some (Fq (ts.getD i t0)):=by rw[j8];simp[mU,hi]
 refine BD (B4 r hd) λv bs e1 r1 q1=>?_
 unfold Fq Qi at r1
 cases r1 with
 | @mt a o vs n xs as e2 e3 e4 e5=>
  refine Cz (AK e5) λv1 w1 _ _ h1 ra rs1 zz1=>?_;obtain rfl:=zz1
  refine Cz (AK rs1) λv2 w2 _ _ zz1 rb rs2 zz2=>?_;obtain rfl:=zz1;obtain rfl:=zz2
  refine Cz (AK rs2) λv3 w3 _ _ zz1 rc rs3 zz2=>?_;obtain rfl:=zz1;obtain rfl:=zz2
  obtain rfl:=Bg rs3
  obtain⟨ta,rfl⟩:∃t,v1=.int (ts.getD i t0).1 t:=by cases ra;exact Ag _ rfl
  obtain⟨tb,rfl⟩:∃t,v2=.int (ts.getD i t0).2.1 t:=by cases rb;exact Ag _ rfl
  obtain⟨tc,rfl⟩:∃t,v3=.int (ts.getD i t0).2.2 t:=by cases rc;exact Ag _ rfl
  refine eP a o n ta tb tc (by rw[mU,e1];rfl) (q1 _ (.head _)) e2 e3 ?_
  rw[e4]
  congr 1
  apply nb.mp
  rw[h1]
section
variable {Γ:Cx} {σ:AX} {pos:mf} {P:AF->AX->Prop}
theorem VE{xG:jY}(hw:Γ.prog=pw)(K:Bn Γ.w xG)(hk:HK xG Γ.s₀)(room:A0 Γ.A 1)(N:Nm Γ)(i:Nat){x:jX}{xp ap cp:mf}{pl:vg Bool}{ts ts':List A9}(hσ:σ[i]?=some (some (.own (ts.map Fq))))(h64:ts.length<64)(p:ts.Perm ts')(ha:fA ts')(hP:P .next (σ.set i (some (.own (ts'.map Fq)))))
 (hi:autoParam (Γ.ns[i]?=some x) aR)(hd:autoParam ((x == ("__debug__":jX))=false) aK)(hin:autoParam (interactive Γ.env=false) aR)
 (he:autoParam (eval (.Call (.Attribute (.Name x xp) "sort" ap) [] [] cp) Γ.env=(do
  let ov<-eval (.Name x xp) Γ.env
  mQ ap.atName
  let (f,first)<-ml [ov] (nv ov "sort" pl)
  kX cp f first (backTo cp (starEach [] Γ.env)) [])) aR) :
 X1 Γ σ (.Expr (.Call (.Attribute (.Name x xp) "sort" ap) [] [] cp) pos) P:=by
 intro O s Q E t q
 refine Pp (EZ N t hi hσ) λm a ws as n hd' zz1 rs qs zz2 turn=>?_;obtain⟨c,hl⟩:=zz1;obtain⟨haO,ha0⟩:=zz2
 have na:∀b∈as,b≠a:=λb hb z=>qs b hb (z▸haO)
 have hlen:ws.toList.length=ts.length:=by rw[Al rs,jI]
 have ho:s.heap.get? a=some (seqObj "list" ws.toList.toArray c):=by rw[p0];exact hl
 have ha':ts'.Pairwise λx y=>fT x<fT y:=ha.imp λh=>by unfold fT;rwa[h]
 have hr:=Gx fT t0 p ha'
 have K3:Bn Γ.w (Dk s.heap a ws.toList):=K.keeps λb o e=>D9 (λz=>by have:=hk b o e;rw[z,ha0] at this;exact B6 this) (t.keep _ _ (hk b o e))
 refine nG (mh (pl:=pl) (EY N n hd' (mK (T:="list") (Ac _ hl rfl) F.plainAttrs_list F.slot_list_sort F.type_list_sort (λb hb=>by cases hb;exact Ac _ hl rfl) ?_) hd) he) hin
 refine PyProof.Rows.callWith_method0 ?_
 have hT:∀v∈ws.toList,mD (model pw Γ.w) (Dk s.heap a ws.toList) (typeOf v) (.ref CM):=λv hv=>by
  obtain⟨k,hk1,hk2⟩:=vR.mp hv
  refine WZ (Ob rs (i:=k) (by lia)) λb o n' ta tb tc e1 e2 e3 e4 e5=>?_
  rw[mU,jP hk1,hk2] at e1
  have e1:v=.ref b:=e1
  subst e1
  exact e4▸(oO (D9 (na b e2) e3)).andThen .now
 have OI:=λ(tk:Nat)=>turn ((Dk s.heap a ws.toList).update a (kB λ_=>(CE (BN fT t0 ts) ws.toList).toArray)) tk (CE (BN fT t0 ts) ws.toList).toArray (ts'.map Fq)
 obtain⟨e1,ho1⟩:∃e1,(Dk s.heap a ws.toList).get? a=some (seqObj "list" #[] e1):=Ag _ (jF _ (jF _ (oP ho λ_=>#[])))
 have hget:∀b,b≠a->∀o,s.heap.get? b=some o->((Dk s.heap a ws.toList).update a (kB λ_=>(CE (BN fT t0 ts) ws.toList).toArray)).get? b=some o:=λb hb o e=>(mj _ _ _ _ hb).trans (D9 hb e)
 have hTt:∀o,s.heap.get? a=some o->¬(o.cls=.type "tuple"/\∃vs n,o.data=.seq vs n):=by
  rintro o e' ⟨hc,_⟩
  (replace e':=CQ hl e';subst e');exact absurd (show jV "list"=jV "tuple" from hc) (by decide)
 refine Af (Kn fT t0 Fq rs p ha') λas' rs' hsub=>?_
 refine Cg (OI s.toks as' hget (Ag _ (oP ho1 λ_=>(CE (BN fT t0 ts) ws.toList).toArray)) (by rw[sG];exact Aq hget hTt rs' λhm=>na a (hsub a hm) rfl) λb hb=>qs b (hsub b hb)) λt1 f1=>?_
 refine lH slot_list_sort (Ac _ hl rfl) entry_list_sort ?_ (args_list_sort _)
 rw[hw]
 refine UK (r:=BN fT t0 ts) (T:=.ref CM) ho (by rwa[h64,hlen]) hT (by decide) (by rfl) (by rw[hlen];exact hr) (λi j C hi hj hC=>?_) (Ac .none rfl (q O .next .next _ _ f1 t1 rfl hP))
 refine WZ (Ob rs (i:=i) (by rwa[hlen,hi])) λb o n' ta tb tc g1 g2 g3 g4 g5=>?_
 refine WZ (Ob rs (i:=j) (by rwa[hlen,hj])) λb' o' n'' ta' tb' tc' g1' g2' g3' g4' g5'=>?_
 unfold kas_ask
 rw[g1,g1']
 refine eZ (w:=Γ.w) K3 (by have:=room.units;show Γ.A.units+1<cLine;rwa[this]) (D9 (na b g2) g3) g4 g5 (D9 (na b' g2') g3') g4' g5' ?_
 have:WE ((ts.getD i t0).1:Int) (ts.getD i t0).2.1 (ts.getD i t0).2.2 (ts.getD j t0).1 (ts.getD j t0).2.1 (ts.getD j t0).2.2=CW (BN fT t0 ts) i j:=by
  unfold WE CW
  by_cases hij:i=j
  ·subst hij
   simp
  ·have:BN fT t0 ts i≠BN fT t0 ts j:=λz=>hij (hr i j (by rwa[hlen,hi]) (by rwa[hlen,hj]) z)
   unfold BN fT at this
   rw[if_neg this]
   rfl
 rw[this]
 exact hC
end
theorem Um{a t k b f:Nat}(h:t+k<=b)(hk:¬k=0)(ha:a<=t)(hf:b-a<f+1):t-a<f:=by rwa[h,hk,ha,hf]
theorem Ul{a t k b f:Nat}(h:t+k<=b)(hk:¬k=0)(ha:a<=t)(hf:b-a<f+1):b-(t+k)<f:=by rwa[h,hk,ha,hf]
theorem N3{i R k a:Nat}(h:k<R)(h2:R<=i+1-a):i+1-R+k=i-(R-1-k):=by
 replace h2:=kL h2 (pY _ _)
 rwa[h,h2]
section
variable {α:Type} [DecidableEq α] (as bs:List α)
noncomputable def Y2:Nat->Nat->Nat->Nat->Nat->List A9
 | 0,_,_,_,_=>[]
 | f+1,alo,ahi,blo,bhi=>if(flm as bs alo blo bhi ahi).2.2=0 then [] else Y2 f alo (flm as bs alo blo bhi ahi).1 blo (flm as bs alo blo bhi ahi).2.1++[flm as bs alo blo bhi ahi]++
  Y2 f ((flm as bs alo blo bhi ahi).1+(flm as bs alo blo bhi ahi).2.2) ahi ((flm as bs alo blo bhi ahi).2.1+(flm as bs alo blo bhi ahi).2.2) bhi
theorem Oy:∀(f g alo ahi blo bhi:Nat),alo<=ahi->blo<=bhi->ahi-alo<f->ahi-alo<g->Y2 as bs f alo ahi blo bhi=Y2 as bs g alo ahi blo bhi
 | 0,_,_,_,_,_,_,_,h,_=>absurd h (ql _)
 | _+1,0,_,_,_,_,_,_,_,h=>absurd h (ql _)
 | f+1,g+1,alo,ahi,blo,bhi,hi,hj,h1,h2=>by
  unfold Y2
  obtain⟨a,b,c,d,_,_⟩:=F8 as bs alo blo bhi hi hj
  generalize flm as bs alo blo bhi ahi=t at *
  split
  ·rfl
  ·rename_i z
   rw[Oy f g alo t.1 blo t.2.1 a c (Um b z a h1) (Um b z a h2),Oy f g (t.1+t.2.2) ahi (t.2.1+t.2.2) bhi b d (Ul b z a h1) (Ul b z a h2)]
noncomputable def bl (alo ahi blo bhi:Nat):List A9:=Y2 as bs (ahi-alo+1) alo ahi blo bhi
theorem Xw{alo ahi blo bhi:Nat}(hi:alo<=ahi)(hj:blo<=bhi):bl as bs alo ahi blo bhi=if(flm as bs alo blo bhi ahi).2.2=0 then [] else bl as bs alo (flm as bs alo blo bhi ahi).1 blo (flm as bs alo blo bhi ahi).2.1++[flm as bs alo blo bhi ahi]++
 bl as bs ((flm as bs alo blo bhi ahi).1+(flm as bs alo blo bhi ahi).2.2) ahi ((flm as bs alo blo bhi ahi).2.1+(flm as bs alo blo bhi ahi).2.2) bhi:=by
 unfold bl
 rw[Y2]
 obtain⟨a,b,c,d,_,_⟩:=F8 as bs alo blo bhi hi hj
 generalize flm as bs alo blo bhi ahi=t at *
 split
 ·rfl
 ·rename_i z
  rw[Oy as bs (ahi-alo) (t.1-alo+1) alo t.1 blo t.2.1 a c (Um b z a (mi _)) (mi _),Oy as bs (ahi-alo) (ahi-(t.1+t.2.2)+1) (t.1+t.2.2) ahi (t.2.1+t.2.2) bhi b d (Ul b z a (mi _)) (mi _)]
theorem Uq{alo ahi blo bhi:Nat}(hi:alo<=ahi)(hj:blo<=bhi)(h:alo=ahi\/blo=bhi):bl as bs alo ahi blo bhi=[]:=by
 rw[Xw as bs hi hj,if_pos]
 obtain⟨a,b,c,d,_,_⟩:=F8 as bs alo blo bhi hi hj
 rcases h with h|h<;>lia
structure Hx (alo ahi blo bhi:Nat) (l:List A9):Prop where
 pos:∀t∈l,0<t.2.2
 inn:∀t∈l,alo<=t.1/\t.1+t.2.2<=ahi/\blo<=t.2.1/\t.2.1+t.2.2<=bhi
 eqs:∀t∈l,∀k,k<t.2.2->Dt as bs (t.1+k) (t.2.1+k)
 ord:l.Pairwise λx y=>x.1+x.2.2<=y.1/\x.2.1+x.2.2<=y.2.1/\¬(x.1+x.2.2=y.1/\x.2.1+x.2.2=y.2.1)
theorem IG(alo blo:Nat):∀{i j k:Nat},alo<=i->blo<=j->k<AY as bs alo blo i j->Dt as bs (i-k) (j-k)
 | 0,j,k,hi,hj,h=>by
  rw[Dg] at h
  split at h
  ·rename_i he
   split at h
   ·lia
   ·obtain rfl:k=0:=by rwa[h]
    exact he
  ·lia
 | i+1,j,k,hi,hj,h=>by
  rw[Dg] at h
  split at h
  ·rename_i he
   cases k with
   | zero=>exact he
   | succ k=>
    split at h
    ·rename_i hw
     rw[td] at h
     have:=IG alo blo (i:=i) (j:=j-1) (k:=k) (by rwa[hi,hw]) (by rwa[hj,hw]) (by rwa[h])
     rw[show i+1-(k+1)=i-k by rwa[],show j-(k+1)=j-1-k by rwa[]]
     exact this
    ·lia
  ·lia
theorem YQ{alo ahi blo bhi k:Nat}(h:k<(flm as bs alo blo bhi ahi).2.2):Dt as bs ((flm as bs alo blo bhi ahi).1+k) ((flm as bs alo blo bhi ahi).2.1+k):=by
 rcases(Pk as bs alo blo bhi ahi).is with e|⟨i,j,⟨h1,h2,h3⟩,h4,e⟩
 ·rw[e] at h;exact absurd h (ql _)
 ·rw[e] at h ⊢
  dsimp only at h ⊢
  refine C1 ((CZ as bs blo bhi).mp h3) λ_ h6 _=>?_
  obtain⟨l1,l2⟩:=Fl as bs alo blo h1 h6
  have:=IG as bs alo blo (i:=i) (j:=j) (k:=AY as bs alo blo i j-1-k) h1 h6 (nq (pY _ _) (Nat.sub_lt (Nat.zero_lt_of_lt h) v5))
  rw[N3 h l1,N3 h l2]
  exact this
theorem Ox:∀(f alo ahi blo bhi:Nat),ahi-alo<f->alo<=ahi->blo<=bhi->Hx as bs alo ahi blo bhi (bl as bs alo ahi blo bhi)
 | 0,_,_,_,_,h,_,_=>absurd h (ql _)
 | f+1,alo,ahi,blo,bhi,h,hi,hj=>by
  rw[Xw as bs hi hj]
  obtain⟨a,b,c,d,e1,e2⟩:=F8 as bs alo blo bhi hi hj
  have eq:=λk=>YQ as bs (alo:=alo) (ahi:=ahi) (blo:=blo) (bhi:=bhi) (k:=k)
  generalize flm as bs alo blo bhi ahi=t at *
  split
  ·exact⟨λ_ h=>(nomatch h),λ_ h=>(nomatch h),λ_ h=>(nomatch h),.nil⟩
  ·rename_i hz
   obtain⟨p1,q1,r1,s1⟩:=Ox f alo t.1 blo t.2.1 (Um b hz a h) a c
   obtain⟨p2,q2,r2,s2⟩:=Ox f (t.1+t.2.2) ahi (t.2.1+t.2.2) bhi (Ul b hz a h) b d
   have mem:∀x,x∈bl as bs alo t.1 blo t.2.1++[t]++bl as bs (t.1+t.2.2) ahi (t.2.1+t.2.2) bhi->x∈bl as bs alo t.1 blo t.2.1\/x=t\/x∈bl as bs (t.1+t.2.2) ahi (t.2.1+t.2.2) bhi:=λx hx=>by
    simpa[or_assoc] using hx
   refine⟨λx hx=>?_,λx hx=>?_,λx hx=>?_,?_⟩
   ·rcases mem x hx with h|rfl|h
    ·exact p1 x h
    ·exact Nat.pos_of_ne_zero hz
    ·exact p2 x h
   ·rcases mem x hx with h|rfl|h
    ·exact CU (q1 x h) λu v w y=>⟨u,kL v (kL (lY _ _) b),w,kL y (kL (lY _ _) d)⟩
    ·exact⟨a,b,c,d⟩
    ·exact CU (q2 x h) λu v w y=>⟨kL a (kL (lY _ _) u),v,kL c (kL (lY _ _) w),y⟩
   ·rcases mem x hx with h|rfl|h
    ·exact r1 x h
    ·exact eq
    ·exact r2 x h
   ·rw[nK,nK]
    refine⟨⟨s1,nX _ _,λx hx y hy=>?_⟩,s2,λx hx y hy=>?_⟩
    ·rw[jH.mp hy]
     have h1:=q1 x hx
     have h2:=p1 x hx
     refine⟨h1.2.1,h1.2.2.2,λEM=>Cg EM λh3 h4=>?_⟩
     have:=r1 x hx (x.2.2-1) (Nat.sub_lt h2 v5)
     rw[<-wM h2,<-wM h2,h3,h4] at this
     exact e1 (h3▸nq h1.1 (pt h2)) (h4▸nq h1.2.2.1 (pt h2)) this
    ·have h1:=q2 y hy
     have h2:=p2 y hy
     rcases jU.mp hx with hx|hx
     ·have h3:=q1 x hx
      have k1:=kL h3.2.1 (kL (lY t.1 t.2.2) h1.1)
      refine⟨k1,kL h3.2.2.2 (kL (lY _ _) h1.2.2.1),λEM=>Cg EM λh4 _=>hz ?_⟩
      exact Nat.eq_zero_of_le_zero (Nat.le_of_add_le_add_left (a:=t.1) (kL h1.1 (h4▸h3.2.1)))
     ·rw[jH.mp hx]
      refine⟨h1.1,h1.2.2.1,λEM=>Cg EM λh3 h4=>?_⟩
      have:=r2 y hy 0 h2
      rw[tE,tE,<-h3,<-h4] at this
      exact e2 (h3▸mP (pt h2) h1.2.1) (h4▸mP (pt h2) h1.2.2.2) this
theorem Hx.asc{alo ahi blo bhi:Nat}{l:List A9}(r:Hx as bs alo ahi blo bhi l):fA l:=by
 have:l.Pairwise λx y=>x∈l/\(x.1+x.2.2<=y.1/\x.2.1+x.2.2<=y.2.1/\¬(x.1+x.2.2=y.1/\x.2.1+x.2.2=y.2.1)):=List.Pairwise.and_mem.mp r.ord |>.imp λh=>⟨h.1,h.2.2⟩
 exact this.imp λ{x y} ⟨hm,h⟩=>by have:=r.pos x hm;lia
theorem Hx.len{alo ahi blo bhi:Nat}:∀{l:List A9},Hx as bs alo ahi blo bhi l->l.length<=ahi-alo
 | [],_=>kf _
 | t::l,r=>by
  obtain⟨p,q,e,o⟩:=r
  have h1:=q t (.head _)
  have h2:=p t (.head _)
  have o':=ow.mp o
  have r':Hx as bs (t.1+t.2.2) ahi blo bhi l:=⟨λx hx=>p x (.tail _ hx),λx hx=>by have:=q x (.tail _ hx);have:=(o'.1 x hx).1;(rename_i z0;rwa[z0,this]),λx hx=>e x (.tail _ hx),o'.2⟩
  have:=Hx.len r'
  rw[j7]
  rwa[h1,h2,this]
noncomputable abbrev Vw:=Nat×Nat×Nat×Nat
noncomputable def Vs (q:Vw):List A9:=bl as bs q.1 q.2.1 q.2.2.1 q.2.2.2
noncomputable def FY (q:Vw):jO:=.tuple [.int q.1,.int q.2.1,.int q.2.2.1,.int q.2.2.2]
noncomputable def Od:List Vw->Nat
 | []=>0
 | q::qs=>2*(q.2.1-q.1)+1+Od qs
theorem Em:∀(a b:List Vw),Od (a++b)=Od a+Od b
 | [],b=>by simp[Od]
 | q::a,b=>by rw[tQ,Od,Od,Em a b];rwa[]
theorem Oc:∀(a:List Vw),a.length<=Od a
 | []=>kf _
 | q::a=>by have:=Oc a;rw[j7,Od];rwa[this]
end
noncomputable def fW (w:jW) (as bs:List jX) (I:jL) (h:jY) (v:jB) (pl:List jL):Prop:=v=.ref I/\RM w as bs h v pl
theorem DH(w:jW)(as bs:List jX)(I:jL):Fg (fW w as bs I):=
 ⟨λ⟨e,r⟩ k t=>⟨e,(D5 w as bs).keepBy r k t⟩,λEM=>Cg EM λe r=>(D5 w as bs).solid r⟩
noncomputable abbrev HN (w:jW) (as bs:List jX) (I:jL):Option Bd:=some (.val (.st (fW w as bs I) (DH w as bs I)))
section
variable {Γ:Cx} {σ:AX} {P:AF->AX->Prop} {pos:mf}
theorem X2(N:Nm Γ){O:Ap}{s:jE}{i:Nat}{x:jX}{a:AV}{v:jB}(t:St Γ O σ s)(hi:Γ.ns[i]?=some x)(h:σ[i]?=some (some (.val (.raw v))))(r:VR O s.heap a v):St Γ O (σ.set i (some (.val a))) s:=by
 delta Γ σ O s at N i x a v t hi h r
 obtain⟨kp,⟨m,n,vs⟩,cl,nd,lv,sb,fr,fs⟩:=t
 refine Af (vs i x _ hi h) λu hd hu=>?_
 obtain rfl:u=v:=hu
 have hlt:i<σ.length:=(jK.mp h).1
 refine⟨kp,(Ac m n λj y b e e'=>?_),cl,nd,lv,sb,fr,fs⟩
 by_cases hj:j=i
 ·subst hj
  (replace e:=CQ hi e;subst e)
  rw[lN hlt] at e'
  cases e'
  exact Ac u hd r
 ·rw[lO (ll hj)] at e'
  exact vs j y b e e'
variable {w:jW} {as bs:List jX} {I:jL} {xG:jY}
theorem I7{x y:jX}{sp ap:mf}{a:AV}(hw:Γ.prog=pw)(K:Bn Γ.w xG)(hk:HK xG Γ.s₀)(is:Nat)(hσ:σ[is]?=some (HN Γ.w as bs I))
 (hv:∀(h:jY) (la lb dj sj:jL) (m:jX->Option jB) (pl ls:List jL) (O:Ap) ,fv m la lb dj sj->Ak h (.ref la) (.list (as.map .str)) [la]->Ak h (.ref lb) (.list (bs.map .str)) [lb]->¬O.has la->¬O.has lb->∃v,m x=some v/\handedIn v=true/\VR O h a v)
 (hi:autoParam (Γ.ns[is]?=some y) aR)(hkf:autoParam (Γ.env.scope.kind=.function) aR)(hd:autoParam ((y == ("__debug__":jX))=false) aK)(ha:autoParam (vv (KK Γ.w.params) (.ref CS) x=some none) aK)
 (he:autoParam (eval ((ku y sp).Attribute x ap) Γ.env=(do
  let o<-eval (ku y sp) Γ.env
  mQ ap.atName
  let r<-ml [o] (pU o x true)
  letTemporaryGo (ku y sp) o r
  pure r)) aR):Ev Γ σ (.Attribute (.Name y sp) x ap) a:=by
 intro O s Q E t q
 have Ks:Bn Γ.w s.heap:=K.keeps λb o e=>t.keep _ _ (hk b o e)
 refine sF (EX is t (λv rv=>?_) hi hσ hkf hd) he
 refine Af rv λpl zz1 hO=>?_;obtain⟨rfl,I',D,m,k,la,lb,dj,sj,led,ls,hI,rfl,i,mo,ra,rb,rj,es⟩:=zz1
 cases hI
 refine Bu (hv s.heap la lb dj sj m [] [] O mo ra rb (hO la (by simp)) (hO lb (by simp))) λv e1 e2 e3=>?_
 rw[hw]
 exact Rh Ks i e1 (q _ _ (t.keeps λ_ _ e=>e) Keeps.rfl' e3) e2 ha
theorem Xa{y:jX}{sp ap:mf}(hw:Γ.prog=pw)(K:Bn Γ.w xG)(hk:HK xG Γ.s₀)(is:Nat)(hσ:σ[is]?=some (HN Γ.w as bs I))(hi:autoParam (Γ.ns[is]?=some y) aR)(hkf:autoParam (Γ.env.scope.kind=.function) aR)(hd:autoParam ((y == ("__debug__":jX))=false) aK)
 (he:autoParam (eval ((ku y sp).Attribute "a" ap) Γ.env=(do
  let o<-eval (ku y sp) Γ.env
  mQ ap.atName
  let r<-ml [o] (pU o "a" true)
  letTemporaryGo (ku y sp) o r
  pure r)) aR):Ev Γ σ (.Attribute (.Name y sp) "a" ap) (.py (.list (as.map .str))):=
 I7 hw K hk is hσ (λh la lb dj sj m pl ls O mo ra rb h1 h2=>⟨_,mo.a,rfl,[la],ra,λa ha=>by rw[jH.mp ha];exact h1⟩) hi hkf hd (by kernel_rfl) he
theorem W9{y:jX}{sp ap:mf}(hw:Γ.prog=pw)(K:Bn Γ.w xG)(hk:HK xG Γ.s₀)(is:Nat)(hσ:σ[is]?=some (HN Γ.w as bs I))(hi:autoParam (Γ.ns[is]?=some y) aR)(hkf:autoParam (Γ.env.scope.kind=.function) aR)(hd:autoParam ((y == ("__debug__":jX))=false) aK)
 (he:autoParam (eval ((ku y sp).Attribute "b" ap) Γ.env=(do
  let o<-eval (ku y sp) Γ.env
  mQ ap.atName
  let r<-ml [o] (pU o "b" true)
  letTemporaryGo (ku y sp) o r
  pure r)) aR):Ev Γ σ (.Attribute (.Name y sp) "b" ap) (.py (.list (bs.map .str))):=
 I7 hw K hk is hσ (λh la lb dj sj m pl ls O mo ra rb h1 h2=>⟨_,mo.b,rfl,[lb],rb,λa ha=>by rw[jH.mp ha];exact h2⟩) hi hkf hd (by kernel_rfl) he
theorem W8{y:jX}{sp ap:mf}(hw:Γ.prog=pw)(K:Bn Γ.w xG)(hk:HK xG Γ.s₀)(is:Nat)(hσ:σ[is]?=some (HN Γ.w as bs I))(hi:autoParam (Γ.ns[is]?=some y) aR)(hkf:autoParam (Γ.env.scope.kind=.function) aR)(hd:autoParam ((y == ("__debug__":jX))=false) aK)
 (he:autoParam (eval ((ku y sp).Attribute "matching_blocks" ap) Γ.env=(do
  let o<-eval (ku y sp) Γ.env
  mQ ap.atName
  let r<-ml [o] (pU o "matching_blocks" true)
  letTemporaryGo (ku y sp) o r
  pure r)) aR):Ev Γ σ (.Attribute (.Name y sp) "matching_blocks" ap) (.raw .none):=
 I7 hw K hk is hσ (λh la lb dj sj m pl ls O mo ra rb h1 h2=>Ba _ mo.mb rfl rfl) hi hkf hd (by kernel_rfl) he
theorem aE{mg mb:jX->Option jB}{y:jX}{sp ap cp:mf}{e1 e2 e3 e4:kH}{pl:vg Bool}(hw:Γ.prog=pw)(K:Bn Γ.w xG)(T:Br mg mb xG)(hgM:mg "Match"=some (.ref CM))(hk:HK xG Γ.s₀)(room:A0 Γ.A 3)(is:Nat)(hσ:σ[is]?=some (HN Γ.w as bs I))
 (alo ahi blo bhi:Nat)(hi':alo<=ahi)(hj':blo<=bhi)(hA:ahi<=as.length)(hB:bhi<=bs.length)(lA:as.length<=100)(lB:bs.length<=100)
 (h1:Ev Γ σ e1 (.py (.int alo)))(h2:Ev Γ σ e2 (.py (.int ahi)))(h3:Ev Γ σ e3 (.py (.int blo)))(h4:Ev Γ σ e4 (.py (.int bhi)))
 (hi:autoParam (Γ.ns[is]?=some y) aR)(hkf:autoParam (Γ.env.scope.kind=.function) aR)(hd:autoParam ((y == ("__debug__":jX))=false) aK)(p1:autoParam (AE e1=true) aR)(p2:autoParam (AE e2=true) aR)(p3:autoParam (AE e3=true) aR)(p4:autoParam (AE e4=true) aR)
 (he:autoParam (eval (.Call (.Attribute (.Name y sp) "find_longest_match" ap) [e1,e2,e3,e4] [] cp) Γ.env=(do
  let ov<-eval (.Name y sp) Γ.env
  mQ ap.atName
  let (f,first)<-ml [ov] (nv ov "find_longest_match" pl)
  kX cp f first (backTo cp (starEach [e1,e2,e3,e4] Γ.env)) [])) aR) :
 Ev Γ σ (.Call (.Attribute (.Name y sp) "find_longest_match" ap) [e1,e2,e3,e4] [] cp) (.py (Fq (flm as bs alo blo bhi ahi))):=by
 intro O s Q E t q
 have Ks:Bn Γ.w s.heap:=K.keeps λb o e=>t.keep _ _ (hk b o e)
 refine mh (pl:=pl) (EX is t (λv rv=>?_) hi hσ hkf hd) he
 have rv':=rv
 refine Af rv' λpls zz1 hO=>?_;obtain⟨rfl,I',D,m,k,la,lb,dj,sj,led,ls,hI,rfl,i,mo,ra,rb,rj,es⟩:=zz1
 cases hI
 rw[hw]
 refine Ep (f:=196) Ks i mo.flm ?_
 refine tX (K:=KK Γ.w.params) Ks.k (by kernel_rfl) ?_ (by
  show starEach (e1::[e2,e3,e4]) Γ.env=_
  exact CC p1) ?_
 ·have ev:=Ab h1 (Ab h2 (Ab h3 (Ab h4 Ah p4) p3) p2) p1 O s cp
  rw[hw] at ev
  refine ev _ _ t λvs s3 t3 k3 r3=>?_
  have K3:Bn Γ.w s3.heap:=K.keeps λb o e=>t3.keep _ _ (hk b o e)
  refine⟨K3.k,?_⟩
  have rv3:VR O s3.heap (.st (RM Γ.w as bs) (D5 Γ.w as bs)) (.ref I):=by
   refine Af rv λpls zz1 hO=>?_;obtain⟨_,r⟩:=zz1
   exact Ac pls ((D5 Γ.w as bs).keeps r (Ax k3)) hO
  exact aw K T hgM alo ahi blo bhi hi' hj' hA hB lA lB Γ.A O s3 (.ref I::vs) [] Q E room (λb o e=>t3.keep _ _ (hk _ _ e)) t3.ownOk ⟨rv3,r3⟩ trivial λv s4 k4 r4=>q v s4 (t3.of_keeps k4) (Keeps.tr k3 k4) r4
 ·exact Bh (by simp[p2,p3,p4])
end
theorem GL(env:xy):∀(a b:List l9),execs (a++b) env=(do match<-execs a env with | .next=>execs b env|f=>pure f)
 | [],b=>by rw[ph,execs_nil,pure_bind]
 | st::a,b=>by
  rw[tQ,execs_cons,execs_cons,bind_assoc]
  congr 1
  funext f
  cases f with
  | next=>exact GL env a b
  | _=>rw[pure_bind]
section
variable {Γ:Cx} {σ:AX} {P:AF->AX->Prop} {pos:mf}
theorem N4{O:Ap}{s:jE}{pre post:List l9}{R:AX->Prop}{Q:uR->jE->Prop}{E:jB->jE->Prop}(t:St Γ O σ s)(h:Ex Γ σ pre λaf σ'=>af=.next/\R σ')
 (q:∀O' σ' s',Fx Γ O s O' s'->St Γ O' σ' s'->R σ'->wpAny (model Γ.prog Γ.w) Γ.A (execs post Γ.env) Q E s'):wpAny (model Γ.prog Γ.w) Γ.A (execs (pre++post) Γ.env) Q E s:=by
 rw[GL]
 refine jA (h O s _ E t λO' fl af σ' s' f t' fr p=>?_)
 obtain⟨rfl,r⟩:=p
 obtain rfl:fl=.next:=fr
 exact q O' σ' s' f t' r
theorem ZS(N:Nm Γ)(i:Nat){x:jX}{p:mf}{ds:List jO}(hσ:σ[i]?=some (some (.own ds)))(hs:ds.length<=100000)(hi:autoParam (Γ.ns[i]?=some x) aR)(hd:autoParam ((x == ("__debug__":jX))=false) aK)
 (he:autoParam (isTrue (.Name x p) Γ.env (eval (.Name x p) Γ.env)=(do let v<-eval (.Name x p) Γ.env;mQ (ku x p).pos;ml [v] (truthy v))) aR):Tv Γ σ (.Name x p) (!ds.isEmpty):=by
 intro O s Q E t q
 refine Pp (EZ N t hi hσ) λm a ws as n hd' zz1 rs qs _ _=>?_;obtain⟨c,hl⟩:=zz1
 have hlen:ws.size=ds.length:=by rw[<-kh,Al rs]
 refine oJ (EY N n hd' ?_ hd) he
 refine wpAny_truthy_list (l:=a) (items:=ws) ⟨_,hl,rfl,_,rfl⟩ (by rwa[hs,hlen]) ?_
 have:(!ds.isEmpty)=!ws.isEmpty:=by
  rw[Array.isEmpty,hlen];cases ds<;>rfl
 rw[this] at q
 exact q _ (t.keeps λ_ _ e=>e) Keeps.rfl'
theorem Uy(N:Nm Γ)(i j k:Nat){x y z:jX}{px py pz:mf}{e:kH}{d:jO}(h:Ev Γ σ e (.py d))(hP:P .next (((σ.set i (some (.val (.py d)))).set j (some (.val (.py d)))).set k (some (.val (.py d)))))
 (hi:autoParam (Γ.ns[i]?=some x) aR)(hj:autoParam (Γ.ns[j]?=some y) aR)(hk:autoParam (Γ.ns[k]?=some z) aR)(li:autoParam (i<σ.length) aN)(lj:autoParam (j<σ.length) aN)(lk:autoParam (k<σ.length) aN)
 (ki:autoParam (Γ.env.kindOf x=some .local) aR)(kj:autoParam (Γ.env.kindOf y=some .local) aR)(kk:autoParam (Γ.env.kindOf z=some .local) aR)
 (h2:autoParam (qK (λx=>x.snd) (assignEach [ku x px,ku y py,ku z pz] Γ.env)=[assign (ku x px) Γ.env,assign (ku y py) Γ.env,assign (ku z pz) Γ.env]) aR)
 (hsw:autoParam (nt [ku x px,ku y py,ku z pz] e Γ.env=pure none) aR):X1 Γ σ (.Assign [.Name x px,.Name y py,.Name z pz] e pos) P:=by
 intro O s Q E t q
 have av:∀{s s':jE} {σ:AX} {v:jB},St Γ O σ s->VR O s.heap (.py d) v->(∀b o,b≠Γ.env.locals->s.heap.get? b=some o->s'.heap.get? b=some o)->VR O s'.heap (.py d) v:=λt r u=>VR.avoid (O:=O) r (t.sub _ t.frame) (λb hb o e=>u b o hb e) (by refine Af t.ex λm n _=>?_;exact A5 n)
 refine wpAny_Assign_three (h O s _ E t λv s1 t1 k1 r1=>?_) h2 hsw
 refine lI (AG N (b:=.val (.py d)) hi li ki t1 r1 λs2 a2 u2 t2=>?_)
 have r2:=av t1 r1 u2
 refine lI (AG N (b:=.val (.py d)) hj (by rw[nJ];exact lj) kj t2 r2 λs3 a3 u3 t3=>?_)
 have r3:=av t2 r2 u3
 refine lI (AG N (b:=.val (.py d)) hk (by rw[nJ,nJ];exact lk) kk t3 r3 λs4 a4 u4 t4=>?_)
 exact q O .next .next _ s4 ((((Fx.of_keeps k1).tr (Fx.ofBut t1 a2 u2 t2)).tr (Fx.ofBut t2 a3 u3 t3)).tr (Fx.ofBut t3 a4 u4 t4)) t4 rfl hP
end
noncomputable def ZC:List jX:=["self","la","lb","queue","matching_blocks","alo","ahi","blo","bhi","i","j","k","x","i1","j1","k1","non_adjacent","i2","j2","k2"]
theorem d3(P:jC):Bf (Bq (Dp P)) (Am (BB 5 7)) ["self"] ZC:=.of' rfl rfl rfl (by decide +kernel)
theorem Y4(P:jC)(u:jB):l3 (Bq (Dp P)) ⟨[u],[]⟩=pure [((jz "self"),u)]:=by rfl
noncomputable abbrev fM (w:jW) (A:kA) (s₀ s:jE) (O:Ap):Cx:=CF pw w A s₀ s (Bq (Dp w.params)) 203 ZC O
noncomputable abbrev GC (w:jW) (as bs:List jX) (I:jL) (n m:Nat) (qu mb alo ahi blo bhi i j k x i1 j1 k1 na i2 j2 k2:Option Bd):AX:=
 [HN w as bs I,pI n,pI m,qu,mb,alo,ahi,blo,bhi,i,j,k,x,i1,j1,k1,na,i2,j2,k2]
noncomputable def Bx:Option Bd->Bool
 | some (.val (.py _))=>true
 | none=>true
 | _=>false
structure PO (n m:Nat) (q:Vw):Prop where
 i:q.1<=q.2.1
 i':q.2.1<=n
 j:q.2.2.1<=q.2.2.2
 j':q.2.2.2<=m
noncomputable def ZZ (st:l9) (i:Nat):l9:=((Am st).drop i).headD (.Pass ⟨0,0,0,0⟩)
noncomputable def ja:l9->List l9
 | .While _ b _ _=>b
 | _=>[]
noncomputable def jp:l9->List l9
 | .If _ b _ _=>b
 | _=>[]
theorem UR{α:Type}{mb a l r w:List α}{t:α}(p:(mb++(a++(l++[t]++r))).Perm w):((mb++[t])++(a++l++r)).Perm w:=by
 refine vT ?_ p
 rw[l5]
 refine uL mb ?_
 have:(a++(l++[t]++r))=(a++l)++([t]++r):=by simp
 rw[this]
 have h:=(vG (l₁:=a++l) (l₂:=[t])).append_right r
 simpa using h.symm
theorem U4{w:jW}{A:kA}{s₀ s:jE}{O:Ap}{as bs:List jX}{I:jL}{mg mb:jX->Option jB}{xG:jY}(K:Bn w xG)(T:Br mg mb xG)(hgM:mg "Match"=some (.ref CM))(hk:HK xG s₀)
 (N:Nm (fM w A s₀ s O))(room:A0 (A.deeper (callEnvC (Bq (Dp w.params)) s.heap.objs.size 203)) 3)(lA:as.length<=63)(lB:bs.length<=63)(P:AF->AX->Prop)
 (hP:∀(m:List A9) (a b c d i j k x:Option Bd),m.Perm (bl as bs 0 as.length 0 bs.length)->Bx a=true->Bx b=true->Bx c=true->Bx d=true->Bx i=true->Bx j=true->Bx k=true->Bx x=true->
  P .next (GC w as bs I as.length bs.length (some (.own [])) (some (.own (m.map Fq))) a b c d i j k x none none none none none none none)) :
 X1 (fM w A s₀ s O) (GC w as bs I as.length bs.length (some (.own [FY (0,as.length,0,bs.length)])) (some (.own [])) none none none none none none none none none none none none none none none) (ZZ (BB 5 7) 5) P:=by
 delta w A s₀ s O as bs I mg mb xG P at K T hgM hk N room lA lB hP
 have hh:(fM w A s₀ s O).A.handled=none:=room.handled
 refine Ef (n:=Od [(0,as.length,0,bs.length)]) (λn σ=>∃(qs:List Vw) (m:List A9) (a b c d i j k x:Option Bd),n=Od qs/\n<=200/\(∀q∈qs,PO as.length bs.length q)/\(m++qs.flatMap (Vs as bs)).Perm (bl as bs 0 as.length 0 bs.length)/\Bx a=true/\Bx b=true/\Bx c=true/\Bx d=true/\Bx i=true/\Bx j=true/\Bx k=true/\Bx x=true/\
  σ=GC w as bs I as.length bs.length (some (.own (qs.map FY))) (some (.own (m.map Fq))) a b c d i j k x none none none none none none none) ?_ ?_
 ·refine⟨[(0,as.length,0,bs.length)],[],none,none,none,none,none,none,none,none,rfl,?_,?_,?_,rfl,rfl,rfl,rfl,rfl,rfl,rfl,rfl,rfl⟩
  ·show 2*(as.length-0)+1+0<=200;rwa[lA]
  ·intro q hq
   rw[jH.mp hq]
   exact⟨kf _,jN _,kf _,jN _⟩
  ·rw[ph,lq,nZ,kF]
   exact List.Perm.refl _
 rintro n σ1 ⟨qs,m,a,b,c,d,i,j,k,x,rfl,hn,hok,hp,ha,hb,hc,hd,hi,hj,hk',hx,rfl⟩
 have hql:=Oc qs
 have hml:m.length<=100:=by
  have h1:=hp.length_eq
  have h2:=(Ox as bs (as.length+1) 0 as.length 0 bs.length (by rwa[]) (kf _) (kf _)).len
  rw[jZ] at h1
  rwa[lA,h1,h2]
 refine Ba (!(qs.map FY).isEmpty) (ZS N 3 rfl (by rw[jI];rwa[hn,hql])) (λhne=>?_) λhe=>?_
 rotate_left
 ·have:qs=[]:=by cases qs with|nil=>rfl|cons=>simp at he
  subst this
  refine Aj (hP m a b c d i j k x ?_ ha hb hc hd hi hj hk' hx)
  simpa using hp
 rcases List.eq_nil_or_concat qs with rfl|⟨qs',q,rfl⟩
 ·simp at hne
 rw[List.concat_eq_append] at *
 obtain⟨o1,o2,o3,o4⟩:=hok q (by simp)
 have hmea:Od (qs'++[q])=Od qs'+(2*(q.2.1-q.1)+1):=by rw[Em];rfl
 have hql':=Oc qs'
 have hmap:(qs'++[q]).map FY=qs'.map FY++[FY q]:=by rw[kz];rfl
 rw[mF,lq,nZ,kF] at hp
 have hbl:Vs as bs q=_:=Xw as bs o1 o3
 obtain⟨f1,f2,f3,f4,_,_⟩:=F8 as bs q.1 q.2.2.1 q.2.2.2 o1 o3
 refine Ad (ZO N 3 (ds:=qs'.map FY) (d:=FY q) (by rw[hmap];rfl) (by rw[jI];rwa[hn,hmea,hql']) (BV N hh [5,6,7,8] (ds:=[_,_,_,_]) ⟨rfl,rfl,rfl,rfl,rfl,rfl,rfl,rfl,trivial⟩) ?_)
 refine Ad (Uw N 12 (aE rfl K T hgM hk room 0 rfl q.1 q.2.1 q.2.2.1 q.2.2.2 o1 o3 o2 o4 (by rwa[lA]) (by rwa[lB]) (Aa 5) (Aa 6) (Aa 7) (Aa 8)) (XB rfl K hk N hh [9,10,11] ⟨rfl,rfl,rfl,rfl,rfl,rfl,trivial⟩) ?_)
 have e1:bl as bs q.1 (flm as bs q.1 q.2.2.1 q.2.2.2 q.2.1).1 q.2.2.1 (flm as bs q.1 q.2.2.1 q.2.2.2 q.2.1).2.1=([(q.1,(flm as bs q.1 q.2.2.1 q.2.2.2 q.2.1).1,q.2.2.1,(flm as bs q.1 q.2.2.1 q.2.2.2 q.2.1).2.1)]:List Vw).flatMap (Vs as bs):=by simp[Vs]
 generalize ht:flm as bs q.1 q.2.2.1 q.2.2.2 q.2.1=t at *
 refine Ad (BI (b:=(t.2.2:Int) != 0) (ID (Aa 11)) (λh=>?_) (λh=>Aj (Aj ?_)))
 rotate_left
 ·have hz:t.2.2=0:=by simpa using h
  rw[hbl,if_pos hz,kF] at hp
  exact⟨Od qs',by rwa[hmea],qs',m,_,_,_,_,_,_,_,_,rfl,by rwa[hn,hmea],λq' hq'=>hok q' (by simp[hq']),hp,rfl,rfl,rfl,rfl,rfl,rfl,rfl,rfl,rfl⟩
 have hz:t.2.2≠0:=by simpa using h
 rw[hbl,if_neg hz] at hp
 refine Ad (AO N 4 (d:=Fq t) (ds:=m.map Fq) (Aa 12) (by rw[jI];rwa[hml]) ?_)
 have hm1:m.map Fq++[Fq t]=(m++[t]).map Fq:=by rw[kz];rfl
 rw[hm1]
 have hp':=UR hp
 have bN:∀(L R:List Vw),L.flatMap (Vs as bs)=bl as bs q.1 t.1 q.2.2.1 t.2.1->R.flatMap (Vs as bs)=bl as bs (t.1+t.2.2) q.2.1 (t.2.1+t.2.2) q.2.2.2->((m++[t])++(qs'++L++R).flatMap (Vs as bs)).Perm (bl as bs 0 as.length 0 bs.length):=λL R hL hR=>by
  rw[mF,mF,hL,hR];exact hp'
 have last:∀(L:List Vw),L.length<=1->∀(P':AF->AX->Prop),(∀(R:List Vw),R.flatMap (Vs as bs)=bl as bs (t.1+t.2.2) q.2.1 (t.2.1+t.2.2) q.2.2.2->(∀w∈R,PO as.length bs.length w)->Od R<=2*(q.2.1-(t.1+t.2.2))+1->
  P' .next (GC w as bs I as.length bs.length (some (.own ((qs'++L++R).map FY))) (some (.own ((m++[t]).map Fq))) (pI q.1) (pI q.2.1) (pI q.2.2.1) (pI q.2.2.2) (pI t.1) (pI t.2.1) (pI t.2.2) (some (.val (.py (Fq t)))) none none none none none none none))->
  Ex (fM w A s₀ s O) (GC w as bs I as.length bs.length (some (.own ((qs'++L).map FY))) (some (.own ((m++[t]).map Fq))) (pI q.1) (pI q.2.1) (pI q.2.2.1) (pI q.2.2.2) (pI t.1) (pI t.2.1) (pI t.2.2) (some (.val (.py (Fq t)))) none none none none none none none)
   ((jp (((ja (ZZ (BB 5 7) 5)).drop 2).headD (.Pass ⟨0,0,0,0⟩))).drop 2) P':=λL hL P' hP'=>by
  refine Ad (BI (b:=decide (((t.1:Nat):Int)+((t.2.2:Nat):Int)<(q.2.1:Nat))&&(decide (((t.2.1:Nat):Int)+((t.2.2:Nat):Int)<(q.2.2.2:Nat))&&true)) (By (AP (An (Bl (Aa 9) (Aa 11)) (Aa 6)) λ_=>AP (An (Bl (Aa 10) (Aa 11)) (Aa 8)) λ_=>BC)) (λh=>?_) (λh=>?_))
  ·simp only[kJ,decide_eq_true_eq,and_true] at h
   refine Ad (AO N 3 (d:=FY (t.1+t.2.2,q.2.1,t.2.1+t.2.2,q.2.2.2)) (ds:=(qs'++L).map FY) (Au (ds:=[.int (t.1+t.2.2:Nat),.int q.2.1,.int (t.2.1+t.2.2:Nat),.int q.2.2.2]) (Ab (Dh (Aa 9) (Aa 11)) (Ab (Aa 6) (Ab (Dh (Aa 10) (Aa 11)) (Ab (Aa 8) Ah))))) (by rw[jI,jZ];rwa[hn,hmea,hql',hL]) ?_)
   have:=hP' [(t.1+t.2.2,q.2.1,t.2.1+t.2.2,q.2.2.2)] (by simp[Vs]) (λw' hw'=>by rw[jH.mp hw'];exact⟨f2,o2,f4,o4⟩) (jN _)
   rw[kz (l₁:=qs'++L)] at this
   exact Aj (Aj this)
  ·have:=hP' [] (by
    rw[nZ]
    refine(Uq as bs f2 f4 ?_).symm
    rw[oE,vM] at h
    rcases h with h|h
    ·left;have:=of_decide_eq_false h;(clear_value *;lia)
    ·right;have:=of_decide_eq_false h;(clear_value *;lia)) (λ_ h=>(nomatch h)) (kf _)
   rw[kF] at this
   exact Aj (Aj this)
 have key:∀(L:List Vw),L.flatMap (Vs as bs)=bl as bs q.1 t.1 q.2.2.1 t.2.1->(∀w∈L,PO as.length bs.length w)->Od L<=2*(t.1-q.1)+1->∀(R:List Vw),R.flatMap (Vs as bs)=bl as bs (t.1+t.2.2) q.2.1 (t.2.1+t.2.2) q.2.2.2->(∀w∈R,PO as.length bs.length w)->Od R<=2*(q.2.1-(t.1+t.2.2))+1->
  Od (qs'++L++R)<Od (qs'++[q])/\(∀w∈qs'++L++R,PO as.length bs.length w)/\((m++[t])++(qs'++L++R).flatMap (Vs as bs)).Perm (bl as bs 0 as.length 0 bs.length):=λL hL1 hL2 hL3 R hR1 hR2 hR3=>by
  refine⟨?_,λw' hw'=>?_,bN L R hL1 hR1⟩
  ·rw[Em,Em,hmea];rwa[o1,f1,f2,hz,hL3,hR3]
  ·rcases jU.mp hw' with hw'|hw'
   ·rcases jU.mp hw' with hw'|hw'
    ·exact hok w' (by simp[hw'])
    ·exact hL2 w' hw'
   ·exact hR2 w' hw'
 refine Ad (BI (b:=decide (((q.1:Nat):Int)<(t.1:Nat))&&(decide (((q.2.2.1:Nat):Int)<(t.2.1:Nat))&&true)) (By (AP (An (Aa 5) (Aa 9)) λ_=>AP (An (Aa 7) (Aa 10)) λ_=>BC)) (λh=>?_) (λh=>?_))
 ·simp only[kJ,decide_eq_true_eq,and_true] at h
  refine Ad (AO N 3 (d:=FY (q.1,t.1,q.2.2.1,t.2.1)) (ds:=qs'.map FY) (Au (ds:=[.int q.1,.int t.1,.int q.2.2.1,.int t.2.1]) (Ab (Aa 5) (Ab (Aa 9) (Ab (Aa 7) (Ab (Aa 10) Ah))))) (by rw[jI];rwa[hn,hmea,hql']) (Aj ?_))
  have la:=last [(q.1,t.1,q.2.2.1,t.2.1)] (jN _)
  rw[kz (l₁:=qs')] at la
  refine la _ λR h1 h2 h3=>?_
  obtain⟨k1,k2,k3⟩:=key [(q.1,t.1,q.2.2.1,t.2.1)] (by simp[Vs]) (λw' hw'=>by rw[jH.mp hw'];exact⟨f1,by show t.1<=_;rwa[o2,f2],f3,by show t.2.1<=_;rwa[o4,f4]⟩) (jN _) R h1 h2 h3
  exact Aj ⟨_,k1,_,m++[t],_,_,_,_,_,_,_,_,rfl,by rwa[hn,k1],k2,k3,rfl,rfl,rfl,rfl,rfl,rfl,rfl,rfl,rfl⟩
 ·have la:=last [] (kf _)
  rw[kF] at la
  refine Aj (la _ λR h1 h2 h3=>?_)
  obtain⟨k1,k2,k3⟩:=key [] (by
   rw[nZ]
   refine(Uq as bs f1 f3 ?_).symm
   rw[oE,vM] at h
   rcases h with h|h
   ·left;have:=of_decide_eq_false h;(clear_value *;lia)
   ·right;have:=of_decide_eq_false h;(clear_value *;lia)) (λ_ h=>(nomatch h)) (kf _) R h1 h2 h3
  rw[kF] at k1 k2 k3
  exact Aj ⟨_,k1,_,m++[t],_,_,_,_,_,_,_,_,rfl,by rwa[hn,k1],k2,k3,rfl,rfl,rfl,rfl,rfl,rfl,rfl,rfl,rfl⟩
noncomputable def Cy (l:List A9):Nat->A9
 | 0=>(0,0,0)
 | t+1=>l.getD t (0,0,0)
noncomputable def ZN (l:List A9):Prop:=(∀t∈l,0<t.2.2)/\l.Pairwise λx y=>¬(x.1+x.2.2=y.1/\x.2.1+x.2.2=y.2.1)
theorem Hx.apart{α:Type}[DecidableEq α]{as bs:List α}{alo ahi blo bhi:Nat}{l:List A9}(r:Hx as bs alo ahi blo bhi l):ZN l:=⟨r.pos,r.ord.imp λh=>h.2.2⟩
theorem WO{w:jW}{A:kA}{s₀ s:jE}{O:Ap}{as bs:List jX}{I:jL}{mg mb:jX->Option jB}{xG:jY}(K:Bn w xG)(T:Br mg mb xG)(hk:HK xG s₀)
 (N:Nm (fM w A s₀ s O))(room:A0 (A.deeper (callEnvC (Bq (Dp w.params)) s.heap.objs.size 203)) 3)(l:List A9)(hl:l.length<=100)(ap:ZN l)(qu:Option Bd)(a b c d i j k x:Option Bd)(P:AF->AX->Prop)
 (hP:∀(i2 j2 k2:Option Bd),Bx i2=true->Bx j2=true->Bx k2=true->
  P .next (GC w as bs I as.length bs.length qu (some (.val (.py (.list (l.map Fq))))) a b c d i j k x (pI (Cy l l.length).1) (pI (Cy l l.length).2.1) (pI (Cy l l.length).2.2) (some (.own ((l.take (l.length-1)).map BX))) i2 j2 k2)) :
 X1 (fM w A s₀ s O) (GC w as bs I as.length bs.length qu (some (.val (.py (.list (l.map Fq))))) a b c d i j k x (pI (0:Nat)) (pI (0:Nat)) (pI (0:Nat)) (some (.own [])) none none none) (ZZ (BB 5 7) 9) P:=by
 delta w A s₀ s O as bs I mg mb xG l qu a b c d i j k x P at K T hk N room hl ap hP
 have hh:(fM w A s₀ s O).A.handled=none:=room.handled
 refine EO N (ds:=l.map Fq) (C3 N hh (Aa 4)) (λt σ=>∃(i2 j2 k2:Option Bd),Bx i2=true/\Bx j2=true/\Bx k2=true/\
  σ=GC w as bs I as.length bs.length qu (some (.val (.py (.list (l.map Fq))))) a b c d i j k x (pI (Cy l t).1) (pI (Cy l t).2.1) (pI (Cy l t).2.2) (some (.own ((l.take (t-1)).map BX))) i2 j2 k2) (FP none none none rfl rfl rfl rfl) ?_ ?_
 ·intro t dd σ1 hdd zz1;refine Cf zz1 λi2 j2 k2 h1 h2 h3 zz2=>?_;clear zz1;obtain rfl:=zz2
  rw[j8] at hdd
  refine Af (j6.mp hdd) λy hy zz1=>?_;obtain rfl:=zz1
  have hyl:t<l.length:=(jK.mp hy).1
  have hnext:Cy l (t+1)=y:=by show l.getD t (0,0,0)=y;rw[mU,hy];rfl
  generalize hp:Cy l t=p
  refine Ac _ (XB rfl K hk N hh [17,18,19] ⟨rfl,rfl,rfl,rfl,rfl,rfl,trivial⟩) ?_
  refine Ad (BI (b:=decide (((p.1:Nat):Int)+((p.2.2:Nat):Int)=(y.1:Nat))&&(decide (((p.2.1:Nat):Int)+((p.2.2:Nat):Int)=(y.2.1:Nat))&&true)) (By (AP (An (Bl (Aa 13) (Aa 15)) (Aa 17)) λ_=>AP (An (Bl (Aa 14) (Aa 15)) (Aa 18)) λ_=>BC)) (λh=>?_) (λh=>?_))
  ·simp only[kJ,decide_eq_true_eq,and_true] at h
   cases t with
   | succ t=>
    exfalso
    have hpt:l[t]?=some p:=by
     have hp:l.getD t (0,0,0)=p:=hp
     rw[mU,jP (by rwa[hyl])] at hp
     rw[jP (by(clear_value *;lia))]
     exact congrArg some hp
    obtain⟨q1,q2⟩:=jK.mp hpt
    obtain⟨q3,q4⟩:=jK.mp hy
    have:=nB.mp ap.2 t (t+1) q1 q3 (by rwa[])
    rw[q2,q4] at this
    exact this ⟨by rwa[h],by rwa[h]⟩
   | zero=>
    have hp:(0,0,0)=p:=hp
    subst hp
    refine Ad (VG N 15 (a:=((0:Nat):Int)) rfl (Aa 19) (Aj (Aj (FP (pI y.1) (pI y.2.1) (pI y.2.2) rfl rfl rfl ?_))))
    rw[hnext]
    have e1:y.1=0:=by have:=h.1;simp at this;rwa[h]
    have e2:y.2.1=0:=by have:=h.2;simp at this;rwa[h]
    rw[e1,e2]
    have e3:((0:Nat):Int)+((y.2.2:Nat):Int)=((y.2.2:Nat):Int):=by simp
    show List.set (α:=Option Bd) _ 15 (some (Bd.val (AV.py (lX (((0:Nat):Int)+((y.2.2:Nat):Int))))))=_
    rw[e3]
    rfl
  ·refine Ad (BI (b:=(p.2.2:Int) != 0) (ID (Aa 15)) (λh'=>?_) (λh'=>?_))
   ·have hz:p.2.2≠0:=by simpa using h'
    cases t with
    | zero=>
     have hp:(0,0,0)=p:=hp
     subst hp
     exact absurd rfl hz
    | succ t=>
     have hpt:l[t]?=some p:=by
      have hp:l.getD t (0,0,0)=p:=hp
      rw[mU,jP (by rwa[hyl])] at hp
      rw[jP (by(clear_value *;lia))]
      exact congrArg some hp
     have ht:(l.take (t+1+1-1))=l.take (t+1-1)++[p]:=by
      show l.take (t+1)=l.take t++[p]
      rw[kN,hpt];rfl
     refine Ad (AO N 16 (d:=BX p) (ds:=(l.take (t+1-1)).map BX) (Au (ds:=[.int p.1,.int p.2.1,.int p.2.2]) (Ab (Aa 13) (Ab (Aa 14) (Ab (Aa 15) Ah)))) (by rw[jI,lm];rwa[hl,hyl]) (Aj ?_))
     refine Ad (DB N hh [13,14,15] ["i1","j1","k1"] (Au (ds:=[.int y.1,.int y.2.1,.int y.2.2]) (Ab (Aa 17) (Ab (Aa 18) (Ab (Aa 19) Ah)))) ⟨rfl,rfl,rfl,rfl,rfl,rfl,trivial⟩ (Aj (Aj (FP (pI y.1) (pI y.2.1) (pI y.2.2) rfl rfl rfl ?_))))
     rw[hnext,ht,kz]
     rfl
   ·have hz:p.2.2=0:=by simpa using h'
    have ht:t=0:=by
     cases t with
     | zero=>rfl
     | succ t=>
      exfalso
      have hp:l.getD t (0,0,0)=p:=hp
      rw[mU,jP (by rwa[hyl])] at hp
      have:=ap.1 p (by rw[<-hp];exact tP _)
      (clear_value *;lia)
    subst ht
    refine Aj ?_
    refine Ad (DB N hh [13,14,15] ["i1","j1","k1"] (Au (ds:=[.int y.1,.int y.2.1,.int y.2.2]) (Ab (Aa 17) (Ab (Aa 18) (Ab (Aa 19) Ah)))) ⟨rfl,rfl,rfl,rfl,rfl,rfl,trivial⟩ (Aj (Aj (FP (pI y.1) (pI y.2.1) (pI y.2.2) rfl rfl rfl ?_))))
    rw[hnext]
    rfl
 ·intro σ1 zz1;refine Cf zz1 λi2 j2 k2 h1 h2 h3 zz2=>?_;clear zz1;obtain rfl:=zz2
  rw[jI]
  exact Aj (hP i2 j2 k2 h1 h2 h3)
noncomputable def Gg (as bs:List jX):List A9:=bl as bs 0 as.length 0 bs.length++[(as.length,bs.length,0)]
theorem GV(as bs:List jX):Hx as bs 0 as.length 0 bs.length (bl as bs 0 as.length 0 bs.length):=Ox as bs (as.length+1) 0 as.length 0 bs.length (by rwa[]) (kf _) (kf _)
theorem YM{w:jW}{A:kA}{s₀ s:jE}{O:Ap}{as bs:List jX}{I:jL}{mg mb:jX->Option jB}{xG:jY}(K:Bn w xG)(T:Br mg mb xG)(hgM:mg "Match"=some (.ref CM))(hk:HK xG s₀)
 (N:Nm (fM w A s₀ s O))(room:A0 (A.deeper (callEnvC (Bq (Dp w.params)) s.heap.objs.size 203)) 3)(lA:as.length<=63)(lB:bs.length<=63) :
 Ex (fM w A s₀ s O) [HN w as bs I,none,none,none,none,none,none,none,none,none,none,none,none,none,none,none,none,none,none,none] ((Am (BB 5 7)).take 12)
  (λaf σ'=>af=.next/\∃(mb a b c d i j k x i1 j1 k1 i2 j2 k2:Option Bd),Bx mb=true/\Bx a=true/\Bx b=true/\Bx c=true/\Bx d=true/\Bx i=true/\Bx j=true/\Bx k=true/\Bx x=true/\Bx i1=true/\Bx j1=true/\Bx k1=true/\Bx i2=true/\Bx j2=true/\Bx k2=true/\
   σ'=GC w as bs I as.length bs.length (some (.own [])) mb a b c d i j k x i1 j1 k1 (some (.own ((Gg as bs).map BX))) i2 j2 k2):=by
 delta w A s₀ s O as bs I mg mb xG at K T hgM hk N room lA lB
 have hh:(fM w A s₀ s O).A.handled=none:=room.handled
 have hz:∀l:List jX,IX (.py (.list (l.map .str)))=some l.length:=λl=>by simp[IX]
 have row:=GV as bs
 have hbl:=row.len
 refine Ad (Iz ?_)
 refine Ad (BI (b:=false) (Tv.cast (Gr (c:=true) (W8 rfl K hk 0 rfl) Fu (λO h v r=>by obtain rfl:v=.none:=r;rfl) (λO h v r=>by obtain rfl:v=.none:=r;rfl)) rfl) (λh=>nomatch h) (λ_=>Aj ?_))
 refine Ad (DB N hh [1,2] ["la","lb"] (Au (ds:=[.int as.length,.int bs.length]) (Ab (Ds (A1 T hk) (Xa rfl K hk 0 rfl) (hz as) (by rwa[lA])) (Ab (Ds (A1 T hk) (W9 rfl K hk 0 rfl) (hz bs) (by rwa[lB])) Ah))) ⟨rfl,rfl,rfl,rfl,trivial⟩ ?_)
 refine Ad (Gn N 3 (CH (ds:=[FY (0,as.length,0,bs.length)]) (Ab (Au (ds:=[.int (0:Nat),.int as.length,.int (0:Nat),.int bs.length]) (Ab Ai (Ab (Aa 1) (Ab Ai (Ab (Aa 2) Ah))))) Ah) (jT rfl)) ?_)
 refine Ad (Gn N 4 (CH (ds:=[]) Ah (by decide)) ?_)
 refine Ad (U4 K T hgM hk N room lA lB _ λm a b c d i j k x hp h1 h2 h3 h4 h5 h6 h7 h8=>?_)
 have hml:=hp.length_eq
 refine Ad (VE rfl K hk (room.le (by rwa[])) N 4 rfl (by rwa[lA,hbl,hml]) hp row.asc ?_)
 refine Ad (Uy N 13 14 15 Ai ?_)
 refine Ad (Gn N 16 (CH (ds:=[]) Ah (by decide)) ?_)
 refine Ct N 4 ?_
 refine Ad (WO K T hk N room (bl as bs 0 as.length 0 bs.length) (by rwa[lA,hbl]) row.apart _ a b c d i j k x _ λi2 j2 k2 g1 g2 g3=>?_)
 generalize hl:bl as bs 0 as.length 0 bs.length=l at *
 have OI:∀(na:List jO),na=l.map BX->Ex (fM w A s₀ s O) (GC w as bs I as.length bs.length (some (.own [])) (some (.val (.py (.list (l.map Fq))))) a b c d i j k x (pI (Cy l l.length).1) (pI (Cy l l.length).2.1) (pI (Cy l l.length).2.2) (some (.own na)) i2 j2 k2) (((Am (BB 5 7)).take 12).drop 11)
  (λaf σ'=>af=.next/\∃(mb a b c d i j k x i1 j1 k1 i2 j2 k2:Option Bd),Bx mb=true/\Bx a=true/\Bx b=true/\Bx c=true/\Bx d=true/\Bx i=true/\Bx j=true/\Bx k=true/\Bx x=true/\Bx i1=true/\Bx j1=true/\Bx k1=true/\Bx i2=true/\Bx j2=true/\Bx k2=true/\
   σ'=GC w as bs I as.length bs.length (some (.own [])) mb a b c d i j k x i1 j1 k1 (some (.own ((Gg as bs).map BX))) i2 j2 k2):=λna e=>by
  refine Ad (AO N 16 (d:=BX (as.length,bs.length,0)) (ds:=na) (Au (ds:=[.int as.length,.int bs.length,.int (0:Nat)]) (Ab (Aa 1) (Ab (Aa 2) (Ab Ai Ah)))) (by rw[e,jI];rwa[lA,hbl]) (Aj ⟨rfl,some (.val (.py (.list (l.map Fq)))),a,b,c,d,i,j,k,x,pI (Cy l l.length).1,pI (Cy l l.length).2.1,pI (Cy l l.length).2.2,i2,j2,k2,rfl,h1,h2,h3,h4,h5,h6,h7,h8,rfl,rfl,rfl,g1,g2,g3,?_⟩))
  unfold Gg
  rw[hl,kz,e]
  rfl
 refine Ad (BI (b:=((Cy l l.length).2.2:Int) != 0) (ID (Aa 15)) (λh'=>?_) (λh'=>?_))
 ·have hz:(Cy l l.length).2.2≠0:=by simpa using h'
  refine Ad (AO N 16 (d:=BX (Cy l l.length)) (ds:=(l.take (l.length-1)).map BX) (Au (ds:=[.int (Cy l l.length).1,.int (Cy l l.length).2.1,.int (Cy l l.length).2.2]) (Ab (Aa 13) (Ab (Aa 14) (Ab (Aa 15) Ah)))) (by rw[jI,lm];rwa[lA,hbl]) (Aj (OI _ ?_)))
  cases hll:l.length with
  | zero=>rw[hll] at hz;exact absurd rfl hz
  | succ n=>
   show(l.take n).map BX++[BX (l.getD n (0,0,0))]=_
   have:l=l.take n++[l.getD n (0,0,0)]:=by
    conv=>lhs;rw[<-lz (l:=l),hll,kN,jP (by rwa[hll])]
    rw[mU,jP (by rwa[hll])];rfl
   conv=>rhs;rw[this,kz]
   rfl
 ·have hz:(Cy l l.length).2.2=0:=by simpa using h'
  refine Aj (OI _ ?_)
  have:l=[]:=by
   cases hll:l.length with
   | zero=>exact p8 hll
   | succ n=>
    exfalso
    rw[hll] at hz
    have e:Cy l (n+1)=l[n]'(by rwa[hll]):=by show l.getD n (0,0,0)=_;rw[mU,jP (by rwa[hll])];rfl
    rw[e] at hz
    have:=row.pos (l[n]'(by(clear_value *;lia))) (tP _)
    (clear_value *;lia)
  rw[this];rfl
section
variable {w:jW} {A:kA} {E:jB->jE->Prop} {s:jE}
theorem UB:qt "tuple.__len__"=some .slot:=by decide +kernel
theorem QS:wo "tuple.__len__"=some ("tuple","__len__"):=by decide +kernel
theorem UC(self:jB):bindSpecial (.builtin "tuple.__len__") self=pure (.builtin "tuple.__len__",[self]):=uS.bind self
theorem ah{a:jL}{o:nH}{vs:Array jB}{n:Nat}{Q:jB->jE->Prop}(K:Bn w s.heap)(ho:s.heap.get? a=some o)(hc:o.cls=.ref CM)(hd:o.data=.seq vs n)(hs:vs.size<1000)
 (h:Q (.int vs.size (s.toks+1)) {s with toks:=s.toks+1+1}):wpAny (model pw w) A (call (.builtin "len") [.ref a]) Q E s:=by
 delta w A E s a o vs n Q at K ho hc hd hs h
 have L:mD (model pw w) s.heap (specialOf (.ref a) "__len__") (some (.builtin "tuple.__len__")):=by
  unfold specialOf
  exact(hc▸(oO ho).andThen .now:mD (model pw w) s.heap (typeOf (.ref a)) (.ref CM)).andThen (pW K.k (by kernel_rfl))
 have LI:mD (model pw w) s.heap (isInstance (.ref a) (.type "tuple")) true:=(hc▸(oO ho).andThen .now:mD (model pw w) s.heap (typeOf (.ref a)) (.ref CM)).andThen (qz K.k (by kernel_rfl))
 refine Calls.call_function_entry kind_len plain_len entry_len (args_len1 _) ?_
 unfold km.«len»
 refine jA (m:=oneArg "len" _) (jJ ?_)
 unfold callSpecial?
 refine jA (jA (L.here ?_))
 dsimp only
 refine kE ?_
 rw[UC]
 refine jA (jJ (jA (mS ?_)))
 refine sV uS.plain PySem.F.entry_tuple_len (tW UB QS LI (PySem.F.args_tuple_len_1 _) ?_)
 show wpAny _ _ (nc "__len__" 0 ⟨[.ref a],[]⟩>>=_) _ _ _
 refine jA (ly (show nc "__len__" 0 ⟨[.ref a],[]⟩=pure (.ref a,[]) by kernel_rfl) ?_)
 dsimp only
 refine jA (show wpAny _ _ (rU (.ref a)>>=_) _ _ _ from jA (mX ho hd (jJ ?_)))
 refine jA (wpAny_mkInt (jJ ?_))
 refine jJ ?_
 dsimp only
 refine jA (kE (jJ ?_))
 refine jA (uX ?_)
 show wpAny _ _ (if((vs.size:Nat):Int)<0 then _ else _) _ _ _
 rw[if_neg (by rwa[])]
 show wpAny _ _ (if((vs.size:Nat):Int)>=2^63 then _ else _) _ _ _
 rw[if_neg (by rwa[hs])]
 exact jA (wpAny_mkInt (jJ (Ac _ rfl h)))
end
section
variable {Γ:Cx} {σ:AX}
theorem Xe{f e:kH}{i j k:Int}{xG:jY}{pos:mf}(hw:Γ.prog=pw)(K:Bn Γ.w xG)(hk:HK xG Γ.s₀)(hf:Ev Γ σ f (.raw (.builtin "len")))(he:Ev Γ σ e (.py (Qi i j k)))(hp:autoParam (AE e=true) aR)
 (hee:autoParam (eval (.Call f [e] [] pos) Γ.env=(do kX pos (<-eval f Γ.env) [] (backTo pos (starEach [e] Γ.env)) (l8 pos (lu [] Γ.env)))) aR):Ev Γ σ (.Call f [e] [] pos) (.py (.int 3)):=by
 intro O s Q E t q
 refine qQ (hf O s _ E t λv s1 t1 k1 r1=>?_) hee
 obtain rfl:v=.builtin "len":=r1
 refine callWith_builtin (Bh (by rw[lC,hp];rfl)) (AL (by rw[lC,hp];rfl) (Ab he Ah hp O s1 _ _ E t1 λus s2 t2 k2 r2=>?_))
 refine Af r2.one λu zz1 ru=>?_;obtain rfl:=zz1
 refine W1 (Ra ru) λa o vs n as zz1 ho hc hd rs _ _=>?_;obtain rfl:=zz1
 have hsz:vs.size=3:=by have:=Al rs;simpa using this
 have K2:Bn Γ.w s2.heap:=K.keeps λb o e=>t2.keep _ _ (hk b o e)
 rw[hw]
 refine ah K2 ho hc hd (by rwa[hsz]) ?_
 rw[hsz]
 have kk:=Keeps.tr (Keeps.tr k1 k2) (Keeps.rfl' (tk:=s2.toks+1+1))
 exact q _ _ (t.of_keeps kk) kk (VR.int ..)
end
theorem fY(P:jC):Bf (Bq (Jt P)) (Am (BB 3 5)) ["cls","iterable"] ["cls","iterable","result"]:=.of' rfl rfl rfl (by decide +kernel)
theorem aQ(P:jC)(u v:jB):l3 (Bq (Jt P)) ⟨[u,v],[]⟩=pure [((jz "cls"),u),((jz "iterable"),v)]:=by rfl
section
open PySem.Builtin
theorem T6:mroOf (.type "map")=pure [.type "map",.type "object"]:=by rw[mroOf_type];kernel_rfl
theorem IU:typeLookup (.type "map") "__new__"=pure (some (.builtin "map.__new__")):=by rw[lT,kZ];kernel_rfl
theorem JX:Slot "map" "__init__" "object.__init__":=
 .of (owner:="object") (n:="__init__") (by rw[lT,kZ];kernel_rfl) (by decide +kernel) (by decide +kernel) (by decide +kernel) (by first|exact .inl (by decide +kernel)|exact .inr (by decide +kernel)) (by rw[mJ];kernel_rfl)
theorem RD:TypeCalled "map" "map.__new__" "object.__init__":=
 ⟨by decide +kernel,by decide +kernel,(AS _ _ T6),madeBy_type T6 IU (by decide +kernel),by decide +kernel,by rw[mJ];kernel_rfl,JX⟩
theorem NU(a b:jB):checkTypeCall "map" ⟨[a,b],[]⟩=pure ():=by kernel_rfl
theorem O8(a b:jB):checkBuiltinCall "map.__new__" ⟨[.type "map",a,b],[]⟩=pure ():=by kernel_rfl
theorem Ke:ur table "map.__new__"=some km.«map.__new__»:=rV (by kernel_rfl)
theorem Fc:ur table "map.__next__"=some km.«map.__next__»:=rV (by kernel_rfl)
theorem XC(a b c:jB):su "object.__init__" ⟨[a,b,c],[]⟩:=Ut a [b,c]
theorem CD:Slot "map" "__next__" "map.__next__":=
 .of (owner:="map") (n:="__next__") (by rw[lT,kZ];kernel_rfl) (by decide +kernel) (by decide +kernel) (by decide +kernel) (by first|exact .inl (by decide +kernel)|exact .inr (by decide +kernel)) (by rw[mJ];kernel_rfl)
theorem FC:Slot "map" "__iter__" "map.__iter__":=
 .of (owner:="map") (n:="__iter__") (by rw[lT,kZ];kernel_rfl) (by decide +kernel) (by decide +kernel) (by decide +kernel) (by first|exact .inl (by decide +kernel)|exact .inr (by decide +kernel)) (by rw[mJ];kernel_rfl)
theorem FU(a:jB):su "map.__next__" ⟨[a],[]⟩:=by unfold su;kernel_rfl
theorem Kg(a:jB):su "map.__iter__" ⟨[a],[]⟩:=by unfold su;kernel_rfl
theorem Jb:ur table "map.__iter__"=some km.«dict_keyiterator.__iter__»:=
 entryFor_alias (id':="dict_keyiterator.__iter__") (by kernel_rfl) (by decide +kernel) (by decide +kernel) (by kernel_rfl)
theorem UW:typeLookup (.type "map") "__len__"=pure none:=by rw[lT,kZ];kernel_rfl
theorem Rb:typeLookup (.type "map") "__length_hint__"=pure none:=by rw[lT,kZ];kernel_rfl
theorem X0:isSubtype (.type "map") (.type "map")=pure true:=by rw[mJ];kernel_rfl
noncomputable def Pc (h:jY) (l:jL):jY:=h.push {cls:=.type "list_iterator",data:=.fields #[.ref l,.int 0 0]}
noncomputable def Kt (h:jY) (l:jL):jY:=(Pc h l).push {cls:=.type "tuple",data:=.seq #[.ref h.objs.size]}
noncomputable def Pb (h:jY) (l:jL) (f:jB):jY:=(Kt h l).push {cls:=.type "map",data:=.fields #[.ref (Pc h l).objs.size,f]}
theorem J3(f:jB)(l:jL)(items:Array jB)(n:Nat) :
 Meets (km.«map.__new__» ⟨[.type "map",f,.ref l],[]⟩) (λ_ R s=>s.heap.get? l=some {cls:=.type "list",dict:=none,data:=.seq items n,slots:=#[]}/\
  R (.ok (.ret (.ref (Kt s.heap l).objs.size))) {s with heap:=Pb s.heap l f}):=
 .of_wp λprog w A R s h=>by
  obtain⟨hp,g,d,tk,os⟩:=s;refine Cg h λhl h=>?_
  have hsub:=X0
  have hL:Heap.IsList (Shared.heap ⟨hp,g,d,tk,os⟩) l items:=⟨_,hl,rfl,n,rfl⟩
  wp_walk using oI hl,wpAny_pyIter_list hL
  exact Ac _ rfl h
section
variable {prog:lD} {w:jW} {A:kA} {E:jB->jE->Prop} {s:jE}
theorem Xr{f:jB}{l:jL}{items:Array jB}{n:Nat}{Q:jB->jE->Prop}(hl:s.heap.get? l=some {cls:=.type "list",dict:=none,data:=.seq items n,slots:=#[]})
 (h:Q (.ref (Kt s.heap l).objs.size) {s with heap:=Pb s.heap l f}):wpAny (model prog w) A (call (.type "map") [f,.ref l]) Q E s:=
 callType_new RD (by decide) (NU _ _) (O8 _ _) (λobj=>XC obj _ _) Ke (J3 f l items n) ⟨hl,(Ac _ (jQ _ rfl) rfl),h⟩
end
structure C7 (h:jY) (M T it l p:jL) (items:Array jB) (n i:Nat):Prop where
 map:h.get? M=some {cls:=.type "map",data:=.fields #[.ref T,.ref p]}
 tup:h.get? T=some {cls:=.type "tuple",data:=.seq #[.ref it]}
 iter:h.IsListIter it l i
 list:h.get? l=some {cls:=.type "list",dict:=none,data:=.seq items n,slots:=#[]}
 fn:h.get? p=some (rW (.ref 89) (.ref CM))
 ne1:it≠M
 ne2:it≠T
 ne3:it≠l
 ne4:it≠p
theorem C7.keeps{h h':jY}{M T it l p:jL}{items:Array jB}{n i:Nat}(m:C7 h M T it l p items n i)(k:∀b o,h.get? b=some o->h'.get? b=some o):C7 h' M T it l p items n i:=
 ⟨k _ _ m.map,k _ _ m.tup,Af m.iter λo e r=>(Ac o (k _ _ e) r),k _ _ m.list,k _ _ m.fn,m.ne1,m.ne2,m.ne3,m.ne4⟩
section
variable {w:jW} {A:kA} {E:jB->jE->Prop} {s:jE} {M T it l p:jL} {items:Array jB} {n i:Nat}
theorem WA{x:jB}{Q:Option jB->jE->Prop}(m:C7 s.heap M T it l p items n i)(hx:items[i]?=some x)
 (h:∀h',C7 h' M T it l p items n (i+1)->oo it s.heap h'->wpAny (model pw w) A.in1 (call (.ref p) [x]) (λv s'=>Q (some v) s') (λ_ _=>False) {s with heap:=h'}):wpAny (model pw w) A (pyNext (.ref M)) Q E s:=by
 have hT:s.TypeIs (.ref M) "map":=Ac _ m.map rfl
 unfold pyNext
 refine jA (pA (mZ (name:=jz "__next__") hT CD (lH CD hT Fc ?_ (FU _))))
 unfold km.«map.__next__»
 refine jA (ly (show nc "__next__" 0 ⟨[.ref M],[]⟩=pure (.ref M,[]) by kernel_rfl) ?_)
 dsimp only
 refine jA (nQ m.map rfl (x:=.ref T) rfl ?_)
 refine jA (mX m.tup rfl ?_)
 dsimp only
 have e0:(#[kx it]:Array jB)=[kx it].toArray:=rfl
 rw[e0,sP,mV]
 refine jA (jA (jA (kE (wpAny_nextOf_list_item m.iter ⟨_,m.list,rfl,_,rfl⟩ hx λh' hit hs=>?_))))
 have m':C7 h' M T it l p items n (i+1):=⟨(hs.2 M (ll m.ne1)).trans m.map,(hs.2 T (ll m.ne2)).trans m.tup,hit,(hs.2 l (ll m.ne3)).trans m.list,(hs.2 p (ll m.ne4)).trans m.fn,m.ne1,m.ne2,m.ne3,m.ne4⟩
 refine jJ ?_
 dsimp only
 rw[uJ]
 refine jJ ?_
 refine jA (nQ m'.map rfl (x:=.ref p) rfl ?_)
 refine jA (kE (lR (h h' m' hs) (λv s' hq=>?_) λ_ _ z=>z.elim))
 refine jA (uX ?_)
 exact jJ (Ac v rfl (jJ hq))
theorem Yt{Q:Option jB->jE->Prop}(hh:A.handled=none)(m:C7 s.heap M T it l p items n i)(hx:items[i]?=none)
 (h:∀h',tZ it s.heap h'->Q none {s with heap:=h'}):wpAny (model pw w) A (pyNext (.ref M)) Q E s:=by
 have hT:s.TypeIs (.ref M) "map":=Ac _ m.map rfl
 unfold pyNext
 refine jA (pA (mZ (name:=jz "__next__") hT CD (lH CD hT Fc ?_ (FU _))))
 unfold km.«map.__next__»
 refine jA (ly (show nc "__next__" 0 ⟨[.ref M],[]⟩=pure (.ref M,[]) by kernel_rfl) ?_)
 dsimp only
 refine jA (nQ m.map rfl (x:=.ref T) rfl ?_)
 refine jA (mX m.tup rfl ?_)
 dsimp only
 have e0:(#[kx it]:Array jB)=[kx it].toArray:=rfl
 rw[e0,sP,mV]
 refine jA (jA (jA (kE (wpAny_nextOf_list_end hh m.iter ⟨_,m.list,rfl,_,rfl⟩ hx λh' e hs he=>?_))))
 refine Af he λoe ho hc=>?_
 refine jA (wpAny_isInstance (T:="StopIteration") (b:=true) (Ac _ ho hc) isSubtype_stop ?_)
 exact jJ (h h' hs)
theorem Wz{Q:jB->jE->Prop}(m:C7 s.heap M T it l p items n i)(h:Q (.ref M) s):wpAny (model pw w) A (pyIter (.ref M)) Q E s:=by
 have hT:s.TypeIs (.ref M) "map":=Ac _ m.map rfl
 refine wpAny_pyIter_slot hT FC (lH FC hT Jb ?_ (Kg _))
 refine lR (Q:=λOI s'=>OI=.done (.ret (.ref M))/\s'=s) (E:=λ_ _=>False) ?_ (λOI s' hq=>?_) λ_ _ z=>z.elim
 ·show wpAny _ _ (nc "__iter__" 0 ⟨[.ref M],[]⟩>>=_) _ _ _
  refine jA (ly (show nc "__iter__" 0 ⟨[.ref M],[]⟩=pure (.ref M,[]) by kernel_rfl) ?_)
  exact jJ ⟨rfl,rfl⟩
 ·obtain⟨rfl,rfl⟩:=hq
  exact⟨_,rfl,"map",_,hT,CD.lookup,h⟩
end
end
section
open PySem.Builtin
theorem UX{w:jW}{A:kA}{xG:jY}{mg mb:jX->Option jB}{s:jE}{O:Ap}{x:jB}{R:sY->jE->Prop}(K:Bn w xG)(T:Br mg mb xG)(room:A0 A 1)(hk:HK xG s)(own:CJ O s){i j k:Int}(rx:VR O s.heap (.py (.tuple [.int i,.int j,.int k])) x)
 (q:∀v s',kY s s'->VR O s'.heap (.py (Qi i j k)) v->R (.ok (.ret v)) s'):codeAny (model pw w) A (.call (.ref 89) ⟨[.ref CM,x],[]⟩) R s:=by
 refine Ho (s₀:=s) (avs:=[.raw (.ref CM),.py (.tuple [.int i,.int j,.int k])]) (vs:=[.ref CM,x]) (n:=0) (fY w.params) (K.get 89 (o:=Jt w.params) (by kernel_rfl)) (by kernel_rfl) T.gl.nolimit (tV K.k (by kernel_rfl)) room hk own (λ_ _ e=>e) own.live (.of_eq (aQ _ _ _)) rfl ⟨rfl,rx,trivial⟩ λN rm s1 E' t k1=>?_
 have body:Ex (CF pw w A s s (Bq (Jt w.params)) 89 ["cls","iterable","result"] O) (Bi [.raw (.ref CM),.py (.tuple [.int i,.int j,.int k])] 1) (Am (BB 3 5)) (λaf _=>af=.ret (.py (Qi i j k))):=by
  refine Ad (Iz ?_)
  refine Ad (At N 2 (Kz (mg:=mg) (mb:=mb) rfl K hk (A1 T hk) (Aa 0) (Aa 1)) ?_)
  refine Ad (BI (b:=!decide ((3:Int)=3)) (An (Xe rfl K hk (A1 T hk) (Aa 2)) Ai) (λh=>nomatch h) (λ_=>Aj ?_))
  exact Ad (AQ (Aa 2) rfl)
 refine body _ s1 _ E' t λO' fl af σ' s' f t' fr p=>?_
 subst p
 refine Af fr λv zz1 zr0=>Af zr0 λas r qa=>?_;obtain rfl:=zz1
 refine q v s' ?_ (Ac as r λb hb hO=>qa b hb (t'.sub b (Af hO λp hp e=>(Ac p (.tail _ hp) e))))
 refine Ao k1 λh1 tk1 zz1 _=>?_;clear k1;obtain rfl:=zz1
 refine B1 f.alike λh2 tk2 zz1=>?_;obtain rfl:=zz1
 exact AT h2 tk2 rfl t'.keep
end
section
open PySem.Builtin
noncomputable abbrev Iv (acc:Array jB) (c:Nat):nH:={cls:=.type "list",dict:=none,data:=.seq acc c,slots:=#[]}
structure bw (O:Ap) (s₀ s:jE) (S M T it l p:jL) (items:Array jB) (n:Nat) (ts:List A9) (i:Nat) (acc:Array jB) (c:Nat):Prop where
 al:AI s₀ s
 old:∀b o,s₀.heap.get? b=some o->s.heap.get? b=some o
 m:C7 s.heap M T it l p items n i
 lst:s.heap.get? S=some (Iv acc c)
 rd:∃as,Ae s.heap acc.toList ((ts.take i).map Fq) as/\∀b∈as,¬O.has b/\b≠S/\b≠it
theorem WY{w:jW}{A:kA}{xG:jY}{mg mb:jX->Option jB}{s₀:jE}{O:Ap}{S M T it l p:jL}{items:Array jB}{n:Nat}{ts:List A9}{res:jB}{R:sY->jE->Prop}{ias:List jL}
 (K:Bn w xG)(T':Br mg mb xG)(room:A0 A.in1.in1 1)(hk:HK xG s₀)(own:CJ O s₀)(ri:Ae s₀.heap items.toList (ts.map BX) ias)(hi:∀b∈ias,¬O.has b)(hz:ts.length<=1000)
 (sS:s₀.heap.get? S=none)(sI:s₀.heap.get? it=none)(neS:S≠it)(neS2:S≠M)(neS3:S≠T)(neS4:S≠l)(neS5:S≠p)
 (q:∀s acc c,AI s₀ s->(∀b o,s₀.heap.get? b=some o->s.heap.get? b=some o)->s.heap.get? S=some (Iv acc c)->(∃as,Ae s.heap acc.toList (ts.map Fq) as/\∀b∈as,¬O.has b/\b≠S)->R (.ok (.ret res)) s) :
 ∀(k i:Nat) (s:jE) (acc:Array jB) (c:Nat),ts.length-i=k->i<=ts.length->bw O s₀ s S M T it l p items n ts i acc c->codeAny (model pw w) A (.builtin "list.extend.loop" ⟨[.ref S,.ref M,res],[]⟩) R s:=by
 delta w A xG mg mb s₀ O S M T it l p items n ts res R ias at K T' room hk own ri hi hz sS sI neS neS2 neS3 neS4 neS5 q
 have hlen:items.size=ts.length:=by rw[<-kh,Al ri,jI]
 intro k
 induction k with
 | zero=>
  intro i s acc c hk' hin L
  obtain rfl:i=ts.length:=by rwa[hk',hin]
  refine pD ui ?_
  rw[nz oS _]
  show wpAny _ A.in1 (pyNext (.ref M)>>=_) _ _ s
  refine jA (Yt room.handled L.m (by rw[vk (by rwa[hlen])]) λh' he=>?_)
  refine jJ ?_
  refine Af L.rd λas r1 q1=>?_
  rw[lz] at r1
  refine q _ acc c (L.al.tr (AS _ _ rfl)) (λb o e=>he b o (λz=>by rw[z,sI] at e;exact B6 e) (L.old b o e)) (he S _ neS L.lst) (Ac as ?_ λb hb=>⟨(q1 b hb).1,(q1 b hb).2.1⟩)
  refine Aq (L:=it) (λb hb o e=>he b o hb e) ?_ r1 λhm=>(q1 it hm).2.2 rfl
  rintro o e ⟨hc,_⟩
  refine Bu L.m.iter λo' e' c' _=>?_
  (replace e':=CQ e e';subst e')
  rw[hc] at c';exact absurd c' (by decide)
 | succ k ih=>
  intro i s acc c hk' hin L
  have hlt:i<ts.length:=by rwa[hk',hin]
  obtain⟨x,hx⟩:∃x,items[i]?=some x:=Ag _ (oX (by rwa[hlen,hin,hlt]))
  refine pD ui ?_
  rw[nz oS _]
  show wpAny _ A.in1 (pyNext (.ref M)>>=_) _ _ s
  refine jA (WA L.m hx λh' m' hs=>?_)
  refine Af L.rd λas r1 q1=>?_
  have nT:∀o,s.heap.get? it=some o->¬(o.cls=.type "tuple"/\∃vs n,o.data=.seq vs n):=by
   rintro o e ⟨hc,_⟩
   refine Bu L.m.iter λo' e' c' _=>?_
   (replace e':=CQ e e';subst e')
   rw[hc] at c';exact absurd c' (by decide)
  have g1:∀b,b≠it->∀o,s.heap.get? b=some o->h'.get? b=some o:=AJ hs
  have old1:∀b o,s₀.heap.get? b=some o->h'.get? b=some o:=λb o e=>g1 b (λz=>by rw[z,sI] at e;exact B6 e) o (L.old b o e)
  have r2:Ae h' acc.toList ((ts.take i).map Fq) as:=Aq g1 nT r1 λhm=>(q1 it hm).2.2 rfl
  have hd:(ts.map BX)[i]?=some (BX ts[i]):=by rw[j8,jP hlt];rfl
  refine BD (B4 ri hd) λv bs e1 rv qv=>?_
  rw[oH,hx] at e1
  (replace e1:=si e1;subst e1)
  refine mS (method_call (s:={s with heap:=h'}) m'.fn ?_)
  refine UX (s:={s with heap:=h'}) (O:=O) (i:=ts[i].1) (j:=ts[i].2.1) (k:=ts[i].2.2) K T' room (λb o e=>old1 b o (hk b o e)) ⟨own.nodup,λp hp=>AR (own.live p hp) λo e=>(Ag o (old1 _ _ e))⟩ (Ac bs (Ak.keeps old1 rv) λb hb=>hi b (qv b hb)) λv s2 k2 r3=>?_
  have o2:∀b o,h'.get? b=some o->s2.heap.get? b=some o:=Ax k2
  refine W1 (Ra r3) λa o vs nn as2 zz1 ho hc hdd rs2 ha qs2=>?_;obtain rfl:=zz1
  have S2:s2.heap.get? S=some (Iv acc c):=o2 _ _ (g1 S neS _ L.lst)
  have m2:C7 s2.heap M T it l p items n (i+1):=m'.keeps o2
  have aS:a≠S:=λz=>by rw[z,S2] at ho;(replace ho:=si ho;subst ho);exact absurd (show jV "list"=kx CM from hc) (by decide)
  have aI:a≠it:=λz=>by
   refine Bu m2.iter λo' e' c' _=>?_
   rw[z,e'] at ho;(replace ho:=sj ho;subst ho)
   rw[c'] at hc;exact absurd hc (by decide)
  obtain⟨av,rav,qav⟩:∃av,Ak s2.heap (.ref a) (Fq ts[i]) av/\∀b∈av,b=a:=by
   refine Ac [a] ?_ λb hb=>jH.mp hb
   have e0:as2=[]:=by
    refine Cz (AK rs2) λ_ _ _ _ hv ra r1' e1'=>?_
    refine Cz (AK r1') λ_ _ _ _ hv2 rb r2' e2'=>?_
    refine Cz (AK r2') λ_ _ _ _ hv3 rc r3' e3'=>?_
    obtain hv4:=Bg r3'
    subst hv4
    cases ra;cases rb;cases rc;cases r3'
    rw[e1',e2',e3'];rfl
   rw[e0] at rs2
   exact .mt ho hc hdd rs2
  show wpAny _ A.in1 (wf S (·.push (.ref a))>>=_) _ _ _
  have hacc:acc.size=i:=by rw[<-kh,Al r1,jI,lm];rwa[hin]
  refine jA ?_
  refine sA S2 rfl (jJ ⟨tL oS _,?_⟩) (by rw[hacc,sizeLine_eq];(clear_value *;lia)) (by show(acc.push _).size<=sizeLine+1;rw[wY,hacc,sizeLine_eq];(clear_value *;lia))
  have S3:=mM (kB (·.push (kx a))) S2 rfl
  have g3:∀b,b≠S->∀o,s2.heap.get? b=some o->(s2.heap.update S (kB (·.push (kx a)))).get? b=some o:=λb hb o e=>(mj _ _ _ _ hb).trans e
  have nS:∀o,s2.heap.get? S=some o->¬(o.cls=.type "tuple"/\∃vs n,o.data=.seq vs n):=by
   rintro o e ⟨hc,_⟩
   (replace e:=CQ S2 e;subst e)
   exact absurd (show jV "list"=jV "tuple" from hc) (by decide)
  refine ih (i+1) _ (acc.push (.ref a)) _ (by(clear_value *;lia)) hlt ⟨(L.al.tr (AS h' s.toks rfl)).tr ((Bc k2).tr (AS _ _ rfl)),λb o e=>g3 b (λz=>by rw[z,sS] at e;exact B6 e) o (o2 _ _ (old1 b o e)),?_,S3,?_⟩
  ·refine Af m2.iter λo' e' r'=>?_
   exact⟨g3 _ (ll neS2) _ m2.map,g3 _ (ll neS3) _ m2.tup,(Ac o' (g3 _ (ll neS) _ e') r'),g3 _ (ll neS4) _ m2.list,g3 _ (ll neS5) _ m2.fn,m2.ne1,m2.ne2,m2.ne3,m2.ne4⟩
  ·refine Ac (as++av) ?_ λb hb=>?_
   ·rw[qR,kN,jP hlt,kz]
    exact DZ (Bo g3 nS rav λhm=>aS (qav S hm).symm) (Aq g3 nS (Ae.keeps o2 r2) λhm=>(q1 S hm).2.1 rfl)
   ·rcases jU.mp hb with hb|hb
    ·exact q1 b hb
    ·rw[qav b hb];exact⟨ha,aS,aI⟩
end
section
open PySem.Builtin
theorem Kf{w:jW}{A:kA}{xG:jY}{mg mb:jX->Option jB}{s₀ s:jE}{O:Ap}{M T it l p:jL}{items:Array jB}{n:Nat}{ts:List A9}{ias:List jL}{Q:jB->jE->Prop}{E:jB->jE->Prop}
 (K:Bn w xG)(T':Br mg mb xG)(room:A0 A.in1.in1.in1 1)(hk:HK xG s₀)(own:CJ O s₀)(ri:Ae s₀.heap items.toList (ts.map BX) ias)(hi:∀b∈ias,¬O.has b)(hz:ts.length<=1000)
 (sI:s₀.heap.get? it=none)(al:AI s₀ s)(old:∀b o,s₀.heap.get? b=some o->s.heap.get? b=some o)(m:C7 s.heap M T it l p items n 0)
 (q:∀S s' acc c,AI s₀ s'->(∀b o,s₀.heap.get? b=some o->s'.heap.get? b=some o)->s₀.heap.get? S=none->s'.heap.get? S=some (Iv acc c)->(∃as,Ae s'.heap acc.toList (ts.map Fq) as/\∀b∈as,¬O.has b/\b≠S)->Q (.ref S) s') :
 wpAny (model pw w) A (call (.type "list") [.ref M]) Q E s:=by
 delta w A xG mg mb s₀ s O M T it l p items n ts ias Q E at K T' room hk own ri hi hz sI al old m q
 refine callType_codes (Q₁:=λobj xJ=>obj=.ref s.heap.objs.size/\xJ={s with heap:=s.heap.push {cls:=.type "list",data:=.seq #[]}}) PySem.F.called_list (PySem.F.typeCall_list_1 _) PySem.F.entry_list_init
  (code_list_new _ ⟨rfl,rfl⟩) λobj xJ xI=>?_
 obtain⟨rfl,rfl⟩:=xI
 have hS:(s.heap.push {cls:=.type "list",data:=.seq #[]}).get? s.heap.objs.size=some {cls:=.type "list",data:=.seq #[]}:=jQ _ rfl
 have s0S:s.heap.get? s.heap.objs.size=none:=Bk (jN _)
 have sS:s₀.heap.get? s.heap.objs.size=none:=gn λo e=>by have:=old _ _ e;exact B0 s0S this
 have m1:C7 (s.heap.push {cls:=.type "list",data:=.seq #[]}) M T it l p items n 0:=m.keeps λb o e=>jF _ e
 have ne:∀{b:jL} {o:nH},s.heap.get? b=some o->s.heap.objs.size≠b:=λe z=>by rw[<-z,s0S] at e;exact B6 e
 refine Af m.iter λoi ei ri'=>?_
 have old1:∀b o,s₀.heap.get? b=some o->(s.heap.push {cls:=.type "list",data:=.seq #[]}).get? b=some o:=λb o e=>jF _ (old b o e)
 generalize hSg:s.heap.objs.size=S at *
 generalize hhg:s.heap.push {cls:=.type "list",data:=.seq #[]}=hh at *
 refine⟨(Ac _ hS rfl),PySem.F.args_list_init_2 _ _,?_⟩
 show wpAny _ A.in1.in1 (do let old<-tO (.ref S);qp (.ref S) (λ_=>#[]);letGo old.toList.reverse;pL (.ref S) (.ref M) .none) _ _ _
 refine jA ?_
 unfold tO
 refine jA (mX hS rfl (jJ ?_))
 show wpAny _ A.in1.in1 (wf S (λ_=>#[])>>=λ_=>letGo (#[]:Array jB).toList.reverse>>=λ_=>pL (.ref S) (.ref M) .none) _ _ _
 refine jA (sA hS rfl ?_)
 have x2:=mM (kB (λ_=>(#[]:Array jB))) hS rfl
 refine jA (uX ?_)
 have gu:∀(h:jY) (f:Array jB->Array jB) b,b≠S->∀o,h.get? b=some o->(h.update S (kB f)).get? b=some o:=λh f b hb o e=>(mj _ _ _ _ hb).trans e
 have mu:∀(h:jY) (f:Array jB->Array jB),C7 h M T it l p items n 0->C7 (h.update S (kB f)) M T it l p items n 0:=λh f m=>by
  refine Af m.iter λo' e' r'=>?_
  exact⟨gu _ _ _ (ll (ne ‹C7 s.heap M T it l p items n 0›.map)) _ m.map,gu _ _ _ (ll (ne ‹C7 s.heap M T it l p items n 0›.tup)) _ m.tup,(Ac o' (gu _ _ _ (ll (ne ei)) _ e') r'),gu _ _ _ (ll (ne ‹C7 s.heap M T it l p items n 0›.list)) _ m.list,gu _ _ _ (ll (ne ‹C7 s.heap M T it l p items n 0›.fn)) _ m.fn,m.ne1,m.ne2,m.ne3,m.ne4⟩
 have m2:=mu _ (λ_=>(#[]:Array jB)) m1
 have hT:({s with heap:=hh.update S (kB λ_=>(#[]:Array jB))}:jE).TypeIs (.ref M) "map":=Ac _ m2.map rfl
 unfold pL
 refine jA (sk hT ?_)
 have h1:tm (.ref S) (.ref M)=false:=by simp[tm,ne m.map]
 have h2:(jV "map" == jV "list")=false:=by decide
 have h3:(jV "map" == jV "tuple")=false:=by decide
 simp only[h1,h2,h3,Bool.or_false,nh,if_false]
 refine jA (Wz (s:={s with heap:=hh.update S (kB λ_=>(#[]:Array jB))}) m2 ?_)
 refine jA (kE ?_)
 unfold Builtin.List.listLengthHint
 refine jA (vc hT UW ?_)
 show wpAny _ A.in1.in1 (specialOf (kx M) (jz "__length_hint__")>>=_) _ _ _
 refine jA (vc hT Rb ?_)
 refine jJ ?_
 show wpAny _ A.in1.in1 (rule "list.extend.makes-room">>=λ_=>Builtin.List.listTouch (.ref S)>>=λ_=>again (.builtin "list.extend.loop" ⟨[.ref S,.ref M,.none],[]⟩)) _ _ _
 refine jA (so ?_)
 refine jA ?_
 show wpAny _ A.in1.in1 (wf S (·.push .none)>>=λ_=>wf S (·.pop)) _ _ _
 refine jA (sA x2 rfl ?_)
 have x3:=mM (kB (·.push jD)) x2 rfl
 refine sA (hz:=by seq_fits) x3 rfl ?_
 have yd:=mM (kB (·.pop)) x3 rfl
 have m3:=mu _ (λxs=>xs.pop) (mu _ (λxs=>xs.push jD) m2)
 refine jJ ⟨tL oS _,?_⟩
 refine WY (A:=A.in1) K T' room hk own ri hi hz sS sI (ne ei) (ne m.map) (ne m.tup) (ne m.list) (ne m.fn) (λs' acc c a1 a2 a3 a4=>⟨rfl,q S s' acc c a1 a2 sS a3 a4⟩) ts.length 0 _ #[] _ (by rwa[]) (kf _)
  ⟨al.tr (AS _ _ rfl),λb o e=>?_,m3,yd,[],.nil,λ_ h=>(nomatch h)⟩
 have hb:b≠S:=λz=>by rw[z,sS] at e;exact B6 e
 exact gu _ _ _ hb _ (gu _ _ _ hb _ (gu _ _ _ hb _ (old1 b o e)))
end
section
open PySem.Builtin
theorem Xo(P:jC):readsIn (KK P) CM (.type "type")=true:=by kernel_rfl
theorem PC(P:jC):findCls (KK P) (.ref CM) (.type "type") "_make"=some (.get (.builtin "classmethod.__get__") (.ref 91) .none (.ref CM)):=by kernel_rfl
theorem RA(P:jC):recIn (KK P) 91 "classmethod"=some [.ref 89,.bool false]:=by kernel_rfl
theorem Yu{w:jW}{A:kA}{E:jB->jE->Prop}{s:jE}{expr:Bool}{Q:jB->jE->Prop}(K:Bn w s.heap)
 (h:Q (.ref s.heap.objs.size) {s with heap:=s.heap.push (rW (.ref 89) (.ref CM)),toks:=s.toks+1}):wpAny (model pw w) A (pU (.ref CM) "_make" expr) Q E s:=
 cls_bind K.k (Xo w.params) (PC w.params) (mS (cm_get (s:={s with toks:=s.toks+1}) K.k (RA w.params) (handed_on rfl h)))
theorem Ev.run{Γ:Cx}{σ:AX}{e:kH}{av:AV}{O:Ap}{s:jE}{Q:jB->jE->Prop}{E:jB->jE->Prop}(h:Ev Γ σ e av)(t:St Γ O σ s)(q:∀v s',St Γ O σ s'->kY s s'->VR O s'.heap av v->Q v s'):wpAny (model Γ.prog Γ.w) Γ.A (eval e Γ.env) Q E s:=h O s Q E t q
structure Zc (w:jW) (as bs:List jX) (h:jY) (I D:jL) (m:jX->Option jB) (k:Nat) (O:Ap):Prop where
 inn:IN h I D m k
 ex:∃la lb dj sj led ls,fv m la lb dj sj/\Ak h (.ref la) (.list (as.map .str)) [la]/\Ak h (.ref lb) (.list (bs.map .str)) [lb]/\RJ w bs h (.ref dj) (dj::ls)/\h.get? sj=some (Cc led)/\(∀a∈I::D::la::lb::sj::dj::ls,¬O.has a)/\D∉la::lb::sj::dj::ls
theorem Zc.rm{w:jW}{as bs:List jX}{h:jY}{I D:jL}{m:jX->Option jB}{k:Nat}{O:Ap}(x:Zc w as bs h I D m k O):∃pl,fW w as bs I h (.ref I) pl/\(∀a∈pl,¬O.has a)/\D∈pl/\I∈pl:=
 ZF x.ex λla lb dj sj led ls h1 h2 h3 h4 h5 h6 _=>H5 _ ⟨rfl,I,D,m,k,la,lb,dj,sj,led,ls,rfl,rfl,x.inn,h1,h2,h3,h4,h5⟩ h6 (.tail _ (.head _)) (.head _)
theorem Zc.step{w:jW}{as bs:List jX}{h h':jY}{I D:jL}{m m':jX->Option jB}{k k':Nat}{O O':Ap}(x:Zc w as bs h I D m k O)(i':IN h' I D m' k')(hm:∀la lb dj sj,fv m la lb dj sj->fv m' la lb dj sj)
 (kp:∀b o,h.get? b=some o->b≠D->¬O.has b->h'.get? b=some o)(tp:∀b o,h.get? b=some o->(o.cls=.type "tuple"/\∃vs n,o.data=.seq vs n)->h'.get? b=some o)(hO:∀b o,h.get? b=some o->¬O.has b->¬O'.has b):Zc w as bs h' I D m' k' O':=by
 refine H0 x.rm λpl rmi hpl _ _=>?_
 refine ZF x.ex λla lb dj sj led ls h1 h2 h3 h4 h5 h6 h7=>?_
 have ne:∀a∈la::lb::sj::dj::ls,a≠D:=λa ha z=>h7 (z▸ha)
 have kk:∀a∈la::lb::sj::dj::ls,∀o,h.get? a=some o->h'.get? a=some o:=λa ha o e=>kp a o e (ne a ha) (h6 a (.tail _ (.tail _ ha)))
 have live:∀a∈I::D::la::lb::sj::dj::ls,∃o,h.get? a=some o:=λa ha=>by
  rcases jG.mp ha with rfl|ha
  ·exact Ag _ x.inn.inst
  ·rcases jG.mp ha with rfl|ha
   ·refine Ao x.inn.dict λes n e _=>?_;exact Ag _ e
   ·rcases jG.mp ha with rfl|ha
    ·exact BA h2 _ (.head _)
    ·rcases jG.mp ha with rfl|ha
     ·exact BA h3 _ (.head _)
     ·rcases jG.mp ha with rfl|ha
      ·exact Ag _ h5
      ·obtain⟨o,e,_⟩:=(Cn w bs).solid h4 a ha;exact Ag o e
 refine⟨i',la,lb,dj,sj,led,ls,hm _ _ _ _ h1,CX h2 (λb hb=>kk b (by rw[jH.mp hb];exact .head _)) tp,CX h3 (λb hb=>kk b (by rw[jH.mp hb];exact .tail _ (.head _))) tp,
  (Cn w bs).keepBy h4 (λb hb=>kk b (.tail _ (.tail _ (.tail _ hb)))) tp,kk sj (.tail _ (.tail _ (.head _))) _ h5,λa ha=>AR (live a ha) λo e=>hO a o e (h6 a ha),h7⟩
theorem Fx.at{Γ:Cx}{O O':Ap}{s s':jE}(f:Fx Γ O s O' s'){b:jL}{o:nH}(e:s.heap.get? b=some o)(h:¬O.has b)(hc:∀x,(x,b)∉Γ.env.cells):s'.heap.get? b=some o:=f.kept b o e h (λEM=>AR EM λx z=>hc x z)
theorem YL{w:jW}{A:kA}{s:jE}{O:Ap}{I D:jL}{m:jX->Option jB}{k:Nat}{xG:jY}{as bs:List jX}{mg mb:jX->Option jB}{Q:jB->jE->Prop}{E:jB->jE->Prop}(K:Bn w xG)(T:Br mg mb xG)(hgM:mg "Match"=some (.ref CM))(room:A0 A 6)(hk:HK xG s)(own:CJ O s)(hD0:xG.get? D=none)
 (i:Zc w as bs s.heap I D m k O)(hkk:k<=800)(lA:as.length<=63)(lB:bs.length<=63)
 (q:∀s' S,AI s s'->(∀b o,b≠D->s.heap.get? b=some o->s'.heap.get? b=some o)->VR O s'.heap (.py (.list ((Gg as bs).map Fq))) (.ref S)->(∃o,s'.heap.get? D=some o)->Q (.ref S) s') :
 wpAny (model pw w) A (call (.ref 203) [.ref I]) Q E s:=by
 delta w A s O I D m k xG as bs mg mb Q E at K T hgM room hk own hD0 i hkk lA lB q
 refine H0 i.rm λpl rmi hpl hDp hIp=>?_
 have hDO:¬O.has D:=hpl D hDp
 refine Db (args:=⟨[.ref I],[]⟩) (vs:=[.ref I]) (fd:=Bq (Dp w.params)) (st:=BB 5 7) K T.gl.nolimit room hk own hDO (f:=203) (o:=Dp w.params) (by kernel_rfl) (by kernel_rfl) (d3 _) (by kernel_rfl) (.of_eq (Y4 _ _)) rfl (λN rm s1 E' t k1=>?_)
 have MF:=Zb.of (w:=w) i.inn hDO
 have hk0:HK xG (A6 s D):=Es hk hD0
 have new0:s.heap.get? s.heap.objs.size=none:=Bk (jN _)
 have liveP:∀a∈pl,∃o,s.heap.get? a=some o:=λa ha=>Af ((DH w as bs I).solid rmi a ha) λo e _=>(Ag o e)
 have hplO:∀a∈pl,¬Ap.has (("",s.heap.objs.size)::O) a:=λa ha=>by
  rintro⟨p,hp,e⟩
  rcases jG.mp hp with rfl|hp
  ·obtain⟨o,e'⟩:=liveP a ha
   rw[<-e,new0] at e';exact B6 e'
  ·exact hpl a ha (Ac p hp e)
 have t1:St (fM w A (A6 s D) s O) (("",s.heap.objs.size)::O) [HN w as bs I,none,none,none,none,none,none,none,none,none,none,none,none,none,none,none,none,none,none,none] s1:=
  X2 N t (i:=0) (x:="self") rfl rfl (a:=.st (fW w as bs I) (DH w as bs I)) (Ac pl ((DH w as bs I).keeps rmi (Ax k1)) hplO)
 have ed:Am (BB 5 7)=(Am (BB 5 7)).take 12++(Am (BB 5 7)).drop 12:=(pN 12 _).symm
 rw[ed]
 have hnocell:∀b,∀x,(x,b)∉(fM w A (A6 s D) s O).env.cells:=λb x h=>(by cases h)
 refine N4 t1 (YM K T hgM hk0 N (rm.le (by rwa[])) lA lB) ?_
 rintro O' σ' s2 fx t2 ⟨mb,a,b,c,d,i',j,k',x,i1,j1,k1',i2,j2,k2,h1,h2,h3,h4,h5,h6,h7,h8,h9,g1,g2,g3,g4,g5,g6,rfl⟩
 have i1':=i.inn.keeps (Ax k1)
 have old2:∀b o,s.heap.get? b=some o->¬O.has b->s2.heap.get? b=some o:=λb o e hb=>fx.at (Ax k1 b o e) (λEM=>Af EM λp hp e'=>by
  rcases jG.mp hp with rfl|hp
  ·have e':s.heap.objs.size=b:=e'
   rw[<-e',new0] at e;exact B6 e
  ·exact hb (Ac p hp e')) (hnocell b)
 have iS:=i.inn
 have in2:IN s2.heap I D m k:=by
  refine Ao iS.dict λes n e r=>?_
  exact⟨old2 _ _ iS.inst (hpl I hIp),es,n,old2 _ _ e hDO,r⟩
 have hDO':¬O'.has D:=λh=>by
  rcases fx.own D h with z|z
  ·exact hplO D hDp z
  ·refine Ao i1'.dict λes n e r=>?_
   exact B0 z e
 refine Af (V4 N t2 (i:=0) rfl rfl) λv0 zz1 t3=>?_;obtain⟨pl2,⟨rfl,_⟩,_⟩:=zz1
 have hkΓ:HK xG (fM w A (A6 s D) s O).s₀:=hk0
 have KS:∀s':jE,(∀b o,(A6 s D).heap.get? b=some o->s'.heap.get? b=some o)->Bn w s'.heap:=λs' h=>K.keeps λb o e=>h b o (hk0 b o e)
 have fl:((GC w as bs I as.length bs.length (some (.own [])) mb a b c d i' j k' x i1 j1 k1' (some (.own ((Gg as bs).map BX))) i2 j2 k2).set 0 (some (.val (.raw (.ref I))))).all C8=true:=by
  have vf:∀x,Bx x=true->C8 x=true:=λx h=>by
   cases x with
   | none=>rfl
   | some b=>
    cases b with
    | val a=>cases a<;>first|rfl|exact(lg h).elim
    | _=>first|rfl|exact(lg h).elim
  simp only[GC,List.set_cons_zero,lC,vn,vf _ h1,vf _ h2,vf _ h3,vf _ h4,vf _ h5,vf _ h6,vf _ h7,vf _ h8,vf _ h9,vf _ g1,vf _ g2,vf _ g3,vf _ g4,vf _ g5,vf _ g6]
  rfl
 generalize hσ:(GC w as bs I as.length bs.length (some (.own [])) mb a b c d i' j k' x i1 j1 k1' (some (.own ((Gg as bs).map BX))) i2 j2 k2).set 0 (some (.val (.raw (.ref I))))=σ at *
 have TR:σ[16]?=some (some (.own ((Gg as bs).map BX))):=by rw[<-hσ];rfl
 have s0:σ[0]?=some (some (.val (.raw (.ref I)))):=by rw[<-hσ];rfl
 refine kg (uD (qQ (Ev.run (A1 (v:=.type "list") T hkΓ) t3 λv s3 t4 k3 r3=>?_) (by rfl)) (by rfl))
 obtain rfl:v=.type "list":=r3
 refine oY (Bh (by rfl)) (AL (by rfl) (args_cons (qQ (Ev.run (A1 (v:=.type "map") T hkΓ) t4 λv s4 t5 k4 r4=>?_) (by rfl))))
 obtain rfl:v=.type "map":=r4
 refine oY (Bh (by rfl)) (AL (by rfl) (args_cons (Attribute_any_ (Ev.run (BU T hkΓ hgM) t5 λv s5 t6 k5 r5=>?_))))
 obtain rfl:v=.ref CM:=r5
 refine Yu (KS s5 t6.keep) (args_cons ?_)
 have kp:kY s5 {s5 with heap:=s5.heap.push (rW (.ref 89) (.ref CM)),toks:=s5.toks+1}:=Keeps.pushT _ _ _
 have t7:=t6.of_keeps kp
 have hp:({s5 with heap:=s5.heap.push (rW (.ref 89) (.ref CM)),toks:=s5.toks+1}:jE).heap.get? s5.heap.objs.size=some (rW (.ref 89) (.ref CM)):=jQ _ rfl
 have k26:kY s2 {s5 with heap:=s5.heap.push (rW (.ref 89) (.ref CM)),toks:=s5.toks+1}:=Keeps.tr (Keeps.tr (Keeps.tr k3 k4) k5) kp
 generalize ({s5 with heap:=s5.heap.push (rW (.ref 89) (.ref CM)),toks:=s5.toks+1}:jE)=s6 at *
 refine Pp (EZ N t7 (i:=16) rfl TR) λmm l ws ias nn hd' zz1 ri qi _ _=>?_;obtain⟨c0,hl⟩:=zz1
 refine EY N nn hd' (pX (Xr hl (pX ?_)))
 have hz1:(Pc s6.heap l).objs.size=s6.heap.objs.size+1:=mR _ _
 have hz2:(Kt s6.heap l).objs.size=s6.heap.objs.size+1+1:=(mR _ _).trans (by rw[hz1])
 have g1':∀b o,s6.heap.get? b=some o->(Pb s6.heap l (.ref s5.heap.objs.size)).get? b=some o:=λb o e=>jF _ (jF _ (jF _ e))
 have nw:∀{b:jL} {o:nH},s6.heap.get? b=some o->s6.heap.objs.size≠b:=λe=>Nat.ne_of_gt (kq e)
 have mat:C7 (Pb s6.heap l (.ref s5.heap.objs.size)) (Kt s6.heap l).objs.size (Pc s6.heap l).objs.size s6.heap.objs.size l s5.heap.objs.size ws c0 0:=
  ⟨by
   have:=jQ (h:=Kt s6.heap l) (o:={cls:=.type "map",data:=.fields #[.ref (Pc s6.heap l).objs.size,.ref s5.heap.objs.size]}) rfl
   exact this,
   jF _ (jQ _ rfl),(Ba _ (jF _ (jF _ (jQ _ rfl))) rfl rfl),g1' _ _ hl,g1' _ _ hp,λz=>absurd (show(s6.heap.objs.size:Nat)=s6.heap.objs.size+1+1 from z.trans hz2) (by rwa[hz2]),λz=>absurd (show(s6.heap.objs.size:Nat)=s6.heap.objs.size+1 from z.trans hz1) (by rwa[hz1]),nw hl,nw hp⟩
 have hbl:=(GV as bs).len
 have hz:(Gg as bs).length<=1000:=by unfold Gg;rw[jZ,pO];rwa[lA,hbl]
 refine Kf (s₀:=s6) (s:={s6 with heap:=Pb s6.heap l (.ref s5.heap.objs.size)}) K T (by exact(rm.le (show 4<=5 by rwa[])).in1.in1.in1) (λb o e=>t7.keep _ _ (hk0 b o e)) t7.ownOk ri qi hz (Bk (jN _)) (AS _ _ rfl) g1' mat λS s7 acc c1 al7 old7 fS hS rS=>?_
 refine B1 al7 λh7 tk7 zz1=>?_;clear al7;obtain rfl:=zz1
 have k67:kY s6 {s6 with heap:=h7,toks:=tk7}:=AT h7 tk7 rfl old7
 refine Af rS λas' r' q'=>?_
 have t8:=t7.of_keeps k67
 have in7:=in2.keeps (Ax (Keeps.tr k26 k67))
 generalize hs7:({s6 with heap:=h7,toks:=tk7}:jE)=s7 at *
 refine Bw 0 t8 (F7 (KS s7 t8.keep) in7 (by rwa[hkk]) λh8 i8 sb8=>?_) rfl s0
 refine Ao in7.dict λes7 n7 eD7 _=>?_
 refine Ao i8.dict λes8 n8 eD8 _=>?_
 have t9:=Ej (tk:=s7.toks+2) N t8 A3 MF.dl hDO' eD7 rfl fl sb8 eD8
 refine kg (pT (DJ rfl t9 (KS _ t9.keep) i8 (Aa 0 rfl s0) (v:=.ref S) (by simp[Bm]) λs10 k10 t10=>?_))
 have SD:S≠D:=λz=>by
  refine Ao in2.dict λes n e _=>?_
  rw[z,Ax k26 _ _ e] at fS;exact XK fS
 have hsub:∀b,O.has b->Ap.has O' b:=λb ⟨p,hp,e⟩=>t10.sub b (Ac p (.tail _ hp) e)
 have SO:¬Ap.has O' S:=λEM=>Af EM λp hp e=>by
  obtain⟨o,e'⟩:=t7.live p hp
  rw[e,fS] at e';exact B6 e'
 have r8:Ak h8 (.ref S) (.list ((Gg as bs).map Fq)) (S::as'):=
  .list ((sb8.2 S SD).trans hS) rfl rfl (Aq (λb hb o e=>(sb8.2 b hb).trans e) (λo e ⟨hc,_⟩=>by(replace e:=CQ eD7 e;subst e);exact absurd (show jV "dict"=jV "tuple" from hc) (by decide)) r' (EC eD7 rfl r'))
 refine q s10 S ?_ (λb o hb e=>t10.keep b o ((Bj hb).trans e)) (Ac _ (Ak.keeps (Ax k10) r8) λb hb=>?_) (Ag _ (Ax k10 _ _ eD8))
 ·exact((Bc k1).tr (fx.alike.tr ((Bc k26).tr ((Bc k67).tr (AS _ _ rfl))))).tr (Bc k10)
 ·rcases jG.mp hb with rfl|hb
  ·exact λh=>SO (hsub _ h)
  ·exact λh=>(q' b hb).1 (hsub _ h)
end

section
variable {Γ:Cx} {σ:AX} {P:AF->AX->Prop} {pos:mf}
theorem TI{e:kH}{x:jX}(h:Ev Γ σ e (.py (.str x)))(hx:x.length<=1000)(he:autoParam (isTrue e Γ.env (eval e Γ.env)=(do let v<-eval e Γ.env;mQ e.pos;ml [v] (truthy v))) aR):Tv Γ σ e (x.length != 0):=by
 intro O s Q E t q
 refine oJ (h O s _ E t λv s' t' k r=>?_) he
 obtain⟨tx,rfl⟩:=r.str_inv
 refine P.truthy_str (by rwa[hx]) ?_
 have:((x.length:Int) != 0)=(x.length != 0):=by rw[qf];simp
 rw[this]
 exact q _ (t'.keeps λ_ _ e=>e) (Keeps.tr k Keeps.rfl')
theorem Uz(N:Nm Γ)(i j:Nat){x y:jX}{px py:mf}{e:kH}{d:jO}(h:Ev Γ σ e (.py d))(hP:P .next ((σ.set i (some (.val (.py d)))).set j (some (.val (.py d)))))
 (hi:autoParam (Γ.ns[i]?=some x) aR)(hj:autoParam (Γ.ns[j]?=some y) aR)(li:autoParam (i<σ.length) aN)(lj:autoParam (j<σ.length) aN)
 (ki:autoParam (Γ.env.kindOf x=some .local) aR)(kj:autoParam (Γ.env.kindOf y=some .local) aR)
 (h2:autoParam (qK (λx=>x.snd) (assignEach [ku x px,ku y py] Γ.env)=[assign (ku x px) Γ.env,assign (ku y py) Γ.env]) aR)
 (hsw:autoParam (nt [ku x px,ku y py] e Γ.env=pure none) aR):X1 Γ σ (.Assign [.Name x px,.Name y py] e pos) P:=by
 intro O s Q E t q
 refine oA (h O s _ E t λv s1 t1 k1 r1=>?_) h2 hsw
 refine lI (AG N (b:=.val (.py d)) hi li ki t1 r1 λs2 a2 u2 t2=>?_)
 have r2:VR O s2.heap (.py d) v:=VR.avoid (O:=O) r1 (t1.sub _ t1.frame) (λb hb o e=>u2 b o hb e) (by refine Af t1.ex λm n _=>?_;exact A5 n)
 refine lI (AG N (b:=.val (.py d)) hj (by rw[nJ];exact lj) kj t2 r2 λs3 a3 u3 t3=>?_)
 exact q O .next .next _ s3 (((Fx.of_keeps k1).tr (Fx.ofBut t1 a2 u2 t2)).tr (Fx.ofBut t2 a3 u3 t3)) t3 rfl hP
end
noncomputable def B5 (t:A9):List AM:=if t.2.2=0 then [] else [("equal",t.1,t.1+t.2.2,t.2.1,t.2.1+t.2.2)]
noncomputable def Kk (s:Nat×Nat×List AM) (t:A9):Nat×Nat×List AM:=(t.1+t.2.2,t.2.1+t.2.2,s.2.2++AH (s.1,s.2.1) (t.1,t.2.1)++B5 t)
noncomputable def FM (l:List A9):Nat×Nat×List AM:=l.foldl Kk (0,0,[])
noncomputable def E0 (l:List A9):List AM:=(FM l).2.2
theorem Rk(l:List A9)(t:A9):FM (l++[t])=Kk (FM l) t:=by unfold FM;rw[mq];rfl
theorem Ub(e b:Nat×Nat):(AH e b).length<=1:=by unfold AH;split<;>simp
theorem Vh(t:A9):(B5 t).length<=1:=by unfold B5;split<;>simp
theorem U8(l:List A9):(FM l).2.2.length<=2*l.length:=by
 have:∀(r:List A9) (s:Nat×Nat×List AM),(r.foldl Kk s).2.2.length<=s.2.2.length+2*r.length:=by
  intro r
  induction r with
  | nil=>intro s;exact lY _ _
  | cons t r ih=>
   intro s
   refine kL (ih _) ?_
   have h1:=Ub (s.1,s.2.1) (t.1,t.2.1)
   have h2:=Vh t
   show(s.2.2++AH (s.1,s.2.1) (t.1,t.2.1)++B5 t).length+_<=_
   rw[jZ,jZ,j7]
   rwa[h1,h2]
 have:=this l (0,0,[])
 rw[ln,tB] at this
 exact this
noncomputable def ZB:List jX:=["self","i","j","answer","ai","bj","size","tag"]
theorem dZ(P:jC):Bf (Bq (Eg P)) (Am (BB 5 8)) ["self"] ZB:=.of' rfl rfl rfl (by decide +kernel)
theorem Y3(P:jC)(u:jB):l3 (Bq (Eg P)) ⟨[u],[]⟩=pure [((jz "self"),u)]:=by rfl
noncomputable abbrev fO (w:jW) (A:kA) (s₀ s:jE) (O:Ap):Cx:=CF pw w A s₀ s (Bq (Eg w.params)) 210 ZB O
noncomputable abbrev O5 (I:jL) (i j:Nat) (out:List AM) (ai bj sz tag:Option Bd):AX:=[some (.val (.raw (.ref I))),pI i,pI j,some (.own (out.map Da)),ai,bj,sz,tag]
theorem TV(out:List AM)(c:AM):(out++[c]).map Da=out.map Da++[Da c]:=by rw[kz];rfl
theorem Wr{w:jW}{A:kA}{s₀ s:jE}{O:Ap}(N:Nm (fO w A s₀ s O))(hh:(fO w A s₀ s O).A.handled=none)(I:jL)(i j:Nat)(out:List AM)(t:A9)(tag:Option Bd)(hlen:out.length<=1000)(P:AF->AX->Prop)
 (hP:∀tag,P .next (O5 I (t.1+t.2.2) (t.2.1+t.2.2) (out++AH (i,j) (t.1,t.2.1)++B5 t) (pI t.1) (pI t.2.1) (pI t.2.2) tag)) :
 Ex (fO w A s₀ s O) (O5 I i j out (pI t.1) (pI t.2.1) (pI t.2.2) tag) (WR (((Am (BB 5 8)).drop 4).headD (.Pass ⟨0,0,0,0⟩))) P:=by
 delta w A s₀ s O I out tag P at N hh i j t hlen hP
 obtain⟨a,b,z⟩:=t
 have lW:∀x:jX,x="replace"\/x="delete"\/x="insert"->(x.length != 0)=true/\x.length<=1000/\x≠"":=by
  rintro x (rfl|rfl|rfl)<;>exact⟨by decide,by decide,by decide⟩
 have tail:∀(out2:List AM) (tg:Option Bd),out2.length<=1001->out2=out++AH (i,j) (a,b)->Ex (fO w A s₀ s O) (O5 I i j out2 (pI a) (pI b) (pI z) tg) ((WR (((Am (BB 5 8)).drop 4).headD (.Pass ⟨0,0,0,0⟩))).drop 3) P:=λout2 tg hl he=>by
  refine Ad (DB N hh [1,2] ["i","j"] (Au (ds:=[.int (a+z:Nat),.int (b+z:Nat)]) (Ab (Dh (Aa 4) (Aa 6)) (Ab (Dh (Aa 5) (Aa 6)) Ah))) ⟨rfl,rfl,rfl,rfl,trivial⟩ ?_)
  refine Ad (BI (b:=((z:Nat):Int) != 0) (ID (Aa 6)) (λh=>?_) (λh=>?_))
  ·have hz:z≠0:=by simpa using h
   refine Ad (AO N 3 (d:=Da ("equal",a,a+z,b,b+z)) (ds:=out2.map Da) (Au (ds:=[.str "equal",.int (a:Nat),.int (a+z:Nat),.int (b:Nat),.int (b+z:Nat)]) (Ab BF (Ab (Aa 4) (Ab (Aa 1) (Ab (Aa 5) (Ab (Aa 2) Ah)))))) (by rw[jI];rwa[hl]) (Aj (Aj ?_)))
   have:=hP tg
   rw[show B5 (a,b,z)=([("equal",a,a+z,b,b+z)]:List AM) from if_neg hz,<-he] at this
   unfold O5 at this
   rw[TV] at this
   exact this
  ·have hz:z=0:=by simpa using h
   have:=hP tg
   rw[show B5 (a,b,z)=[] from if_pos hz,<-he,kF] at this
   exact Aj (Aj this)
 have mid:∀x,x=BL (i,j) (a,b)->Ex (fO w A s₀ s O) (O5 I i j out (pI a) (pI b) (pI z) (some (.val (.py (.str x))))) ((WR (((Am (BB 5 8)).drop 4).headD (.Pass ⟨0,0,0,0⟩))).drop 2) P:=λx hx=>by
  by_cases hz:x=""
  ·refine Ad (BI (b:=false) (Tv.cast (TI (Aa 7) (by rw[hz];decide)) (by rw[hz];rfl)) (λh=>nomatch h) (λ_=>Aj (tail out _ (by rwa[hlen]) ?_)))
   unfold AH
   rw[if_pos (hx▸hz),kF]
  ·have hl:x="replace"\/x="delete"\/x="insert":=by
    rw[hx] at hz ⊢
    unfold BL at hz ⊢
    split<;>split<;>simp_all
   refine Ad (BI (b:=true) (Tv.cast (TI (Aa 7) (lW x hl).2.1) (lW x hl).1) (λ_=>?_) (λh=>nomatch h))
   refine Ad (AO N 3 (d:=Da (x,i,a,j,b)) (ds:=out.map Da) (Au (ds:=[.str x,.int (i:Nat),.int (a:Nat),.int (j:Nat),.int (b:Nat)]) (Ab (Aa 7) (Ab (Aa 1) (Ab (Aa 4) (Ab (Aa 2) (Ab (Aa 5) Ah)))))) (by rw[jI];rwa[hlen]) (Aj ?_))
   have:=tail (out++[(x,i,a,j,b)]) (some (.val (.py (.str x)))) (by rw[jZ,pO];rwa[hlen]) (by
    unfold AH
    rw[if_neg (hx▸hz),<-hx])
   unfold O5 at this
   rw[TV] at this
   exact this
 refine Ad (At N 7 BF ?_)
 have e1:decide (((i:Nat):Int)<((a:Nat):Int))=decide (i<a):=by rw[qf];simp
 have e2:decide (((j:Nat):Int)<((b:Nat):Int))=decide (j<b):=by rw[qf];simp
 by_cases c1:i<a<;>by_cases c2:j<b
 ·refine Ad (BI (b:=true) (Tv.cast (By (AP (An (Aa 1) (Aa 4)) λ_=>AP (An (Aa 2) (Aa 5)) λ_=>BC)) (by rw[e1,e2,decide_eq_true c1,decide_eq_true c2];rfl)) (λ_=>Ad (At N 7 BF (Aj (mid _ ?_)))) (λh=>nomatch h))
  unfold BL;rw[if_pos c1,if_pos c2]
 ·refine Ad (BI (b:=false) (Tv.cast (By (AP (An (Aa 1) (Aa 4)) λ_=>AP (An (Aa 2) (Aa 5)) λ_=>BC)) (by rw[e1,e2,decide_eq_true c1,decide_eq_false c2];rfl)) (λh=>nomatch h) (λ_=>?_))
  refine Ad (BI (b:=true) (Tv.cast (An (Aa 1) (Aa 4)) (by rw[e1,decide_eq_true c1])) (λ_=>Ad (At N 7 BF (Aj (Aj (mid _ ?_))))) (λh=>nomatch h))
  unfold BL;rw[if_pos c1,if_neg c2]
 ·refine Ad (BI (b:=false) (Tv.cast (By (AP (An (Aa 1) (Aa 4)) λ_=>AP (An (Aa 2) (Aa 5)) λ_=>BC)) (by rw[e1,decide_eq_false c1];rfl)) (λh=>nomatch h) (λ_=>?_))
  refine Ad (BI (b:=false) (Tv.cast (An (Aa 1) (Aa 4)) (by rw[e1,decide_eq_false c1])) (λh=>nomatch h) (λ_=>?_))
  refine Ad (BI (b:=true) (Tv.cast (An (Aa 2) (Aa 5)) (by rw[e2,decide_eq_true c2])) (λ_=>Ad (At N 7 BF (Aj (Aj (Aj (mid _ ?_)))))) (λh=>nomatch h))
  unfold BL;rw[if_neg c1,if_pos c2]
 ·refine Ad (BI (b:=false) (Tv.cast (By (AP (An (Aa 1) (Aa 4)) λ_=>AP (An (Aa 2) (Aa 5)) λ_=>BC)) (by rw[e1,decide_eq_false c1];rfl)) (λh=>nomatch h) (λ_=>?_))
  refine Ad (BI (b:=false) (Tv.cast (An (Aa 1) (Aa 4)) (by rw[e1,decide_eq_false c1])) (λh=>nomatch h) (λ_=>?_))
  refine Ad (BI (b:=false) (Tv.cast (An (Aa 2) (Aa 5)) (by rw[e2,decide_eq_false c2])) (λh=>nomatch h) (λ_=>Aj (Aj (Aj (mid _ ?_)))))
  unfold BL;rw[if_neg c1,if_neg c2]
theorem I2{α β:Type}(f:α->Nat)(mk:α->β)(size:β->Nat)(hs:∀x,size (mk x)=f x)(b0:β)(h0:size b0=0)(L:List α) :
 (L.foldl (λb x=>if size b<f x then mk x else b) b0=b0/\∀x∈L,f x=0)\/
 ∃L1 x L2,L=L1++x::L2/\0<f x/\(∀y∈L1,f y<f x)/\(∀y∈L2,f y<=f x)/\L.foldl (λb x=>if size b<f x then mk x else b) b0=mk x:=by
 have main:∀(K L:List α),L.reverse=K->(L.foldl (λb x=>if size b<f x then mk x else b) b0=b0/\∀x∈L,f x=0)\/
  ∃L1 x L2,L=L1++x::L2/\0<f x/\(∀y∈L1,f y<f x)/\(∀y∈L2,f y<=f x)/\L.foldl (λb x=>if size b<f x then mk x else b) b0=mk x:=by
  intro K
  induction K with
  | nil=>
   intro L h
   obtain rfl:L=[]:=by simpa using h
   exact .inl ⟨rfl,λx hx=>(nomatch hx)⟩
  | cons z K ih=>
   intro L h
   obtain rfl:L=K.reverse++[z]:=by
    have:=congrArg List.reverse h
    simpa using this
   have ih:=ih K.reverse (by simp)
   rw[mq]
   simp only[mW,uK]
   rcases ih with⟨e,hz⟩|⟨L1,x,L2,e,hx,h1,h2,e'⟩
   ·rw[e,h0]
    by_cases c:0<f z
    ·rw[if_pos c]
     exact .inr (KB K.reverse z [] rfl c (λy hy=>by rw[hz y hy];exact c) (λy hy=>(nomatch hy)) rfl)
    ·rw[if_neg c]
     refine .inl ⟨rfl,λx hx=>?_⟩
     rcases jU.mp hx with hx|hx
     ·exact hz x hx
     ·rw[jH.mp hx];rwa[c]
   ·rw[e',hs]
    by_cases c:f x<f z
    ·rw[if_pos c]
     refine .inr (KB K.reverse z [] rfl (by rwa[hx,c]) (λy hy=>?_) (λy hy=>(nomatch hy)) rfl)
     rw[e] at hy
     rcases jU.mp hy with hy|hy
     ·have:=h1 y hy;rwa[c,this]
     ·rcases jG.mp hy with rfl|hy
      ·exact c
      ·have:=h2 y hy;rwa[c,this]
    ·rw[if_neg c]
     refine .inr (KB L1 x (L2++[z]) (by rw[e];simp) hx h1 (λy hy=>?_) rfl)
     rcases jU.mp hy with hy|hy
     ·exact h2 y hy
     ·rw[jH.mp hy];rwa[c]
 exact main _ L rfl
noncomputable def J5 (p q:Nat×Nat):Prop:=p.1<q.1\/(p.1=q.1/\p.2<q.2)
noncomputable def B8 (I:List Nat) (J:Nat->List Nat):List (Nat×Nat):=I.flatMap λi=>(J i).map λj=>(i,j)
theorem DC{I:List Nat}{J:Nat->List Nat}{p:Nat×Nat}:p∈B8 I J↔p.1∈I/\p.2∈J p.1:=by
 unfold B8
 rw[lr]
 constructor
 ·intro zz1;refine Af zz1 λi hi hp=>?_
  refine Af (kn.mp hp) λj hj zz1=>?_;obtain rfl:=zz1
  exact⟨hi,hj⟩
 ·rintro⟨h1,h2⟩
  exact Ac p.1 h1 (kn.mpr (Ac p.2 h2 rfl))
theorem El(J:Nat->List Nat)(hJ:∀i,(J i).Pairwise (· < ·)):∀(I:List Nat),I.Pairwise (· < ·)->(B8 I J).Pairwise J5
 | [],_=>.nil
 | i::I,h=>by
  obtain⟨h1,h2⟩:=ow.mp h
  show((J i).map (λj=>(i,j))++B8 I J).Pairwise J5
  refine nK.mpr ⟨?_,El J hJ I h2,λp hp q hq=>?_⟩
  ·rw[pE]
   exact(hJ i).imp λh=>.inr ⟨rfl,h⟩
  ·obtain⟨j,hj,rfl⟩:=kn.mp hp
   exact .inl (h1 _ (DC.mp hq).1)
theorem HX{β:Type}(g:β->Nat->Nat->β)(J:Nat->List Nat):∀(I:List Nat) (b:β),I.foldl (λb i=>(J i).foldl (λb j=>g b i j) b) b=(B8 I J).foldl (λb p=>g b p.1 p.2) b
 | [],b=>rfl
 | i::I,b=>by
  show I.foldl _ ((J i).foldl _ b)=((J i).map (λj=>(i,j))++B8 I J).foldl _ b
  rw[mq,List.foldl_map,HX g J I]
theorem IW{p q:Nat×Nat}(h:J5 p q)(h':J5 q p):False:=by
 unfold J5 at h h';rwa[h,h']
theorem GK{L:List (Nat×Nat)}(hL:L.Pairwise J5)(f:Nat×Nat->Nat){L1 L2:List (Nat×Nat)}{x:Nat×Nat}(e:L=L1++x::L2)(h1:∀y∈L1,f y<f x)(h2:∀y∈L2,f y<=f x) :
 x∈L/\(∀y∈L,f y<=f x)/\∀y∈L,J5 y x->f y<f x:=by
 subst e
 refine C1 (nK.mp hL) λ_ hc _=>?_
 obtain⟨hx,_⟩:=ow.mp hc
 refine⟨by simp,λy hy=>?_,λy hy hl=>?_⟩
 ·rcases jU.mp hy with hy|hy
  ·exact pK (h1 y hy)
  ·rcases jG.mp hy with rfl|hy
   ·exact jN _
   ·exact h2 y hy
 ·rcases jU.mp hy with hy|hy
  ·exact h1 y hy
  ·rcases jG.mp hy with rfl|hy
   ·exact(IW hl hl).elim
   ·exact(IW hl (hx y hy)).elim
theorem UH{j0 st i:Nat}(hst:0<st):j0<=CO j0 st i/\CO j0 st i<j0+st/\CO j0 st i%st=i%st:=by
 have h0:(0:Int)<st:=mG.mpr hst
 obtain⟨r,hr⟩:=pv (kK ((i:Int)-j0) h0)
 have h1:=lh ((i:Int)-j0) h0
 have e:CO j0 st i=j0+r:=by unfold CO;rw[hr];rfl
 rw[e]
 rw[hr] at h1
 refine⟨lY _ _,sK (mG.mp h1) _,rR ?_⟩
 show(((j0+r)%st:Nat):Int)=((i%st:Nat):Int)
 rw[xl,xl,xE,show((r:Nat):Int)=((i:Int)-j0)%st from hr.symm.trans (kQ _ (rM h0)),Int.add_emod_emod,Int.add_comm,Int.sub_add_cancel]
theorem WK{j0 j1 st i j:Nat}(hst:st=4\/st=10):j∈E4 j0 j1 st i↔j0<=j/\j<j1/\j%st=i%st:=by
 have h0:0<st:=by rcases hst with rfl|rfl<;>decide
 obtain⟨s1,s2,s3⟩:=UH (j0:=j0) (i:=i) h0
 unfold E4
 rw[kn,<-s3]
 generalize CO j0 st i=s at *
 constructor
 ·rintro⟨k,hk,rfl⟩
  have hk:=(rX h0).mp (mr.mp hk)
  rw[tC] at hk
  exact⟨kL s1 (lY _ _),by rwa[h0,hk],Nat.add_mul_mod_self_right _ _ _⟩
 ·rintro⟨h1,h2,h3⟩
  have hs:s<=j:=og λh=>by
   have e:=uk h3.symm
   rw[pZ (by rwa[h0,s2,h1])] at e
   exact Nat.sub_ne_zero_of_lt h e
  have e:=Nat.div_mul_cancel (Nat.dvd_of_mod_eq_zero (uk h3))
  refine⟨(j-s)/st,mr.mpr ((rX h0).mpr ?_),by rw[e];exact Nat.add_sub_of_le hs⟩
  rw[tC,e]
  rwa[h0,h2,hs]
theorem U0{j0 j1 st i:Nat}(hst:0<st):(E4 j0 j1 st i).Pairwise (· < ·):=by
 unfold E4
 rw[pE]
 refine pF.imp λ{a b} h=>?_
 have:=Nat.mul_lt_mul_of_pos_right h hst
 rwa[this]
theorem C0{a b i:Nat}:i∈(kd (b-a)).map (a+·)↔a<=i/\i<b:=by
 rw[kn]
 constructor
 ·intro zz1;refine Af zz1 λk hk zz2=>?_;clear zz1;obtain rfl:=zz2
  have:=mr.mp hk
  rwa[this]
 ·rintro⟨h1,h2⟩
  exact⟨i-a,mr.mpr (by rwa[h1,h2]),by rwa[h1]⟩
theorem Gy(a n:Nat):((kd n).map (a+·)).Pairwise (· < ·):=by
 rw[pE]
 exact pF.imp λh=>by rwa[h]
section
variable {α:Type} [DecidableEq α] {as bs:List α} {l r:List Nat} {st:Nat}
structure RN (as bs:List α) (l r:List Nat) (st:Nat):Prop where
 la:as.length=l.length
 lb:bs.length=r.length
 eq:∀i j,Dt as bs i j↔(∃c,l[i]?=some c/\r[j]?=some c)/\i%st=j%st
theorem TS{i1 j1 i j k:Nat}(hl:i1<=l.length)(hr:j1<=r.length)(h:k<Cw l r i1 j1 i j):i+k<i1/\j+k<j1/\∃c,l[i+k]?=some c/\r[j+k]?=some c:=by
 delta l r i1 j1 i j k at hl hr h
 have h:=(Un (pK h)).mp h
 rw[Ed hl,Ed hr] at h
 refine Af h λc h1 h2=>?_
 split at h1
 ·split at h2
  ·exact⟨by assumption,by assumption,c,h1,h2⟩
  ·exact B6 h2
 ·exact B6 h1
theorem We{i1 j1 i j:Nat}(hl:i1<=l.length)(hr:j1<=r.length):∀k,(∀t,t<k->i+t<i1/\j+t<j1/\∃c,l[i+t]?=some c/\r[j+t]?=some c)->k<=Cw l r i1 j1 i j
 | 0,_=>kf _
 | k+1,h=>by
  have ih:=We hl hr k λt ht=>h t (by rwa[ht])
  refine(Un ih).mpr ?_
  refine C1 (h k (by rwa[])) λh1 h2 zr0=>Af zr0 λc h3 h4=>?_
  rw[Ed hl,Ed hr,if_pos h1,if_pos h2]
  exact⟨c,h3,h4⟩
theorem X9{alo blo i j k:Nat}(ha:alo<=i)(hb:blo<=j)(h1:k<=i+1-alo)(h2:k<=j+1-blo)(h:∀t,t<k->Dt as bs (i-t) (j-t)):k<=AY as bs alo blo i j:=by
 rcases Nat.lt_or_ge (AY as bs alo blo i j) k with c|c
 ·exact(G9 as bs alo blo ha hb (by rwa[ha,h1,c]) (by rwa[hb,h2,c]) (h _ c)).elim
 ·exact c
noncomputable def Pv (as bs:List α) (alo ahi blo bhi:Nat):List (Nat×Nat):=B8 ((kd (ahi-alo)).map (alo+·)) (Gq as bs blo bhi)
theorem WU(as bs:List α)(alo ahi blo bhi:Nat):flm as bs alo blo bhi ahi=(Pv as bs alo ahi blo bhi).foldl (λ(b:A9) p=>if b.2.2<AY as bs alo blo p.1 p.2 then(p.1+1-AY as bs alo blo p.1 p.2,p.2+1-AY as bs alo blo p.1 p.2,AY as bs alo blo p.1 p.2) else b) (alo,blo,0):=
 HX (λb i j=>EJ as bs alo blo i b j) (Gq as bs blo bhi) _ _
theorem Of(l r:List Nat)(st alo ahi blo bhi:Nat):Cb l r st alo ahi blo bhi=(B8 ((kd (ahi-alo)).map (alo+·)) (E4 blo bhi st)).foldl (λ(b:Qj) p=>if b.2.2<Cw l r ahi bhi p.1 p.2 then(p.1,p.2,Cw l r ahi bhi p.1 p.2) else b) (alo,blo,0):=rfl
theorem Wb{a b c d k:Nat}(ka:k<=a+1)(kb:k<=b+1)(k0:0<k)(h1:¬(a+1-k<c\/a+1-k=c/\b+1-k<d))(h2:¬(c+k-1<a\/c+k-1=a/\d+k-1<b)):a+1-k=c/\b+1-k=d:=by
 have e:a+1-k=c:=by rwa[k0,h1,h2]
 exact⟨e,by rwa[ka,k0,h1,h2,e]⟩
theorem Pj(M:RN as bs l r st)(hst:st=4\/st=10){alo ahi blo bhi:Nat}(hA:ahi<=l.length)(hB:bhi<=r.length):flm as bs alo blo bhi ahi=Cb l r st alo ahi blo bhi:=by
 rw[WU,Of]
 have toEnd:∀i j k,alo<=i->blo<=j->i%st=j%st->0<k->k<=Cw l r ahi bhi i j->(i+k-1,j+k-1)∈Pv as bs alo ahi blo bhi/\k<=AY as bs alo blo (i+k-1) (j+k-1):=by
  intro i j k h1 h2 h3 h0 hk
  have eqs:∀t,t<k->Dt as bs (i+t) (j+t):=λt ht=>(M.eq _ _).mpr ⟨(TS hA hB (mP ht hk)).2.2,by rw[Nat.add_mod,h3,<-Nat.add_mod]⟩
  have hl:=TS hA hB (mP (show k-1<k by rwa[h0]) hk)
  refine⟨DC.mpr ⟨C0.mpr ⟨by show alo<=i+k-1;rwa[h1,h0],by show i+k-1<ahi;lia⟩,(CZ as bs blo bhi).mpr ⟨?_,by show blo<=j+k-1;rwa[h2,h0],by show j+k-1<bhi;lia⟩⟩,X9 (by rwa[h1,h0]) (by rwa[h2,h0]) (by rwa[h1,h0]) (by rwa[h2,h0]) λt ht=>?_⟩
  ·have:=eqs (k-1) (by rwa[h0])
   rw[show i+(k-1)=i+k-1 by rwa[h0],show j+(k-1)=j+k-1 by rwa[h0]] at this
   exact this
  ·have:=eqs (k-1-t) (by rwa[h0])
   rw[show i+(k-1-t)=i+k-1-t by rwa[ht],show j+(k-1-t)=j+k-1-t by rwa[ht]] at this
   exact this
 have toStart:∀p∈Pv as bs alo ahi blo bhi,0<AY as bs alo blo p.1 p.2->(p.1+1-AY as bs alo blo p.1 p.2,p.2+1-AY as bs alo blo p.1 p.2)∈B8 ((kd (ahi-alo)).map (alo+·)) (E4 blo bhi st)/\AY as bs alo blo p.1 p.2<=Cw l r ahi bhi (p.1+1-AY as bs alo blo p.1 p.2) (p.2+1-AY as bs alo blo p.1 p.2)/\alo<=p.1+1-AY as bs alo blo p.1 p.2/\blo<=p.2+1-AY as bs alo blo p.1 p.2/\(p.1+1-AY as bs alo blo p.1 p.2)%st=(p.2+1-AY as bs alo blo p.1 p.2)%st:=by
  rintro⟨i,j⟩ hp h0
  obtain⟨h1,h2⟩:=DC.mp hp
  obtain⟨h3,h4⟩:=C0.mp h1
  refine C1 ((CZ as bs blo bhi).mp h2) λh5 h6 h7=>?_
  show(_:Prop)
  dsimp only at h0 h3 h4 h5 h6 h7 ⊢
  obtain⟨b1,b2⟩:=Fl as bs alo blo h3 h6
  have eqs:∀t,t<AY as bs alo blo i j->Dt as bs (i-t) (j-t):=λt ht=>IG as bs alo blo h3 h6 ht
  generalize AY as bs alo blo i j=k at *
  have hm:(i+1-k)%st=(j+1-k)%st:=by
   have:=((M.eq _ _).mp (eqs (k-1) (by rwa[h0]))).2
   rw[show i-(k-1)=i+1-k by rwa[h0],show j-(k-1)=j+1-k by rwa[h0]] at this
   exact this
  refine⟨DC.mpr ⟨C0.mpr ⟨by show alo<=i+1-k;rwa[h0,b1],by show i+1-k<ahi;rwa[h4,h0]⟩,(WK hst).mpr ⟨by show blo<=j+1-k;rwa[h0,b2],by show j+1-k<bhi;rwa[h7,h0],hm.symm⟩⟩,We hA hB k λt ht=>⟨by rwa[h4,h0,b1,ht],by rwa[h7,h0,b2,ht],?_⟩,by rwa[h0,b1],by rwa[h0,b2],hm⟩
  have:=((M.eq _ _).mp (eqs (k-1-t) (by rwa[h0]))).1
  rw[<-N3 ht b1,<-N3 ht b2] at this
  exact this
 have isStart:∀p∈B8 ((kd (ahi-alo)).map (alo+·)) (E4 blo bhi st),alo<=p.1/\blo<=p.2/\p.1%st=p.2%st:=λp hp=>by
  obtain⟨h1,h2⟩:=DC.mp hp
  obtain⟨h3,h4⟩:=C0.mp h1
  refine C1 ((WK hst).mp h2) λh5 h6 h7=>?_
  exact⟨h3,h5,h7.symm⟩
 have sE:(Pv as bs alo ahi blo bhi).Pairwise J5:=El _ (λi=>uf _ pF) _ (Gy _ _)
 have sS:(B8 ((kd (ahi-alo)).map (alo+·)) (E4 blo bhi st)).Pairwise J5:=El _ (λi=>U0 (by rcases hst with rfl|rfl<;>decide)) _ (Gy _ _)
 rcases I2 (λp:Nat×Nat=>AY as bs alo blo p.1 p.2) (λp=>((p.1+1-AY as bs alo blo p.1 p.2,p.2+1-AY as bs alo blo p.1 p.2,AY as bs alo blo p.1 p.2):A9)) (λb=>b.2.2) (λ_=>rfl) (alo,blo,0) rfl (Pv as bs alo ahi blo bhi) with⟨e1,z1⟩|⟨L1,x,L2,e1,p1,a1,b1,r1⟩<;>
 rcases I2 (λp:Nat×Nat=>Cw l r ahi bhi p.1 p.2) (λp=>((p.1,p.2,Cw l r ahi bhi p.1 p.2):Qj)) (λb=>b.2.2) (λ_=>rfl) (alo,blo,0) rfl (B8 ((kd (ahi-alo)).map (alo+·)) (E4 blo bhi st)) with⟨e2,z2⟩|⟨K1,y,K2,e2,p2,a2,b2,r2⟩
 ·rw[e1,e2]
 ·exfalso
  refine C1 (GK sS _ e2 a2 b2) λmy _ _=>?_
  obtain⟨i1,i2,i3⟩:=isStart y my
  refine Cg (toEnd y.1 y.2 _ i1 i2 i3 p2 (jN _)) λm1 m2=>?_
  have:=z1 _ m1
  dsimp only at this p2
  rwa[p2,m2,this]
 ·exfalso
  refine C1 (GK sE _ e1 a1 b1) λmx _ _=>?_
  refine C1 (toStart x mx p1) λm1 m2 _=>?_
  have:=z2 _ m1
  dsimp only at this p1
  rwa[p1,m2,this]
 ·rw[r1,r2]
  refine C1 (GK sE _ e1 a1 b1) λmx gx fx=>?_
  refine C1 (GK sS _ e2 a2 b2) λmy gy fy=>?_
  refine Ue (toStart x mx p1) λm1 m2 _ _ _=>?_
  refine C1 (isStart y my) λi1 i2 i3=>?_
  refine Cg (toEnd y.1 y.2 _ i1 i2 i3 p2 (jN _)) λn1 n2=>?_
  have g1:=gy _ m1
  have g2:=gx _ n1
  have f1:=fy (x.1+1-AY as bs alo blo x.1 x.2,x.2+1-AY as bs alo blo x.1 x.2) m1
  have f2:=fx (y.1+Cw l r ahi bhi y.1 y.2-1,y.2+Cw l r ahi bhi y.1 y.2-1) n1
  obtain⟨b1',b2'⟩:AY as bs alo blo x.1 x.2<=x.1+1-alo/\AY as bs alo blo x.1 x.2<=x.2+1-blo:=by
   obtain⟨h1,h2⟩:=DC.mp mx
   exact Fl as bs alo blo (C0.mp h1).1 ((CZ as bs blo bhi).mp h2).2.1
  dsimp only at p1 p2 g1 g2 f1 f2 m2 n2
  unfold J5 at f1 f2
  dsimp only at f1 f2
  generalize AY as bs alo blo x.1 x.2=k at *
  generalize Cw l r ahi bhi y.1 y.2=k' at *
  have hk:k=k':=xB (kL m2 g1) (kL n2 g2)
  subst hk
  have h1:¬(x.1+1-k<y.1\/x.1+1-k=y.1/\x.2+1-k<y.2):=λh=>by have:=f1 h;rwa[m2,g1,f1,h]
  have h2:¬(y.1+k-1<x.1\/y.1+k-1=x.1/\y.2+k-1<x.2):=λh=>by have:=f2 h;rwa[n2,g2,f2,h]
  refine Cg (Wb (kL b1' (pY _ _)) (kL b2' (pY _ _)) p1 h1 h2) λe3 e4=>?_
  rw[e3,e4]
theorem Oz(M:RN as bs l r st)(hst:st=4\/st=10):∀(f alo ahi blo bhi:Nat),ahi<=l.length->bhi<=r.length->alo<=ahi->blo<=bhi->Y2 as bs f alo ahi blo bhi=Dm l r st f alo ahi blo bhi
 | 0,_,_,_,_,_,_,_,_=>rfl
 | f+1,alo,ahi,blo,bhi,hA,hB,hi,hj=>by
  have e:=Pj M hst (alo:=alo) (blo:=blo) hA hB
  have ok:=F8 as bs alo blo bhi hi hj
  unfold Y2 Dm
  rw[e] at ok ⊢
  dsimp only
  generalize Cb l r st alo ahi blo bhi=t at *
  split
  ·rfl
  ·rw[Oz M hst f alo t.1 blo t.2.1 (by have:=ok.i1;(rename_i z0;rwa[hA,z0,this])) (by have:=ok.j1;(rename_i z0;rwa[hB,z0,this])) ok.i0 ok.j0,Oz M hst f _ ahi _ bhi hA hB ok.i1 ok.j1]
end
noncomputable def JZ:Nat×Nat->List A9->List AM
 | _,[]=>[]
 | e,t::r=>AH e (t.1,t.2.1)++B5 t++JZ (t.1+t.2.2,t.2.1+t.2.2) r
theorem TY(l:List A9):E0 l=JZ (0,0) l:=by
 have:∀(l:List A9) (s:Nat×Nat×List AM),(l.foldl Kk s).2.2=s.2.2++JZ (s.1,s.2.1) l:=by
  intro l
  induction l with
  | nil=>intro s;exact(kF _).symm
  | cons t r ih=>
   intro s
   show(r.foldl Kk (Kk s t)).2.2=_
   rw[ih]
   show s.2.2++AH (s.1,s.2.1) (t.1,t.2.1)++B5 t++_=s.2.2++(AH (s.1,s.2.1) (t.1,t.2.1)++B5 t++_)
   simp only[l5]
   rfl
 exact(this l (0,0,[])).trans (ph _)
theorem Jj(n m:Nat):∀(l:List A9) (e:Nat×Nat),(∀t∈l,0<t.2.2)->(JZ e (l++[(n,m,0)])).Perm (Cu l++Cl (e::l.map λt=>(t.1+t.2.2,t.2.1+t.2.2)) (BO l n m))
 | [],e,_=>by
  show(AH e (n,m)++B5 (n,m,0)++[]).Perm ([]++Cl [e] [(n,m)])
  rw[show B5 (n,m,0)=[] from if_pos rfl,kF,kF,ph]
  show(AH e (n,m)).Perm (AH e (n,m)++[])
  rw[kF]
 | t::r,e,h=>by
  have ih:=Jj n m r (t.1+t.2.2,t.2.1+t.2.2) λt ht=>h t (.tail _ ht)
  have ht:=h t (.head _)
  show(AH e (t.1,t.2.1)++B5 t++JZ _ (r++[(n,m,0)])).Perm ((("equal":jX),t.1,t.1+t.2.2,t.2.1,t.2.1+t.2.2)::Cu r++(AH e (t.1,t.2.1)++Cl (_::r.map λt=>(t.1+t.2.2,t.2.1+t.2.2)) (BO r n m)))
  rw[show B5 t=[(("equal":jX),t.1,t.1+t.2.2,t.2.1,t.2.1+t.2.2)] from if_neg (by rwa[ht])]
  refine(uL _ ih).trans ?_
  generalize AH e (t.1,t.2.1)=g
  generalize Cl (_::r.map λt=>(t.1+t.2.2,t.2.1+t.2.2)) (BO r n m)=z
  generalize Cu r=y
  generalize ((("equal":jX),t.1,t.1+t.2.2,t.2.1,t.2.1+t.2.2):AM)=q
  have e1:g++[q]++(y++z)=g++(q::(y++z)):=by simp
  have e2:q::y++(g++z)=(q::y)++(g++z):=rfl
  rw[e1,e2]
  refine List.perm_middle.trans ?_
  show(q::(g++(y++z))).Perm (q::(y++(g++z)))
  refine List.Perm.cons _ ?_
  rw[<-l5,<-l5]
  exact List.Perm.append_right _ vG
noncomputable def Gj (c:AM):Prop:=c.2.1<=c.2.2.1/\c.2.2.2.1<=c.2.2.2.2/\(c.2.1<c.2.2.1\/c.2.2.2.1<c.2.2.2.2)
noncomputable def RP (c d:AM):Prop:=c.2.2.1<=d.2.1/\c.2.2.2.2<=d.2.2.2.1
theorem I1{e b:Nat×Nat}(h1:e.1<=b.1)(h2:e.2<=b.2){c:AM}(hc:c∈AH e b):Gj c/\e.1<=c.2.1/\e.2<=c.2.2.2.1/\c.2.2.1<=b.1/\c.2.2.2.2<=b.2:=by
 unfold AH at hc
 split at hc
 ·cases hc
 ·rename_i hw
  obtain rfl:=jH.mp hc
  refine⟨⟨h1,h2,?_⟩,jN _,jN _,jN _,jN _⟩
  unfold BL at hw
  by_cases c1:e.1<b.1
  ·exact .inl c1
  ·by_cases c2:e.2<b.2
   ·exact .inr c2
   ·exact(hw (by rw[if_neg c1,if_neg c2])).elim
noncomputable def KM:Nat×Nat->List A9->Prop
 | _,[]=>True
 | e,t::r=>e.1<=t.1/\e.2<=t.2.1/\KM (t.1+t.2.2,t.2.1+t.2.2) r
theorem TX:∀(l:List A9) (e:Nat×Nat),KM e l->(∀c∈JZ e l,Gj c/\e.1<=c.2.1/\e.2<=c.2.2.2.1)/\(JZ e l).Pairwise RP
 | [],_,_=>⟨λ_ h=>(nomatch h),.nil⟩
 | t::r,e,⟨h1,h2,h3⟩=>by
  obtain⟨ih1,ih2⟩:=TX r _ h3
  have eqP:∀c∈B5 t,Gj c/\t.1<=c.2.1/\t.2.1<=c.2.2.2.1/\c.2.2.1<=t.1+t.2.2/\c.2.2.2.2<=t.2.1+t.2.2:=λc hc=>by
   unfold B5 at hc
   split at hc
   ·cases hc
   ·obtain rfl:=jH.mp hc
    exact⟨⟨lY _ _,lY _ _,.inl (by show t.1<t.1+t.2.2;(rename_i z0;rwa[z0]))⟩,jN _,jN _,jN _,jN _⟩
  have gP:∀c∈AH e (t.1,t.2.1),_:=λc hc=>I1 (e:=e) (b:=(t.1,t.2.1)) h1 h2 hc
  dsimp only at gP
  refine⟨λc hc=>?_,?_⟩
  ·rcases jU.mp hc with hc|hc
   ·rcases jU.mp hc with hc|hc
    ·exact⟨(gP c hc).1,(gP c hc).2.1,(gP c hc).2.2.1⟩
    ·have:=eqP c hc;exact⟨this.1,by lia,by lia⟩
   ·have:=ih1 c hc;dsimp only at this;exact⟨this.1,by lia,by lia⟩
  ·refine nK.mpr ⟨nK.mpr ⟨?_,?_,λc hc d hd=>?_⟩,ih2,λc hc d hd=>?_⟩
   ·unfold AH;split
    ·exact .nil
    ·exact nX _ _
   ·unfold B5;split
    ·exact .nil
    ·exact nX _ _
   ·have a:=gP c hc;have b:=eqP d hd
    exact⟨by lia,by lia⟩
   ·have b:=ih1 d hd
    dsimp only at b
    rcases jU.mp hc with hc|hc
    ·have a:=gP c hc
     exact⟨by lia,by lia⟩
    ·have a:=eqP c hc
     exact⟨by lia,by lia⟩
noncomputable def Fm (c:AM):Int:=(((c.2.1*1000+c.2.2.1)*1000+c.2.2.2.1)*1000+c.2.2.2.2:Nat)
noncomputable def EK (c:AM):Prop:=c.2.1<1000/\c.2.2.1<1000/\c.2.2.2.1<1000/\c.2.2.2.2<1000
theorem Z3{c d:AM}(pc:Gj c)(pd:Gj d)(b:RP c d)(sc:EK c)(sd:EK d):Fm c<Fm d:=by
 obtain⟨w,i,i',j,j'⟩:=c
 obtain⟨w',k,k',l,l'⟩:=d
 unfold Gj at pc pd
 unfold RP at b
 unfold EK at sc sd
 unfold Fm
 dsimp only at *
 rwa[pc,pd,b]
theorem lx{x y a b:Nat}(ha:a<1000)(hb:b<1000):x*1000+a<y*1000+b↔x<y\/x=y/\a<b:=by
 refine⟨λh=>?_,λh=>?_⟩<;>rwa[ha,hb,h]
theorem iV{x y a b:Nat}(ha:a<1000)(hb:b<1000):x*1000+a=y*1000+b↔x=y/\a=b:=by
 refine⟨λh=>?_,λh=>by rw[h.1,h.2]⟩
 obtain rfl:x=y:=xB (og λz=>Nat.ne_of_gt ((lx hb ha).mpr (.inl z)) h) (og λz=>lw ((lx ha hb).mpr (.inl z)) h)
 exact⟨rfl,Nat.add_left_cancel h⟩
theorem Yg{c d:AM}(sc:EK c)(sd:EK d):Fm c<Fm d↔(c.2.1<d.2.1\/(c.2.1=d.2.1/\(c.2.2.1<d.2.2.1\/(c.2.2.1=d.2.2.1/\(c.2.2.2.1<d.2.2.2.1\/(c.2.2.2.1=d.2.2.2.1/\c.2.2.2.2<d.2.2.2.2)))))):=by
 unfold Fm
 rw[mG,lx sc.2.2.2 sd.2.2.2,lx sc.2.2.1 sd.2.2.1,lx sc.2.1 sd.2.1,iV sc.2.2.1 sd.2.2.1,iV sc.2.1 sd.2.1]
 simp only[or_assoc,and_assoc,and_or_left]
theorem KF{n m:Nat}:∀(l:List A9) (e:Nat×Nat),(∀t∈l,e.1<=t.1/\e.2<=t.2.1)->(∀t∈l,t.1+t.2.2<=n/\t.2.1+t.2.2<=m)->(l.Pairwise λx y=>x.1+x.2.2<=y.1/\x.2.1+x.2.2<=y.2.1)->e.1<=n->e.2<=m->KM e (l++[(n,m,0)])
 | [],e,_,_,_,h1,h2=>⟨h1,h2,trivial⟩
 | t::r,e,h1,h2,h3,_,_=>by
  obtain⟨p1,p2⟩:=ow.mp h3
  exact⟨(h1 t (.head _)).1,(h1 t (.head _)).2,KF r _ (λu hu=>p1 u hu) (λu hu=>h2 u (.tail _ hu)) p2 (h2 t (.head _)).1 (h2 t (.head _)).2⟩
theorem Hx.chain{α:Type}[DecidableEq α]{as bs:List α}{n m:Nat}{l:List A9}(r:Hx as bs 0 n 0 m l):KM (0,0) (l++[(n,m,0)]):=
 KF l (0,0) (λt ht=>⟨kf _,kf _⟩) (λt ht=>⟨(r.inn t ht).2.1,(r.inn t ht).2.2.2⟩) (r.ord.imp λh=>⟨h.1,h.2.1⟩) (kf _) (kf _)
theorem TW{n m:Nat}:∀(l:List A9) (e:Nat×Nat),KM e l->(∀t∈l,t.1+t.2.2<=n/\t.2.1+t.2.2<=m)->∀c∈JZ e l,c.2.2.1<=n/\c.2.2.2.2<=m
 | [],_,_,_=>λ_ h=>(nomatch h)
 | t::r,e,⟨h1,h2,h3⟩,h=>λc hc=>by
  have ht:=h t (.head _)
  rcases jU.mp hc with hc|hc
  ·rcases jU.mp hc with hc|hc
   ·have:=I1 (e:=e) (b:=(t.1,t.2.1)) h1 h2 hc
    dsimp only at this
    exact⟨by lia,by lia⟩
   ·unfold B5 at hc
    split at hc
    ·cases hc
    ·obtain rfl:=jH.mp hc
     exact ht
  ·exact TW r _ h3 (λu hu=>h u (.tail _ hu)) c hc
theorem H8{n m:Nat}:∀(l:List A9) (e:Nat×Nat),KM e (l++[(n,m,0)])->OC (e::l.map λt=>(t.1+t.2.2,t.2.1+t.2.2)) (BO l n m)
 | [],e,⟨h1,h2,_⟩=>λk a b ha hb=>by
  cases k with
  | zero=>cases ha;cases hb;exact⟨h1,h2⟩
  | succ k=>exact B6 ha
 | t::r,e,⟨h1,h2,h3⟩=>λk a b ha hb=>by
  cases k with
  | zero=>cases ha;cases hb;exact⟨h1,h2⟩
  | succ k=>exact H8 r _ h3 k a b ha hb
theorem Ph:∀(es bs:List (Nat×Nat)),(Cl es bs).length<=es.length
 | [],bs=>kf _
 | e::es,[]=>kf _
 | e::es,b::bs=>by
  have:=Ph es bs
  unfold Cl at this ⊢
  rw[sO,lq,jZ,j7]
  have h1:=Ub e b
  dsimp only
  rwa[this,h1]
structure XE (n m:Nat) (l:List A9) (ops:List AM):Prop where
 perm:ops.Perm (Ew l n m)
 asc:ops.Pairwise λc d=>Fm c<Fm d
 small:∀c∈ops,EK c
 order:OC (Df l) (BO l n m)
 len:(Ew l n m).length<=2*l.length+1
theorem XQ{α:Type}[DecidableEq α]{as bs:List α}{n m:Nat}{l:List A9}(r:Hx as bs 0 n 0 m l)(hn:n<1000)(hm:m<1000):XE n m l (E0 (l++[(n,m,0)])):=by
 have ch:=r.chain
 obtain⟨h1,h2⟩:=TX _ _ ch
 have tp:=TW (n:=n) (m:=m) _ _ ch λt ht=>by
  rcases jU.mp ht with ht|ht
  ·exact⟨(r.inn t ht).2.1,(r.inn t ht).2.2.2⟩
  ·rw[jH.mp ht];exact⟨jN _,jN _⟩
 rw[TY]
 have sm:∀c∈JZ (0,0) (l++[(n,m,0)]),EK c:=λc hc=>by
  have a:=(h1 c hc).1
  have b:=tp c hc
  unfold Gj at a
  unfold EK
  rwa[hn,hm,a,b]
 refine⟨Jj n m l (0,0) r.pos,?_,sm,H8 l _ ch,?_⟩
 ·refine List.Pairwise.imp_of_mem (λ{c d} hc hd b=>Z3 (h1 c hc).1 (h1 d hd).1 b (sm c hc) (sm d hd)) h2
 ·have:=Ph (Df l) (BO l n m)
  unfold Ew
  rw[jZ]
  unfold Df at this
  simp only[Cu,Df,jI,j7] at this ⊢
  rwa[this]
theorem XN.run{Γ:Cx}{σ:AX}{e:kH}{ds:List jO}{O:Ap}{s:jE}{Q:jB->jE->Prop}{E:jB->jE->Prop}(h:XN Γ σ e ds)(t:St Γ O σ s)(q:∀a vs as s',kY s s'->s.heap.get? a=none->s'.heap.PlainList a vs->Ae s'.heap vs.toList ds as->(∀b∈as,¬O.has b)->a∉as->Q (.ref a) s'):wpAny (model Γ.prog Γ.w) Γ.A (eval e Γ.env) Q E s:=h O s Q E t q
theorem Ym{w:jW}{A:kA}{s:jE}{O:Ap}{I D:jL}{m:jX->Option jB}{k:Nat}{xG:jY}{as bs:List jX}{mg mb:jX->Option jB}{Q:jB->jE->Prop}{E:jB->jE->Prop}(K:Bn w xG)(T:Br mg mb xG)(hgM:mg "Match"=some (.ref CM))(room:A0 A 8)(hk:HK xG s)(own:CJ O s)(hD0:xG.get? D=none)
 (i:Zc w as bs s.heap I D m k O)(hkk:k<=700)(lA:as.length<=63)(lB:bs.length<=63)(hop:m "opcodes"=some .none)
 (q:∀s' S,AI s s'->(∀b o,b≠D->s.heap.get? b=some o->s'.heap.get? b=some o)->VR O s'.heap (.py (.list ((E0 (Gg as bs)).map Da))) (.ref S)->(∃o,s'.heap.get? D=some o)->Q (.ref S) s') :
 wpAny (model pw w) A (call (.ref 210) [.ref I]) Q E s:=by
 delta w A s O I D m k xG as bs mg mb Q E at K T hgM room hk own hD0 i hkk lA lB hop q
 refine H0 i.rm λpl rmi hpl hDp hIp=>?_
 have hDO:¬O.has D:=hpl D hDp
 refine Db (args:=⟨[.ref I],[]⟩) (vs:=[.ref I]) (fd:=Bq (Eg w.params)) (st:=BB 5 8) K T.gl.nolimit room hk own hDO (f:=210) (o:=Eg w.params) (by kernel_rfl) (by kernel_rfl) (dZ _) (by kernel_rfl) (.of_eq (Y3 _ _)) rfl (λN rm s1 E' t k1=>?_)
 have MF:=Zb.of (w:=w) i.inn hDO
 have hk0:HK xG (A6 s D):=Es hk hD0
 have new0:s.heap.get? s.heap.objs.size=none:=Bk (jN _)
 have liveP:∀a∈pl,∃o,s.heap.get? a=some o:=λa ha=>Af ((DH w as bs I).solid rmi a ha) λo e _=>(Ag o e)
 have KS:∀s':jE,(∀b o,(A6 s D).heap.get? b=some o->s'.heap.get? b=some o)->Bn w s'.heap:=λs' h=>K.keeps λb o e=>h b o (hk0 b o e)
 have hh:(fO w A (A6 s D) s O).A.handled=none:=rm.handled
 refine Fp t λs2 k2 t2=>?_
 have k12:=Keeps.tr k1 k2
 have i2:=i.inn.keeps (Ax k12)
 refine kg (uo (qe (DJ rfl t2 (KS s2 t2.keep) i2 (Aa 0) hop λs4 k4 t4=>Ev.run Fb t4 λv s5 t5 k5 r5=>?_) (by rfl)))
 obtain rfl:v=.none:=r5
 refine un (by rfl) (nO ?_)
 refine lZ ?_
 have k15:=Keeps.tr (Keeps.tr k12 k4) k5
 refine Wl t5 (Uz N 1 2 (d:=.int 0) Ai ⟨rfl,rfl⟩) (P:=λσ'=>σ'=[some (.val (.raw (.ref I))),pI (0:Nat),pI (0:Nat),none,none,none,none,none]) ?_
 rintro O6 σ6 s6 fx6 t6 rfl
 have hnocell:∀b,∀x,(x,b)∉(fO w A (A6 s D) s O).env.cells:=λb x h=>(by cases h)
 have i5:=i.inn.keeps (Ax k15)
 have hplO:∀a∈pl,¬Ap.has (("",s.heap.objs.size)::O) a:=λa ha=>by
  rintro⟨p,hp,e⟩
  rcases jG.mp hp with rfl|hp
  ·obtain⟨o,e'⟩:=liveP a ha
   rw[<-e,new0] at e';exact B6 e'
  ·exact hpl a ha (Ac p hp e)
 have old6:∀b o,s.heap.get? b=some o->b∈pl->s6.heap.get? b=some o:=λb o e hb=>fx6.at (Ax k15 b o e) (hplO b hb) (hnocell b)
 have in6:IN s6.heap I D m k:=by
  refine Ao i.inn.dict λes n e r=>?_
  exact⟨old6 _ _ i.inn.inst hIp,es,n,old6 _ _ e hDp,r⟩
 have hpl6:∀a∈pl,¬O6.has a:=λa ha h=>by
  rcases fx6.own a h with z|z
  ·exact hplO a ha z
  ·obtain⟨o,e⟩:=liveP a ha
   exact B0 z (Ax k15 _ _ e)
 refine kg (oA (XN.run (CH (ds:=[]) Ah (by decide)) t6 λa vs as7 s7 k7 hn l7 r7 q7 hna=>?_) (by rfl) (by rfl))
 have t7:=ET (x:="answer") t6 k7 hn (AR l7 λn e=>(Ag _ e))
 have in7:=in6.keeps (Ax k7)
 have aD:a≠D:=λz=>by
  refine Ao in6.dict λes n e _=>?_
  rw[z,e] at hn;exact XK hn
 have old67:∀b∈pl,¬Ap.has (("answer",a)::O6) b:=λb hb=>by
  rintro⟨p,hp,e⟩
  rcases jG.mp hp with rfl|hp
  ·obtain⟨o,e'⟩:=liveP b hb
   have e:a=b:=e
   rw[e,old6 _ _ e' hb] at hn;exact XK hn
  ·exact hpl6 b hb (Ac p hp e)
 refine Dn (Bw 0 t7 (F7 (KS s7 t7.keep) in7 (by rwa[hkk]) λh8 i8 sb8=>?_))
 refine Ao in7.dict λes7 n7 eD7 _=>?_
 refine Ao i8.dict λes8 n8 eD8 _=>?_
 have t8:=Ej (tk:=s7.toks+2) N t7 A3 MF.dl (old67 D hDp) eD7 rfl rfl sb8 eD8
 refine lI (G4 N (i:=3) (x:="answer") (b:=.own []) rfl (jT rfl) rfl t8 (CA a vs [] rfl (.head _) (l7.at (λo e=>(sb8.2 a aD).trans e)) (by rw[Bg r7];exact .nil) (λ_ h=>(nomatch h)) ?_) λs9 f9 t9=>?_)
 ·cases e:(A6 s D).heap.get? a with
  | none=>exact e
  | some o=>have:=t6.keep a o e;exact B0 hn this
 have live7:∀b o,s.heap.get? b=some o->¬O.has b->¬Ap.has (("answer",a)::O6) b:=λb o e hb=>by
  have h1:¬Ap.has (("",s.heap.objs.size)::O) b:=by
   rintro⟨p,hp,e'⟩
   rcases jG.mp hp with rfl|hp
   ·have e':s.heap.objs.size=b:=e'
    rw[<-e',new0] at e;exact B6 e
   ·exact hb (Ac p hp e')
  rintro⟨p,hp,e'⟩
  rcases jG.mp hp with rfl|hp
  ·have e':a=b:=e'
   rw[e',fx6.at (Ax k15 b o e) h1 (hnocell b)] at hn;exact XK hn
  ·rcases fx6.own b (Ac p hp e') with z|z
   ·exact h1 z
   ·exact B0 z (Ax k15 b o e)
 have kp9:∀b o,s.heap.get? b=some o->b≠D->¬O.has b->s9.heap.get? b=some o:=λb o e hb hO=>by
  have h1:¬Ap.has (("",s.heap.objs.size)::O) b:=by
   rintro⟨p,hp,e'⟩
   rcases jG.mp hp with rfl|hp
   ·have e':s.heap.objs.size=b:=e'
    rw[<-e',new0] at e;exact B6 e
   ·exact hO (Ac p hp e')
  exact f9.at ((sb8.2 b hb).trans (Ax k7 b o (fx6.at (Ax k15 b o e) h1 (hnocell b)))) (live7 b o e hO) (hnocell b)
 have tp9:∀b o,s.heap.get? b=some o->(o.cls=.type "tuple"/\∃vs n,o.data=.seq vs n)->s9.heap.get? b=some o:=λb o e ht=>by
  have e7:=Ax k7 b o (fx6.tups b o (Ax k15 b o e) ht)
  have hb:b≠D:=λz=>by
   rw[z,eD7] at e7;(replace e7:=si e7;subst e7)
   exact absurd (show jV "dict"=jV "tuple" from ht.1) (by decide)
  exact f9.tups b o ((sb8.2 b hb).trans e7) ht
 have i9:IN s9.heap I D (Bm m "opcodes" (.ref a)) (k+1):=by
  refine Ao i8.dict λes n e r=>?_
  exact⟨f9.at i8.inst (old67 I hIp) (hnocell I),es,n,f9.at e (old67 D hDp) (hnocell D),r⟩
 have mat9:Zc w as bs s9.heap I D (Bm m "opcodes" (.ref a)) (k+1) (("answer",a)::O6):=
  i.step i9 (λla lb dj sj h=>⟨(if_neg (by decide)).trans h.a,(if_neg (by decide)).trans h.b,(if_neg (by decide)).trans h.b2j,(if_neg (by decide)).trans h.bjunk,(if_neg (by decide)).trans h.mb,(if_neg (by decide)).trans h.flm,(if_neg (by decide)).trans h.gmb⟩) kp9 tp9 live7
 obtain⟨la,lb,dj,sj,led,ls,mo9,_⟩:=mat9.ex
 have row:=GV as bs
 have hlb:(Gg as bs).length<=64:=by
  have:=row.len
  unfold Gg
  rw[jZ,pO];rwa[lA,this]
 refine kg (VF (ds:=(Gg as bs).map Fq) (O:=(("answer":jX),a)::O6) (P:=λaf σ'=>af=.next/\∃x y z u i j,σ'=O5 I i j (E0 (Gg as bs)) x y z u) N (λs'=>AI s s'/\(∃o,s'.heap.get? D=some o)/\∀b o,(A6 s D).heap.get? b=some o->s'.heap.get? b=some o) (λQ' hQ'=>mh (Bw 0 t9 (Ep (f:=203) (KS s9 t9.keep) i9 mo9.gmb (xc (K:=KK w.params) (KS s9 t9.keep).k (by kernel_rfl) ?_))) (by rfl))
  (λt σ=>∃x y z u,σ=O5 I (FM ((Gg as bs).take t)).1 (FM ((Gg as bs).take t)).2.1 (FM ((Gg as bs).take t)).2.2 x y z u) (EH none none none none rfl) ?_ ?_ ?_)
 ·refine YL K T hgM (rm.le (by rwa[])) (λb o e=>t9.keep b o (hk0 b o e)) t9.ownOk hD0 mat9 (by rwa[hkk]) lA lB λs10 S al10 kp10 r10 hD10=>?_
  refine B1 al10 λh10 tk10 zz1=>?_;clear al10;obtain rfl:=zz1
  refine Ao i9.dict λes9 n9 eD9 _=>?_
  obtain⟨o10,eD10⟩:=hD10
  have t10:=Ek (tk:=tk10) N t9 A3 MF.dl (old67 D hDp) eD9 rfl rfl kp10 eD10
  exact I6 N hh t10 r10 (hQ' _ t10 ⟨(Bc k15).tr (fx6.alike.tr ((Bc k7).tr (AI.tr (AS _ _ rfl) (f9.alike.tr (AS _ _ rfl))))),(Ag o10 eD10),t10.keep⟩)
 ·intro t d σ1 hd zz1;refine Eb zz1 λx y z u zz2=>?_;clear zz1;obtain rfl:=zz2
  rw[j8] at hd
  refine Af (j6.mp hd) λb hb zz1=>?_;obtain rfl:=zz1
  have ht:t<(Gg as bs).length:=(jK.mp hb).1
  refine Ac _ (XB rfl K hk0 N hh [4,5,6] ⟨rfl,rfl,rfl,rfl,rfl,rfl,trivial⟩) ?_
  have hl:=U8 ((Gg as bs).take t)
  rw[lm] at hl
  refine Wr N hh I _ _ _ b _ (by rwa[hlb,ht,hl]) _ λtag=>EH (pI b.1) (pI b.2.1) (pI b.2.2) tag ?_
  have:(Gg as bs).take (t+1)=(Gg as bs).take t++[b]:=by rw[kN,hb];rfl
  rw[this,Rk]
  rfl
 ·intro σ1 zz1;refine Eb zz1 λx y z u zz2=>?_;clear zz1;obtain rfl:=zz2
  refine Aj ⟨rfl,x,y,z,u,(FM (Gg as bs)).1,(FM (Gg as bs)).2.1,?_⟩
  rw[jI,lz]
  rfl
 ·intro s' O' fl af σ' s'' zz1 fx t' fr zz3;refine C1 zz1 λal zz2 kp=>?_;obtain⟨oD,eD⟩:=zz2;obtain⟨rfl,x,y,z,u,i',j',rfl⟩:=zz3
  obtain rfl:fl=.next:=fr
  refine(Ct N 3 (Ad (AQ (Aa 3) rfl)):Ex (fO w A (A6 s D) s O) _ _ (λaf _=>af=.ret (.py (.list ((E0 (Gg as bs)).map Da))))) O' s'' _ _ t' λO2 fl af σ2 s2 fx2 t2 fr2 haf=>?_
  subst haf
  refine Af fr2 λv zz1 zz2=>?_;clear fr2;obtain rfl:=zz1;obtain⟨fp,r,hfp⟩:=zz2
  have hS:∃S,v=.ref S:=by cases r;exact Ag _ rfl
  obtain⟨S,rfl⟩:=hS
  exact q s2 S (al.tr (fx.alike.tr fx2.alike)) (λb o hb e=>t2.keep b o ((Bj hb).trans e)) (Ac fp r λb hb h=>hfp b hb (Af h λp hp e=>t2.sub b (Ac p (.tail _ hp) e))) (by
   obtain⟨o1,e1⟩:=fx.dom D oD eD
   exact fx2.dom D o1 e1)
noncomputable def HT (st k c:Nat):jX:=(⟨#[c]⟩:jX)++jz (toString (((k:Nat):Int).fmod (st:Nat)))
noncomputable def Bp (l:jX) (st:Nat):List jX:=l.cps.toList.mapIdx λk c=>HT st k c
theorem BE(l:jX)(st:Nat):(Bp l st).length=l.length:=by simp[Bp];rfl
noncomputable def Yp:List jX:=["left","right","step","matcher"]
theorem ga(pm cd doc dv kdv:jB):Bf (Az 49 pm cd doc dv kdv) (Am (stm 49)) ["left","right","step"] Yp:=.of (by decide +kernel)
theorem aW(pm cd doc v u x:jB):l3 (Az 49 pm cd doc .none .none) ⟨[v,u,x],[]⟩=pure [((jz "left"),v),((jz "right"),u),((jz "step"),x)]:=by rfl
theorem BJ.fin{w:jW}{h:jY}{dj:jL}{bs:List jX}{n:Nat}{Lk:jL->Prop}(b:BJ w h dj bs n Lk):∃ls:List jL,BJ w h dj bs n (·∈ls)/\(∀l∈ls,Lk l)/\∀l∈ls,∃vs,h.PlainList l vs:=by
 delta w h dj bs n Lk at b
 refine W3 b.map λkvs h1 h2 h3 h4 h5=>?_
 refine⟨(bs.filter λx=>decide (Oj bs n x≠[])).filterMap λx=>match valueAt kvs x with|some (.ref l)=>some l|_=>none,⟨kvs,h1,h2,h3,λx hx=>?_,h5⟩,λl hl=>?_,λl hl=>?_⟩
 ·refine E8 (h4 x hx) λl vs e _ p q=>?_
  refine⟨l,vs,e,qJ.mpr ⟨x,j9.mpr ⟨?_,decide_eq_true hx⟩,by rw[e]⟩,p,q⟩
  obtain⟨i,hi⟩:=List.exists_mem_of_ne_nil _ hx
  unfold Oj at hi
  refine Af (kn.mp hi) λk hk zz1=>?_;obtain rfl:=zz1
  have:=of_decide_eq_true (j9.mp hk).2
  exact kt this
 ·refine Af (qJ.mp hl) λx hx e=>?_
  refine BD (h4 x (of_decide_eq_true (j9.mp hx).2)) λl' vs e' p _=>?_
  rw[e'] at e
  cases e;exact p
 ·refine Af (qJ.mp hl) λx hx e=>?_
  refine E8 (h4 x (of_decide_eq_true (j9.mp hx).2)) λl' vs e' _ p _=>?_
  rw[e'] at e
  cases e;exact Ag vs p
theorem EW{h:jY}{v:jB}{bs:List jX}{fp:List jL}(r:Ak h v (.list (bs.map .str)) fp):∃l,v=.ref l/\fp=[l]:=by
 delta h bs at v fp r
 generalize hd:PyData.list (bs.map .str)=d at r
 cases r with
 | list _ _ _ ra=>
  cases hd
  obtain⟨_,rfl⟩:=FE ra
  exact Ac _ rfl rfl
 | _=>exact PySem.PyData.noConfusion hd
theorem YG(P:jC):keepIn (KK P) (.ref CS)=true:=by kernel_rfl
theorem Pu{u:jX}{i:Nat}{d:jO}(h:(Ce (Dv u))[i]?=some d):∃c,u.cps.toList[i]?=some c/\d=.tuple [.int i,.str ⟨#[c]⟩]:=by
 refine Af (Eu h) λd' h1 zz1=>?_;obtain rfl:=zz1
 unfold Dv at h1
 rw[j8] at h1
 refine Af (j6.mp h1) λc hc zz1=>?_;obtain rfl:=zz1
 exact Ac c hc rfl
theorem Q9{n:Int}(h0:0<=n)(h1:n<1000):(jz (toString n)).length<=4:=by
 have:∀k:Fin 1000,(jz (toString ((k.val:Nat):Int))).length<=4:=by decide +kernel
 have:=this ⟨n.toNat,by rwa[h1]⟩
 rwa[show(((⟨n.toNat,by lia⟩:Fin 1000).val:Nat):Int)=n from(show((n.toNat:Nat):Int)=n by lia)] at this
theorem IS(st i c:Nat)(hst:0<st)(hst':st<1000):(⟨#[c]⟩:jX).length+(jz (toString (((i:Nat):Int).fmod (st:Nat)))).length<=100000:=by
 have:=Q9 (n:=((i:Nat):Int).fmod (st:Nat)) (kK _ (by rwa[hst,hst'])) (tJ (lh _ (by rwa[hst,hst'])) (by rwa[hst,hst']))
 have h1:(⟨#[c]⟩:jX).length=1:=rfl
 rwa[this,h1]
theorem UM{w:jW}{A:kA}{s:jE}{O:Ap}{a:jL}{mg mb:jX->Option jB}{xG:jY}{pm cd doc dv kdv:jB}(K:Bn w xG)(T:Br mg mb xG)(hgM:mg "Match"=some (.ref CM))(hgS:mg "SequenceMatcher"=some (.ref CS))(hk:HK xG s)(l r:jX)(st:Nat)(hst:0<st)(hst':st<1000)(hl:l.length<=63)(hr:r.length<=63)
 (N:Nm (Dx pw w A s (Az 49 pm cd doc dv kdv) a Yp O))(room:A0 (A.deeper (callEnvC (Az 49 pm cd doc dv kdv) s.heap.objs.size a)) 10) :
 Ex (Dx pw w A s (Az 49 pm cd doc dv kdv) a Yp O) (Bi [.py (.str l),.py (.str r),.py (.int st)] 1) (Am (stm 49)) (λaf _=>af=.ret (.py (.list ((E0 (Gg (Bp l st) (Bp r st))).map Da)))):=by
 delta w A s O a mg mb xG pm cd doc dv kdv l r st at K T hgM hgS hk hst hst' hl hr N room
 have hh:=room.handled
 intro O1 s1 Q E t1 q
 have kU:∀s':jE,(∀b o,s.heap.get? b=some o->s'.heap.get? b=some o)->Bn w s'.heap:=λs' h=>K.keeps λb o e=>h b o (hk b o e)
 refine kg (l6 (qQ (Ev.run (BU T hk hgS) t1 λv s2 t2 k2 r2=>?_) (by rfl)) (by rfl))
 obtain rfl:v=.ref CS:=r2
 refine tX (K:=KK w.params) (kU s2 t2.keep).k (YG _) ((Ab Fu
  (Ab (Be (C4 N (ds:=Ce (Dv l)) (rs:=(Bp l st).map .str) (cl:=[(jz "step",s.heap.objs.size+1)]) (ns:=["k","sign","step"]) (σ0:=[none,none,some (.val (.py (.int st)))])
   (BS.of (by decide +kernel) rfl (nX _ _) (show([jz "step"]:List jX).Nodup by decide +kernel) ?_ ?_) (Kx N hh (A1 T hk) (Aa 0)) ?_ ?_ ?_))
  (Ab (Be (C4 N (ds:=Ce (Dv r)) (rs:=(Bp r st).map .str) (cl:=[(jz "step",s.heap.objs.size+1)]) (ns:=["k","sign","step"]) (σ0:=[none,none,some (.val (.py (.int st)))])
   (BS.of (by decide +kernel) rfl (nX _ _) (show([jz "step"]:List jX).Nodup by decide +kernel) ?_ ?_) (Kx N hh (A1 T hk) (Aa 1)) ?_ ?_ ?_)) Ah))) O1 s2 _ _ _ t2 λvs s3 t3 k3 r3=>⟨(kU s3 t3.keep).k,?_⟩)
 ·intro x c h
  obtain e:=jH.mp h
  cases e;kernel_rfl
 ·exact λC=>sn (sn (sc (⟨2,_,s.heap.objs.size+1,rfl,rfl,rfl,by kernel_rfl,by kernel_rfl,by kernel_rfl,by kernel_rfl⟩) λ_ _ _ e=>B6 e))
 ·simp[Ce,Dv,Bp]
 ·rw[jI,BE];rwa[hl]
 ·intro C hC N' i d hd
  refine Af (Pu hd) λc hc zz1=>?_;obtain rfl:=zz1
  have hi:i<l.length:=(jK.mp hc).1
  have hm:(((i:Nat):Int).fmod (st:Nat))<1000/\0<=(((i:Nat):Int).fmod (st:Nat)):=⟨tJ (lh _ (by rwa[hst,hst'])) (by rwa[hst,hst']),kK _ (by rwa[hst,hst'])⟩
  refine C6 _ (.str (HT st i c)) (by rw[j8];unfold Bp;rw[oU,hc];rfl) ?_ (BV N' hh [0,1] (ds:=[_,_]) ⟨rfl,rfl,rfl,rfl,trivial⟩) ?_
  ·exact λj b=>iO
  ·exact Hn (Aa 1) (Pq (A1 T hk) (CB (Aa 0) (Aa 2) (by rwa[hst,hst'])) (by(clear_value *;omega))) (IS st i c hst hst')
 ·intro x c h
  obtain e:=jH.mp h
  cases e;kernel_rfl
 ·exact λC=>sn (sn (sc (⟨2,_,s.heap.objs.size+1,rfl,rfl,rfl,by kernel_rfl,by kernel_rfl,by kernel_rfl,by kernel_rfl⟩) λ_ _ _ e=>B6 e))
 ·simp[Ce,Dv,Bp]
 ·rw[jI,BE];rwa[hr]
 ·intro C hC N' i d hd
  refine Af (Pu hd) λc hc zz1=>?_;obtain rfl:=zz1
  have hi:i<r.length:=(jK.mp hc).1
  have hm:(((i:Nat):Int).fmod (st:Nat))<1000/\0<=(((i:Nat):Int).fmod (st:Nat)):=⟨tJ (lh _ (by rwa[hst,hst'])) (by rwa[hst,hst']),kK _ (by rwa[hst,hst'])⟩
  refine C6 _ (.str (HT st i c)) (by rw[j8];unfold Bp;rw[oU,hc];rfl) ?_ (BV N' hh [0,1] (ds:=[_,_]) ⟨rfl,rfl,rfl,rfl,trivial⟩) ?_
  ·exact λj b=>iO
  ·exact Hn (Aa 1) (Pq (A1 T hk) (CB (Aa 0) (Aa 2) (by rwa[hst,hst'])) (by(clear_value *;omega))) (IS st i c hst hst')
 ·refine Cf r3.three λv1 v2 v3 zz1 r1 r2 r3'=>?_;obtain rfl:=zz1
  refine Af r1 λas1 rn _=>?_
  cases rn
  refine Af r2 λfpa ra qa=>?_
  refine Af (EW ra) λla zz1 zz2=>?_;obtain rfl:=zz1;obtain rfl:=zz2
  refine Af r3' λfpb rb qb=>?_
  refine Af (EW rb) λlb zz1 zz2=>?_;obtain rfl:=zz1;obtain rfl:=zz2
  refine WB K T room (λb o e=>t3.keep _ _ (hk b o e)) t3.ownOk rb qb (by rw[BE];rwa[hr]) λs4 I D dj sj sp led al4 kp4 fI fD i4 bj ⟨fdj,dD⟩ fsj esj=>?_
  refine B1 al4 λh4 tk4 zz1=>?_;clear al4;obtain rfl:=zz1
  have k34:kY s3 {s3 with heap:=h4,toks:=tk4}:=AT h4 tk4 rfl kp4
  have t4:=t3.of_keeps k34
  have k14:=Keeps.tr k2 (Keeps.tr k3 k34)
  have hsz:∃o,s3.heap.get? s.heap.objs.size=some o:=by
   refine Af t3.ex λmm zz1 _=>?_;obtain⟨o,_,_,e,_⟩:=zz1
   exact Ag o e
  have neL:∀b,s3.heap.get? b=none->b≠s.heap.objs.size:=λb e z=>by
   obtain⟨o,e'⟩:=hsz
   rw[<-z,e] at e';exact B6 e'
  have frO:∀b,s3.heap.get? b=none->¬O1.has b:=λb e ⟨p,hp,e'⟩=>by
   obtain⟨o,e2⟩:=t3.live p hp
   rw[e',e] at e2;exact B6 e2
  have frs:∀b,s3.heap.get? b=none->s.heap.get? b=none:=λb e=>by
   cases e':s.heap.get? b with
   | none=>rfl
   | some o=>exact B0 e (t3.keep _ _ e')
  have LO:O1.has s.heap.objs.size:=t3.sub _ t3.frame
  generalize hs4:({s3 with heap:=h4,toks:=tk4}:jE)=s4 at *
  refine AG N (i:=3) (x:="matcher") (b:=.val (.raw (.ref I))) rfl (jT rfl) rfl t4 rfl λs5 a5 u5 t5=>?_
  have h4e:s4.heap=h4:=by rw[<-hs4]
  have u5':∀b o,b≠s.heap.objs.size->s4.heap.get? b=some o->s5.heap.get? b=some o:=u5
  have i5:IN s5.heap I D (Bm (Bm (Bm (mI (λ_=>none) la lb) "b2j" (.ref dj)) "bjunk" (.ref sj)) "bpopular" (.ref sp)) 14:=by
   obtain⟨es,n,e,r⟩:=i4.dict
   exact⟨u5' _ _ (neL I fI) i4.inst,es,n,u5' _ _ (neL D fD) e,r⟩
  have rd:∀(ls:List jX) (x:jL),VR O1 s3.heap (.py (.list (ls.map .str))) (.ref x)->Ak s5.heap (.ref x) (.list (ls.map .str)) [x]/\¬O1.has x:=λls x rx=>by
   obtain⟨fp,r1,q1⟩:=VR.avoid (O:=O1) (rx.kept k34) LO (λb hb o e=>u5' b o hb e) (by obtain⟨m,n,_⟩:=t4.ex;exact A5 n)
   refine Af (EW r1) λz e1 zz1=>?_;obtain rfl:=zz1
   cases e1
   exact⟨r1,q1 _ (.head _)⟩
  obtain⟨ra5,qa5⟩:=rd (Bp l st) la (Ac _ ra qa)
  obtain⟨rb5,qb5⟩:=rd (Bp r st) lb (Ac _ rb qb)
  refine Bu bj.fin λls bj1 fls pls=>?_
  have esj5:s5.heap.get? sj=some (Cc led):=u5' _ _ (neL sj fsj) esj
  refine Ao i5.dict λesD nD eD5 _=>?_
  have rj:RJ w (Bp r st) s5.heap (.ref dj) (dj::ls):=C5 dj ls rfl rfl (bj1.keeps (λ_ h=>h) (λo es n e _=>u5' _ _ (neL dj fdj) e) (λl vs hl p=>p.at λo e=>u5' _ _ (neL l (fls l hl)) e)) (V3 K (λb o e=>t3.keep _ _ (hk b o e)) fdj) λl hl=>AR (pls l hl) λvs p=>(Ag vs (p.at λo e=>u5' _ _ (neL l (fls l hl)) e))
  have mat:Zc w (Bp l st) (Bp r st) s5.heap I D (Bm (Bm (Bm (mI (λ_=>none) la lb) "b2j" (.ref dj)) "bjunk" (.ref sj)) "bpopular" (.ref sp)) 14 O1:=by
   refine⟨i5,la,lb,dj,sj,led,ls,⟨rfl,rfl,rfl,rfl,rfl,rfl,rfl⟩,ra5,rb5,rj,esj5,λb hb=>?_,λhb=>?_⟩
   ·rcases jG.mp hb with rfl|hb
    ·exact frO _ fI
    ·rcases jG.mp hb with rfl|hb
     ·exact frO _ fD
     ·rcases jG.mp hb with rfl|hb
      ·exact qa5
      ·rcases jG.mp hb with rfl|hb
       ·exact qb5
       ·rcases jG.mp hb with rfl|hb
        ·exact frO _ fsj
        ·rcases jG.mp hb with rfl|hb
         ·exact frO _ fdj
         ·exact frO _ (fls b hb)
   ·rcases jG.mp hb with rfl|hb
    ·obtain⟨o,e⟩:=BA ra _ (.head _);exact B0 fD e
    ·rcases jG.mp hb with rfl|hb
     ·obtain⟨o,e⟩:=BA rb _ (.head _);exact B0 fD e
     ·rcases jG.mp hb with rfl|hb
      ·rw[esj5] at eD5;exact absurd (show jV "set"=jV "dict" from congrArg Obj.cls (kR eD5)) (by decide)
      ·rcases jG.mp hb with rfl|hb
       ·exact dD rfl
       ·obtain⟨vs,n,e⟩:=pls D hb
        have:=u5' _ _ (neL D fD) e
        rw[eD5] at this;exact absurd (show jV "dict"=jV "list" from congrArg Obj.cls (kR this)) (by decide)
  refine kg (pT (mh (Bw 3 t5 (Ep (f:=210) (kU s5 t5.keep) i5 rfl (xc (K:=KK w.params) (kU s5 t5.keep).k (by kernel_rfl) ?_))) (by rfl)))
  refine Ym K T hgM (room.le (by rwa[])) (λb o e=>t5.keep _ _ (hk b o e)) t5.ownOk ?_ mat (by rwa[]) (by rw[BE];exact hl) (by rw[BE];exact hr) rfl λs6 S al6 kp6 r6 hD6=>?_
  ·exact gn λo e=>by have:=t3.keep _ _ (hk _ _ e);exact B0 fD this
  ·have t6:St (Dx pw w A s (Az 49 pm cd doc dv kdv) a Yp O) O1 (List.set (Bi [AV.py (oN l),AV.py (oN r),AV.py (lX st)] 1) 3 (some (Bd.val (AV.raw (kx I))))) s6:=by
    refine B1 al6 λh6 tk6 zz1=>?_;clear al6;obtain rfl:=zz1
    obtain⟨o6,e6⟩:=hD6
    exact Ek (tk:=tk6) N t5 (frs D fD) (neL D fD) (frO D fD) eD5 rfl rfl kp6 e6
   have step:∀b o,s1.heap.get? b=some o->b≠s.heap.objs.size->s6.heap.get? b=some o:=λb o e hb=>by
    have e3:=Ax (Keeps.tr k2 k3) b o e
    have hbD:b≠D:=λz=>by rw[z,fD] at e3;exact B6 e3
    exact kp6 b o hbD (u5' b o hb (Ax k34 b o e3))
   refine q O1 (.ret (.ref S)) (.ret (.py (.list ((E0 (Gg (Bp l st) (Bp r st))).map Da)))) _ s6 ⟨(Bc k14).tr (a5.tr al6),λ_ h=>.inl h,λb o e=>?_,λb o e hO _=>step b o e λz=>hO (z▸LO),λb o e ht=>step b o e λz=>?_⟩ t6 (Ac _ rfl r6) rfl
   ·by_cases hb:b=s.heap.objs.size
    ·refine Af t6.ex λmm zz1 _=>?_;obtain⟨o',_,_,e',_⟩:=zz1
     exact Ag o' (hb▸e')
    ·exact Ag o (step b o e hb)
   ·refine Af t1.ex λm n _=>?_
    subst z
    exact A5 n o e ht
theorem X7{w:jW}{xG:jY}{a:jL}{mg mb:jX->Option jB}(K:Bn w xG)(T:Br mg mb xG)(hgM:mg "Match"=some (.ref CM))(hgS:mg "SequenceMatcher"=some (.ref CS))(FO:Av xG 49 a .none .none)(l r:jX)(st:Nat)(hst:0<st)(hst':st<1000)(hl:l.length<=63)(hr:r.length<=63) :
 Fn pw w xG 11 (.ref a) [] [.py (.str l),.py (.str r),.py (.int st)] [] (.py (.list ((E0 (Gg (Bp l st) (Bp r st))).map Da))):=
 Ea FO (λpm cd doc=>ga pm cd doc _ _) T.gl.nolimit rfl (λpm cd doc vs h=>by refine FN (Yx h) λv u x zz1=>?_;obtain rfl:=zz1;exact aW pm cd doc v u x) (λpm cd doc A s O hk N room=>UM K T hgM hgS hk l r st hst hst' hl hr N room)
noncomputable abbrev IZ (p5:mf):Arguments:={posonlyargs:=[],args:=[{arg:="code",annotation:=none,pos:=p5}],vararg:=none,kwonlyargs:=[],kw_defaults:=[],kwarg:=none,defaults:=[]}
noncomputable abbrev J6 (k:Nat) (p1 p2 p3 p4:mf):kH:=.Subscript (.Name "code" p1) (.Slice (some (.Constant (.int 1) k p2)) none none p3) p4
noncomputable abbrev IY:sX:={kind:=.function,names:=[(jz "code",.local)],isGenerator:=false,isCoroutine:=false,more:=[]}
theorem YD{w:jW}{A:kA}{E:jB->jE->Prop}{s:jE}{f t c':jL}{qual:jX}{pm ctv:jB}{k:Nat}{p1 p2 p3 p4 p5:mf}{items:Array jB}{Q:jB->jE->Prop}
 (hf:s.heap.get? f=some (kla_obj "<lambda>" qual (IZ p5) (J6 k p1 p2 p3 p4) IY [] pm c' ctv))(hcd:s.heap.CodeRec (.ref c') qual)(lim:s.heap.NoLimit)(hroom:A.depth<recursionLimit)
 (ht:vC s.heap t items)(hsz:items.size=5)
 (q:∀a s',kY s s'->s.heap.get? a=none->s'.heap.get? a=some {cls:=.type "tuple",data:=.seq (items.toList.drop 1).toArray}->Q (.ref a) s'):wpAny (model pw w) A (call (.ref f) [.ref t]) Q E s:=by
 delta w A E s f t c' qual pm ctv k p1 p2 p3 p4 p5 items Q at hf hcd lim hroom ht hsz q
 refine mS (kla_callFunE (args:=⟨[.ref t],[]⟩) hroom hf rfl rfl rfl rfl hcd ?_)
 rw[show l3 (kla_fn "<lambda>" qual (IZ p5) (J6 k p1 p2 p3 p4) IY [] pm (.ref c') ctv) ⟨[.ref t],[]⟩=pure [(jz "code",.ref t)] from rfl]
 refine jJ ?_
 refine qY rfl (λx hx=>.inl (by rw[jH.mp hx];rfl)) λenv he s' x=>?_
 subst he
 refine⟨lim.keeps x.toInCall.keep,kla_codeExpr ?_⟩
 have ht':vC s'.heap t items:=ht.keeps x.toInCall.keep
 have hn:=x.toInCall.ns
 refine wG slot_tuple_getitem.lookup (nF (mC rfl rfl hn (v:=.ref t) rfl ?_) (by kernel_rfl)) (by intro _ _;rfl)
 refine wZ ?_
 show wpAny _ _ (eval (.Constant (.int 1) k p2) _) _ _ _
 refine wpAny_Constant_int ?_
 refine jJ (jJ ?_)
 have hT:vC (s'.heap.push {cls:=.type "slice",data:=.fields #[.int 1 s'.toks,.none,.none]}) t items:=ht'.keeps λ_ _ e=>jF _ e
 refine⟨hT.typeIs,getItem_tuple_from (a:=1) hT (q8 ..) (jN _) (by rwa[hsz]) ?_ (by rw[hsz,sizeLine_eq];rwa[])⟩
 refine Ao x.toInCall.done λh1 tk1 zz1 kk=>?_;obtain rfl:=zz1
 have n0:∀b,h1.objs.size<=b->s.heap.get? b=none:=λb hb=>gn λo e=>absurd (kq (kk _ _ e)) (pq.mpr hb)
 exact q _ _ (AT _ _ rfl λb o e=>jF _ (jF _ (kk b o e))) (n0 _ (by show h1.objs.size<=(h1.push _).objs.size;rw[mR];exact qX _)) (jQ _ rfl)
noncomputable abbrev PT:jL:=386
noncomputable abbrev CT:jL:=388
structure DX (h:jY) (Z:jL->Prop) (pos:mf) (qual:jX):Prop where
 ex:∃ps,h.get? PT=some (qh ps)/\uP ps.toList/\(codeAmong pos ps.toList=none\/∃c',codeAmong pos ps.toList=some (.ref c')/\h.CodeRec (.ref c') qual/\¬Z c')
theorem NX{a b:Int}{c:jB}(l:List jB)(h:uP l):uP (l++[rawInt a,rawInt b,c]):=by
 generalize e:l.length=n
 induction n using Nat.strongRecOn generalizing l with
 | ind n ih=>
  cases l with
  | nil=>exact trivial
  | cons x l=>
   cases l with
   | nil=>cases x<;>exact h.elim
   | cons y l=>
    cases l with
    | nil=>cases x<;>first|exact h.elim|(cases y<;>exact h.elim)
    | cons z r=>
     have k:uP r->uP (r++[rawInt a,rawInt b,c]):=λh=>ih _ (by rw[<-e];exact mP (mi _) (lY _ 2)) r h rfl
     cases x<;>first|exact h.elim|(cases y<;>first|exact h.elim|exact k h)
theorem DX.keeps{h h':jY}{Z Z':jL->Prop}{pos:mf}{qual:jX}(T:DX h Z pos qual)(kP:∀o,h.get? PT=some o->h'.get? PT=some o)(k:∀b o,h.get? b=some o->¬Z b->h'.get? b=some o)(hz:∀b o,h.get? b=some o->¬Z b->¬Z' b):DX h' Z' pos qual:=by
 refine Bu T.ex λps h1 h2 h3=>?_
 refine⟨ps,kP _ h1,h2,?_⟩
 rcases h3 with h3|⟨c',g1,⟨a,o,vs,t,e,e2,e3⟩,g3⟩
 ·exact .inl h3
 ·cases e
  exact .inr (Ba _ g1 (Ug _ o vs t rfl (k _ _ e2 g3) e3) (hz _ o e2 g3))
theorem WG{M:tM}{A:kA}{E:jB->jE->Prop}{s:jE}{env:xy}{k:Nat}{p1 p2 p3 p4 p5 pos:mf}{mg:jX->Option jB}{Q:jB->jE->Prop}
 (hge0:env.globals=mN)(hcode:env.code=.ref CT)(hcl:vu IY env=pure [])(hdef:defaultsOf (IZ p5) env=([],[]))(hg:s.heap.Ns mN mg)(C:CodeHd s.heap CT PT)(hb:s.heap.BuiltinsAt mg PT)(hgP:mN≠PT)
 (Z:jL->Prop)(hZ:∀b,s.heap.get? b=none->¬Z b)(T:DX s.heap Z pos (env.qual++"<lambda>"))
 (q:∀f c' pm ctv s',AI s s'->(∀b o,b≠PT->s.heap.get? b=some o->s'.heap.get? b=some o)->DX s'.heap Z pos (env.qual++"<lambda>")->s.heap.get? f=none->s'.heap.get? f=some (kla_obj "<lambda>" (env.qual++"<lambda>") (IZ p5) (J6 k p1 p2 p3 p4) IY [] pm c' ctv)->s'.heap.CodeRec (.ref c') (env.qual++"<lambda>")->Q (.ref f) s') :
 wpAny M A (eval (.Lambda (IZ p5) (J6 k p1 p2 p3 p4) IY pos) env) Q E s:=by
 refine Bu T.ex λps hP ht hc=>?_
 refine kla_eval hdef ?_
 have none_of:∀{n:Nat},s.heap.objs.size<=n->s.heap.get? n=none:=λh=>sa h
 rcases hc with hn|⟨c',hs,hr,hz⟩
 ·refine kla_makeFunction (mg:=mg) hcl hge0 hg hcode C hP ht hn hgP hb λc' ctv h' tk hx h1 h2 hr hp=>?_
  have hf:(h'.push (kla_obj "<lambda>" (env.qual++"<lambda>") (IZ p5) (J6 k p1 p2 p3 p4) IY [] ((mg "__name__").getD .none) c' ctv)).get? h'.objs.size=some _:=jQ _ rfl
  refine q h'.objs.size c' _ ctv _ (AS _ _ rfl) (λb o hb e=>jF _ (hx b o hb e)) ⟨_,jF _ hp,?_,.inr (Ba c' ?_ ?_ (hZ _ (none_of h1)))⟩ (none_of (pK (nq h1 h2))) hf ?_
  ·rw[o9];exact NX _ ht
  ·rw[o9];exact codeAmong_snoc _ ht hn
  ·refine Cz hr λa o vs t g1 g2 g3 g4=>?_
   exact GR a o vs t g1 (jF _ g2) g3 g4
  ·refine Cz hr λa o vs t g1 g2 g3 g4=>?_
   exact GR a o vs t g1 (jF _ g2) g3 g4
 ·refine kla_makeFunctionHit (mg:=mg) hcl hge0 hg hcode C hP ht hs hb λctv h' tk hk h1=>?_
  have hf:(h'.push (kla_obj "<lambda>" (env.qual++"<lambda>") (IZ p5) (J6 k p1 p2 p3 p4) IY [] ((mg "__name__").getD .none) c' ctv)).get? h'.objs.size=some _:=jQ _ rfl
  have hr':(h'.push (kla_obj "<lambda>" (env.qual++"<lambda>") (IZ p5) (J6 k p1 p2 p3 p4) IY [] ((mg "__name__").getD .none) c' ctv)).CodeRec (.ref c') (env.qual++"<lambda>"):=by
   refine Cz hr λa o vs t g1 g2 g3 g4=>?_
   exact GR a o vs t g1 (jF _ (hk _ _ g2)) g3 g4
  exact q h'.objs.size c' _ ctv _ (AS _ _ rfl) (λb o hb e=>jF _ (hk b o e)) ⟨ps,jF _ (hk _ _ hP),ht,.inr (Ba c' hs hr' hz)⟩ (none_of h1) hf hr'
noncomputable def KL (h:jY) (k:jB) (c:AM):Prop:=∃a o n t1 t2 t3 t4,k=.ref a/\h.get? a=some o/\o.cls=.type "tuple"/\o.data=.seq #[.int c.2.1 t1,.int c.2.2.1 t2,.int c.2.2.2.1 t3,.int c.2.2.2.2 t4] n
theorem GD{x y:Nat}{P:Prop}(h:(x:Int)=y):(x<y\/(x=y/\P))↔P:=⟨λz=>z.elim (λz=>absurd (rR h) (lw z)) (·.2),λz=>.inr ⟨rR h,z⟩⟩
theorem WC{x y:Nat}{P:Prop}(h:(x:Int)≠y):(x:Int)<y↔(x<y\/(x=y/\P)):=⟨λz=>.inl (mG.mp z),λz=>z.elim mG.mpr λz=>absurd (congrArg _ z.1) h⟩
theorem ak{prog:lD}{w:jW}{A:kA}{s:jE}{k k':jB}{c d:AM}{E:jB->jE->Prop}{Q:Bool->jE->Prop}(hc:KL s.heap k c)(hd:KL s.heap k' d)(sc:EK c)(sd:EK d)
 (h:Q (decide (Fm c<Fm d)) s):wpAny (model prog w) A (keyLt' (tuples' true) k k') Q E s:=by
 refine Ud hc λa o n t1 t2 t3 t4 zz1 ho _ dx=>?_;clear hc;obtain rfl:=zz1
 refine Ud hd λb o' n' u1 u2 u3 u4 zz1 ho' _ dy=>?_;clear hd;obtain rfl:=zz1
 refine kat_lt ho dx ho' dy ?_
 have lex:=Yg sc sd
 have lt1:∀{p q:Int} {t u:ut} {Q:Bool->jE->Prop},Q (decide (p<q)) s->wpAny (model prog w) A (oneLt' false (.int p t) (.int q u)) Q (λ_ _=>False) s:=λh=>kat_one _ _ (P.lt_int h)
 refine xb (pf (kat_go (λe=>kat_yes (xb (pf (kat_go (λe2=>kat_yes (xb (pf (kat_go (λe3=>kat_yes (xb (pf (kat_go (λe4=>kat_yes (kat_nil ?_)) λe4=>kat_no (lt1 ?_))))) λe3=>kat_no (lt1 ?_))))) λe2=>kat_no (lt1 ?_))))) λe=>kat_no (oneLt_int ?_)))
 ·rw[beq_iff_eq] at e e2 e3 e4
  have:¬Fm c<Fm d:=λhh=>by rw[lex,GD e,GD e2,GD e3] at hh;exact lw hh (rR e4)
  rw[decide_eq_false this] at h
  exact h
 ·rw[beq_iff_eq] at e e2 e3
  rw[beq_eq_false_iff_ne] at e4
  have:decide ((c.2.2.2.2:Int)<(d.2.2.2.2:Int))=decide (Fm c<Fm d):=by rw[decide_eq_decide,lex,GD e,GD e2,GD e3];exact mG
  rw[this];exact h
 ·rw[beq_iff_eq] at e e2
  rw[beq_eq_false_iff_ne] at e3
  have:decide ((c.2.2.2.1:Int)<(d.2.2.2.1:Int))=decide (Fm c<Fm d):=by rw[decide_eq_decide,lex,GD e,GD e2];exact WC e3
  rw[this];exact h
 ·rw[beq_iff_eq] at e
  rw[beq_eq_false_iff_ne] at e2
  have:decide ((c.2.2.1:Int)<(d.2.2.1:Int))=decide (Fm c<Fm d):=by rw[decide_eq_decide,lex,GD e];exact WC e2
  rw[this];exact h
 ·rw[beq_eq_false_iff_ne] at e
  have:decide ((c.2.1:Int)<(d.2.1:Int))=decide (Fm c<Fm d):=by rw[decide_eq_decide,lex];exact WC e
  rw[this];exact h
noncomputable def BW (h:jY):List jB->List AM->Prop
 | [],[]=>True
 | k::ks,c::cs=>KL h k c/\BW h ks cs
 | _,_=>False
theorem BW.ni{h:jY}{ks:List jB}(r:BW h ks []):ks=[]:=by
 cases ks with
 | nil=>rfl
 | cons _ _=>exact ro r
theorem BW.ci{h:jY}{ks:List jB}{c:AM}{cs:List AM}(r:BW h ks (c::cs)):∃k ks',ks=k::ks'/\KL h k c/\BW h ks' cs:=by
 cases ks with
 | nil=>exact ro r
 | cons k ks'=>exact FQ k ks' rfl r.1 r.2
theorem BW.keeps{h h':jY}{ks:List jB}{cs:List AM}(x:BW h ks cs)(kk:∀a o,h.get? a=some o->o.cls=.type "tuple"->h'.get? a=some o):BW h' ks cs:=by
 induction cs generalizing ks with
 | nil=>rw[x.ni];exact uC
 | cons c cs ih=>
  refine BD x.ci λk ks' e h1 h2=>?_
  refine Ud h1 λa o n t1 t2 t3 t4 e' g c r=>?_
  rw[e];exact⟨⟨a,o,n,t1,t2,t3,t4,e',kk a o g c,c,r⟩,ih h2⟩
theorem BW.snoc{h:jY}{k:jB}{c:AM}(hk:KL h k c):∀{ks:List jB} {cs:List AM},BW h ks cs->BW h (ks++[k]) (cs++[c])
 | [],[],_=>⟨hk,trivial⟩
 | _::_,_::_,⟨h1,h2⟩=>⟨h1,h2.snoc hk⟩
theorem BW.len{h:jY}:∀{ks:List jB} {cs:List AM},BW h ks cs->ks.length=cs.length
 | [],[],_=>rfl
 | _::_,_::_,⟨_,h2⟩=>by rw[j7,j7,h2.len]
theorem BW.at{h:jY}{q0:AM}{ks:List jB}{cs:List AM}{i:Nat}(x:BW h ks cs)(hi:i<cs.length):KL h (ks.getD i jD) (cs.getD i q0):=by
 induction cs generalizing ks i with
 | nil=>exact absurd hi (ql _)
 | cons c cs ih=>
  refine BD x.ci λk ks' e h1 h2=>?_
  rw[e]
  cases i with
  | zero=>exact h1
  | succ i=>exact ih h2 (vF hi)
theorem BW.tups{h:jY}{ks:List jB}{cs:List AM}(x:BW h ks cs):∃fs,KatTups h ks fs/\fs.length=cs.length/\∀v∈fs,∃i t,v=.int i t:=by
 induction cs generalizing ks with
 | nil=>rw[x.ni];exact Ba [] uC rfl λ_ h=>nomatch h
 | cons c cs ih=>
  refine BD x.ci λk ks' e h1 h2=>Bu (ih h2) λfs k1 k2 k3=>?_
  refine Ud h1 λa o n t1 t2 t3 t4 e' g c d=>?_
  rw[e]
  refine Ba (_::fs) ⟨⟨a,o,_,n,e',g,c,d,rfl⟩,k1⟩ (congrArg (· + 1) k2) λv hv=>?_
  rcases jG.mp hv with rfl|hv
  ·exact AS _ _ rfl
  ·exact k3 v hv
theorem et{h:jY}{ws:List jB}{d:jO}{ds:List jO}{as:List jL}(r:Ae h ws (d::ds) as):∃v ws' cs bs,ws=v::ws'/\Ak h v d cs/\Ae h ws' ds bs:=
 Cz (AK r) λv ws' b c e r ra _=>Ug v ws' b c e r ra
theorem N5{h:jY}{ws:List jB}{i:Int}{ds:List jO}{as:List jL}(r:Ae h ws (.int i::ds) as):∃t ws' bs,ws=.int i t::ws'/\Ae h ws' ds bs:=
 E7 (et r) λv ws' b c e r ra=>(VR.int_inv (O:=[]) ⟨b,r,λ_ _ h=>Af h λ_ m _=>nomatch m⟩).elim λt q=>KC t ws' c (q▸e) ra
theorem Z5{h:jY}{ws:List jB}{i:jX}{ds:List jO}{as:List jL}(r:Ae h ws (.str i::ds) as):∃t ws' bs,ws=.str i t::ws'/\Ae h ws' ds bs:=
 E7 (et r) λv ws' b c e r ra=>(VR.str_inv (O:=[]) ⟨b,r,λ_ _ h=>Af h λ_ m _=>nomatch m⟩).elim λt q=>KC t ws' c (q▸e) ra
theorem Xm{h:jY}{v:jB}{c:AM}{as:List jL}(r:Ak h v (Da c) as):∃t items t1 t2 t3 t4 t5,v=.ref t/\vC h t items/\items=#[.str c.1 t5,.int c.2.1 t1,.int c.2.2.1 t2,.int c.2.2.2.1 t3,.int c.2.2.2.2 t4]:=by
 delta h v c as at r
 refine Cf (VR.tuple_inv (O:=[]) (ds:=[.str c.1,.int c.2.1,.int c.2.2.1,.int c.2.2.2.1,.int c.2.2.2.2]) ⟨as,r,λ_ _ h=>Af h λ_ m _=>nomatch m⟩) λa vs _ e it ra _=>?_
 refine CG (Z5 ra) λt5 w1 _ q1 ra=>CG (N5 ra) λt1 w2 _ q2 ra=>CG (N5 ra) λt2 w3 _ q3 ra=>CG (N5 ra) λt3 w4 _ q4 ra=>CG (N5 ra) λt4 w5 _ q5 ra=>?_
 exact eN a vs t1 t2 t3 t4 t5 e it (nb.mp (q1.trans (congrArg _ (q2.trans (congrArg _ (q3.trans (congrArg _ (q4.trans (congrArg _ (q5.trans (congrArg _ (Bg ra))))))))))))
noncomputable def q0:AM:=("",0,0,0,0)
noncomputable def Gi (h:jY):List jB->List AM->Prop
 | [],[]=>True
 | v::vs,c::cs=>(∃t items t1 t2 t3 t4 t5,v=.ref t/\vC h t items/\items=#[.str c.1 t5,.int c.2.1 t1,.int c.2.2.1 t2,.int c.2.2.2.1 t3,.int c.2.2.2.2 t4])/\Gi h vs cs
 | _,_=>False
theorem Gi.of{h:jY}:∀{vs:List jB} {cs:List AM} {as:List jL},Ae h vs (cs.map Da) as->Gi h vs cs
 | vs,[],as,r=>by rw[Bg r];trivial
 | vs,c::cs,as,r=>by
  refine Cz (AK r) λv ws bs cs' zz1 r1 r2 zz2=>?_;obtain rfl:=zz1;obtain rfl:=zz2
  obtain⟨t,items,t1,t2,t3,t4,t5,e⟩:=(Xm r1)
  exact⟨(eO t items t1 t2 t3 t4 t5 e),Gi.of r2⟩
structure Jr (s0 s:jE) (kS:jL) (ks:List jB) (cs:List AM) (e:Nat):Prop where
 al:AI s0 s
 old:∀b o,b≠kS->s0.heap.get? b=some o->s.heap.get? b=some o
 lst:s.heap.get? kS=some (seqObj "list" ks.toArray e)
 keys:BW s.heap ks cs
theorem YF{w:jW}{A:kA}{E:jB->jE->Prop}{s0:jE}{f c' kS:jL}{qual:jX}{pm ctv:jB}{k:Nat}{p1 p2 p3 p4 p5:mf}{body:jB->PUnit->vg (ForInStep PUnit)}
 (hf:s0.heap.get? f=some (kla_obj "<lambda>" qual (IZ p5) (J6 k p1 p2 p3 p4) IY [] pm c' ctv))(hcd:∀s e ks cs,Jr s0 s kS ks cs e->s.heap.CodeRec (.ref c') qual/\s.heap.NoLimit)(hroom:A.depth<recursionLimit)(hfk:f≠kS)(hkS:∀o,s0.heap.get? kS=some o->o.cls≠.type "tuple")
 (hb:∀(x:jB) (s:jE) (Q:ForInStep PUnit->jE->Prop),wpAny (model pw w) A (call (.ref f) [x]) (λk s'=>wpAny (model pw w) A (qp (.ref kS) (·.push k)) (λ_ s''=>Q (.yield ⟨⟩) s'') E s') (λ_ _=>False) s->wpAny (model pw w) A (body x ⟨⟩) Q E s) :
 ∀(r:List jB) (cs':List AM) (ks:List jB) (cs:List AM) (e:Nat) (s:jE),Gi s0.heap r cs'->Jr s0 s kS ks cs e->ks.length+r.length<64->
  wpAny (model pw w) A (forIn r PUnit.unit body) (λ_ s'=>∃ks' e',Jr s0 s' kS ks' (cs++cs') e') E s:=by
 intro r
 induction r with
 | nil=>
  intro cs' ks cs e s hr i _
  cases cs' with
  | cons=>exact hr.elim
  | nil=>
   rw[uJ,kF]
   exact jJ (AS ks e i)
 | cons x r ih=>
  intro cs' ks cs e s hr i hlen
  cases cs' with
  | nil=>exact hr.elim
  | cons c cs'=>
   obtain⟨⟨t,items,t1,t2,t3,t4,t5,ex,ht,hit⟩,hr⟩:=hr
   subst ex
   rw[mV]
   have htk:t≠kS:=λz=>by refine Bu ht λo e1 e2 _=>?_;exact hkS o (z▸e1) e2
   have ht':vC s.heap t items:=by refine Af ht λo e1 r1=>?_;exact Ac o (i.old t o htk e1) r1
   obtain⟨hc1,hc2⟩:=hcd s e ks cs i
   refine jA (hb _ s _ (YD (i.old f _ hfk hf) hc1 hc2 hroom ht' (by rw[hit];rfl) λa s' kk ha ha'=>?_))
   have l1:=Ax kk _ _ i.lst
   rw[j7] at hlen
   refine qq l1 rfl ?_ (by rw[kI,sizeLine_eq];rwa[hlen]) (kL (tD (wY ..)) (by rw[kI,sizeLine_eq];rwa[hlen]))
   have ea:(ke ks).push (.ref a)=ke (ks++[.ref a]):=by simp
   have ake:a≠kS:=λz=>by rw[z,i.lst] at ha;exact XK ha
   have sb:=ma s'.heap kS (kB (·.push (kx a)))
   obtain⟨c2,hc2'⟩:∃c2,(s'.heap.update kS (kB (·.push (kx a)))).get? kS=some (seqObj "list" (ke (ks++[.ref a])) c2):=⟨_,by rw[<-ea];exact oP l1 (·.push (kx a))⟩
   have i':Jr s0 {s' with heap:=s'.heap.update kS (kB (·.push (kx a)))} kS (ks++[.ref a]) (cs++[c]) c2:=by
    refine⟨i.al.tr ((Bc kk).tr (AS _ _ rfl)),λb o hb e=>(sb.2 b hb).trans (Ax kk _ _ (i.old b o hb e)),hc2',BW.snoc (eM a _ 0 t1 t2 t3 t4 rfl ((sb.2 a ake).trans ha') rfl ?_) (i.keys.keeps λb o e hc=>(sb.2 b λz=>?_).trans (Ax kk _ _ e))⟩
    ·show Data.seq (items.toList.drop 1).toArray 0=_
     rw[hit];rfl
    ·rw[z,i.lst] at e;(replace e:=si e;subst e);exact absurd (show jV "list"=jV "tuple" from hc) (by decide)
   have:=ih cs' (ks++[.ref a]) (cs++[c]) c2 _ hr i' (by rw[jZ,pO];rwa[hlen])
   rw[l5] at this
   exact this
theorem Wk{w:jW}{A:kA}{E:jB->jE->Prop}{s:jE}{f c' a kS:jL}{qual:jX}{pm ctv:jB}{k:Nat}{p1 p2 p3 p4 p5:mf}{vs:List jB}{cs ops:List AM}{e1:Nat}{P:PySem.Fin->jE->Prop}
 (hf:s.heap.get? f=some (kla_obj "<lambda>" qual (IZ p5) (J6 k p1 p2 p3 p4) IY [] pm c' ctv))(hcd:s.heap.CodeRec (.ref c') qual)(lim:s.heap.NoLimit)(hL:∀h':jY,(∀b o,b≠kS->s.heap.get? b=some o->h'.get? b=some o)->h'.NoLimit)(hroom:A.depth<recursionLimit)
 (hkS:s.heap.get? kS=some (seqObj "list" #[] 0))(ha:s.heap.get? a=some (seqObj "list" #[] e1))(hne:a≠kS)(tv:Gi s.heap vs cs)(hlen:vs.length=cs.length)(h64:vs.length<64)(p:cs.Perm ops)(asc:ops.Pairwise λx y=>Fm x<Fm y)(sm:∀c∈cs,EK c)
 (q:∀s' c2,AI s s'->(∀b o,b≠a->b≠kS->s.heap.get? b=some o->s'.heap.get? b=some o)->s'.heap.get? a=some (seqObj "list" (CE (BN Fm q0 cs) vs).toArray c2)->P (.done (.ret .none)) s') :
 wpAny (model pw w) A (ksk_rest a (.ref f) false vs.toArray e1 (.ref kS)) P E s:=by
 have hr:=Gx Fm q0 p asc
 have hfk:f≠kS:=λz=>by rw[z,hkS] at hf;exact absurd (show jV "list"=jV "function" from congrArg Obj.cls (kR hf)) (by decide)
 have ck:∀s' e ks cs,Jr s s' kS ks cs e->s'.heap.CodeRec (.ref c') qual/\s'.heap.NoLimit:=λs' e ks cs i=>by
  refine Cz hcd λx o xs t g1 g2 g3 g4=>?_
  exact⟨(GR x o xs t g1 (i.old x o (λz=>by rw[z,hkS] at g2;(replace g2:=si g2;subst g2);cases g3) g2) g3 g4),hL _ i.old⟩
 unfold ksk_rest
 refine jA (so ?_)
 rw[sP]
 refine jA (lR (YF hf ck hroom hfk (λo e=>by(replace e:=CQ hkS e;subst e);exact(show jV "list"≠jV "tuple" by decide)) (λx s' Q hx=>?_) vs cs [] [] 0 s tv ⟨AI.re s,λ_ _ _ e=>e,hkS,trivial⟩ (by simpa using h64)) (λ_ s1 hd=>?_) λ_ _ x=>x)
 ·refine jA (pA (lR hx (λk s'' hk=>?_) λ_ _ hF=>hF.elim))
  exact jA (lR hk (λ_ s3 h=>jJ h) λ_ _ x=>x)
 refine B1 hd λks e inv=>?_
 rw[ph] at inv
 have hkl:=inv.keys.len
 refine jA (wA inv.lst rfl ?_)
 have hol:=Kq (vs:=vs) (r:=BN Fm q0 cs) (λi j hi hj=>hr i j (by rwa[hlen,hi]) (by rwa[hlen,hj]))
 have ha1:=inv.old a _ hne ha
 have OI:∀(st':SortSt),(arrOf st').map (·.2)=(CE (BN Fm q0 cs) vs).toArray->vB st'=none->wpAny (model pw w) A (ksk_tail a false e1 (.ref kS) st') P E s1:=λst' hout hfl=>by
  have sb1:=ma s1.heap kS (kB λ_=>(#[]:Array jB))
  have ha2:=(sb1.2 a hne).trans ha1
  have sb2:=ma (s1.heap.update kS (kB λ_=>(#[]:Array jB))) a (kB λ_=>(CE (BN Fm q0 cs) vs).toArray)
  unfold ksk_tail
  dsimp only
  rw[hout]
  refine jA (qq inv.lst rfl ?_ (by rw[kI,sizeLine_eq];rwa[hlen,h64,hkl]) (kf _))
  refine jA (uX ?_)
  refine jA (u0 ha2 rfl ?_)
  refine jA (qq ha2 rfl ?_ (kf _) (by simp only[nh,if_false];rw[kI,hol,sizeLine_eq];rwa[h64]))
  rw[hfl]
  simp only[bne_self_eq_false,nh,if_false]
  exact jJ (q _ _ (inv.al.tr (AS _ _ rfl)) (λb o h1 h2 e=>(sb2.2 b h1).trans ((sb1.2 b h2).trans (inv.old b o h2 e))) (oP ha2 λ_=>(CE (BN Fm q0 cs) vs).toArray))
 unfold ksk_end
 dsimp only
 simp only[nh,if_false]
 by_cases h2:vs.length<2
 ·have hn2:vs.toArray.size<2:=by rw[kI];rwa[h2]
  rw[if_pos hn2,if_pos hn2]
  refine jA (jJ ?_)
  refine jA (jJ (a:=((),sD general' ((ke ks).zip vs.toArray) #[] 7 none)) ?_)
  refine OI _ ?_ rfl
  unfold CE
  rw[if_pos h2]
  show((ke ks).zip vs.toArray).map (·.2)=_
  apply nb.mp
  rw[pP,wF]
  exact wP (show vs.length<=ks.length by rwa[hlen,hkl])
 ·have hn2:¬vs.toArray.size<2:=by rw[kI];rwa[h2]
  rw[if_neg hn2,if_neg hn2]
  refine Bu inv.keys.tups λfs g1 g2 g3=>?_
  refine jA (kat_kind (T:=.type "int") g1 (by rwa[hlen,h2,g2]) (λv hv=>?_) (by decide) ?_)
  ·obtain⟨i,t,rfl⟩:=g3 v hv
   exact .now
  rw[show(jV "int" != jV "tuple")=true by decide]
  have ask:(kas_sort vs.length).kasWp (kas_ask pw w A (tuples' true) ks) (λp s'=>s'=s1/\p=D1 (CW (BN Fm q0 cs)) (kas_sort vs.length)) s1:=
   Rf (Inv:=λs'=>s'=s1) (ok:=(· < vs.length)) (λi j C s' oi oj hI hC=>by
    subst hI
    unfold kas_ask
    have at':∀i,i<vs.length->cs.getD i q0∈cs:=λi hi=>by
     rw[mU,jP (by rwa[hlen,hi])];exact tP _
    exact ak (inv.keys.at (q0:=q0) (by rwa[hlen,oi])) (inv.keys.at (q0:=q0) (by rwa[hlen,oj])) (sm _ (at' i oi)) (sm _ (at' j oj)) (hC _ rfl)) _ _ (TP (by rwa[h2]) (λi j hi hj=>hr i j (by rwa[hlen,hi]) (by rwa[hlen,hj]))) rfl λs' hI=>⟨hI,rfl⟩
  refine jA (lR (kat_run (Q:=λst' s'=>(arrOf st').map (·.2)=(CE (BN Fm q0 cs) vs).toArray/\vB st'=none/\s'=s1) (by rwa[hlen,hkl]) (by rwa[h2]) h64 (λp' st' s' a1 a2 a3 a4=>⟨?_,a3,a4.1⟩) ask) ?_ λ_ _ x=>x)
  ·rw[kat_snds (by rwa[hlen,hkl]) a2,a4.2]
   unfold CE
   rw[if_neg h2]
  ·intro zz1 s' zz2;obtain⟨⟨⟩,st'⟩:=zz1;refine C1 zz2 λhout hfl zz3=>?_;clear zz2;obtain rfl:=zz3
   exact OI st' hout hfl
theorem QW{w:jW}{A:kA}{E:jB->jE->Prop}{s:jE}{f c' l:jL}{qual:jX}{pm ctv:jB}{k:Nat}{p1 p2 p3 p4 p5:mf}{vs:List jB}{cs ops:List AM}{as:List jL}{Q:jB->jE->Prop}
 (hf:s.heap.get? f=some (kla_obj "<lambda>" qual (IZ p5) (J6 k p1 p2 p3 p4) IY [] pm c' ctv))(hcd:s.heap.CodeRec (.ref c') qual)(lim:s.heap.NoLimit)(hroom:A.in1.in1.depth<recursionLimit)
 (hl:s.heap.IsList l vs.toArray)(rs:Ae s.heap vs (cs.map Da) as)(h64:vs.length<64)(p:cs.Perm ops)(asc:ops.Pairwise λx y=>Fm x<Fm y)(sm:∀c∈cs,EK c)
 (q:∀D s' c,kY s s'->s.heap.get? D=none->s'.heap.get? D=some (seqObj "list" (CE (BN Fm q0 cs) vs).toArray c)->Q (.ref D) s') :
 wpAny (model pw w) A (call (.builtin "sorted") [.ref l] [(jz "key",.ref f)]) Q E s:=by
 delta w A E s f c' l qual pm ctv k p1 p2 p3 p4 p5 vs cs ops as Q at hf hcd lim hroom hl rs h64 p asc sm q
 refine call_function_entry_kw kind_sorted plain_sorted entry_sorted (ksk_s1 _ _) ?_
 unfold km.«sorted»
 refine jA (m:=checkCount "sorted" 1 1 _) (jJ ?_)
 refine jA (collect_list hl ?_ (by rw[sizeLine_eq];rwa[h64]))
 refine jA (vU ?_ (by rw[sizeLine_eq];rwa[h64]))
 have hsz:((s.heap.push (seqObj "list" #[] 0)).update s.heap.objs.size (kB (·++vs.toArray))).objs.size=s.heap.objs.size+1:=by
  rw[Heap.size_update];exact mR _ _
 have hoL:(((s.heap.push (seqObj "list" #[] 0)).update s.heap.objs.size (kB (·++vs.toArray))).push (seqObj "list" vs.toArray 0)).get? (s.heap.objs.size+1)=some (seqObj "list" vs.toArray 0):=by
  rw[<-hsz];exact jQ _ rfl
 have keep:∀b o,s.heap.get? b=some o->(((s.heap.push (seqObj "list" #[] 0)).update s.heap.objs.size (kB (·++vs.toArray))).push (seqObj "list" vs.toArray 0)).get? b=some o:=λb o q=>by
  have hlt:b<s.heap.objs.size:=kq q
  refine jF _ ((mj _ _ _ _ (lw hlt)).trans (jF _ q))
 show wpAny _ _ _ _ _ {s with heap:=((s.heap.push (seqObj "list" #[] 0)).update s.heap.objs.size (kB (·++vs.toArray))).push (seqObj "list" vs.toArray 0)}
 rw[hsz]
 have hD:s.heap.get? (s.heap.objs.size+1)=none:=sa (qX _)
 generalize hH:((s.heap.push (seqObj "list" #[] 0)).update s.heap.objs.size (kB (·++vs.toArray))).push (seqObj "list" vs.toArray 0)=H at *
 generalize hDg:s.heap.objs.size+1=D at *
 refine jA (kE (wpAny_call_entry_kw slot_list_sort (Ac _ hoL rfl) entry_list_sort ?body (ksk_l1 _ _)))
 case body=>
  show wpAny (model pw w) A.in1.in1 (km.«list.sort» ⟨[.ref D],[(jz "key",.ref f)]⟩) _ _ _
  rw[ksk_t1]
  have sb:=ma H D (kB λ_=>(#[]:Array jB))
  obtain⟨e1,ho1⟩:∃e1,(H.update D (kB λ_=>(#[]:Array jB))).get? D=some (seqObj "list" #[] e1):=Ag _ (oP hoL λ_=>#[])
  have hbD:∀b o,s.heap.get? b=some o->b≠D:=λb o e z=>by rw[z,hD] at e;exact B6 e
  unfold ksk_tree
  refine jA (wA hoL rfl ?_)
  refine jA (qq hoL rfl ?_ (by rw[kI,sizeLine_eq];rwa[h64]) (kf _))
  refine jA (u0 ho1 rfl ?_)
  refine jA (wpAny_newTuple ?_ (by show vs.length<=_;rw[sizeLine_eq];rwa[h64]))
  refine jA (vU ?_ (kf _))
  refine kE ?_
  have k3:∀b o,s.heap.get? b=some o->(((H.update D (kB λ_=>(#[]:Array jB))).push (seqObj "tuple" vs.toArray 0)).push (seqObj "list" #[] 0)).get? b=some o:=λb o e=>jF _ (jF _ ((sb.2 b (hbD b o e)).trans (keep b o e)))
  have kD:(((H.update D (kB λ_=>(#[]:Array jB))).push (seqObj "tuple" vs.toArray 0)).push (seqObj "list" #[] 0)).get? D=some (seqObj "list" #[] e1):=jF _ (jF _ ho1)
  have kS0:((H.update D (kB λ_=>(#[]:Array jB))).push (seqObj "tuple" vs.toArray 0)).get? ((H.update D (kB λ_=>(#[]:Array jB))).push (seqObj "tuple" vs.toArray 0)).objs.size=none:=sa (jN _)
  have k2:∀b o,s.heap.get? b=some o->((H.update D (kB λ_=>(#[]:Array jB))).push (seqObj "tuple" vs.toArray 0)).get? b=some o:=λb o e=>jF _ ((sb.2 b (hbD b o e)).trans (keep b o e))
  have kS1:(((H.update D (kB λ_=>(#[]:Array jB))).push (seqObj "tuple" vs.toArray 0)).push (seqObj "list" #[] 0)).get? ((H.update D (kB λ_=>(#[]:Array jB))).push (seqObj "tuple" vs.toArray 0)).objs.size=some (seqObj "list" #[] 0):=jQ _ rfl
  have neD:D≠((H.update D (kB λ_=>(#[]:Array jB))).push (seqObj "tuple" vs.toArray 0)).objs.size:=λz=>by
   have:=jF (h:=H.update D (kB λ_=>(#[]:Array jB))) (seqObj "tuple" vs.toArray 0) ho1
   rw[<-z,this] at kS0;exact XK kS0
  show wpAny (model pw w) A.in1.in1 (ksk_rest D (.ref f) false vs.toArray e1 (.ref ((H.update D (kB λ_=>(#[]:Array jB))).push (seqObj "tuple" vs.toArray 0)).objs.size)) _ _ {s with heap:=((H.update D (kB λ_=>(#[]:Array jB))).push (seqObj "tuple" vs.toArray 0)).push (seqObj "list" #[] 0)}
  generalize ((H.update D (kB λ_=>(#[]:Array jB))).push (seqObj "tuple" vs.toArray 0)).objs.size=kS at *
  generalize hH2:(H.update D (kB λ_=>(#[]:Array jB))).push (seqObj "tuple" vs.toArray 0)=H2 at *
  have hbS:∀b o,s.heap.get? b=some o->b≠kS:=λb o e z=>by rw[<-z,k2 b o e] at kS0;exact XK kS0
  refine Wk (s:={s with heap:=H2.push (seqObj "list" #[] 0)}) (cs:=cs) (ops:=ops) (k3 _ _ hf) (Cz hcd λx o xs t g1 g2 g3 g4=>(GR x o xs t g1 (k3 _ _ g2) g3 g4)) (lim.keeps k3) (λh' hk=>lim.keeps λb o e=>hk b o (hbS b o e) (k3 b o e)) hroom kS1 kD neD (Gi.of (Ae.keeps k3 rs)) (by rw[Al rs,jI]) h64 p asc sm λs' c2 al old hDs=>?_
  refine B1 al λh4 tk4 zz1=>?_;clear al;obtain rfl:=zz1
  exact Ac _ rfl (jJ (Ac _ rfl (q D _ c2 (AT h4 tk4 rfl λb o e=>old b o (hbD b o e) (hbS b o e) (k3 b o e)) hD hDs)))
noncomputable def Oi:jX:=(PA (stm 48)++".<locals>.")++"<lambda>"
noncomputable def Eo:mf:=⟨658,28,658,49⟩
structure Iy (mg:jX->Option jB) (xI:jY) (a48:jL):Prop where
 fn:∃o pm doc,xI.get? a48=some o/\o.data=.func (Az 48 pm (.ref CT) doc .none .none)/\xI.CodeRec (.ref CT) (PA (stm 48))
 hd:CodeHd xI CT PT
 bi:xI.BuiltinsAt mg PT
 noP:xI.get? PT=none
theorem Ze{M:tM}{A:kA}{env:xy}{E:jB->jE->Prop}{s:jE}{f kv:kH}{es:List kH}{x:jX}{kp pos:mf}{Q:jB->jE->Prop}
 (h:wpAny M A (eval f env) (λv xJ=>wpAny M A (kX pos v [] (backTo pos (starEach es env)) (l8 pos (lu [⟨some x,kv,kp⟩] env))) Q E xJ) E s)
 (he:autoParam (eval (.Call f es [⟨some x,kv,kp⟩] pos) env=(do kX pos (<-eval f env) [] (backTo pos (starEach es env)) (l8 pos (lu [⟨some x,kv,kp⟩] env)))) aR) :
 wpAny M A (eval (.Call f es [⟨some x,kv,kp⟩] pos) env) Q E s:=by
 rw[he];exact jA h
theorem aX(pm cd doc v u x:jB):l3 (Az 48 pm cd doc .none .none) ⟨[v,u,x],[]⟩=pure [((jz "left"),v),((jz "right"),u),((jz "step"),x)]:=by rfl
theorem Vl{w:jW}{A:kA}{s:jE}{O:Ap}{mg mb:jX->Option jB}{xI:jY}{Q:jB->jE->Prop}{E:jB->jE->Prop}(F:Jq w mg mb xI)(B:Iy mg xI F.a48)(room:A0 A 70)(hk:HK xI s)(own:CJ O s)(hPO:¬O.has PT)(Z:jL->Prop)(hZO:∀b,O.has b->Z b)(hZl:∀b,Z b->∃o,s.heap.get? b=some o)(T:DX s.heap Z Eo Oi)
 (l r:jX)(st:Nat)(hst:0<st)(hst':st<1000)(hl:l.length<=30)(hr:r.length<=30){vs:List jB}(rv:DD O s.heap [.py (.str l),.py (.str r),.py (.int st)] vs)(ops:List AM)
 (told:XE l.length r.length (Dm l.cps.toList r.cps.toList st (l.length+1) 0 l.length 0 r.length) ops)
 (q:∀v s',AI s s'->(∀b o,b≠PT->s.heap.get? b=some o->s'.heap.get? b=some o)->DX s'.heap Z Eo Oi->VR O s'.heap (.py (.list (ops.map Da))) v->Q v s') :
 wpAny (model pw w) A (call (.ref F.a48) vs []) Q E s:=by
 delta w A s O mg mb Q E at xI F B room hk own hPO Z hZO hZl T l r st hst hst' hl hr vs rv ops told q
 refine Ec B.fn λo48 pm doc ho hd hcd=>?_
 have hPs:∀b o,xI.get? b=some o->b≠PT:=λb o e z=>by rw[z,B.noP] at e;exact B6 e
 have hk0:HK xI (A6 s PT):=λb o e=>(Bj (hPs b o e)).trans (hk b o e)
 have new0:s.heap.get? s.heap.objs.size=none:=Bk (jN _)
 have hvl:vs.length=3:=rv.length
 refine Jc (s₀:=A6 s PT) (args:=⟨vs,[]⟩) (gb pm (.ref CT) doc .none .none) ho hd F.T.gl.nolimit hcd room hk own (λb o e=>(Er e).1) (λp hp=>AR (own.live p hp) λo e=>(Ag o ((Bj λz=>hPO (Ac p hp z)).trans e)))
  (.of_eq (by refine FN (Yx hvl) λv u x zz1=>?_;obtain rfl:=zz1;exact aX _ _ _ v u x)) hvl rv (λN rm s1 E' t k1=>?_)
 generalize hbl:Dm l.cps.toList r.cps.toList st (l.length+1) 0 l.length 0 r.length=bl at *
 have hbn:bl.length<=30:=by
  have:=DM (l:=l.cps.toList) (r:=r.cps.toList) (st:=st) (f:=l.length+1) (i0:=0) (i1:=l.length) (j0:=0) (j1:=r.length) (jN _) (jN _) (kf _) (kf _)
  rw[hbl] at this;rwa[hl,this]
 have hcut:=aJ (w:=w) F.T F.f46 F.g46 F.f47 F.g47 l r st hst hst' (by rwa[hl]) (by rwa[hr]) (l.length+1) 0 l.length 0 r.length (jN _) (jN _) (kf _) (kf _) (by rwa[])
 rw[hbl] at hcut
 have hbeg:(BO bl l.length r.length).length=(Df bl).length:=by simp[BO,Df]
 have hel:(Df bl).length=bl.length+1:=by simp[Df]
 have hql:(Cu bl).length=bl.length:=by simp[Cu]
 have hbody:Ex (CF pw w A (A6 s PT) s (Az 48 pm (.ref CT) doc .none .none) F.a48 J1 O) (Bi [.py (.str l),.py (.str r),.py (.int st)] 9) ((Am (stm 48)).take 6) (λaf σ'=>af=.next/\∃x y z u,σ'=[some (.val (.py (.str l))),some (.val (.py (.str r))),some (.val (.py (.int st))),some (.val (.py (.list (bl.map BX)))),some (.val (.py (.list ((Df bl).map BK)))),some (.val (.py (.list ((BO bl l.length r.length).map BK)))),some (.val (.obj (Ez pw w EQ))),some (.own ((Ew bl l.length r.length).map Da)),x,y,z,u]):=
  Rz F hk0 l r st bl (by rwa[hl]) (by rwa[hr]) (by rwa[hbn]) (l.length+2) hcut N (rm.le (by rwa[hl])) _ (Ry F hk0 l r st bl (Df bl) (BO bl l.length r.length) (Cu bl) hbeg.symm (by rwa[hbn,hel]) (by rwa[hbn,hql]) told.order N rm.handled _ λx y z u=>Aj ⟨rfl,x,y,z,u,rfl⟩)
 have ed:Am (stm 48)=(Am (stm 48)).take 6++(Am (stm 48)).drop 6:=(pN 6 _).symm
 rw[ed]
 refine N4 t hbody ?_
 intro O2 σ2 s2 fx t2 zz1;refine Eb zz1 λx y z u zz2=>?_;clear zz1;obtain rfl:=zz2
 have hnocell:∀b,∀x,(x,b)∉(CF pw w A (A6 s PT) s (Az 48 pm (.ref CT) doc .none .none) F.a48 J1 O).env.cells:=λb x h=>(by cases h)
 have O1of:∀b o,s.heap.get? b=some o->¬O.has b->¬Ap.has (("",s.heap.objs.size)::O) b:=λb o e hb=>by
  rintro⟨p,hp,e'⟩
  rcases jG.mp hp with rfl|hp
  ·have e':s.heap.objs.size=b:=e'
   rw[<-e',new0] at e;exact B6 e
  ·exact hb (Ac p hp e')
 have up2:∀b o,s.heap.get? b=some o->¬O.has b->s2.heap.get? b=some o:=λb o e hb=>fx.at (Ax k1 b o e) (O1of b o e hb) (hnocell b)
 refine Af T.ex λpsT hPT _=>?_
 have hPO1:=O1of PT _ hPT hPO
 have hPO2:¬O2.has PT:=λh=>by
  rcases fx.own PT h with z|z
  ·exact hPO1 z
  ·exact B0 z (Ax k1 _ _ hPT)
 have T2:DX s2.heap (λb=>Z b\/O2.has b) Eo Oi:=T.keeps (λo e=>up2 PT o e hPO) (λb o e h=>up2 b o e λz=>h (hZO b z)) λb o e hb0 h=>by
  have hb:¬O.has b:=λz=>hb0 (hZO b z)
  rcases h with h|h
  ·exact hb0 h
  rcases fx.own b h with z|z
  ·exact O1of b o e hb z
  ·exact B0 z (Ax k1 _ _ e)
 have up1:∀s':jE,(∀b o,(A6 s PT).heap.get? b=some o->s'.heap.get? b=some o)->∀b o,xI.get? b=some o->s'.heap.get? b=some o:=λs' h b o e=>h b o (hk0 b o e)
 refine kg (pT (Ze (Ev.run (A1 (v:=.builtin "sorted") F.T hk0) t2 λv s3 t3 k3 r3=>?_) (by rfl)))
 obtain rfl:v=.builtin "sorted":=r3
 refine Pp (EZ N t3 (i:=7) rfl rfl) λmm l7 ws as nn hd' zz1 rs qs zz2 _=>?_;obtain⟨c7,hl7⟩:=zz1;obtain⟨hO7,hf7⟩:=zz2
 have T3:DX s3.heap (λb=>Z b\/O2.has b) Eo Oi:=T2.keeps (λo e=>Ax k3 _ _ e) (λb o e _=>Ax k3 _ _ e) λ_ _ _ h=>h
 have live3:∀b,s3.heap.get? b=none->¬O2.has b:=λb e ⟨p,hp,e'⟩=>by
  obtain⟨o,e2⟩:=t3.live p hp
  rw[e',e] at e2;exact B6 e2
 have liveZ:∀b,s3.heap.get? b=none->¬(Z b\/O2.has b):=λb e h=>h.elim (λh=>by
  obtain⟨o,e1⟩:=hZl b h
  obtain⟨o',e2⟩:=fx.dom b o (Ax k1 _ _ e1)
  exact B0 e (Ax k3 _ _ e2)) (live3 b e)
 refine callWith_kw (args_cons (EY N nn hd' (pX (kwAll_cons (WG (mg:=mg) rfl rfl (by rfl) (by rfl) (F.T.gl.g.keeps (up1 s3 t3.keep)) (B.hd.keeps (up1 s3 t3.keep)) ?_ (by decide) _ liveZ T3 λf c' pm' ctv s5 al5 kp5 T5 fr5 hf5 hc5=>kwAll_nil ?_)))))
 ·obtain⟨bm,ob,b1,b2,b3,b4,b5,b6⟩:=B.bi
  exact Uh bm ob b1 b2 b3 b4 (up1 s3 t3.keep _ _ b5) b6
 refine Af T3.ex λps3 hP3 _=>?_
 have rs5:Ae s5.heap ws.toList ((Ew bl l.length r.length).map Da) as:=Bt (wr:=[PT]) (λb o hb e=>kp5 b o (λz=>hb (z▸.head _)) e) (λb hb=>by rw[jH.mp hb];exact AT _ ps3 hP3 rfl) rs
 have l7P:l7≠PT:=λz=>hPO2 (z▸hO7)
 have il:s5.heap.IsList l7 ws.toList.toArray:=⟨_,kp5 _ _ l7P hl7,rfl,c7,by rw[p0]⟩
 have hdep:A0 (A.deeper (callEnvC (Az 48 pm (.ref CT) doc .none .none) s.heap.objs.size F.a48)).in1.in1 1:=(rm.le (show 3<=69 by rwa[])).in1.in1
 have lim5:s5.heap.NoLimit:=F.T.gl.nolimit.keeps λb o e=>kp5 b o (hPs b o e) (up1 s3 t3.keep b o e)
 have hwl:ws.toList.length=(Ew bl l.length r.length).length:=by rw[Al rs,jI]
 refine QW (cs:=Ew bl l.length r.length) (ops:=ops) hf5 hc5 lim5 (by have:=hdep.depth;show(A.deeper (callEnvC (Az 48 pm (.ref CT) doc .none .none) s.heap.objs.size F.a48)).in1.in1.depth<_;rwa[this]) il rs5 (by have:=told.len;rwa[hbn,hwl,this]) told.perm.symm told.asc (λc hc=>told.small c (told.perm.mem_iff.mpr hc)) λD s6 c6 k56 fD hD=>?_
 refine Af (Kn Fm q0 Da rs5 told.perm.symm told.asc) λas' r' q'=>?_
 have sub2:∀b,O.has b->O2.has b:=λb ⟨p,hp,e⟩=>t2.sub b (Ac p (.tail _ hp) e)
 have D3:s3.heap.get? D=none:=by
  cases e:s3.heap.get? D with
  | none=>rfl
  | some o=>
   by_cases hDP:D=PT
   ·refine Af T5.ex λps5 hP5 _=>?_
    rw[<-hDP,fD] at hP5;exact B6 hP5
   ·exact B0 fD (kp5 D o hDP e)
 refine q (.ref D) s6 ((Bc k1).tr (fx.alike.tr ((Bc k3).tr (al5.tr (Bc k56))))) (λb o hb e=>Ax k56 b o (kp5 b o hb (t3.keep b o ((Bj hb).trans e)))) (T5.keeps (λo e=>Ax k56 _ _ e) (λb o e _=>Ax k56 _ _ e) λb o _ h hh=>h (.inl hh)) (Ac (D::as') (.list hD rfl rfl (by rw[sG];exact Ae.keeps (Ax k56) r')) λb hb=>?_)
 rcases jG.mp hb with rfl|hb
 ·exact λh=>live3 _ D3 (sub2 _ h)
 ·exact λh=>qs b (q' b hb) (sub2 _ h)
structure XF (h:jY) (Z:jL->Prop):Prop where
 tab:DX h Z Eo Oi
 live:∀b,Z b->∃o,h.get? b=some o
theorem XF.obj{h:jY}{Z:jL->Prop}(T:XF h Z):∃ps,h.get? PT=some (qh ps):=Af T.tab.ex λps e _=>(Ag ps e)
theorem DO{h:jY}{ps:Array jB}(e:h.get? PT=some (qh ps)):∀{v:jB} {d:jO} {as:List jL},Ak h v d as->PT∉as:=by
 intro v d as r
 refine Ak.rec (motive_1:=λv d as _=>PT∉as) (motive_2:=λvs ds as _=>PT∉as) ?_ ?_ ?_ ?_ ?_ ?_ ?_ ?_ ?_ r
 ·exact λh=>nomatch h
 ·exact λ_ h=>nomatch h
 ·exact λ_ _ h=>nomatch h
 ·exact λ_ _ h=>nomatch h
 ·intro a o' vs n xs as e1 e2 e3 _ ih hm
  rcases jG.mp hm with hm|hm
  ·rw[<-hm,e] at e1;(replace e1:=si e1;subst e1);cases e3
  ·exact ih hm
 ·intro a o' vs n xs as e1 e2 e3 _ ih hm;exact ih hm
 ·intro a o' vs n xs as e1 e2 e3 _ ih hm
  rcases jG.mp hm with hm|hm
  ·rw[<-hm,e] at e1;(replace e1:=si e1;subst e1);cases e3
  ·exact ih hm
 ·exact λh=>nomatch h
 ·intro v vs d ds as bs _ _ ih1 ih2 hm
  exact(jU.mp hm).elim ih1 ih2
theorem QT{h:jY}{ps:Array jB}{v:Option jB}(e:h.get? PT=some (qh ps))(ic:h.IsCell PT v):False:=by
 obtain⟨o,e',r⟩:=ic
 (replace e':=CQ e e';subst e')
 simp at r
noncomputable def Wv (O:Ap):Ap:=O.filter λp=>!decide (p.2=PT)
theorem GA{O:Ap}{b:jL}:(Wv O).has b↔O.has b/\b≠PT:=by
 unfold Wv Ap.has
 constructor
 ·intro zz1;refine Af zz1 λp hp e=>?_
  obtain⟨h1,h2⟩:=j9.mp hp
  exact⟨(Ac p h1 e),λz=>by subst e;simp[z] at h2⟩
 ·rintro⟨⟨p,hp,e⟩,hb⟩
  exact Ac p (j9.mpr ⟨hp,by subst e;simp[hb]⟩) e
theorem VL{O:Ap}{h:jY}:∀{as:List AV} {vs:List jB},DD O h as vs->(∀a∈as,∃d,a=.py d)->DD (Wv O) h as vs:=by
 intro as
 induction as with
 | nil=>intro vs r _;rw[r.ni];trivial
 | cons a as ih=>
  intro vs r hp
  refine BD r.ci λv ws e h1 h2=>?_
  rw[e]
  obtain⟨d,rfl⟩:=hp a (.head _)
  refine Af h1 λfp r q=>?_
  exact⟨(Ac fp r λb hb hh=>q b hb (GA.mp hh).1),ih h2 λa ha=>hp a (.tail _ ha)⟩
theorem Va{Γ:Cx}{σ:AX}{mg mb:jX->Option jB}{xI:jY}{f e1 e2 e3:kH}{pos:mf}(hw:Γ.prog=pw)(N:Nm Γ)(he0:jz ""∉Γ.ns)(F:Jq Γ.w mg mb xI)(B:Iy mg xI F.a48)(room:A0 Γ.A 70)(hk:HK xI Γ.s₀)(h0P:Γ.s₀.heap.get? PT=none)
 (l r:jX)(st:Nat)(hst:0<st)(hst':st<1000)(hl:l.length<=30)(hr:r.length<=30)(ops:List AM)(told:XE l.length r.length (Dm l.cps.toList r.cps.toList st (l.length+1) 0 l.length 0 r.length) ops)
 (hf:Ev Γ σ f (.raw (.ref F.a48)))(h1:Ev Γ σ e1 (.py (.str l)))(h2:Ev Γ σ e2 (.py (.str r)))(h3:Ev Γ σ e3 (.py (.int st)))(O:Ap)(hPT:(jz "",PT)∈O)(Z:jL->Prop)(hZ:∀b,O.has b->Z b)
 (p1:autoParam (AE e1=true) aR)(p2:autoParam (AE e2=true) aR)(p3:autoParam (AE e3=true) aR)
 (he:autoParam (eval (.Call f [e1,e2,e3] [] pos) Γ.env=(do kX pos (<-eval f Γ.env) [] (backTo pos (starEach [e1,e2,e3] Γ.env)) (l8 pos (lu [] Γ.env)))) aR) :
 bD Γ (·=PT) (λh=>XF h Z) O σ (.Call f [e1,e2,e3] [] pos) (.py (.list (ops.map Da))):=by
 intro s Q E t hX j q
 refine qQ (Ev.run hf t λv s1 t1 k1 r1=>?_) he
 obtain rfl:v=.ref F.a48:=r1
 refine Ec B.fn λo48 pm doc ho hd hcd=>?_
 refine callWith_function (o:=o48) (fd:=_) (AL (by simp[p1,p2,p3]) (Ab h1 (Ab h2 (Ab h3 Ah p3) p2) p1 O s1 _ _ E t1 λvs s2 t2 k2 r2=>⟨⟨t2.keep _ _ (hk _ _ ho),hd⟩,?_⟩))
 have k12:=Keeps.tr k1 k2
 have hsub:∀b,(Wv O).has b->O.has b:=λb h=>(GA.mp h).1
 have own':CJ (Wv O) s2:=⟨(pn _ pb).nodup t2.nodup,λp hp=>t2.live p (j9.mp hp).1⟩
 have T2:DX s2.heap Z Eo Oi:=j.tab.keeps (λo e=>Ax k12 _ _ e) (λb o e _=>Ax k12 _ _ e) λ_ _ _ h=>h
 have live2:∀b,Z b->∃o,s2.heap.get? b=some o:=λb h=>AR (j.live b h) λo e=>(Ag o (Ax k12 _ _ e))
 rw[hw]
 refine Vl (w:=Γ.w) F B room (λb o e=>t2.keep _ _ (hk _ _ e)) own' (λh=>(GA.mp h).2 rfl) Z (λb h=>hZ b (hsub b h)) live2 T2 l r st hst hst' hl hr (VL r2 (by intro a ha;simp at ha;rcases ha with rfl|rfl|rfl<;>exact Ag _ rfl)) ops told λv s3 al kp T3 rv=>?_
 refine Af T2.ex λps2 hP2 _=>?_
 refine Af T3.ex λps3 hP3 _=>?_
 have noTup:∀o,s2.heap.get? PT=some o->¬(o.cls=.type "tuple"/\∃vs n,o.data=.seq vs n):=by
  rintro o e ⟨_,vs,n,hd⟩
  (replace e:=CQ hP2 e;subst e);cases hd
 have t3:St Γ O σ s3:=by
  refine B1 al λh3 tk3 zz1=>?_;clear al;obtain rfl:=zz1
  refine Iu N t2 (a:=PT) (y:="") hPT he0 (λz=>?_) (λx hx=>?_) h0P noTup kp (Ag _ hP3)
  ·refine Af t2.ex λm zz1 _=>?_;obtain⟨o,es,ep,e,hd,_⟩:=zz1
   rw[<-z,hP2] at e;(replace e:=si e;subst e);cases hd
  ·obtain⟨v,ic⟩:=t2.cells x PT (DR N hx)
   exact QT hP2 ic
 refine Af rv λfp rd hfp=>?_
 refine q v s3 t3 ((Bc k12).tr al) (λb o hb e=>kp b o hb (Ax k12 _ _ e)) ⟨T3,λb h=>?_⟩ (Ac fp rd λb hb h=>hfp b hb (GA.mpr ⟨h,λz=>DO hP3 rd (z▸hb)⟩))
 by_cases hb:b=PT
 ·exact Ag _ (hb▸hP3)
 ·obtain⟨o,e⟩:=live2 b h;exact Ag o (kp b o hb e)
theorem bD.and{Γ:Cx}{X:jL->Prop}{J:jY->Prop}{O:Ap}{σ:AX}{e:kH}{av:AV}{c:Prop}(h:bD Γ X J O σ e av):bD Γ X (λh=>c/\J h) O σ e av:=
 λs Q E t hX j q=>h s Q E t hX j.2 λv s' t' a k j' r=>q v s' t' a k ⟨j.1,j'⟩ r
theorem W5{Γ:Cx}{σ:AX}{pos:mf}{elt tgt iter:kH}{scope:sX}{cl:List (jX×jL)}{ns:List jX}{σ0:AX}{ds rs:List jO}{O:Ap}{s:jE}{Q:jB->jE->Prop}{E:jB->jE->Prop}(N:Nm Γ)(X:BS Γ σ scope cl ns σ0)(hI:RO Γ σ tgt iter ds)(hlen:ds.length=rs.length)(hsz:rs.length<=100000)
 (body:∀C (O':Ap) (Z:jL->Prop),Γ.s₀.heap.get? C=none->Nm (Γ.comp scope cl ns C)->(jz "",PT)∈O'->(∀b,O'.has b->Z b)->∀(i:Nat) (d:jO),ds[i]?=some d->∃σ1 r,rs[i]?=some r/\Le σ0 σ1/\As (Γ.comp scope cl ns C) σ0 tgt d σ1/\bD (Γ.comp scope cl ns C) (·=PT) (λh=>XF h Z) O' σ1 elt (.py r))
 (t:St Γ O σ s)(hPT:(jz "",PT)∈O)(T:DX s.heap O.has Eo Oi)
 (q:∀v s',AI s s'->(∀b o,b≠PT->s.heap.get? b=some o->s'.heap.get? b=some o)->VR O s'.heap (.py (.list rs)) v->(∃ps,s'.heap.get? PT=some (qh ps))->Q v s')
 (hs:autoParam (∀x,foldedSetIterable iter Γ.env x=pure x) aI):wpAny (model Γ.prog Γ.w) Γ.A (eval (.ListComp elt [⟨tgt,iter,[],0⟩] scope pos) Γ.env) Q E s:=by
 refine Af T.ex λps hP _=>?_
 rw[eval_ListComp]
 refine rA (use:=none) rfl hs X.clos X.kind X.names (hI O s _ E t λI fp wr R Md Tt s2 vs es as k2 W hT t2 self hfp hwr hfd hrs has rd=>?_)
 have hPw:PT∉wr:=λh=>by exact B0 (hwr _ h) hP
 have hP2:=Ax k2 _ _ hP
 refine H7 (RR:=λacc C=>compPost (model Γ.prog Γ.w) Γ.A E none Q acc C) (·=PT) (λC D h=>(PT≠C/\PT≠D)/\XF h (λb=>O.has b\/b=C\/b=D\/(b∈wr/\∃o,s2.heap.get? b=some o))) N X hlen hsz (λC D hC N' i d hd=>?_) (λb hb=>Ac _ hPT hb.symm) (λb hb o e ht=>?_) (λC D h hC hD eC eD hk=>?_) (λC D h h' hk hdom hj=>?_) (λC D h hj b hb o e ht=>?_) k2 W hT t2 self hfp hwr t.keep hfd hrs has rd ?_
 ·obtain⟨σ1,r,e1,e2,e3,e4⟩:=body C ((jz "",C)::(jz "",D)::O) (λb=>O.has b\/b=C\/b=D\/(b∈wr/\∃o,s2.heap.get? b=some o)) hC N' (.tail _ (.tail _ hPT)) (λb ⟨p,hp,e⟩=>by
   rcases jG.mp hp with rfl|hp
   ·exact .inr (.inl e.symm)
   ·rcases jG.mp hp with rfl|hp
    ·exact .inr (.inr (.inl e.symm))
    ·exact .inl (Ac p hp e)) i d hd
  exact C6 σ1 r e1 e2 e3 e4.and
 ·subst hb
  refine Cg ht λ_ zr0=>B1 zr0 λvs n hd=>?_
  (replace e:=CQ hP2 e;subst e);cases hd
 ·have ne:∀b o,s.heap.get? b=some o->b≠C/\b≠D:=λb o e=>⟨λz=>(by rw[z] at e;exact B0 hC (Ax k2 _ _ e)),λz=>(by rw[z] at e;exact B0 hD (Ax k2 _ _ e))⟩
  refine⟨ne PT _ hP,T.keeps (λo e=>hk _ _ (Ax k2 _ _ e)) (λb o e _=>hk _ _ (Ax k2 _ _ e)) λb o e hz h=>?_,λb h=>?_⟩
  ·rcases h with h|h|h|⟨h,_⟩
   ·exact hz h
   ·exact(ne b o e).1 h
   ·exact(ne b o e).2 h
   ·exact B0 (hwr b h) e
  ·rcases h with⟨p,hp,e⟩|h|h|⟨_,o,e⟩
   ·obtain⟨o,e'⟩:=t2.live p hp;exact Ag o (hk _ _ (e▸e'))
   ·exact h▸eC
   ·exact h▸eD
   ·exact Ag o (hk _ _ e)
 ·refine Cg hj λzz1 j=>?_;obtain⟨c1,c2⟩:=zz1
  refine⟨⟨c1,c2⟩,j.tab.keeps (λo e=>hk _ _ e c1 c2 hPw) (λb o e hz=>?_) (λ_ _ _ h=>h),λb h=>?_⟩
  ·by_cases hb:b∈wr
   ·refine(hz (.inr (.inr (.inr ⟨hb,?_⟩)))).elim
    rcases hfp b (W.sub b hb) with⟨o,e,_⟩|⟨_,_,o,e⟩<;>exact Ag o e
   ·exact hk b o e (λz=>hz (.inr (.inl z))) (λz=>hz (.inr (.inr (.inl z)))) hb
  ·obtain⟨o,e⟩:=j.live b h;exact hdom b o e
 ·subst hb
  obtain⟨ps',hP'⟩:=hj.2.obj
  refine Cg ht λ_ zr0=>B1 zr0 λvs n hd=>?_
  (replace e:=CQ hP' e;subst e);cases hd
 ·rintro D C s' ys bs al hk hj0 hwl hD hC hDC ⟨m,hn⟩ hl hr hb
  refine Ac m hn λh' hs'=>?_
  have g:=AJ hs'
  have frO:∀b,s2.heap.get? b=none->¬O.has b:=λb e ⟨p,hp,e'⟩=>by
   obtain⟨o,e2⟩:=t2.live p hp
   rw[e',e] at e2;exact B6 e2
  refine q (.ref D) {s' with heap:=h'} ((Bc k2).tr (al.tr (AS _ _ rfl))) (λb o hbP e=>?_) (Ac (D::bs) ?_ λb hb'=>?_) ?_
  ·have e2:=Ax k2 b o e
   exact g b (λz=>by rw[z,hC] at e2;exact B6 e2) o (hk b o (λhb=>by exact B0 (hwr b hb) e) hbP e2)
  ·obtain⟨n,e⟩:=hl
   exact .list (g _ hDC _ e) rfl rfl (Aq g (A5 hn) hr λhm=>(hb C hm).2.1 rfl)
  ·rcases jG.mp hb' with rfl|hb'
   ·exact frO _ hD
   ·exact(hb b hb').1
  ·refine Af hj0 λh0 zz1 hk0=>?_;obtain⟨_,j⟩:=zz1
   obtain⟨ps',e'⟩:=j.obj
   exact Ag ps' (g PT (λz=>by rw[<-z,hP2] at hC;exact XK hC) _ (hk0 _ _ hPw e'))
noncomputable def WF (script L R:List Int):AX:=[some (.val (.py (Cr script))),some (.val (.py (Cr L))),some (.val (.py (Cr R))),some (.val (.py (.str TR))),some (.val (.py (.str X8))),some (.val (.py (.list [B7 (AA L),B7 (AA R)]))),some (.val (.py (.list [B7 (AA L),B7 (AA R)]))),some (.val (.py (.tuple [.int 4,.int 4,.int 10])))]
theorem YA{w:jW}{A:kA}{s:jE}{O:Ap}{a:jL}{mg mb:jX->Option jB}{xG:jY}{pm cd doc dv kdv:jB}(F:Jq w mg mb xG)(hk:HK xG s)(script:List Int)(hs:script.length<=63)(n:Nat)(hn:10<=n)
 (okL:Ca (Bs script).1)(okR:Ca (Bs script).2)(eL:ER (Bs script).1=AA (Bs script).1)(eR:ER (Bs script).2=AA (Bs script).2)
 (shS:pB (.list [B7 (AA (Bs script).1),B7 (AA (Bs script).2)])=true)(eqS:ug (.list [B7 (AA (Bs script).1),B7 (AA (Bs script).2)]) (.list [B7 (AA (Bs script).1),B7 (AA (Bs script).2)])=true)
 (N:Nm (Dx pw w A s (Az 50 pm cd doc dv kdv) a Q7 O))(room:A0 (A.deeper (callEnvC (Az 50 pm cd doc dv kdv) s.heap.objs.size a)) n) :
 Ex (Dx pw w A s (Az 50 pm cd doc dv kdv) a Q7 O) (Bi [.py (Cr script)] 7) ((Am (stm 50)).take 7) (λaf σ'=>af=.next/\σ'=WF script (Bs script).1 (Bs script).2):=by
 delta w A s O a mg mb xG pm cd doc dv kdv script n at F hk hs hn okL okR eL eR shS eqS N room
 have hh:=room.handled
 have T:=F.T
 generalize hL:(Bs script).1=L at *
 generalize hR:(Bs script).2=R at *
 have fr:∀j,s.heap.get? (s.heap.objs.size+1+j)=none:=λj=>Bk (by rwa[])
 have hrows:=Yc (w:=w) T F.f41 script hs
 rw[hL,hR] at hrows
 refine Ad (Gm (CI hrows (room.le (by rwa[hn])) hk F.f41 (BU T hk F.g41) (Ab (Aa 0) Ah)) (BV N hh [1,2] (ds:=[_,_]) ⟨rfl,rfl,rfl,rfl,trivial⟩) ?_)
 refine Ad (CP N 3 (c:=s.heap.objs.size+1) (BF) ?_ (by kernel_rfl) (fr 0))
 refine Ad (CP N 4 (c:=s.heap.objs.size+1+1) (BF) ?_ (by kernel_rfl) (fr 1))
 have two:∀(f:List Int->List jX) (i:Nat) (d:jO),([Cr L,Cr R]:List jO)[i]?=some d->∃row,Ca row/\d=Cr row/\([B7 (f L),B7 (f R)]:List jO)[i]?=some (B7 (f row)):=by
  exact λf=>iw (Ba L okL rfl rfl) (Ba R okR rfl rfl)
 refine Ad (CP N 5 (c:=s.heap.objs.size+1+1+1) (Be (ds:=[B7 (AA L),B7 (AA R)]) (C4 N (ds:=[Cr L,Cr R]) (cl:=[(jz "sixtyfour",s.heap.objs.size+1+1),(jz "sixteen",s.heap.objs.size+1)]) (ns:=["row","sixteen","sixtyfour"])
  (σ0:=[none,some (.val (.py (.str TR))),some (.val (.py (.str X8)))])
  (BS.of (by decide +kernel) rfl (iz (rh _)) (show([jz "sixtyfour",jz "sixteen"]:List jX).Nodup by decide +kernel) ?_ ?_)
  (Ft N hh (Au (ds:=[_,_]) (Ab (Aa 1) (Ab (Aa 2) Ah)))) rfl (jT rfl) ?_)) ?_ (by kernel_rfl) (fr 2))
 ·intro x c h
  rcases jG.mp h with e|h
  ·cases e;kernel_rfl
  ·obtain e:=jH.mp h
   cases e;kernel_rfl
 ·exact λC=>sn (fC (⟨3,_,s.heap.objs.size+1,rfl,rfl,rfl,by kernel_rfl,by kernel_rfl,by kernel_rfl,by kernel_rfl⟩) (⟨4,_,s.heap.objs.size+1+1,rfl,rfl,rfl,by kernel_rfl,by kernel_rfl,by kernel_rfl,by kernel_rfl⟩))
 ·intro C hC N' i d hd
  refine Bu (two AA i d hd) λrow ok zz1 hr=>?_;obtain rfl:=zz1
  refine C6 _ _ hr ?_ (BH N' 0) ?_
  ·exact λj b=>ej
  ·exact Dy (ds:=(AA row).map .str) (Ab (CI (Ur T F.f44 row ok.len 4 (by decide) (by decide) TR (by decide +kernel)) (room.le (by rwa[hn])) hk F.f44 (BU T hk F.g44) (Ab (Aa 0) (Ab Ai (Ab (Aa 1) Ah))))
    (Ab (CI (Ur T F.f44 row ok.len 6 (by decide) (by decide) X8 (by decide +kernel)) (room.le (by rwa[hn])) hk F.f44 (BU T hk F.g44) (Ab (Aa 0) (Ab Ai (Ab (Aa 2) Ah))))
    (Ab (CI (Rd T F.f45 row (by have:=ok.len;rwa[this]) ok.el) (room.le (by rwa[hn])) hk F.f45 (BU T hk F.g45) (Ab (Aa 0) Ah)) Ah)))
 have osz:∀row:List Int,Ca row->(byteArr (AD row)).size<=6:=λrow ok=>by rw[DV,CL];have:=ok.len;rwa[this]
 refine Ad (CP N 6 (c:=s.heap.objs.size+1+1+1+1) (Be (ds:=[B7 (ER L),B7 (ER R)]) (C4 N (ds:=[Cr L,Cr R]) (ns:=["row"]) (BS.none (by decide +kernel) rfl)
  (Ft N hh (Au (ds:=[_,_]) (Ab (Aa 1) (Ab (Aa 2) Ah)))) rfl (jT rfl) ?_)) ?_ (by kernel_rfl) (fr 3))
 ·intro C hC N' i d hd
  refine Bu (two ER i d hd) λrow ok zz1 hr=>?_;obtain rfl:=zz1
  have ho:=osz row ok
  have he16:(H4 (byteArr (AD row))).size<=1000:=by
   unfold H4
   rw[kI,jI,kh,qF,kI,Ck,kh]
   rwa[ho]
  have he64:(byteArr (EG (B9 (byteArr (AD row))))).size<=1000:=by
   have h1:=(G8 (B9 (byteArr (AD row)))).len
   have h2:(B9 (byteArr (AD row))).length=(byteArr (AD row)).size:=by simp[B9]
   rw[DV]
   unfold EG
   rw[jZ]
   have h3:∀st,(BR st).length<=3:=λst=>by
    unfold BR
    split
    ·exact jN _
    ·split
     ·show 2<=3;decide
     ·show 0<=3;decide
   have:=h3 (DG (B9 (byteArr (AD row))))
   rwa[ho,h1,h2,this]
  refine C6 _ _ hr Le.none (BH N' 0) ?_
  have f16:=bu (w:=w) T F.f16 F.f12 F.g12 F.e12 F.f7 F.g7 F.gN (byteArr (AD row)) (by rwa[ho])
  have f64:=bq (w:=w) T F.f15 F.e15 F.f10 F.g10 F.f7 F.g7 F.f8 F.g8 F.g64 (byteArr (AD row)) (by rwa[ho])
  have f42:=US (w:=w) T F.f42 row (by have:=ok.len;rwa[this]) ok.el
  refine Dy (ds:=(ER row).map .str) (Ab (CI (TJ T F.f43 _ he16) (room.le (by rwa[hn])) hk F.f43 (BU T hk F.g43) (Ab (CI f16 (room.le (by rwa[hn])) hk F.f16 (BU T hk F.g16) (Ab (CI f42 (room.le (by rwa[hn])) hk F.f42 (BU T hk F.g42) (Ab (Aa 0) Ah)) Ah)) Ah))
   (Ab (CI (TJ T F.f43 _ he64) (room.le (by rwa[hn])) hk F.f43 (BU T hk F.g43) (Ab (CI f64 (room.le (by rwa[hn])) hk F.f15 (BU T hk F.g15) (Ab (CI f42 (room.le (by rwa[hn])) hk F.f42 (BU T hk F.g42) (Ab (Aa 0) Ah)) Ah)) Ah))
   (Ab (GO (ys:=row.map λm=>mE "" (Aw m 10)) (Be (C4 N' (ds:=row.map .int) (ns:=["mode"]) (BS.none (by decide +kernel) rfl) (C3 N' hh (Aa 0)) ?_ ?_ ?_)) (by decide) ?_) Ah)))
  ·simp
  ·simp only[jI];have:=ok.len;rwa[this]
  ·intro C2 hC2 N2 j d2 hd2
   refine Af (Fr hd2) λm hm zz1=>?_;obtain rfl:=zz1
   refine C6 _ (.str (mE "" (Aw m 10))) (by simp[hm]) Le.none (BH N2 0) ?_
   exact CI (Pm T F.f39 F.f18 F.g18 F.gtb F.rtb m) (room.le (by rwa[hn])) hk F.f39 (BU T hk F.g39) (Ab (Aa 0) Ah)
  ·rw[ms,show(row.map ((·.length)∘λm=>mE "" (Aw m 10)))=row.map λ_=>10 from lS λm _=>On m,jI,
    show(row.map λ_=>10)=kW row.length 10 from rL ..,m9]
   have:=ok.len;rwa[this]
 rw[eL,eR]
 have hu:(Dx pw w A s (Az 50 pm cd doc dv kdv) a Q7 O).A.units+64<cLine:=by
  have:=room.units
  show(A.deeper (callEnvC (Az 50 pm cd doc dv kdv) s.heap.objs.size a)).units+64<cLine
  rwa[hn,this]
 refine Ad (BI (b:=false) (Tv.cast (ef (a:=.list [B7 (AA L),B7 (AA R)]) (b:=.list [B7 (AA L),B7 (AA R)]) (Aa 6) (Aa 5) shS shS hu) (by rw[eqS];rfl)) (λh=>by exact lK h) (λ_=>Aj ?_))
 refine Ad (CP N 7 (c:=s.heap.objs.size+1+1+1+1+1) (Au (ds:=[.int 4,.int 4,.int 10]) (Ab Ai (Ab Ai (Ab Ai Ah)))) ?_ (by kernel_rfl) (fr 4))
 exact Aj ⟨rfl,rfl⟩
theorem IJ{h:jY}{ps:Array jB}(e:h.get? PT=some (qh ps)){v:List jB}{d:List jO}{as:List jL}(r:Ae h v d as):PT∉as:=
 Ae.ind (P:=λ_ _ as=>PT∉as) (λh=>nomatch h) (λr _ ih h=>(jU.mp h).elim (DO e r) ih) r
theorem ZY{Γ:Cx}{O:Ap}{σ:AX}{s:jE}{ps:Array jB}(t:St Γ O σ s)(hP:s.heap.get? PT=some (qh ps))(hO:¬O.has PT):St {Γ with s₀:=A6 Γ.s₀ PT} (("",PT)::O) σ s:=by
 delta Γ O σ s ps at t hP hO
 obtain⟨kp,⟨m,n,vs⟩,cl,nd,lv,sb,fr,fs⟩:=t
 have hh:∀a,Γ.s₀.heap.get? a=none->(A6 Γ.s₀ PT).heap.get? a=none:=λa e=>by
  cases e':(A6 Γ.s₀ PT).heap.get? a with
  | none=>rfl
  | some o=>exact B0 e ((Er e').1)
 have av:∀{b:jL},b≠PT->¬O.has b->¬Ap.has (("",PT)::O) b:=λh1 h2 ⟨p,hp,e⟩=>by
  rcases jG.mp hp with rfl|hp
  ·exact h1 e.symm
  ·exact h2 (Ac p hp e)
 have noT:∀{b:jL},(∃o,s.heap.get? b=some o/\FV o)->b≠PT:=λ⟨o,e,z⟩ hb=>by
  rw[hb,hP] at e;(replace e:=si e;subst e);exact z.2 _ rfl
 refine⟨λb o e=>kp b o (Er e).1,(Ac m n λi y b e e'=>?_),cl,?_,λp hp=>?_,λb hb=>Af (sb b hb) λp hp e=>(Ac p (.tail _ hp) e),fr,hh _ fs⟩
 ·refine Af (vs i y b e e') λv hd r=>?_
  refine Ac v hd ?_
  cases b with
  | val w=>
   cases w with
   | py d=>refine Af r λbs r q=>?_;exact Ac bs r λb hb=>av (λz=>DO hP r (z▸hb)) (q b hb)
   | «by» b=>exact r
   | raw u=>exact r
   | obj P=>refine C9 r λa1 o e1 g p q z=>?_;exact C5 a1 o e1 g p (av (noT (Ac o g z)) q) z
   | st R ok=>refine Af r λbs r q=>?_;exact Ac bs r λb hb=>av (noT (ok.solid r b hb)) (q b hb)
  | own ds=>
   refine CR r λa us as e1 m1 l1 r1 q1 f1=>?_
   exact CA a us as e1 (.tail _ m1) l1 r1 (λb hb=>av (λz=>IJ hP r1 (z▸hb)) (q1 b hb)) (hh _ f1)
  | «at» a P=>
   refine Ue r λe1 m1 h1 f1 z1=>?_
   exact⟨e1,.tail _ m1,h1,hh _ f1,z1⟩
 ·rw[kM,md]
  exact⟨λhm=>Af (kn.mp hm) λp hp e=>hO (Ac p hp e),nd⟩
 ·rcases jG.mp hp with rfl|hp
  ·exact Ag _ hP
  ·exact lv p hp
theorem ad{w:jW}{A:kA}{s:jE}{fd:nU}{a:jL}{ns:List jX}{O:Ap}{ps:Array jB}(N:Nm (Dx pw w A s fd a ns O))(hP:s.heap.get? PT=some (qh ps))(hO:¬O.has PT):Nm (CF pw w A (A6 s PT) s fd a ns O):=by
 obtain⟨h1,h2,h3,h4,h5⟩:=N
 refine⟨h1,h2,h3,h4,λb hb=>?_⟩
 rcases h5 b hb with h|⟨o,e⟩
 ·exact .inl h
 ·refine .inr (Ag o ((Bj λz=>?_).trans e))
  refine Af hb λp hp e'=>?_
  rcases jG.mp hp with rfl|hp
  ·have e':s.heap.objs.size=b:=e'
   have:=kq e
   rw[<-e'] at this
   exact absurd this (lp _)
  ·exact hO (Ac p hp (e'.trans z))
theorem YB{w:jW}{A:kA}{s s1:jE}{O O1:Ap}{a:jL}{mg mb:jX->Option jB}{xG xI:jY}{pm cd doc dv kdv:jB}{Q:uR->jE->Prop}{E:jB->jE->Prop}(F:Jq w mg mb xG)(hk:HK xG s)(xT:Jq w mg mb xI)(xL:HK xI (A6 s PT))(B:Iy mg xI xT.a48)(script L R:List Int)(ops:Nat->List AM)
 (lens:∀l,l∈AA L\/l∈AA R->l.length<=30)
 (told:∀(k:Nat) (l r:jX) (st:Nat),(AA L)[k]?=some l->(AA R)[k]?=some r->([4,4,10]:List Int)[k]?=some (st:Int)->XE l.length r.length (Dm l.cps.toList r.cps.toList st (l.length+1) 0 l.length 0 r.length) (ops k))
 (hseen:∀(k:Nat) (l r:jX) (st:Int),(AA L)[k]?=some l->(AA R)[k]?=some r->([4,4,10]:List Int)[k]?=some st->Fn pw w xG 11 (.ref F.a49) [] [.py (.str l),.py (.str r),.py (.int st)] [] (.py (.list ((ops k).map Da))))
 (shD:pB (.list [.list ((ops 0).map Da),.list ((ops 1).map Da),.list ((ops 2).map Da)])=true)(eqD:ug (.list [.list ((ops 0).map Da),.list ((ops 1).map Da),.list ((ops 2).map Da)]) (.list [.list ((ops 0).map Da),.list ((ops 1).map Da),.list ((ops 2).map Da)])=true)
 (N:Nm (Dx pw w A s (Az 50 pm cd doc dv kdv) a Q7 O))(room:A0 (A.deeper (callEnvC (Az 50 pm cd doc dv kdv) s.heap.objs.size a)) 70)(hO:¬O.has PT)(hPs:∃ps,s.heap.get? PT=some (qh ps))
 (t:St (Dx pw w A s (Az 50 pm cd doc dv kdv) a Q7 O) O1 (WF script L R) s1)(T:DX s1.heap (Ap.has (("",PT)::O1)) Eo Oi)(hO1:¬O1.has PT)
 (q:∀s',AI s1 s'->(∀b o,b≠PT->s1.heap.get? b=some o->s'.heap.get? b=some o)->(∃ps,s'.heap.get? PT=some (qh ps))->Q (.ret (.bool true)) s') :
 wpAny (model pw w) (A.deeper (callEnvC (Az 50 pm cd doc dv kdv) s.heap.objs.size a)) (execs ((Am (stm 50)).drop 7) (callEnvC (Az 50 pm cd doc dv kdv) s.heap.objs.size a)) Q E s1:=by
 delta w A s s1 O O1 a mg mb xG xI pm cd doc dv kdv Q E script L R ops at F hk xT xL B lens told hseen shD eqD N room hO hPs t T hO1 q
 obtain⟨ps0,hP0⟩:=hPs
 have hh:=room.handled
 have N1:=ad N hP0 hO
 have hu:(A.deeper (callEnvC (Az 50 pm cd doc dv kdv) s.heap.objs.size a)).units+64<cLine:=by
  have:=room.units
  rwa[this]
 have r3:AN 0 3 1=[.int 0,.int 1,.int 2]:=by kernel_rfl
 have pick3:∀(i:Nat) (d:jO),(AN 0 3 1)[i]?=some d->∃l r st,d=.int (i:Nat)/\i<3/\(AA L)[i]?=some l/\(AA R)[i]?=some r/\([4,4,10]:List Int)[i]?=some st/\([.list ((ops 0).map Da),.list ((ops 1).map Da),.list ((ops 2).map Da)]:List jO)[i]?=some (.list ((ops i).map Da)):=by
  rw[r3]
  exact iZ (CA _ _ _ rfl (by decide) rfl rfl rfl rfl) (CA _ _ _ rfl (by decide) rfl rfl rfl rfl) (CA _ _ _ rfl (by decide) rfl rfl rfl rfl)
 refine kg (pT (wpAny_Compare1 (Ev.run (Be (C4 N (ds:=AN 0 3 1) (rs:=[.list ((ops 0).map Da),.list ((ops 1).map Da),.list ((ops 2).map Da)]) (cl:=[(jz "told",s.heap.objs.size+1+1+1+1),(jz "steps",s.heap.objs.size+1+1+1+1+1)]) (ns:=["k","steps","told"])
  (σ0:=[none,some (.val (.py (.tuple [.int 4,.int 4,.int 10]))),some (.val (.py (.list [B7 (AA L),B7 (AA R)])))])
  (BS.of (by decide +kernel) rfl (iz (lw (mi _))) (show([jz "told",jz "steps"]:List jX).Nodup by decide +kernel) ?_ ?_)
  (Ga N hh (A1 F.T hk) Ai (by decide +kernel)) (by rw[r3];rfl) (jT rfl) ?_)) t λx s2 t2 k2 r2=>?_) (by rfl)))
 ·intro x c h
  rcases jG.mp h with e|h
  ·cases e;kernel_rfl
  ·obtain e:=jH.mp h
   cases e;kernel_rfl
 ·exact λC=>sn (fC (⟨7,_,s.heap.objs.size+1+1+1+1+1,rfl,rfl,rfl,by kernel_rfl,by kernel_rfl,by kernel_rfl,by kernel_rfl⟩) (⟨6,_,s.heap.objs.size+1+1+1+1,rfl,rfl,rfl,by kernel_rfl,by kernel_rfl,by kernel_rfl,by kernel_rfl⟩))
 ·intro C hC N' i d hd
  refine CR (pick3 i d hd) λl r st zz1 hi e1 e2 e3 e4=>?_;obtain rfl:=zz1
  refine C6 _ _ e4 ?_ (BH N' 0) ?_
  ·exact λj b=>ej
  ·refine CI (hseen i l r st e1 e2 e3) (room.le (by rwa[])) hk F.f49 (BU F.T hk F.g49) (Ab (Ay (d:=.str l) (Ay (d:=B7 (AA L)) (Aa 2) Ai (by decide) (by decide) rfl) (Aa 0) (by rwa[]) (by rwa[hi]) ?_)
    (Ab (Ay (d:=.str r) (Ay (d:=B7 (AA R)) (Aa 2) Ai (by decide) (by decide) rfl) (Aa 0) (by rwa[]) (by rwa[hi]) ?_)
    (Ab (A7 (ds:=[.int 4,.int 4,.int 10]) (d:=.int st) (Aa 1) (Aa 0) (by rwa[]) (by rwa[hi]) ?_) Ah)))
   ·rw[kr,j8,e1];rfl
   ·rw[kr,j8,e2];rfl
   ·rw[kr,show([.int 4,.int 4,.int 10]:List jO)=([4,4,10]:List Int).map .int from rfl,j8,e3];rfl
 refine Af T.ex λps1 hP1 _=>?_
 have hP2:=Ax k2 _ _ hP1
 have t3:=ZY t2 hP2 hO1
 have T2:DX s2.heap (Ap.has (("",PT)::O1)) Eo Oi:=T.keeps (λo e=>Ax k2 _ _ e) (λb o e _=>Ax k2 _ _ e) λ_ _ _ h=>h
 refine W5 (Γ:=CF pw w A (A6 s PT) s (Az 50 pm cd doc dv kdv) a Q7 O) N1 (ds:=AN 0 3 1) (rs:=[.list ((ops 0).map Da),.list ((ops 1).map Da),.list ((ops 2).map Da)]) (cl:=[(jz "steps",s.heap.objs.size+1+1+1+1+1),(jz "due",s.heap.objs.size+1+1+1)]) (ns:=["k","due","steps"])
  (σ0:=[none,some (.val (.py (.list [B7 (AA L),B7 (AA R)]))),some (.val (.py (.tuple [.int 4,.int 4,.int 10])))])
  (BS.of (by decide +kernel) rfl (iz (show(s.heap.objs.size+1+1+1+1+1:Nat)≠s.heap.objs.size+1+1+1 by rwa[])) (show([jz "steps",jz "due"]:List jX).Nodup by decide +kernel) ?_ ?_)
  (Ga N1 hh (A1 xT.T xL) Ai (by decide +kernel)) (by rw[r3];rfl) (jT rfl) ?_ t3 (.head _) T2 λy s4 al4 kp4 r4 hP4=>?_
 ·intro x c h
  rcases jG.mp h with e|h
  ·cases e;kernel_rfl
  ·obtain e:=jH.mp h
   cases e;kernel_rfl
 ·exact λC=>sn (fC (⟨5,_,s.heap.objs.size+1+1+1,rfl,rfl,rfl,by kernel_rfl,by kernel_rfl,by kernel_rfl,by kernel_rfl⟩) (⟨7,_,s.heap.objs.size+1+1+1+1+1,rfl,rfl,rfl,by kernel_rfl,by kernel_rfl,by kernel_rfl,by kernel_rfl⟩))
 ·intro C O' Z hC N' hPT' hZ i d hd
  refine CR (pick3 i d hd) λl r st zz1 hi e1 e2 e3 e4=>?_;obtain rfl:=zz1
  refine C6 _ _ e4 ?_ (BH N' 0) ?_
  ·exact λj b=>ej
  ·obtain⟨stn,hst,hst0,hst1⟩:∃n:Nat,st=(n:Int)/\0<n/\n<1000:=by
    exact iZ (P:=λ_ st=>∃n:Nat,st=(n:Int)/\0<n/\n<1000) ⟨4,rfl,by decide,by decide⟩ ⟨4,rfl,by decide,by decide⟩ ⟨10,rfl,by decide,by decide⟩ i st e3
   subst hst
   refine Va rfl N' (show jz ""∉([jz "k",jz "due",jz "steps"]:List jX) by decide +kernel) xT B room xL A3 l r stn hst0 hst1 (lens l (.inl (kt e1))) (lens r (.inr (kt e2))) (ops i) (told i l r stn e1 e2 e3) (BU xT.T xL xT.g48) (Ay (d:=.str l) (Ay (d:=B7 (AA L)) (Aa 1) Ai (by decide) (by decide) rfl) (Aa 0) (by rwa[]) (by rwa[hi]) ?_)
    (Ay (d:=.str r) (Ay (d:=B7 (AA R)) (Aa 1) Ai (by decide) (by decide) rfl) (Aa 0) (by rwa[]) (by rwa[hi]) ?_)
    (A7 (ds:=[.int 4,.int 4,.int 10]) (d:=.int stn) (Aa 2) (Aa 0) (by rwa[]) (by rwa[hi]) ?_) O' hPT' Z hZ
   ·rw[kr,j8,e1];rfl
   ·rw[kr,j8,e2];rfl
   ·rw[kr,show([.int 4,.int 4,.int 10]:List jO)=([4,4,10]:List Int).map .int from rfl,j8,e3];rfl
 ·refine Af r2 λfx rx qx=>?_
  refine Af r4 λfy ry qy=>?_
  have rx4:Ak s4.heap x _ fx:=Bo (L:=PT) (λb hb o e=>kp4 b o hb e) (by
   rintro o e ⟨_,vs,n,hd⟩
   (replace e:=CQ hP2 e;subst e);cases hd) rx (DO hP2 rx)
  refine SeqAt.compareEq_shaped (rx4.lib (pC shD)) (ry.lib (pC shD)) shD shD hu ?_
  rw[eqD]
  exact q s4 ((Bc k2).tr al4) (λb o hb e=>kp4 b o hb (Ax k2 b o e)) hP4
noncomputable abbrev PQ (s:jE):Prop:=s.heap.get? PT=some (qh #[])
theorem Iw{s:jE}(hP:PQ s){a:jL}{o:nH}(e:s.heap.get? a=some o)(h:∀fs,o.data=.fields fs->fs≠#[]):(A6 s PT).heap.get? a=some o:=
 (Bj λz=>by rw[z,hP] at e;(replace e:=si e;subst e);exact h _ rfl rfl).trans e
theorem N8{s:jE}(hP:PQ s){a:jL}{m:jX->Option jB}(n:s.heap.Ns a m):(A6 s PT).heap.Ns a m:=by
 refine Ec n λo es ep e hd r=>?_
 exact Pw o es ep (Iw hP e (λfs h=>by rw[hd] at h;exact jS h)) hd r
theorem KE{s:jE}(hP:PQ s){c:jB}{q:jX}(x:s.heap.CodeRec c q):(A6 s PT).heap.CodeRec c q:=by
 refine Cz x λa o vs t h1 h2 h3 h4=>?_
 refine GR a o vs t h1 (Iw hP h2 (λfs h z=>?_)) h3 h4
 rw[h3] at h
 cases h
 rw[z] at h4
 exact B6 h4
theorem Av.hide{s:jE}(hP:PQ s){i:Nat}{a:jL}{dv kdv:jB}(F:Av s.heap i a dv kdv):Av (A6 s PT).heap i a dv kdv:=by
 refine E7 F.ex λo pm cd doc h1 h2 h3=>?_
 exact⟨o,pm,cd,doc,Iw hP h1 (λfs h=>by rw[h2] at h;exact jS h),h2,KE hP h3⟩
theorem Fh.hide{s:jE}(hP:PQ s){dv:jB}{items:Array jB}(F:Fh s.heap dv items):Fh (A6 s PT).heap dv items:=by
 refine Ec F λa o n e h1 h2=>?_
 exact Pw a o n e (Iw hP h1 (λfs h=>by rw[h2] at h;exact jS h)) h2
theorem Br.hide{s:jE}(hP:PQ s){mg mb:jX->Option jB}(T:Br mg mb s.heap):Br mg mb (A6 s PT).heap:=
 ⟨⟨N8 hP T.gl.g,N8 hP T.gl.b,T.gl.bt,Af T.gl.nolimit λmc n e=>(Ac mc (N8 hP n) e)⟩,T.none⟩
noncomputable def Jq.hide {w:jW} {mg mb:jX->Option jB} {s:jE} (hP:PQ s) (F:Jq w mg mb s.heap):Jq w mg mb (A6 s PT).heap:=
 {F with
  T:=F.T.hide hP
  f41:=F.f41.hide hP
  f42:=F.f42.hide hP
  f43:=F.f43.hide hP
  f44:=F.f44.hide hP
  f45:=F.f45.hide hP
  f46:=F.f46.hide hP
  f47:=F.f47.hide hP
  f48:=F.f48.hide hP
  f49:=F.f49.hide hP
  f18:=F.f18.hide hP
  f39:=F.f39.hide hP
  rtb:=Bo (L:=PT) (λb hb o e=>(Bj hb).trans e) (by intro o e zz1;refine Cg zz1 λ_ zr0=>B1 zr0 λvs n hd=>?_;(replace e:=CQ hP e;subst e);cases hd) F.rtb (λh=>nomatch h)
  f7:=F.f7.hide hP
  f8:=F.f8.hide hP
  f10:=F.f10.hide hP
  f12:=F.f12.hide hP
  e12:=F.e12.hide hP
  f15:=F.f15.hide hP
  e15:=F.e15.hide hP
  f16:=F.f16.hide hP}
theorem ZX{w:jW}{s:jE}(K:Bn w s.heap):PQ s:=K.get 386 (by kernel_rfl)
theorem YE{w:jW}{s:jE}{mg mb:jX->Option jB}(K:Bn w s.heap)(G:Gl mg mb s.heap):Iy mg (A6 s PT).heap 389 where
 fn:=⟨Ie w.params,(kT (jz "law_rt0115_01") 737),jD,(Bj (by decide)).trans (K.get 389 (by kernel_rfl)),by kernel_rfl,KE (ZX K) ⟨388,Du w.params,_,824,rfl,K.get 388 (by kernel_rfl),by unfold Du;rfl,by kernel_rfl⟩⟩
 hd:=⟨Du w.params,_,"/claim/cut.py",827,3,0,true,181,0,(Bj (by decide)).trans (K.get 388 (by kernel_rfl)),by kernel_rfl,by unfold Du;rfl,by kernel_rfl,by kernel_rfl,by kernel_rfl,by kernel_rfl,by kernel_rfl,by kernel_rfl,by decide⟩
 bi:=⟨4,{cls:=.type "module",dict:=some 0},K.mg G.g _ (by kernel_rfl),by decide,by decide,by decide,(Bj (by decide)).trans (K.get 4 (by kernel_rfl)),by kernel_rfl,by kernel_rfl,by kernel_rfl⟩
 noP:=A3
theorem TM{x y:jX}(h:x.cps.toList=y.cps.toList):x=y:=by
 obtain⟨a⟩:=x;obtain⟨b⟩:=y
 exact congrArg Str.mk (nb.mp h)
theorem PD(l:List Nat):(DA (l.map λc=>⟨#[c]⟩)).cps.toList=l:=by
 unfold DA
 show((l.map λc=>(⟨#[c]⟩:jX)).flatMap (·.cps.toList)).toArray.toList=l
 induction l with
 | nil=>rfl
 | cons c l ih=>simp only[kM,lq];simpa using ih
theorem Ei(b:Array UInt8):(Gs b).cps.toList=b.toList.map (·.toNat):=by
 unfold Gs
 rw[D8]
 have:=PD (b.toList.map (·.toNat))
 rw[ms] at this
 exact this
theorem Vj{row:List Int}{N w size k:Nat}(hN:FH row=N)(hw:B3 row size=w):Fv row size (k:Nat)=((N*2^w/2^(size*k)%2^size:Nat):Int):=by
 unfold Fv
 rw[hN,hw]
 have e1:((N:Int)*2^((w:Int)).toNat)=((N*2^w:Nat):Int):=by push_cast;simp
 have e2:((2:Int)^((size:Int)*(k:Int)).toNat)=((2^(size*k):Nat):Int):=by
  rw[show((size:Int)*(k:Int)).toNat=size*k by rw[<-xD,kr]]
  push_cast;rfl
 have e3:((2:Int)^((size:Int)).toNat)=((2^size:Nat):Int):=by rw[kr];push_cast;rfl
 rw[e1,e2,e3,kC _ (oC _),kQ _ (oC _)]
 push_cast;rfl
theorem KJ{row:List Int}{N w size c p:Nat}(signs:jX)(hN:FH row=N)(hw:B3 row size=w)(hc:AC row size=c)(hp:(-(c:Int)).fmod 4=p):(Ff row size signs).cps.toList=(kd c).map (λi=>signs.cps.getD (N*2^w/2^(size*(c-1-i))%2^size) 0)++kW p 61:=by
 have e1:Cv row size signs=((kd c).map λi=>signs.cps.getD (N*2^w/2^(size*(c-1-i))%2^size) 0).map λx=>⟨#[x]⟩:=by
  unfold Cv
  rw[hc,kr,ms]
  refine lS λi hi=>?_
  have hi:=mr.mp hi
  have:((c:Int)-1-(i:Nat))=((c-1-i:Nat):Int):=by rwa[hi]
  rw[this,Vj hN hw,kr]
  rfl
 have e2:∀n:Nat,(kW n (jz "=").cps).foldl (·++·) #[]=(kW n 61).toArray:=by
  have:∀(n:Nat) (a:Array Nat),(kW n (jz "=").cps).foldl (·++·) a=a++(kW n 61).toArray:=by
   intro n
   induction n with
   | zero=>intro a;simp
   | succ n ih=>
    intro a
    rw[v9,mW,ih]
    rw[v9]
    apply nb.mp
    have:(jz "=").cps=#[61]:=by decide
    rw[this]
    simp
  intro n
  rw[this];simp
 unfold Ff
 rw[D8,e1,hc,hp,kr,e2]
 show((DA _).cps++(kW p 61).toArray).toList=_
 rw[o9,PD]
theorem I4{α β:Type}{f g:α->List β}:∀{l:List α},(∀x∈l,f x=g x)->l.flatMap f=l.flatMap g
 | [],_=>rfl
 | x::l,h=>by rw[lq,lq,h x (.head _),I4 λy hy=>h y (.tail _ hy)]
noncomputable def F3 (xs:List Nat):List Int:=xs.map λx:Nat=>(x:Int)
theorem TU{row:List Int}(ok:Ca row):∃xs:List Nat,row=F3 xs/\xs.length<=3/\∀x∈xs,x<65536:=by
 refine Ba (row.map (·.toNat)) ?_ (by rw[jI];exact ok.len) λx hx=>?_
 ·unfold F3
  rw[ms]
  conv=>lhs;rw[<-List.map_id row]
  refine lS λm hm=>?_
  have:=ok.el m hm
  show m=((m.toNat:Nat):Int);rwa[this]
 ·obtain⟨m,hm,rfl⟩:=kn.mp hx
  have:=ok.el m hm
  rwa[this]
noncomputable def BY (xs:List Nat):List Nat:=xs.flatMap λx=>[x/256,x%256]
theorem TZ(xs:List Nat):AD (F3 xs)=(BY xs).map λx:Nat=>(x:Int):=by
 induction xs with
 | nil=>rfl
 | cons x xs ih=>
  show AD ((x:Int)::F3 xs)=(([x/256,x%256]:List Nat)++BY xs).map _
  unfold AD at ih ⊢
  rw[lq,ih,kz]
  rw[kC _ (by decide),kQ _ (by decide)]
  rfl
theorem IR{xs:List Nat}(h:∀x∈xs,x<65536):∀o∈BY xs,o<256:=by
 intro o ho
 refine Af (lr.mp ho) λx hx ho=>?_
 have:=h x hx
 simp at ho
 rwa[this,ho]
theorem Ht{ns:List Nat}(h:∀o∈ns,o<256):(byteArr (ns.map λx:Nat=>(x:Int))).toList.map (·.toNat)=ns:=by
 unfold byteArr
 simp only[ms]
 conv=>rhs;rw[<-List.map_id ns]
 refine lS λo ho=>?_
 have:=h o ho
 show((o:Int).toNat.toUInt8).toNat=o
 rw[kr]
 simp[Nat.toUInt8,UInt8.toNat,UInt8.ofNat,pZ this]
theorem eF:∀d:Fin 16,(qO (mv d.val).toUInt8).toNat=TR.cps.getD d.val 0:=by decide +kernel
theorem Rq{ns:List Nat}(h:∀o∈ns,o<256):(H4 (byteArr (ns.map λx:Nat=>(x:Int)))).toList.map (·.toNat)=ns.flatMap λo=>[TR.cps.getD (o/16) 0,TR.cps.getD (o%16) 0]:=by
 unfold H4
 simp only[pP,ms]
 have hb:=Ht h
 generalize (byteArr (ns.map λx:Nat=>(x:Int))).toList=b at *
 subst hb
 unfold Cs
 rw[List.flatMap_map,wR]
 refine I4 λc hc=>?_
 have hc2:=h c.toNat (kn.mpr (Ac c hc rfl))
 have h1:=eF ⟨c.toNat/16,by rwa[hc2]⟩
 have h2:=eF ⟨c.toNat%16,by omega⟩
 simp only[kM,qr,Function.comp]
 rw[<-h1,<-h2]
noncomputable def Yo (xs:List Nat):Nat:=xs.foldl (λn m=>n*65536+m) 0
theorem T0(xs:List Nat):FH (F3 xs)=(Yo xs:Nat):=by
 have:∀(xs:List Nat) (n:Nat),(F3 xs).foldl (λ(n:Int) m=>n*65536+m) (n:Int)=((xs.foldl (λn m=>n*65536+m) n:Nat):Int):=by
  intro xs
  induction xs with
  | nil=>intro n;rfl
  | cons x xs ih=>
   intro n
   have e:(n:Int)*65536+(x:Int)=((n*65536+x:Nat):Int):=by rwa[]
   show(F3 xs).foldl _ ((n:Int)*65536+(x:Int))=_
   rw[e];exact ih _
 exact this xs 0
theorem OV(xs:List Nat):(F3 xs).length=xs.length:=jI _
theorem Pi(b:Nat)(hb:0<b):∀(ys:List Nat) (n:Nat),(∀y∈ys,y<b)->∃r,r<b^ys.length/\ys.foldl (λn d=>n*b+d) n=r+n*b^ys.length
 | [],n,_=>⟨0,v5,by simp⟩
 | y::ys,n,h=>by
  refine Af (Pi b hb ys (n*b+y) λz hz=>h z (.tail _ hz)) λr h1 h2=>?_
  refine Ac (r+y*b^ys.length) ?_ ?_
  ·rw[j7,Nat.pow_succ,pH (b^ys.length)]
   have:=v6 (b^ys.length) (h y (.head _))
   rw[tC] at this
   exact mP (oZ r _▸sK h1 _) this
  ·rw[mW,h2,j7,Nat.pow_succ,pH (b^ys.length),v8,p7,Nat.add_assoc,oZ (n*_)]
theorem Py(b:Nat)(hb:0<b):∀(ds:List Nat) (n i:Nat) (hi:i<ds.length),(∀y∈ds,y<b)->ds.foldl (λn d=>n*b+d) n/b^(ds.length-1-i)%b=ds[i]
 | d::r,n,0,_,h=>by
  refine Af (Pi b hb r (n*b+d) λz hz=>h z (.tail _ hz)) λx h1 h2=>?_
  show(r.foldl _ (n*b+d))/b^r.length%b=d
  rw[h2,Nat.add_mul_div_right _ _ (Nat.pow_pos hb),ud h1,tB,pH n b,uz,pZ (h d (.head _))]
 | d::r,n,i+1,hi,h=>by
  have:=Py b hb r (n*b+d) i (vF hi) λz hz=>h z (.tail _ hz)
  rw[List.getElem_cons_succ,<-this,mW,j7,Nat.succ_sub_one,oZ i 1,Nat.sub_sub]
theorem H6(k:Nat){ds:List Nat}{c N:Nat}(hc:ds.length=c)(hN:ds.foldl (λn d=>n*2^k+d) 0=N)(h:∀d∈ds,d<2^k):ds=(kd c).map λi=>N/2^(k*(c-1-i))%2^k:=by
 subst hc hN
 refine wS (by rw[jI,lG]) λi h1 h2=>?_
 rw[List.getElem_map,pk,Nat.pow_mul]
 exact(Py (2^k) (Nat.pow_pos (by decide)) ds 0 i h1 h).symm
theorem Ua:∀xs:List Nat,((BY xs).flatMap λo=>[o/16,o%16]).length=4*xs.length
 | []=>rfl
 | x::xs=>by
  have:=Ua xs
  unfold BY at this ⊢
  rw[lq,mF,jZ,this,j7,Nat.mul_succ,oZ]
  rfl
theorem T9:∀(xs:List Nat) (n:Nat),((BY xs).flatMap λo=>[o/16,o%16]).foldl (λn d=>n*2^4+d) n=xs.foldl (λn m=>n*65536+m) n
 | [],_=>rfl
 | x::xs,n=>by
  have e:(((n*16+x/256/16)*16+x/256%16)*16+x%256/16)*16+x%256%16=n*65536+x:=by rwa[]
  have:=T9 xs (n*65536+x)
  unfold BY at this ⊢
  rw[lq,mF,mq,mW,<-this]
  congr 1
theorem Pl{row:List Int}(ok:Ca row):Gs (H4 (byteArr (AD row)))=Ff row 4 TR:=by
 refine Bu (TU ok) λxs zz1 hl hx=>?_;obtain rfl:=zz1
 refine TM ?_
 rw[Ei,TZ,Rq (IR hx)]
 have hw:B3 (F3 xs) 4=((0:Nat):Int):=by
  unfold B3;rw[OV,kQ _ (by decide)];rwa[]
 have hc:AC (F3 xs) 4=((4*xs.length:Nat):Int):=by
  unfold AC;rw[hw,OV,kC _ (by decide)];rwa[]
 refine Eq.trans ?_ (KJ (size:=4) (p:=0) TR (T0 xs) hw hc (by rw[kQ _ (by decide)];rwa[])).symm
 have dl:(BY xs).flatMap (λo=>[o/16,o%16])=(kd (4*xs.length)).map λi=>Yo xs*2^0/2^(4*(4*xs.length-1-i))%2^4:=by
  rw[Nat.pow_zero,Nat.mul_one]
  refine H6 4 (Ua xs) (T9 xs 0) λd hd=>?_
  refine Af (lr.mp hd) λo ho hd=>?_
  have:=IR hx o ho
  rcases jG.mp hd with rfl|hd
  ·exact qd this
  ·rw[jH.mp hd];exact pr _ (by decide)
 have e1:(BY xs).flatMap (λo=>[TR.cps.getD (o/16) 0,TR.cps.getD (o%16) 0])=((BY xs).flatMap (λo=>[o/16,o%16])).map λd=>TR.cps.getD d 0:=by
  rw[wR];rfl
 rw[e1,dl,ms]
 show _=_++[]
 rw[kF]
 rfl
noncomputable def dg (n:Nat):Int:=OJ (n:Int)
noncomputable def BZ (lc b:Nat):Nat:=(lc*256+b)%65536
theorem Oh(lc b:Nat)(hb:b<256):kc (ou ((lc:Int)*2^(8:Int).toNat) (b:Int)) 65535=(BZ lc b:Nat):=by
 have e1:(lc:Int)*2^(8:Int).toNat=((lc*256:Nat):Int):=by
  show(lc:Int)*256=_
  omega
 have e2:lc*256|||b=lc*256+b:=by
  have:=Nat.shiftLeft_add_eq_or_of_lt (i:=8) (b:=b) (by omega) lc
  rw[xh] at this
  exact this.symm
 rw[e1,KI,e2,bitAnd_m16]
 unfold BZ
 omega
theorem Os(lc k:Nat):OJ (kc ((lc:Int).fdiv ((2:Int)^k)) 63)=dg (lc/2^k%64):=by
 rw[bitAnd_m6,kC _ (oV (by decide))]
 unfold dg
 congr 1
theorem IM(lc b:Nat)(out:List Int)(hb:b<256):AZ ((lc:Int),0,out) (b:Int)=(((BZ lc b:Nat):Int),2,out++[dg (BZ lc b/4%64)]):=by
 unfold AZ
 dsimp only
 rw[Oh lc b hb]
 rw[show CV ((BZ lc b:Nat):Int) 3 (0+8) out=(2,out++[OJ (kc (((BZ lc b:Nat):Int).fdiv ((2:Int)^2)) 63)]) from rfl,Os]
theorem N6(lc b:Nat)(out:List Int)(hb:b<256):AZ ((lc:Int),2,out) (b:Int)=(((BZ lc b:Nat):Int),4,out++[dg (BZ lc b/16%64)]):=by
 unfold AZ
 dsimp only
 rw[Oh lc b hb]
 rw[show CV ((BZ lc b:Nat):Int) 3 (2+8) out=(4,out++[OJ (kc (((BZ lc b:Nat):Int).fdiv ((2:Int)^4)) 63)]) from rfl,Os]
theorem Q2(lc b:Nat)(out:List Int)(hb:b<256):AZ ((lc:Int),4,out) (b:Int)=(((BZ lc b:Nat):Int),0,out++[dg (BZ lc b/64%64),dg (BZ lc b/1%64)]):=by
 unfold AZ
 dsimp only
 rw[Oh lc b hb]
 rw[show CV ((BZ lc b:Nat):Int) 3 (4+8) out=(0,(out++[OJ (kc (((BZ lc b:Nat):Int).fdiv ((2:Int)^6)) 63)])++[OJ (kc (((BZ lc b:Nat):Int).fdiv ((2:Int)^0)) 63)]) from rfl,Os,Os,l5]
 rfl
theorem ZW(lc:Nat)(out:List Int):BR ((lc:Int),2,out)=[dg (lc%4*16),61,61]:=by
 unfold BR
 rw[if_pos rfl]
 dsimp only
 rw[bitAnd_m2]
 have:(lc:Int)%4*2^(4:Int).toNat=((lc%4*16:Nat):Int):=by show(lc:Int)%4*16=_;omega
 rw[this];rfl
theorem ZV(lc:Nat)(out:List Int):BR ((lc:Int),4,out)=[dg (lc%16*4),61]:=by
 unfold BR
 rw[if_neg (by show ¬(4:Int)=2;decide),if_pos rfl]
 dsimp only
 rw[bitAnd_m4]
 have:(lc:Int)%16*2^(2:Int).toNat=((lc%16*4:Nat):Int):=by show(lc:Int)%16*4=_;omega
 rw[this];rfl
theorem Ui:∀d:Fin 64,dg d.val=((X8.cps.getD d.val 0:Nat):Int)/\X8.cps.getD d.val 0<256:=by decide +kernel
noncomputable def Fy:List Nat->List Nat×Nat
 | [o0,o1]=>([BZ 0 o0/4%64,BZ (BZ 0 o0) o1/16%64,BZ (BZ 0 o0) o1%16*4],1)
 | [o0,o1,o2,o3]=>([BZ 0 o0/4%64,BZ (BZ 0 o0) o1/16%64,BZ (BZ (BZ 0 o0) o1) o2/64%64,BZ (BZ (BZ 0 o0) o1) o2/1%64,BZ (BZ (BZ (BZ 0 o0) o1) o2) o3/4%64,BZ (BZ (BZ (BZ 0 o0) o1) o2) o3%4*16],2)
 | [o0,o1,o2,o3,o4,o5]=>([BZ 0 o0/4%64,BZ (BZ 0 o0) o1/16%64,BZ (BZ (BZ 0 o0) o1) o2/64%64,BZ (BZ (BZ 0 o0) o1) o2/1%64,BZ (BZ (BZ (BZ 0 o0) o1) o2) o3/4%64,BZ (BZ (BZ (BZ (BZ 0 o0) o1) o2) o3) o4/16%64,BZ (BZ (BZ (BZ (BZ (BZ 0 o0) o1) o2) o3) o4) o5/64%64,BZ (BZ (BZ (BZ (BZ (BZ 0 o0) o1) o2) o3) o4) o5/1%64],0)
 | _=>([],0)
theorem Xf{xs:List Nat}(hl:xs.length<=3)(hx:∀x∈xs,x<65536):EG ((BY xs).map λx:Nat=>(x:Int))=((Fy (BY xs)).1.map dg)++kW (Fy (BY xs)).2 61:=by
 have ho:=IR hx
 match xs,hl with
 | [],_=>rfl
 | [a],_=>
  have h1:=ho (a/256) (by simp[BY])
  have h2:=ho (a%256) (by simp[BY])
  show(AZ (AZ (((0:Nat):Int),0,[]) (((a/256:Nat)):Int)) (((a%256:Nat)):Int)).2.2++BR (AZ (AZ (((0:Nat):Int),0,[]) (((a/256:Nat)):Int)) (((a%256:Nat)):Int))=_
  rw[IM _ _ _ h1,N6 _ _ _ h2,ZV]
  rfl
 | [a,b],_=>
  have h1:=ho (a/256) (by simp[BY])
  have h2:=ho (a%256) (by simp[BY])
  have h3:=ho (b/256) (by simp[BY])
  have h4:=ho (b%256) (by simp[BY])
  show(AZ (AZ (AZ (AZ (((0:Nat):Int),0,[]) (((a/256:Nat)):Int)) (((a%256:Nat)):Int)) (((b/256:Nat)):Int)) (((b%256:Nat)):Int)).2.2++BR (AZ (AZ (AZ (AZ (((0:Nat):Int),0,[]) (((a/256:Nat)):Int)) (((a%256:Nat)):Int)) (((b/256:Nat)):Int)) (((b%256:Nat)):Int))=_
  rw[IM _ _ _ h1,N6 _ _ _ h2,Q2 _ _ _ h3,IM _ _ _ h4,ZW]
  rfl
 | [a,b,c],_=>
  have h1:=ho (a/256) (by simp[BY])
  have h2:=ho (a%256) (by simp[BY])
  have h3:=ho (b/256) (by simp[BY])
  have h4:=ho (b%256) (by simp[BY])
  have h5:=ho (c/256) (by simp[BY])
  have h6:=ho (c%256) (by simp[BY])
  show(AZ (AZ (AZ (AZ (AZ (AZ (((0:Nat):Int),0,[]) (((a/256:Nat)):Int)) (((a%256:Nat)):Int)) (((b/256:Nat)):Int)) (((b%256:Nat)):Int)) (((c/256:Nat)):Int)) (((c%256:Nat)):Int)).2.2++BR (AZ (AZ (AZ (AZ (AZ (AZ (((0:Nat):Int),0,[]) (((a/256:Nat)):Int)) (((a%256:Nat)):Int)) (((b/256:Nat)):Int)) (((b%256:Nat)):Int)) (((c/256:Nat)):Int)) (((c%256:Nat)):Int))=_
  rw[IM _ _ _ h1,N6 _ _ _ h2,Q2 _ _ _ h3,IM _ _ _ h4,N6 _ _ _ h5,Q2 _ _ _ h6]
  rfl
theorem TG{row:List Int}{n:Nat}(h:row.length=n):B3 row 6=-16*(n:Int)%6:=by unfold B3;rw[h,kQ _ (by decide)]
theorem Rw{row:List Int}{n:Nat}(h:row.length=n):AC row 6=(16*(n:Int)+-16*(n:Int)%6)/6:=by unfold AC;rw[TG h,h,kC _ (by decide)]
theorem nx(lc q m k:Nat)(h:m*k=256):BZ lc q%m=q%m:=by
 unfold BZ
 rw[qP _ ⟨k*256,by rw[<-p7,h]⟩,<-h,pH lc,p7,uz]
theorem iT(x k j:Nat){q:Nat}(hq:q<256)(h:256*k*j=65536):BZ x q%(256*k)=256*(x%k)+q:=by
 unfold BZ
 rw[qP _ ⟨j,h.symm⟩,Nat.mod_mul,pH x,uz,uA (by decide),ud hq,pZ hq,tE,oZ]
theorem q4(lc:Nat){b:Nat}(hb:b<256):BZ lc b/4%64=b/4:=by
 rw[<-nk,nx lc b (4*64) 1 rfl,pZ hb]
theorem fF(lc p:Nat){q:Nat}(hq:q<256):BZ (BZ lc p) q/16%64=p%4*16+q/16:=by
 rw[<-nk,show 16*64=256*4 from rfl,iT _ 4 64 hq rfl,nx lc p 4 64 rfl,show 256=16*16 from rfl,p7,uA (by decide),pH 16]
theorem gF(lc p:Nat){q:Nat}(hq:q<256):BZ (BZ lc p) q/64%64=p%16*4+q/64:=by
 rw[<-nk,show 64*64=256*16 from rfl,iT _ 16 16 hq rfl,nx lc p 16 16 rfl,show 256=64*4 from rfl,p7,uA (by decide),pH 4]
theorem q1(lc q:Nat):BZ lc q/1%64=q%64:=by rw[Nat.div_one,nx lc q 64 4 rfl]
theorem t4(lc q:Nat):BZ lc q%16*4=q%16*4:=by rw[nx lc q 16 16 rfl]
theorem jd(lc q:Nat):BZ lc q%4*16=q%4*16:=by rw[nx lc q 4 64 rfl]
theorem Ri(n p q r:Nat):(((n*2^6+p/4)*2^6+(p%4*16+q/16))*2^6+(q%16*4+r/64))*2^6+r%64=((n*256+p)*256+q)*256+r:=by
 have a:=pj p 4
 have b:=pj q 16
 have c:=pj r 64
 generalize p/4=x at *
 generalize p%4=x' at *
 generalize q/16=y at *
 generalize q%16=y' at *
 generalize r/64=z at *
 generalize r%64=z' at *
 rw[<-a,<-b,<-c]
 grind
theorem iq(n p q:Nat):((n*2^6+p/4)*2^6+(p%4*16+q/16))*2^6+q%16*4=(n*65536+(p*256+q))*2^2:=by
 have a:=pj p 4
 have b:=pj q 16
 generalize p/4=x at *
 generalize p%4=x' at *
 generalize q/16=y at *
 generalize q%16=y' at *
 rw[<-a,<-b]
 grind
theorem iu(n p q:Nat):((n*256+p)*2^6+q/4)*2^6+q%4*16=(n*65536+(p*256+q))*2^4:=by
 have b:=pj q 4
 generalize q/4=y at *
 generalize q%4=y' at *
 rw[<-b]
 grind
theorem It(n a:Nat):(n*256+a/256)*256+a%256=n*65536+a:=by
 rw[v8,p7,Nat.add_assoc,ue]
theorem l4{b:Nat}(hb:b<256):b/4<64:=qd hb
theorem iW{x y m n k:Nat}(hx:x<m)(hy:y<n)(h:m*n=k):x*n+y<k:=by
 rw[<-h]
 exact mP (sK hy _) (tC x n▸v6 n hx)
theorem eE(p:Nat){q:Nat}(hq:q<256):p%4*16+q/16<64:=iW (pr p (by decide)) (qd hq) rfl
theorem fK(p:Nat){q:Nat}(hq:q<256):p%16*4+q/64<64:=iW (pr p (by decide)) (qd hq) rfl
theorem gL(p:Nat):p%16*4<64:=fK p (q:=0) (by decide)
theorem gM(p:Nat):p%4*16<64:=eE p (q:=0) (by decide)
theorem KD{xs:List Nat}(hl:xs.length<=3)(hx:∀x∈xs,x<65536):(∀d∈(Fy (BY xs)).1,d<2^6)/\∃w c:Nat,B3 (F3 xs) 6=w/\AC (F3 xs) 6=c/\(-(c:Int)).fmod 4=((Fy (BY xs)).2:Nat)/\
 (Fy (BY xs)).1.length=c/\(Fy (BY xs)).1.foldl (λn d=>n*2^6+d) 0=Yo xs*2^w:=by
 have ho:=IR hx
 match xs,hl with
 | [],_=>exact⟨λd h=>(nomatch h),0,0,rfl,rfl,rfl,rfl,rfl⟩
 | [a],_=>
  have h1:=ho (a/256) (.head _)
  have h2:=ho (a%256) (.tail _ (.head _))
  have e:(Fy (BY [a])).1=[a/256/4,a/256%4*16+a%256/16,a%256%16*4]:=by
   show [_,_,_]=_
   rw[q4 _ h1,fF _ _ h2,t4]
  rw[e]
  refine⟨?_,2,3,TG (n:=1) rfl,Rw (n:=1) rfl,rfl,rfl,?_⟩
  ·simp only[sf]
   exact⟨l4 h1,eE _ h2,gL _,λ_ h=>nomatch h⟩
  ·show((0*2^6+_)*2^6+_)*2^6+_=(0*65536+a)*2^2
   rw[iq,ue]
 | [a,b],_=>
  have h1:=ho (a/256) (.head _)
  have h2:=ho (a%256) (.tail _ (.head _))
  have h3:=ho (b/256) (.tail _ (.tail _ (.head _)))
  have h4:=ho (b%256) (.tail _ (.tail _ (.tail _ (.head _))))
  have e:(Fy (BY [a,b])).1=[a/256/4,a/256%4*16+a%256/16,a%256%16*4+b/256/64,b/256%64,b%256/4,b%256%4*16]:=by
   show [_,_,_,_,_,_]=_
   rw[q4 _ h1,fF _ _ h2,gF _ _ h3,q1,q4 _ h4,jd]
  rw[e]
  refine⟨?_,4,6,TG (n:=2) rfl,Rw (n:=2) rfl,rfl,rfl,?_⟩
  ·simp only[sf]
   exact⟨l4 h1,eE _ h2,fK _ h3,pr _ (by decide),l4 h4,gM _,λ_ h=>nomatch h⟩
  ·show(((((0*2^6+_)*2^6+_)*2^6+_)*2^6+_)*2^6+_)*2^6+_=((0*65536+a)*65536+b)*2^4
   rw[Ri,It,iu,ue]
 | [a,b,c],_=>
  have h1:=ho (a/256) (.head _)
  have h2:=ho (a%256) (.tail _ (.head _))
  have h3:=ho (b/256) (.tail _ (.tail _ (.head _)))
  have h4:=ho (b%256) (.tail _ (.tail _ (.tail _ (.head _))))
  have h5:=ho (c/256) (.tail _ (.tail _ (.tail _ (.tail _ (.head _)))))
  have h6:=ho (c%256) (.tail _ (.tail _ (.tail _ (.tail _ (.tail _ (.head _))))))
  have e:(Fy (BY [a,b,c])).1=[a/256/4,a/256%4*16+a%256/16,a%256%16*4+b/256/64,b/256%64,b%256/4,b%256%4*16+c/256/16,c/256%16*4+c%256/64,c%256%64]:=by
   show [_,_,_,_,_,_,_,_]=_
   rw[q4 _ h1,fF _ _ h2,gF _ _ h3,q1,q4 _ h4,fF _ _ h5,gF _ _ h6,q1]
  rw[e]
  refine⟨?_,0,8,TG (n:=3) rfl,Rw (n:=3) rfl,rfl,rfl,?_⟩
  ·simp only[sf]
   exact⟨l4 h1,eE _ h2,fK _ h3,pr _ (by decide),l4 h4,eE _ h5,fK _ h6,pr _ (by decide),λ_ h=>nomatch h⟩
  ·show(((((((0*2^6+_)*2^6+_)*2^6+_)*2^6+_)*2^6+_)*2^6+_)*2^6+_)*2^6+_=(((0*65536+a)*65536+b)*65536+c)*2^0
   rw[Ri,Ri,It,It,It,Nat.pow_zero,Nat.mul_one]
theorem ZH{xs:List Nat}(hl:xs.length<=3)(hx:∀x∈xs,x<65536):∀d∈(Fy (BY xs)).1,d<64:=(KD hl hx).1
theorem eY{xs:List Nat}(hl:xs.length<=3)(hx:∀x∈xs,x<65536):∃w c:Nat,B3 (F3 xs) 6=w/\AC (F3 xs) 6=c/\(-(c:Int)).fmod 4=((Fy (BY xs)).2:Nat)/\
 (Fy (BY xs)).1=(kd c).map λi=>Yo xs*2^w/2^(6*(c-1-i))%2^6:=by
 refine Cg (KD hl hx) λh zr0=>C9 zr0 λw c e1 e2 e3 e4 e5=>?_
 exact C6 w c e1 e2 e3 (H6 6 e4 e5 h)
theorem Km{row:List Int}(ok:Ca row):Gs (byteArr (EG (B9 (byteArr (AD row)))))=Ff row 6 X8:=by
 refine Bu (TU ok) λxs zz1 hl hx=>?_;obtain rfl:=zz1
 refine TM ?_
 refine E8 (eY hl hx) λw c hw hc hp hd=>?_
 have hb:B9 (byteArr (AD (F3 xs)))=(BY xs).map λx:Nat=>(x:Int):=by
  unfold B9
  rw[TZ]
  have:=congrArg (qK λx:Nat=>(x:Int)) (Ht (IR hx))
  rw[ms] at this
  exact this
 rw[Ei,hb,Xf hl hx]
 have e:(Fy (BY xs)).1.map dg++kW (Fy (BY xs)).2 (61:Int)=(((Fy (BY xs)).1.map λd=>X8.cps.getD d 0)++kW (Fy (BY xs)).2 61).map λx:Nat=>(x:Int):=by
  rw[kz,ms,List.map_replicate]
  congr 1
  refine lS λd hd=>?_
  exact(Ui ⟨d,ZH hl hx d hd⟩).1
 rw[e,Ht]
 ·refine Eq.trans ?_ (KJ (size:=6) X8 (T0 xs) hw hc hp).symm
  rw[hd,ms]
  rfl
 ·intro o ho
  rcases jU.mp ho with ho|ho
  ·obtain⟨d,hd,rfl⟩:=kn.mp ho
   exact(Ui ⟨d,ZH hl hx d hd⟩).2
  ·rw[(List.mem_replicate.mp ho).2];decide
theorem OM{row:List Int}(ok:Ca row):ER row=AA row:=by
 unfold ER AA
 rw[Pl ok,Km ok,VZ row ok]
noncomputable def DT:Nat->jO->Bool
 | _,.none=>true
 | _,.bool _=>true
 | _,.int _=>true
 | _,.str x=>lV x
 | n+1,.list xs=>xs.all (DT n)
 | n+1,.tuple xs=>xs.all (DT n)
 | _,_=>false
theorem YR:∀(n:Nat) (d:jO),DT n d=true->d.canLay0=true/\d.depth<=n:=by
 have all:∀(n:Nat),(∀d,DT n d=true->d.canLay0=true/\d.depth<=n)->∀xs:List jO,xs.all (DT n)=true->qM xs=true/\wy xs<=n:=by
  intro n ih xs
  induction xs with
  | nil=>intro _;exact⟨rfl,kf _⟩
  | cons x xs ihx=>
   intro h
   rw[lC,kJ] at h
   obtain⟨h1,h2⟩:=ih x h.1
   obtain⟨h3,h4⟩:=ihx h.2
   exact⟨by simp[qM,h1,h3],by simp only[wy];lia⟩
 intro n
 induction n with
 | zero=>
  intro d h
  cases d<;>first|exact⟨rfl,jN _⟩|exact⟨h,jN _⟩|exact(lg h).elim
 | succ n ih=>
  intro d h
  cases d with
  | list xs=>
   obtain⟨h1,h2⟩:=all n ih xs h
   exact⟨h1,by simp only[xx];rwa[h2]⟩
  | tuple xs=>
   obtain⟨h1,h2⟩:=all n ih xs h
   exact⟨h1,by simp only[xx];rwa[h2]⟩
  | dict _=>exact(lg h).elim
  | str x=>exact⟨h,kf _⟩
  | _=>exact⟨rfl,kf _⟩
theorem HY{n:Nat}{d:jO}(hn:n<=64)(h:DT n d=true):pB d=true/\ug d d=true:=by
 obtain⟨h1,h2⟩:=YR n d h
 exact⟨by unfold pB;rw[h1,sL];exact decide_eq_true (by rwa[hn,h2]),SeqAt.eqv_refl d h1⟩
theorem Wn(c:AM)(h:lV c.1=true):DT 1 (Da c)=true:=by
 show([oN c.1,.int c.2.1,.int c.2.2.1,.int c.2.2.2.1,.int c.2.2.2.2].all (DT 0))=true
 show(lV c.1&&true)=true
 rw[h];rfl
theorem WQ{e b:Nat×Nat}{c:AM}(h:c∈AH e b):lV c.1=true:=by
 unfold AH at h
 split at h
 ·cases h
 ·rw[jH.mp h]
  show lV (BL e b)=true
  unfold BL
  split<;>split<;>decide +kernel
theorem OZ:∀(l:List A9) (e:Nat×Nat),∀c∈JZ e l,lV c.1=true
 | [],_=>λ_ h=>(nomatch h)
 | t::r,e=>λc hc=>by
  rcases jU.mp hc with hc|hc
  ·rcases jU.mp hc with hc|hc
   ·exact WQ hc
   ·unfold B5 at hc
    split at hc
    ·cases hc
    ·rw[jH.mp hc]
     exact(show lV (jz "equal")=true by decide +kernel)
  ·exact OZ r _ c hc
theorem Wq(l:List A9):DT 2 (.list ((E0 l).map Da))=true:=by
 show((E0 l).map Da).all (DT 1)=true
 rw[TY,ky]
 intro d hd
 obtain⟨c,hc,rfl⟩:=kn.mp hd
 exact Wn c (OZ l _ c hc)
theorem Jg(x y:jX):(x++y).cps.toList=x.cps.toList++y.cps.toList:=by
 show(x.cps++y.cps).toList=_
 rw[o9]
theorem Vk:∀a b:Fin 10,(jz (toString ((a.val:Nat):Int))).cps.toList=(jz (toString ((b.val:Nat):Int))).cps.toList->a=b:=by decide +kernel
theorem Pa{st i j c c':Nat}(hst:st=4\/st=10):HT st i c=HT st j c'↔c=c'/\i%st=j%st:=by
 have hm:∀k:Nat,((k:Nat):Int).fmod (st:Nat)=((k%st:Nat):Int):=λk=>by rw[kQ _ (oC _)];lia
 have hlt:∀k:Nat,k%st<10:=λk=>by rcases hst with rfl|rfl<;>rwa[]
 constructor
 ·intro h
  have h:=congrArg (λx:jX=>x.cps.toList) h
  unfold HT at h
  rw[Jg,Jg,hm,hm] at h
  have h:c::(jz (toString ((i%st:Nat):Int))).cps.toList=c'::(jz (toString ((j%st:Nat):Int))).cps.toList:=h
  obtain⟨h1,h2⟩:=wl h
  have:=Vk ⟨i%st,hlt i⟩ ⟨j%st,hlt j⟩ h2
  exact⟨h1,congrArg Fin.val this⟩
 ·rintro⟨rfl,h⟩
  unfold HT
  rw[hm,hm,h]
theorem ag(l r:jX){st:Nat}(hst:st=4\/st=10):RN (Bp l st) (Bp r st) l.cps.toList r.cps.toList st:=by
 refine⟨BE l st,BE r st,λi j=>?_⟩
 unfold Dt Bp
 rw[oU,oU]
 constructor
 ·intro zz1;refine Af zz1 λx h1 h2=>?_
  refine Af (j6.mp h1) λc hc e1=>?_
  refine Af (j6.mp h2) λc' hc' e2=>?_
  obtain⟨h3,h4⟩:=(Pa hst).mp (e1.trans e2.symm)
  exact⟨⟨c,hc,h3▸hc'⟩,h4⟩
 ·rintro⟨⟨c,h1,h2⟩,h3⟩
  exact⟨HT st i c,by rw[h1];rfl,by rw[h2];exact congrArg some ((Pa hst).mpr ⟨rfl,h3⟩).symm⟩
noncomputable def Gz (l r:jX) (st:Nat):List AM:=E0 (Gg (Bp l st) (Bp r st))
theorem XR(l r:jX){st:Nat}(hst:st=4\/st=10)(hl:l.length<1000)(hr:r.length<1000):XE l.length r.length (Dm l.cps.toList r.cps.toList st (l.length+1) 0 l.length 0 r.length) (Gz l r st):=by
 delta l r st at hst hl hr
 have e:=Oz (ag l r hst) hst (l.length+1) 0 l.length 0 r.length (jN _) (jN _) (kf _) (kf _)
 have row:=GV (Bp l st) (Bp r st)
 unfold bl at row
 rw[BE,BE,vE,e] at row
 have:=XQ row hl hr
 unfold Gz Gg bl
 rw[BE,BE,vE,e]
 exact this
theorem DF{x:jX}:lV x=true↔∀c∈x.cps.toList,c<0x110000:=by
 unfold lV
 rw[<-Array.all_toList,ky]
 exact⟨λh c hc=>of_decide_eq_true (h c hc),λh c hc=>decide_eq_true (h c hc)⟩
theorem IF(b:Array UInt8):lV (Gs b)=true:=by
 rw[DF,Ei]
 intro c hc
 obtain⟨u,_,rfl⟩:=kn.mp hc
 have:=u.toNat_lt
 rwa[this]
theorem OO(b:Array UInt8):(Gs b).length=b.size:=by
 show(Gs b).cps.size=b.size
 rw[<-kh,Ei,jI,kh]
theorem UG{ys:List jX}(h:∀y∈ys,lV y=true):lV (DA ys)=true:=by
 rw[DF]
 intro c hc
 unfold DA at hc
 have hc:c∈ys.flatMap (·.cps.toList):=hc
 obtain⟨y,hy,hc⟩:=lr.mp hc
 exact DF.mp (h y hy) c hc
theorem Fj{x:jX}(h:lV x=true)(i:Int):lV (F1 x i)=true:=by
 rw[DF]
 intro c hc
 unfold F1 at hc
 have hc:c∈[x.cps.getD i.toNat 0]:=hc
 rw[jH.mp hc]
 by_cases hi:i.toNat<x.cps.size
 ·have:=DF.mp h (x.cps[i.toNat]) (by rw[<-Array.mem_def];exact wm hi)
  simpa[wc,hi] using this
 ·simp[wc,hi]
theorem OQ(m:Int):∀y∈Cp m,lV y=true:=by
 intro y hy
 have k:∀m k,∀y∈Cd m k,lV y=true:=λm k y hy=>by
  unfold Cd at hy
  simp only[jG,nY,or_false] at hy
  rcases hy with rfl|rfl|rfl
  ·exact Fj (by decide +kernel) _
  ·exact Fj (by decide +kernel) _
  ·refine Fj ?_ _
   split<;>decide +kernel
 unfold Cp at hy
 rcases jG.mp hy with rfl|hy
 ·exact Fj (by decide +kernel) _
 ·obtain⟨j,_,hy⟩:=lr.mp hy
  exact k m j y hy
theorem Ru{row:List Int}(ok:Ca row):∀x∈AA row,x.length<=30/\lV x=true:=by
 delta row at ok
 have ol:(byteArr (AD row)).size<=6:=by rw[DV,CL];have:=ok.len;rwa[this]
 intro x hx
 unfold AA at hx
 simp only[jG,nY,or_false] at hx
 rcases hx with rfl|rfl|rfl
 ·rw[<-Pl ok]
  refine⟨?_,IF _⟩
  rw[OO]
  unfold H4
  rw[kI,jI,kh,qF,kI,Ck,kh]
  rwa[ol]
 ·rw[<-Km ok]
  refine⟨?_,IF _⟩
  rw[OO,DV]
  have h1:=(G8 (B9 (byteArr (AD row)))).len
  have h2:(B9 (byteArr (AD row))).length=(byteArr (AD row)).size:=by simp[B9]
  unfold EG
  rw[jZ]
  have h3:∀st,(BR st).length<=3:=λst=>by
   unfold BR
   split
   ·exact jN _
   ·split
    ·show 2<=3;decide
    ·show 0<=3;decide
  have:=h3 (DG (B9 (byteArr (AD row))))
  rwa[ol,h1,h2,this]
 ·rw[D8]
  constructor
  ·have:DA (AB row)=V0 (DA (AB row)).cps.toList:=by unfold V0;rw[p0]
   show(DA (AB row)).cps.size<=30
   unfold DA
   rw[kI,List.length_flatMap]
   have:(AB row).map (λx=>x.cps.toList.length)=(AB row).map λ_=>1:=lS λx hx=>by
    unfold AB at hx
    obtain⟨m,_,hx⟩:=lr.mp hx
    unfold Cp at hx
    rcases jG.mp hx with rfl|hx
    ·rfl
    ·obtain⟨j,_,hx⟩:=lr.mp hx
     unfold Cd at hx
     simp only[jG,nY,or_false] at hx
     rcases hx with rfl|rfl|rfl<;>rfl
   rw[this,show((AB row).map λ_=>1)=kW (AB row).length 1 from rL ..,m9,Dc]
   have:=ok.len
   rwa[this]
  ·refine UG λy hy=>?_
   unfold AB at hy
   obtain⟨m,_,hy⟩:=lr.mp hy
   exact OQ m y hy
theorem Rt{L R:List Int}(oL:Ca L)(oR:Ca R):pB (.list [B7 (AA L),B7 (AA R)])=true/\ug (.list [B7 (AA L),B7 (AA R)]) (.list [B7 (AA L),B7 (AA R)])=true:=by
 refine HY (n:=2) (by decide) ?_
 have k:∀{row:List Int},Ca row->DT 1 (B7 (AA row))=true:=λ{row} ok=>by
  show((AA row).map oN).all (DT 0)=true
  rw[ky]
  intro d hd
  obtain⟨x,hx,rfl⟩:=kn.mp hd
  exact(Ru ok x hx).2
 show([B7 (AA L),B7 (AA R)].all (DT 1))=true
 simp[k oL,k oR]
noncomputable def DN (k:Nat):Nat:=if k=2 then 10 else 4
theorem TO{k:Nat}{st:Int}(h:([4,4,10]:List Int)[k]?=some st):st=(DN k:Nat)/\(DN k=4\/DN k=10):=by
 match k,h with
 | 0,h=>cases h;exact⟨rfl,.inl rfl⟩
 | 1,h=>cases h;exact⟨rfl,.inl rfl⟩
 | 2,h=>cases h;exact⟨rfl,.inr rfl⟩
theorem aV(pm cd doc v:jB):l3 (Az 50 pm cd doc .none .none) ⟨[v],[]⟩=pure [((jz "script"),v)]:=by rfl
theorem Yz{w:jW}{A:kA}{s:jE}{mg mb:jX->Option jB}{script:List Int}{v:jB}{Q:jB->jE->Prop}{E:jB->jE->Prop}(hs:script.length<=63)(K:Bn w s.heap)(G:Gl mg mb s.heap)(room:A0 A 100)(rv:VR [] s.heap (.py (Cr script)) v)
 (q:∀s',AI s s'->(∀b o,b≠PT->s.heap.get? b=some o->s'.heap.get? b=some o)->(∃ps,s'.heap.get? PT=some (qh ps))->Q (.bool true) s'):wpAny (model pw w) A (call (.ref 399) [v]) Q E s:=by
 delta w A s mg mb script v Q E at hs K G room rv q
 have hP:s.heap.get? PT=some (qh #[]):=ZX K
 refine E7 ((gQ K).ex) λo pm cd doc h1 h2 h3=>?_
 obtain⟨okL,okR⟩:=Yb script
 have new0:s.heap.get? s.heap.objs.size=none:=Bk (jN _)
 have lP:s.heap.objs.size≠PT:=λz=>by rw[<-z,new0] at hP;exact B6 hP
 refine Jc (s₀:=s) (O:=[]) (args:=⟨[v],[]⟩) (vs:=[v]) (f6 pm cd doc .none .none) h1 h2 (YC K G).T.gl.nolimit h3 room (λ_ _ e=>e) ⟨uG,λp hp=>(nomatch hp)⟩ (λ_ _ e=>e) (λp hp=>(nomatch hp))
  (.of_eq (aV _ _ _ v)) rfl (avs:=[.py (Cr script)]) ⟨rv,trivial⟩ (λN rm s1 E' t k1=>?_)
 have ed:Am (stm 50)=(Am (stm 50)).take 7++(Am (stm 50)).drop 7:=(pN 7 _).symm
 rw[ed]
 obtain⟨sh1,sh2⟩:=Rt okL okR
 refine N4 t (YA (YC K G) (λ_ _ e=>e) script hs 10 (jN _) okL okR (OM okL) (OM okR) sh1 sh2 N (rm.le (by rwa[]))) ?_
 rintro O1 σ' s2 fx t2 rfl
 have hP2:s2.heap.get? PT=some (qh #[]):=t2.keep _ _ hP
 have hO1:¬O1.has PT:=λh=>by
  rcases fx.own PT h with⟨p,hp,e⟩|z
  ·obtain rfl:=jH.mp hp
   exact lP e
  ·exact B0 z (Ax k1 _ _ hP)
 generalize hL:(Bs script).1=L at *
 generalize hR:(Bs script).2=R at *
 have lens:∀l,l∈AA L\/l∈AA R->l.length<=30:=λl h=>h.elim (λh=>(Ru okL l h).1) λh=>(Ru okR l h).1
 have opE:∀(k:Nat) (l r:jX),(AA L)[k]?=some l->(AA R)[k]?=some r->Gz ((AA L).getD k "") ((AA R).getD k "") (DN k)=Gz l r (DN k):=λk l r e1 e2=>by
  rw[mU,mU,e1,e2];rfl
 have fl:=λk=>Wq (Gg (Bp ((AA L).getD k "") (DN k)) (Bp ((AA R).getD k "") (DN k)))
 obtain⟨sd,ed⟩:=HY (n:=3) (d:=.list [.list ((Gz ((AA L).getD 0 "") ((AA R).getD 0 "") (DN 0)).map Da),.list ((Gz ((AA L).getD 1 "") ((AA R).getD 1 "") (DN 1)).map Da),.list ((Gz ((AA L).getD 2 "") ((AA R).getD 2 "") (DN 2)).map Da)]) (by decide) (by
  show(List.all _ (DT 2))=true
  simp only[lC,vn,oE,kJ]
  exact⟨fl 0,fl 1,fl 2⟩)
 refine YB (YC K G) (λ_ _ e=>e) ((YC K G).hide hP) (λ_ _ e=>e) (YE K G) script L R (λk=>Gz ((AA L).getD k "") ((AA R).getD k "") (DN k)) lens (λk l r st e1 e2 e3=>?_) (λk l r st e1 e2 e3=>?_) sd ed N (rm.le (by rwa[])) (λ⟨p,hp,_⟩=>nomatch hp) (Ag _ hP) t2
  ⟨#[],hP2,trivial,.inl rfl⟩ hO1 λs' al kp hP'=>?_
 ·obtain⟨h4,h5⟩:=TO e3
  obtain rfl:st=DN k:=by rwa[h4]
  have l1:=lens l (.inl (kt e1))
  have l2:=lens r (.inr (kt e2))
  have:=XR l r h5 (by rwa[l1]) (by rwa[l2])
  rw[<-opE k l r e1 e2] at this
  exact this
 ·obtain⟨h4,h5⟩:=TO e3
  subst h4
  have l1:=lens l (.inl (kt e1))
  have l2:=lens r (.inr (kt e2))
  have:=X7 (w:=w) K (eh K G) (K.mg G.g "Match" (by kernel_rfl)) (K.mg G.g "SequenceMatcher" (by kernel_rfl)) (eH K) l r (DN k) (by rcases h5 with h|h<;>rwa[h]) (by rcases h5 with h|h<;>rwa[h]) (by rwa[l1]) (by rwa[l2])
  show Fn pw w s.heap 11 (.ref 394) [] _ [] (.py (.list ((Gz ((AA L).getD k "") ((AA R).getD k "") (DN k)).map Da)))
  rw[opE k l r e1 e2]
  exact this
 ·exact q s' ((Bc k1).tr (fx.alike.tr al)) (λb o hb e=>kp b o hb (t2.keep b o e)) hP'
section
set_option tactic.hygienic true
theorem YY{w:jW}{h:jY}(K:Bn w h):CodeHd h CT PT:=
 ⟨Du w.params,_,"/claim/cut.py",827,3,0,true,181,0,K.get 388 (by kernel_rfl),by kernel_rfl,by unfold Du;rfl,by kernel_rfl,by kernel_rfl,by kernel_rfl,by kernel_rfl,by kernel_rfl,by kernel_rfl,by decide⟩
theorem fP:po.Holds:=by
 refine gO λd kwd hd=>?_
 intro w s₀ xJ mg mb G Y a o pm cd doc dV kV ho hdd hcd hD hmg hg args vals as hpre hlay hrd hwl hlo
 have K:Bn w xJ.heap:=⟨Y⟩
 have T:=G.T
 have gl:Gl mg mb xJ.heap:=⟨T.g,T.b,T.builtins,T.nolimit⟩
 obtain rfl:a=399:=by
  have e:=defOf_name hd
  rw[e,K.mg T.g _ (r:=some (.ref 399)) (by kernel_rfl)] at hmg
  cases hmg;rfl
 clear ho hdd hcd hD hmg
 wrow_args hpre hlay hrd hwl hlo
 rename_i script _ _ _ _ _ _ _ l lv _ hl ra _ r0 hI _ hlen _
 have r0:Ak xJ.heap (.ref l) (Cr script) (l::[]):=by
  refine Bu hl λo ho hc zr0=>AR zr0 λn hd=>?_
  exact .list ho hc hd (QY hI)
 have hP:xJ.heap.get? PT=some (qh #[]):=ZX K
 refine Yz (A:=callerA) (script:=script) (by rwa[hlen]) K gl ⟨rfl,by decide,by decide⟩ (Ac _ r0 λa _ hh=>(by obtain⟨p,hp,_⟩:=hh;cases hp)) λs' al kp hP'=>?_
 refine B1 al λh' tk zz1=>?_;obtain rfl:=zz1
 obtain⟨ps,hP'⟩:=hP'
 have C:=YY K
 have C':CodeHd h' CT PT:=by
  obtain⟨o,vs,file,tf,flags,tg,inF,text,tt,e,r⟩:=C
  exact⟨o,vs,file,tf,flags,tg,inF,text,tt,kp _ _ (by decide) e,r⟩
 have old:OldK xJ.heap h':=(OldK.refl xJ.heap).step_table (C.tab hP) (C.tab hP) (more:=ps) (C'.tab (by rw[we];exact hP')) (λb o hb e=>kp b o hb e) (by decide)
 refine⟨.inl (KB (.bool true) (.bool true) [] rfl ?_ (.bool true) ?_ ?_),old,rfl,.of_eq hg⟩
 ·intro cls;rfl
 ·wrow_post
 ·intro _;exact⟨uG,λa h=>(nomatch h)⟩
end
end Mine
end
theorem PySem.Challenge.cw_rt0115_01_holds : PySem.Challenge.rw_rt0115_01.Holds :=
  Mine.fP
