import PyProof.Rows.All
import KE.KItem
import KE.KNest
import Wide.FinOn
import OpenK.AllK
import Wide.All
import Lean
import PySem.Challenge.RW_uc0059_01
set_option Elab.async false
set_option linter.all false
set_option genSizeOfSpec false
set_option bootstrap.genMatcherCode false
set_option backward.match.sparseCases false
set_option genSizeOf false
set_option genInjectivity false
set_option tactic.hygienic false
set_option maxRecDepth 100000
set_option maxHeartbeats 8000000
open Option renaming some->aa,none->ac,bind_eq_some_iff->bx,map_some->bF,map_eq_some_iff->bO,ite_none_right_eq_some->pS,isSome_iff_exists->DA,map->Iw,bind_some->IZ,getD_some->T9,isNone_iff_eq_none->QgN
open Bool renaming true->ae,false->af,and_eq_true->bo,and_eq_true_iff->eg,rec->fY,eq_iff_iff->gA,noConfusion->iS,or_eq_true->mK,not_eq_true'->rI,false_eq_true->wB,or_eq_true_iff->QgJ,eq_false_iff->Qhk
open PySem renaming PyData->an,Value->ao,Str->ar,Addr->au,Expr->ax,Shared->aE,wpAny->aI,Params->aN,model->aP,Pos->aR,Obj->be,wpAny_bind->bH,Env->bP,Sem->cg,sizeLine->cz,Heap->cC,sizeLine_eq->dy,Stmt->dF,Around->dK,NameKind->dR,wpAny_pure->dW,DictEntry->dX,World->d9,mainGlobals->ew,Tok->fL,starEach->jt,wpAny_loadPart'->kM,compEnvC->kP,Flow->kQ,step->kR,backTo->lL,wpAny_execs_cons->lN,Scope->mD,execs->mN,treeTable->mO,wpAny_mono->nQ,relabel->nU,FuncData->o5,assign->o8,cellsFrom->o9,rawInt->pU,standAt->pX,intKind->pY,UnaryOp->rA,Program->rB,getItem->rK,hashInt->rQ,Const->tP,compareOp->tY,wpAny_Name->ua,closureFor->uc,OsState->ug,Keyword->wu,call_meets->wC,strValues->wI,fromIndex->wJ,typeIs_str->wK,spliced->wM,wpAny_Call_ofName->wN,wpAny_execs_nil->wP,builtinsNs->za,bootBuiltins->zb,binaryOp->zd,wpAny_holding->zi,wpAny_standAt->zj,wpAny_Constant_int->zk,pyIter->zm,swapsWith->zn,assignEach->zo,interactive->zq,Arguments->Dr,Builtin->Dz,wpAny_assign_Name->DD,storeName->DG,placesWithHash->DK,typeIs_int->IA,Builtin->IB,wpAny_truthy_bool->IF,sliceBounds->IH,wpAny_loadName_cell->II,wpAny_loadName_free->IJ,wpAny_UnaryOp->IK,wpAny_Call_method_lateS->IM,wpAny_If->IR,dictDisplay->IU,strKind->IX,slicePicked->TN,behindInMarks->TQ,wpAny_IfExp->TR,callWith_type->TT,wpAny_storeName_local->TV,wpAny_newObj_type->TW,wpAny_storeName_cell->TZ,wpAny_Assign_Name->T0,swappedStores->T2,wpAny_Return_some->T3,wpAny_Expr_any->T4,getitemInPython_of_ne->Qgz,wpAny_letTemporaryGo->QgA,wpAny_getItem_list_slice->QgB,wpAny_loadName_local->QgE,wpAny_isTrue_Compare1->QgF,wpAny_list_append_plain->QgK,wpAny_comprehension_free->QgM
open Classical renaming byContradiction->ay,not_not->It
open Option.some renaming inj->aB,injEq->IS
open PySem.Str renaming ofString->aG,length->wA
open List renaming length_map->bq,replicate->bz,length_cons->ce,getElem?_eq_getElem->cf,map_cons->cA,mem_cons->cB,getElem?_cons_zero->cH,getElem?_cons_succ->cU,length_append->dn,set_cons_succ->dz,set_cons_zero->dC,length_drop->dL,length->dN,getElem?_map->dS,mem_cons_of_mem->eh,range'->ey,all_eq_true->eA,length_take->eV,getD_eq_getElem?_getD->eW,map_append->fn,mem_cons_self->fD,range->f0,mem_map->gi,mem_append->gZ,map_map->g6,length_nil->js,not_mem_nil->j0,append_nil->kO,getElem?_eq_none->lJ,append_assoc->lM,length_replicate->lO,mem_of_getElem?->mG,getElem?_eq_some_iff->mH,size_toArray->mL,mem_range->mM,mem_append_right->nM,take_of_length_le->nN,isEmpty_iff->nO,mem_range'->nW,mem_filter->oZ,mem_singleton->o0,mem_filterMap->o6,lookup_cons->pT,getElem_of_mem->pV,mem_of_mem_drop->pW,nodup_cons->rC,ext_getElem?->rE,cons_append->rN,zipWith->rT,map_drop->rU,length_set->tS,foldl_cons->tT,map_nil->tU,getElem?_drop->tV,getElem?_take->ue,reverse_cons->wx,drop_eq_nil_of_le->wD,toArray->wE,getElem_mem->wH,getElem?_zip_eq_some->wQ,map_take->wU,drop_drop->ze,take_length->zg,map_congr_left->zh,map_reverse->zp,getElem?_append_left->zt,getElem?_append_right->zu,length_eq_zero_iff->Dw,forIn_cons->Dy,getElem?_range->DB,mem_reverse->DC,eq_of_mem_replicate->DH,zipWith_cons_cons->DM,rec->Ir,mem_append_left->Iy,drop_zero->IC,all_cons->ID,map_fst_zip->IE,length_reverse->IN,drop_eq_getElem_cons->IP,nodup_append->IQ,nil_append->IT,take_append_drop->IV,mem_of_mem_take->I0,map_replicate->I9,length_eq_one_iff->TD,take->TE,range'_succ->TF,tail->TG,tail_drop->TH,eq_nil_of_length_eq_zero->TK,length_range->TL,find?_cons->TY,take_sublist->T6,getElem_cons_zero->Ud,getElem_cons_succ->Uf,length_zipWith->Uk,foldl_append->Ul,mem_flatMap->Uo,take_succ_cons->Qgo,mem_range'_1->Qgp,take_add_one->Qgq,isSuffixOf_iff_suffix->Qgr,getElem?_toArray->Qgv,range_succ->Qgx,getElem?_reverse->Qgy,drop_length->QgL,getElem?_replicate->QgQ,zip_cons_cons->QgT,findSome?_cons->QgU,nodup_range->QgW,getElem?_inj->QgX,rel_of_pairwise_cons->QgZ,perm_ext_iff_of_nodup->Qg1,filter_cons->Qg3,filter_congr->Qg4,range_eq_range'->Qg5,mem_of_find?_eq_some->Qg6,pairwise_cons->Qg9,getElem?_replicate_of_lt->Qhd,length_zip->Qhi,getElem_zipWith->Qhm,range'_eq_map_range->Qhn,flatMap_cons->Qhp,drop_append_of_le_length->Qhq,isPrefixOf_cons₂->Qhr,length_singleton->Qhs
open Array renaming mk->bt,getD_eq_getD_getElem?->rO,toList_inj->zc,getElem?_toList->TU,getElem?_eq_getElem->Ua,toList_append->Qgw,perm_iff_toList_perm->QgV,length_toList->QgY,mem_toList_iff->Qg7,find?_toList->Qg8,empty_append->Qhj
open PySem.PyData renaming int->bQ,casesOn->mE,eqv->tQ,list->ui,depthAll->wF,canLayAll0->wG,str->wO,depth->DO,eqvAll->DP,bool->Ix,canLay0->Um
open Or renaming elim->bX
open PySem.W renaming boot_o_0->bY,boot_o_2->cp,boot_o_6->cq,boot_o_10->cr,boot_o_1->de,boot_o_4->eG,Frag->eX,boot_o_5->fg,mg_of->fh,topFrame->f6,boot_o_9->gj,boot_o_8->gM,boot_o_7->ip,KasT->kL,segRunT->nV,kas_sort->oY,kas_place->pa,kas_rev->pZ,looks_pair->qc,WShape->qf,kas_asc->rL,kas_count->rM,topRun->rP,kas_desc->uf,boot_heap->uh,deadEnd->wR,restOf->wS,kas_descPart->DI,segRun_of->DJ,WellAll->DL
open Nat renaming le_refl->dj,mul_comm->fm,beq->fJ,zero_add->gB,mod_lt->im,not_lt_zero->iT,two_pow_pos->jv,pow_add->jZ,succ->kN,div_add_mod->lH,mul_le_mul_right->lI,ne_of_lt->lK,add_mul->lP,lt_irrefl->mI,lt_of_lt_of_le->nK,le_trans->nR,pow_le_pow_right->nY,mul_assoc->nZ,mul_add->qd,div_lt_iff_lt_mul->qe,mod_eq_of_lt->qg,mul_le_mul_left->rR,pow_mul->rS,add_zero->rV,zero_le->tW,zero_mul->uj,rec->y9,mul_one->zv,add_comm->zy,one_mul->zA,pow_succ->zB,two_mul->zC,add_sub_cancel->zD,log2_lt->Dt,not_lt->Du,le_of_lt->Dv,lt_succ_of_lt->DE,mul_le_mul->DN,add_right_comm->DQ,mod_two_eq_zero_or_one->Iz,sub_mul->I4,le_mul_of_pos_left->I5,mul_pos->I6,div_mod_unique->I7,lt_of_le_of_lt->I8,le_total->Tj,sub_add_cancel->Tk,min_eq_left->Tl,min_eq_right->Tm,succ_mul->Tn,lt_succ_self->TX,add_right_cancel_iff->T1,reduceAdd->Ub,zero_lt_succ->Uc,reduceLT->Ue,mul_lt_mul_of_pos_right->Uh,and_two_pow_sub_one_eq_mod->Ui,add_assoc->Uj,lt_log2_self->Qgm,not_succ_le_self->QgD,le_of_ble_eq_true->Qg2,eq_of_testBit_eq->Qha,testBit_div_two_pow->Qhb,testBit_mod_two_pow->Qhc,div_eq_of_lt->Qhe,le_mul_of_pos_right->Qhf,mul_add_mod_self_right->Qhl,pow_lt_pow_right->Qho,add_left_cancel->Qht
open Prod.mk renaming inj->dx,injEq->zx
open Prod renaming rec->eu
open Int renaming ofNat->fe,toNat_natCast->jY,le_of_lt->mC,natCast_mul->mJ,natCast_nonneg->rt,ofNat_le->ry,ofNat_inj->rz,le_of_eq->tM,ofNat_lt->tN,mul_comm->wr,le_trans->wt,natCast_pow->wT,pow_succ->zw,le_refl->Do,max_eq_right->Dp,pow_pos->Ds,toNat_of_nonneg->Dx,max_eq_left->Iu,natAbs_of_nonneg->Iv,pow_add->IY,eq_ofNat_of_zero_le->I2,natAbs_natCast->I3,add_mul->Tf,neg_one_mul->Tg,add_zero->Th,mul_one->Ti,sub_mul->Ug,lt_or_gt_of_ne->Qgd,negSucc_lt_zero->Qge,min_eq_right->Qgf,le_sub_one_of_lt->Qgg,emod_lt_of_pos->Qgh,eq_of_mul_eq_mul_left->Qgi,mul_le_mul_of_nonneg_right->Qgn,natCast_ediv->Qhg,natCast_emod->Qhh
open PySem.Heap renaming lt_size->fK,get?_push_size->g5,get?_push_of_some->jr,SameBut->mF,size_push->TM,size_update->T8,get?_update_self->QgP,get?_push_ne->QgR,get?_update_ne->QgS
open False renaming elim->fZ
open True renaming intro->io
open Ne renaming symm->ju
open PySem.Value renaming isInt->o7,isStrOf->IW,int->TI,bool->TJ,none->T7
open PySem.Builtin.Str renaming strKind->rJ,strSliceIndices->IG
open PySem.NameKind renaming free->tZ,cell->TO
open PySem.Obj renaming mapSeq->ud
open PySem.Txt renaming lower->ww
open PySem.Builtin.Int renaming intBits->wy
open PySem.Builtin renaming bitNot->wz,bitAnd->TC,bitOr->Qgj,bitXor->Qgk,divisionGoesByPylong->Qgl
open PySem.Expr renaming casesOn->wL,Name->Tp,Attribute->Tq,Dict->Ts,Slice->Tt,Constant->Tu,Tuple->Tv,List->Tw,Call->Tx,UnaryOp->Tz,Subscript->TA
open PySem.Value.ref renaming inj->zr
open Nat.succ renaming inj->Dq
open List.cons renaming inj->DF,injEq->Un
open PySem.Calls renaming callWith_function->IL,callWith_builtin->TS,spliced_nil->QgG
open Int.ofNat renaming inj->To
open PyProof.Rows renaming neg_int->TP
open PySem.Heap.SameBut renaming update->T5
open PySem.Around renaming under_plainId->Qgs
open PySem.SeqAt renaming compareEq_reads->Qgt,compareNe_reads->Qgu
open PySem.Heap.IsSliceOf renaming new->QgC
open ForInStep renaming yield->QgH
open PySem.ScopeKind renaming function->QgI
open PySem.Data.dict renaming inj->QgO
open List.Pairwise renaming of_cons->Qg0
open PySem.PyData.list renaming inj->QjI
open PySem.Data.fields renaming inj->QjJ
noncomputable section
open PySem PySem.W PyProof.Rows
namespace Mine
theorem aw{c:Prop}{h:Decidable c}(hc:c){α:Sort _}{t e:α}:ite c t e=t:=if_pos hc
theorem az{c:Prop}{h:Decidable c}(hc:¬c){α:Sort _}{t e:α}:ite c t e=e:=if_neg hc
theorem bl{p:Prop}[Decidable p]:(decide p=ae)=p:=decide_eq_true_eq
theorem bV{α:Type _}[BEq α][LawfulBEq α]{a b:α}:(a==b)=ae<->a=b:=beq_iff_eq
theorem d6{p:Prop}[h:Decidable p](k:p):decide p=ae:=decide_eq_true k
theorem eP{p:Prop}[h:Decidable p](k:¬p):decide p=af:=decide_eq_false k
section
@[elab_as_elim] theorem ag {α:Sort _} {a b:α} {P:α->Prop} (h:a=b) (m:P b):P a:=h▸m
@[elab_as_elim] theorem a8 {α:Sort _} {a b:α} {P:α->Prop} (h:a=b) (m:P a):P b:=h▸m
@[elab_as_elim] theorem oc {α:Type _} {P:Option α->Prop} (o:Option α) (h1:o=ac->P ac) (h2:∀a,o=aa a->P (aa a)):P o:=by cases o with|none=>exact h1 rfl|some a=>exact h2 a rfl
theorem aF{P Q g:Prop}(h:P/\Q)(z:P->Q->g):g:=z h.1 h.2
theorem eQ{P Q R g:Prop}(h:P/\Q/\R)(z:P->Q->R->g):g:=z h.1 h.2.1 h.2.2
theorem og{P Q R S g:Prop}(h:P/\Q/\R/\S)(z:P->Q->R->S->g):g:=z h.1 h.2.1 h.2.2.1 h.2.2.2
theorem Kn{P Q R S T g:Prop}(h:P/\Q/\R/\S/\T)(z:P->Q->R->S->T->g):g:=z h.1 h.2.1 h.2.2.1 h.2.2.2.1 h.2.2.2.2
theorem VK{P Q R S T U g:Prop}(h:P/\Q/\R/\S/\T/\U)(z:P->Q->R->S->T->U->g):g:=z h.1 h.2.1 h.2.2.1 h.2.2.2.1 h.2.2.2.2.1 h.2.2.2.2.2
theorem aD{α:Sort _}{P:α->Prop}{g:Prop}(h:∃a,P a)(z:∀a,P a->g):g:=h.elim λa h=>z a h
theorem bC{α:Sort _}{P:α->Prop}(a:α)(h0:P a):∃a,P a:=⟨a,h0⟩
theorem ai{α:Sort _}{P Q:α->Prop}{g:Prop}(h:∃a,P a/\Q a)(z:∀a,P a->Q a->g):g:=h.elim λa h=>z a h.1 h.2
theorem aO{α:Sort _}{P Q:α->Prop}(a:α)(h0:P a)(h1:Q a):∃a,P a/\Q a:=⟨a,h0,h1⟩
theorem l4{α:Sort _}{P Q R:α->Prop}{g:Prop}(h:∃a,P a/\Q a/\R a)(z:∀a,P a->Q a->R a->g):g:=h.elim λa h=>z a h.1 h.2.1 h.2.2
theorem kc{α:Sort _}{P Q R:α->Prop}(a:α)(h0:P a)(h1:Q a)(h2:R a):∃a,P a/\Q a/\R a:=⟨a,h0,h1,h2⟩
theorem fy{α:Sort _}{P Q R S:α->Prop}{g:Prop}(h:∃a,P a/\Q a/\R a/\S a)(z:∀a,P a->Q a->R a->S a->g):g:=h.elim λa h=>z a h.1 h.2.1 h.2.2.1 h.2.2.2
theorem oh{α:Sort _}{P Q R S:α->Prop}(a:α)(h0:P a)(h1:Q a)(h2:R a)(h3:S a):∃a,P a/\Q a/\R a/\S a:=⟨a,h0,h1,h2,h3⟩
theorem Ez{α:Sort _}{P Q R S T:α->Prop}{g:Prop}(h:∃a,P a/\Q a/\R a/\S a/\T a)(z:∀a,P a->Q a->R a->S a->T a->g):g:=h.elim λa h=>z a h.1 h.2.1 h.2.2.1 h.2.2.2.1 h.2.2.2.2
theorem Ko{α:Sort _}{P Q R S T:α->Prop}(a:α)(h0:P a)(h1:Q a)(h2:R a)(h3:S a)(h4:T a):∃a,P a/\Q a/\R a/\S a/\T a:=⟨a,h0,h1,h2,h3,h4⟩
theorem fi{α β:Sort _}{P:α->β->Prop}{g:Prop}(h:∃a b,P a b)(z:∀a b,P a b->g):g:=h.elim λa h=>h.elim λb h=>z a b h
theorem eR{α β:Sort _}{P:α->β->Prop}(a:α)(b:β)(h0:P a b):∃a b,P a b:=⟨a,b,h0⟩
theorem d7{α β:Sort _}{P Q:α->β->Prop}{g:Prop}(h:∃a b,P a b/\Q a b)(z:∀a b,P a b->Q a b->g):g:=h.elim λa h=>h.elim λb h=>z a b h.1 h.2
theorem hU{α β:Sort _}{P Q:α->β->Prop}(a:α)(b:β)(h0:P a b)(h1:Q a b):∃a b,P a b/\Q a b:=⟨a,b,h0,h1⟩
theorem cY{α β:Sort _}{P Q R:α->β->Prop}{g:Prop}(h:∃a b,P a b/\Q a b/\R a b)(z:∀a b,P a b->Q a b->R a b->g):g:=h.elim λa h=>h.elim λb h=>z a b h.1 h.2.1 h.2.2
theorem gO{α β:Sort _}{P Q R:α->β->Prop}(a:α)(b:β)(h0:P a b)(h1:Q a b)(h2:R a b):∃a b,P a b/\Q a b/\R a b:=⟨a,b,h0,h1,h2⟩
theorem Kp{α β:Sort _}{P Q R S:α->β->Prop}{g:Prop}(h:∃a b,P a b/\Q a b/\R a b/\S a b)(z:∀a b,P a b->Q a b->R a b->S a b->g):g:=h.elim λa h=>h.elim λb h=>z a b h.1 h.2.1 h.2.2.1 h.2.2.2
theorem EA{α β:Sort _}{P Q R S:α->β->Prop}(a:α)(b:β)(h0:P a b)(h1:Q a b)(h2:R a b)(h3:S a b):∃a b,P a b/\Q a b/\R a b/\S a b:=⟨a,b,h0,h1,h2,h3⟩
theorem EB{α β:Sort _}{P Q R S T:α->β->Prop}{g:Prop}(h:∃a b,P a b/\Q a b/\R a b/\S a b/\T a b)(z:∀a b,P a b->Q a b->R a b->S a b->T a b->g):g:=h.elim λa h=>h.elim λb h=>z a b h.1 h.2.1 h.2.2.1 h.2.2.2.1 h.2.2.2.2
theorem Kq{α β:Sort _}{P Q R S T:α->β->Prop}(a:α)(b:β)(h0:P a b)(h1:Q a b)(h2:R a b)(h3:S a b)(h4:T a b):∃a b,P a b/\Q a b/\R a b/\S a b/\T a b:=⟨a,b,h0,h1,h2,h3,h4⟩
theorem VL{α β:Sort _}{P Q R S T U:α->β->Prop}{g:Prop}(h:∃a b,P a b/\Q a b/\R a b/\S a b/\T a b/\U a b)(z:∀a b,P a b->Q a b->R a b->S a b->T a b->U a b->g):g:=h.elim λa h=>h.elim λb h=>z a b h.1 h.2.1 h.2.2.1 h.2.2.2.1 h.2.2.2.2.1 h.2.2.2.2.2
theorem pj{α β γ:Sort _}{P:α->β->γ->Prop}{g:Prop}(h:∃a b c,P a b c)(z:∀a b c,P a b c->g):g:=h.elim λa h=>h.elim λb h=>h.elim λc h=>z a b c h
theorem Ai{α β γ:Sort _}{P:α->β->γ->Prop}(a:α)(b:β)(c:γ)(h0:P a b c):∃a b c,P a b c:=⟨a,b,c,h0⟩
theorem xk{α β γ:Sort _}{P Q:α->β->γ->Prop}{g:Prop}(h:∃a b c,P a b c/\Q a b c)(z:∀a b c,P a b c->Q a b c->g):g:=h.elim λa h=>h.elim λb h=>h.elim λc h=>z a b c h.1 h.2
theorem k7{α β γ:Sort _}{P Q R:α->β->γ->Prop}{g:Prop}(h:∃a b c,P a b c/\Q a b c/\R a b c)(z:∀a b c,P a b c->Q a b c->R a b c->g):g:=h.elim λa h=>h.elim λb h=>h.elim λc h=>z a b c h.1 h.2.1 h.2.2
theorem xm{α β γ:Sort _}{P Q R:α->β->γ->Prop}(a:α)(b:β)(c:γ)(h0:P a b c)(h1:Q a b c)(h2:R a b c):∃a b c,P a b c/\Q a b c/\R a b c:=⟨a,b,c,h0,h1,h2⟩
theorem dc{α β γ:Sort _}{P Q R S:α->β->γ->Prop}{g:Prop}(h:∃a b c,P a b c/\Q a b c/\R a b c/\S a b c)(z:∀a b c,P a b c->Q a b c->R a b c->S a b c->g):g:=h.elim λa h=>h.elim λb h=>h.elim λc h=>z a b c h.1 h.2.1 h.2.2.1 h.2.2.2
theorem jE{α β γ:Sort _}{P Q R S:α->β->γ->Prop}(a:α)(b:β)(c:γ)(h0:P a b c)(h1:Q a b c)(h2:R a b c)(h3:S a b c):∃a b c,P a b c/\Q a b c/\R a b c/\S a b c:=⟨a,b,c,h0,h1,h2,h3⟩
theorem Kr{α β γ:Sort _}{P Q R S T:α->β->γ->Prop}{g:Prop}(h:∃a b c,P a b c/\Q a b c/\R a b c/\S a b c/\T a b c)(z:∀a b c,P a b c->Q a b c->R a b c->S a b c->T a b c->g):g:=h.elim λa h=>h.elim λb h=>h.elim λc h=>z a b c h.1 h.2.1 h.2.2.1 h.2.2.2.1 h.2.2.2.2
theorem uQ{α β γ:Sort _}{P Q R S T:α->β->γ->Prop}(a:α)(b:β)(c:γ)(h0:P a b c)(h1:Q a b c)(h2:R a b c)(h3:S a b c)(h4:T a b c):∃a b c,P a b c/\Q a b c/\R a b c/\S a b c/\T a b c:=⟨a,b,c,h0,h1,h2,h3,h4⟩
theorem uR{α β γ δ:Sort _}{P:α->β->γ->δ->Prop}{g:Prop}(h:∃a b c d,P a b c d)(z:∀a b c d,P a b c d->g):g:=h.elim λa h=>h.elim λb h=>h.elim λc h=>h.elim λd h=>z a b c d h
theorem EC{α β γ δ:Sort _}{P:α->β->γ->δ->Prop}(a:α)(b:β)(c:γ)(d:δ)(h0:P a b c d):∃a b c d,P a b c d:=⟨a,b,c,d,h0⟩
theorem ED{α β γ δ:Sort _}{P Q R S:α->β->γ->δ->Prop}{g:Prop}(h:∃a b c d,P a b c d/\Q a b c d/\R a b c d/\S a b c d)(z:∀a b c d,P a b c d->Q a b c d->R a b c d->S a b c d->g):g:=h.elim λa h=>h.elim λb h=>h.elim λc h=>h.elim λd h=>z a b c d h.1 h.2.1 h.2.2.1 h.2.2.2
theorem EE{α β γ δ:Sort _}{P Q R S:α->β->γ->δ->Prop}(a:α)(b:β)(c:γ)(d:δ)(h0:P a b c d)(h1:Q a b c d)(h2:R a b c d)(h3:S a b c d):∃a b c d,P a b c d/\Q a b c d/\R a b c d/\S a b c d:=⟨a,b,c,d,h0,h1,h2,h3⟩
theorem xn{α β γ δ:Sort _}{P Q R S T:α->β->γ->δ->Prop}(a:α)(b:β)(c:γ)(d:δ)(h0:P a b c d)(h1:Q a b c d)(h2:R a b c d)(h3:S a b c d)(h4:T a b c d):∃a b c d,P a b c d/\Q a b c d/\R a b c d/\S a b c d/\T a b c d:=⟨a,b,c,d,h0,h1,h2,h3,h4⟩
theorem Ks{α β γ δ ε:Sort _}{P:α->β->γ->δ->ε->Prop}{g:Prop}(h:∃a b c d e,P a b c d e)(z:∀a b c d e,P a b c d e->g):g:=h.elim λa h=>h.elim λb h=>h.elim λc h=>h.elim λd h=>h.elim λe h=>z a b c d e h
theorem VM{α β γ δ ε:Sort _}{P:α->β->γ->δ->ε->Prop}(a:α)(b:β)(c:γ)(d:δ)(e:ε)(h0:P a b c d e):∃a b c d e,P a b c d e:=⟨a,b,c,d,e,h0⟩
theorem Kt{α β γ δ ε ζ:Sort _}{P:α->β->γ->δ->ε->ζ->Prop}{g:Prop}(h:∃a b c d e f,P a b c d e f)(z:∀a b c d e f,P a b c d e f->g):g:=h.elim λa h=>h.elim λb h=>h.elim λc h=>h.elim λd h=>h.elim λe h=>h.elim λf h=>z a b c d e f h
theorem Ku{α β γ δ ε ζ:Sort _}{P:α->β->γ->δ->ε->ζ->Prop}(a:α)(b:β)(c:γ)(d:δ)(e:ε)(f:ζ)(h0:P a b c d e f):∃a b c d e f,P a b c d e f:=⟨a,b,c,d,e,f,h0⟩
theorem Kv{α β γ δ ε ζ:Sort _}{P Q R S T U V:α->β->γ->δ->ε->ζ->Prop}{g:Prop}(h:∃a b c d e f,P a b c d e f/\Q a b c d e f/\R a b c d e f/\S a b c d e f/\T a b c d e f/\U a b c d e f/\V a b c d e f)(z:∀a b c d e f,P a b c d e f->Q a b c d e f->R a b c d e f->S a b c d e f->T a b c d e f->U a b c d e f->V a b c d e f->g):g:=h.elim λa h=>h.elim λb h=>h.elim λc h=>h.elim λd h=>h.elim λe h=>h.elim λf h=>z a b c d e f h.1 h.2.1 h.2.2.1 h.2.2.2.1 h.2.2.2.2.1 h.2.2.2.2.2.1 h.2.2.2.2.2.2
inductive Lx where|v (i:Nat)|k (c:Nat)|b (o:Nat) (e f:Lx)
structure Lc where
 t:Bool
 r:Nat
 e:Lx
 f:Lx
inductive Tr where|leaf (m:Nat)|sub (x y:Lx) (l r:Tr)|ne (j:Nat) (l r:Tr)|dm (b:Bool) (x:Lx) (c:Nat) (t:Tr)|tn (x:Lx) (l r:Tr)|mm (b:Bool) (x y:Lx) (l r:Tr)
noncomputable def Lx.isk:Lx->Option Nat
 | .k c=>aa c
 |_=>ac
noncomputable def Lx.sk:Nat->Lx
 |0=>.k 0
 |n+1=>.k (n+1)
noncomputable def Lx.dig(b:Nat):Lx->Lx
 | .k c=>sk (8*c+b)
 |e=>e
noncomputable def Lx.kof:Lx->Nat
 | .k c=>c
 |_=>0
noncomputable abbrev xo:=List Lx
noncomputable abbrev om:=List Lc×List Tr
noncomputable def Lx.p1(k:Lx->xo->om):xo->om
 |[]=>([],[])
 |x::t=>k x t
noncomputable def Lx.p2(k:Lx->Lx->xo->om)(s:xo):om:=p1 (λy t=>p1 (λx t=>k x y t) t) s
noncomputable def Lx.q1(k:Tr->List Tr->om):List Tr->om
 |[]=>([],[])
 |x::t=>k x t
noncomputable def Lx.q2(k:Tr->Tr->List Tr->om)(s:List Tr):om:=q1 (λr t=>q1 (λl t=>k l r t) t) s
noncomputable def Lx.run:Nat->Nat->xo->List Lc->List Tr->om
 |0,_,_,o,ts=>(o,ts)
 |j+1,z,st,o,ts=>
  cond (z==0) (o,ts)<|
  cond (z%8==0) (run j (z/64) (.v (z/8%8)::st) o ts)<|
  cond (z%8==1) (run j (z/64) (.k (z/8%8)::st) o ts)<|
  cond (z%8==2) (p1 (λc st=>run j (z/64) (dig (z/8%8) c::st) o ts) st)<|
  cond (z%8==3) (p2 (λx y st=>run j (z/64) (.b (z/8%8) x y::st) o ts) st)<|
  cond (z%8==6) (p2 (λx y st=>run j (z/64) st (⟨ae,z/8%8,x,y⟩::o) ts) st)<|
  cond (z%8==7) (p2 (λx y st=>run j (z/64) st (⟨af,z/8%8,x,y⟩::o) ts) st)<|
  cond (z%8==4) (
   cond (z/8%8==5) (p1 (λx st=>run j (z/64) (.b 6 x (.k 0)::st) o ts) st)<|
   cond (z/8%8==6) (p2 (λx y st=>run j (z/64) (.b 8 x y::st) o ts) st)<|
   cond (z/8%8==7) (p1 (λx st=>run j (z/64) (.b 5 x (.k 0)::st) o ts) st)
    (run j (z/64) (.v (8+z/8%8)::st) o ts))<|
  cond (z/8%8==0) (p1 (λx st=>run j (z/64) st o (.leaf (kof x)::ts)) st)<|
  cond (z/8%8==1) (p2 (λx y st=>q2 (λl r ts=>run j (z/64) st o (.mm ae x y l r::ts)) ts) st)<|
  cond (z/8%8==2) (p2 (λx y st=>q2 (λl r ts=>run j (z/64) st o (.sub x y l r::ts)) ts) st)<|
  cond (z/8%8==3) (p1 (λx st=>q2 (λl r ts=>run j (z/64) st o (.ne (kof x) l r::ts)) ts) st)<|
  cond (z/8%8==4) (p2 (λx y st=>q1 (λt ts=>run j (z/64) st o (.dm ae x (kof y) t::ts)) ts) st)<|
  cond (z/8%8==5) (p2 (λx y st=>q1 (λt ts=>run j (z/64) st o (.dm af x (kof y) t::ts)) ts) st)<|
  cond (z/8%8==6) (p1 (λx st=>q2 (λl r ts=>run j (z/64) st o (.tn x l r::ts)) ts) st)
   (p2 (λx y st=>q2 (λl r ts=>run j (z/64) st o (.mm af x y l r::ts)) ts) st)
noncomputable def Lx.dec(n:Nat):om:=Lx.run 500 n [] [] []
noncomputable def Lx.nth{α:Type}(z:α):List α->Nat->α
 |[],_=>z
 |x::t,i=>match i with|0=>x|i+1=>nth z t i
noncomputable def Lx.val(l:List Nat)(m:List Int)(e:Lx):Nat×Int:=
 @Lx.rec (λ_=>Nat×Int) (λi=>((@Ir Nat (λ_=>Nat->Nat) (λ_=>0) (λx _ ih i=>@y9 (λ_=>Nat) x (λj _=>ih j) i) l i),(@Ir Int (λ_=>Nat->Int) (λ_=>0) (λx _ ih i=>@y9 (λ_=>Int) x (λj _=>ih j) i) m i)))
  (λc=>(c,fe c))
  (λo _ _ x y=>((@fY (λ_=>Nat) (@fY (λ_=>Nat) (@fY (λ_=>Nat) (@fY (λ_=>Nat) (@fY (λ_=>Nat) (@fY (λ_=>Nat) (@fY (λ_=>Nat) (min (@eu Nat Int (λ_=>Nat) (λa _=>a) x) (@eu Nat Int (λ_=>Nat) (λa _=>a) y)) (max (@eu Nat Int (λ_=>Nat) (λa _=>a) x) (@eu Nat Int (λ_=>Nat) (λa _=>a) y)) (fJ o 7)) (Int.toNat (@eu Nat Int (λ_=>Int) (λ_ b=>b) x)) (fJ o 6)) ((@eu Nat Int (λ_=>Nat) (λa _=>a) x)%(@eu Nat Int (λ_=>Nat) (λa _=>a) y)) (fJ o 4)) ((@eu Nat Int (λ_=>Nat) (λa _=>a) x)/(@eu Nat Int (λ_=>Nat) (λa _=>a) y)) (fJ o 3)) ((@eu Nat Int (λ_=>Nat) (λa _=>a) x)*(@eu Nat Int (λ_=>Nat) (λa _=>a) y)) (fJ o 2)) ((@eu Nat Int (λ_=>Nat) (λa _=>a) x)-(@eu Nat Int (λ_=>Nat) (λa _=>a) y)) (fJ o 1)) ((@eu Nat Int (λ_=>Nat) (λa _=>a) x)+(@eu Nat Int (λ_=>Nat) (λa _=>a) y)) (fJ o 0)),
   (@fY (λ_=>Int) (@fY (λ_=>Int) (@fY (λ_=>Int) (@fY (λ_=>Int) (@fY (λ_=>Int) (@fY (λ_=>Int) (@fY (λ_=>Int) (@fY (λ_=>Int) (min (@eu Nat Int (λ_=>Int) (λ_ b=>b) x) (@eu Nat Int (λ_=>Int) (λ_ b=>b) y)) (max (@eu Nat Int (λ_=>Int) (λ_ b=>b) x) (@eu Nat Int (λ_=>Int) (λ_ b=>b) y)) (fJ o 7)) ((@eu Nat Int (λ_=>Nat) (λa _=>a) x):Int) (fJ o 6)) (-(@eu Nat Int (λ_=>Int) (λ_ b=>b) x)) (fJ o 5)) ((@eu Nat Int (λ_=>Int) (λ_ b=>b) x)%(@eu Nat Int (λ_=>Int) (λ_ b=>b) y)) (fJ o 4)) ((@eu Nat Int (λ_=>Int) (λ_ b=>b) x)/(@eu Nat Int (λ_=>Int) (λ_ b=>b) y)) (fJ o 3)) ((@eu Nat Int (λ_=>Int) (λ_ b=>b) x)*(@eu Nat Int (λ_=>Int) (λ_ b=>b) y)) (fJ o 2)) ((@eu Nat Int (λ_=>Int) (λ_ b=>b) x)-(@eu Nat Int (λ_=>Int) (λ_ b=>b) y)) (fJ o 1)) ((@eu Nat Int (λ_=>Int) (λ_ b=>b) x)+(@eu Nat Int (λ_=>Int) (λ_ b=>b) y)) (fJ o 0)))) e
noncomputable def Lx.nv(l:List Nat)(m:List Int)(e:Lx):Nat:=(@eu Nat Int (λ_=>Nat) (λa _=>a) (val l m e))
noncomputable def Lx.iv(l:List Nat)(m:List Int)(e:Lx):Int:=(@eu Nat Int (λ_=>Int) (λ_ b=>b) (val l m e))
def Lx.rel{α:Type}[LE α][LT α](r:Nat)(x y:α):Prop:=(@fY (λ_=>Prop) (@fY (λ_=>Prop) (@fY (λ_=>Prop) (@fY (λ_=>Prop) (@fY (λ_=>Prop) (@fY (λ_=>Prop) (@fY (λ_=>Prop) (x≠y) (x=y) (fJ r 6)) False (fJ r 5)) (¬x<y) (fJ r 4)) (¬x<=y) (fJ r 3)) (x=y) (fJ r 2)) (x<y) (fJ r 1)) (x<=y) (fJ r 0))
noncomputable def Lx.beq:Lx->Lx->Bool
 | .v i,y=>match y with| .v j=>i==j|_=>af
 | .k i,y=>match y with| .k j=>i==j|_=>af
 | .b o e f,y=>match y with| .b p g h=>o==p&&beq e g&&beq f h|_=>af
noncomputable abbrev LP:=List ((Bool×Lx)×Int)
noncomputable def Lx.beqk(x y:Bool×Lx):Bool:=x.1==y.1&&x.2.beq y.2
noncomputable def uU(x:Bool×Lx)(c:Int):LP->LP
 |[]=>[(x,c)]
 |y::p=>cond (Lx.beqk x y.1) ((y.1,y.2+c)::p) (y::uU x c p)
noncomputable def iZ:LP->LP->LP
 |[],q=>q
 |x::p,q=>uU x.1 x.2 (iZ p q)
noncomputable def i4(c:Int):LP->LP
 |[]=>[]
 |x::p=>(x.1,c*x.2)::i4 c p
def l5(p q:LP):LP:=iZ p (i4 (-1) q)
noncomputable def Lx.lin(e:Lx)(eM:Bool):LP:=match e with
 | .v i=>[((eM,.v i),1)]
 | .k c=>[((ae,.k 1),c)]
 | .b o e f=>cond (o==0) (iZ (lin e eM) (lin f eM))<|
  cond (o==1&& !eM) (l5 (lin e eM) (lin f eM))<|
  cond (o==5&& !eM) (i4 (-1) (lin e eM))<|
  cond (o==6&& !eM) (lin e ae)<|
  cond (o==2) (match isk e with
   |some c=>i4 c (lin f eM)
   |none=>match isk f with
    |some c=>i4 c (lin e eM)
    |none=>[((eM,.b o e f),1)]) [((eM,.b o e f),1)]
noncomputable def Lx.kone:Bool×Lx:=(ae,.k 1)
noncomputable def Lx.one:LP:=[(kone,1)]
def Lc.d(c:Lc):LP:=l5 (c.e.lin c.t) (c.f.lin c.t)
def Lc.d'(c:Lc):LP:=l5 (c.f.lin c.t) (c.e.lin c.t)
def Lc.lo(c:Lc):LP:=
 cond (c.r==0||c.r==2) c.d<|
 cond (c.r==1) (iZ Lx.one c.d)<|
 cond (c.r==3) (iZ Lx.one c.d')<|
 cond (c.r==4||c.r==6) c.d' []
noncomputable def Lc.negs(c:Lc):List Lc:=
 cond (c.r==0) [⟨c.t,3,c.e,c.f⟩]<|cond (c.r==1) [⟨c.t,4,c.e,c.f⟩]<|cond (c.r==3) [⟨c.t,0,c.e,c.f⟩]<|
 cond (c.r==4) [⟨c.t,1,c.e,c.f⟩]<|cond (c.r==2||c.r==6) [⟨c.t,7,c.e,c.f⟩]<|cond (c.r==5) [] [⟨c.t,2,c.e,c.f⟩,⟨c.t,6,c.e,c.f⟩]
noncomputable def Lx.all1:LP->Bool
 |[]=>ae
 |x::p=>cond (beqk kone x.1) (decide (0<x.2)) (cond x.1.1 (decide (0<=x.2)) (decide (x.2=0)))&&all1 p
noncomputable def Lx.any1:LP->Bool
 |[]=>af
 |x::p=>beqk kone x.1||any1 p
noncomputable def Lx.comb:List LP->Nat->LP
 |[],_=>[]
 |p::ks,m=>iZ (i4 ((m%8:Nat):Int) p) (comb ks (m/8))
noncomputable def Lx.z0:Lc:=⟨ae,5,.k 0,.k 0⟩
def Lx.eq2(p q:LP)(ks:List LP):List LP:=l5 p q::l5 q p::ks
noncomputable def Lx.k0:Lx:=.k 0
noncomputable def Tr.chk(o:List Lc):Tr->List LP->Bool
 | .leaf m,ks=>Lx.all1 (Lx.comb ks m)&&Lx.any1 (Lx.comb ks m)
 | .sub x y l r,ks=>chk o l (Lx.eq2 (x.lin ae) (iZ ((Lx.b 1 x y).lin ae) (y.lin ae)) ks)&&chk o r ((Lx.b 1 x y).lin ae::l5 (x.lin ae) (y.lin ae)::ks)
 | .ne j l r,ks=>(Lx.nth Lx.z0 o j).r ==7&&(chk o l (iZ Lx.one (Lx.nth Lx.z0 o j).d ::ks)&&chk o r (iZ Lx.one (Lx.nth Lx.z0 o j).d' ::ks))
 | .dm b x c t,ks=> !(c==0)&&chk o t (Lx.eq2 (iZ (i4 c ((Lx.b 3 x (.k c)).lin b)) ((Lx.b 4 x (.k c)).lin b)) (x.lin b)
   (l5 ((Lx.b 4 x (.k c)).lin b) [(Lx.kone,(c:Int)-1)]::i4 (-1) ((Lx.b 4 x (.k c)).lin b)::ks))
 | .tn x l r,ks=>chk o l (Lx.eq2 ((Lx.b 6 x Lx.k0).lin ae) (x.lin af) (i4 (-1) (x.lin af)::ks))&&chk o r ((Lx.b 6 x Lx.k0).lin ae::x.lin af::ks)
 | .mm b x y l r,ks=>chk o l (Lx.eq2 ((Lx.b 7 x y).lin b) (y.lin b) (Lx.eq2 ((Lx.b 8 x y).lin b) (x.lin b) (l5 (x.lin b) (y.lin b)::ks)))
   &&chk o r (Lx.eq2 ((Lx.b 7 x y).lin b) (x.lin b) (Lx.eq2 ((Lx.b 8 x y).lin b) (y.lin b) (l5 (y.lin b) (x.lin b)::ks)))
noncomputable def Lx.los:List Lc->List LP
 |[]=>[]
 |c::o=>c.lo::los o
noncomputable def Lx.ap:List Lc->List Lc->List Lc
 |[],q=>q
 |x::p,q=>x::ap p q
noncomputable def Tr.top:List Tr->Tr
 |[]=>.leaf 1317624576693539401
 |t::_=>t
noncomputable def Lx.hd:List Lc->Lc
 |[]=>z0
 |c::_=>c
noncomputable def Lx.tl:List Lc->List Lc
 |[]=>[]
 |_::o=>o
noncomputable def Lx.chk(n:Nat):Bool:=(Tr.top (dec n).2).chk (ap (hd (dec n).1).negs (tl (dec n).1)) (los (ap (hd (dec n).1).negs (tl (dec n).1)))
structure Vok(w:Bool->Lx->Int):Prop where
 k:∀b c,w b (.k c)=c
 a:∀b e f,w b (.b 0 e f)=w b e+w b f
 m:∀b e f,w b (.b 2 e f)=w b e*w b f
 s:∀e f,w af (.b 1 e f)=w af e-w af f
 g:∀e f,w af (.b 5 e f)= -w af e
 c:∀e f,w af (.b 6 e f)=w ae e
 p:∀e,0<=w ae e
 t:∀e f,(w ae e=w ae (.b 1 e f)+w ae f)\/(w ae (.b 1 e f)<=0/\w ae e<=w ae f)
 z:∀e f,(w ae (.b 6 e f)=w af e/\0<=w af e)\/(w ae (.b 6 e f)<=0/\w af e<=0)
 x:∀b e f,(w b e<=w b f/\w b (.b 7 e f)=w b f/\w b (.b 8 e f)=w b e)\/(w b f<=w b e/\w b (.b 7 e f)=w b e/\w b (.b 8 e f)=w b f)
 d:∀b e(c:Nat),0<c->(c:Int)*w b (.b 3 e (.k c))+w b (.b 4 e (.k c))=w b e/\w b (.b 4 e (.k c))<=(c:Int)-1/\0<=w b (.b 4 e (.k c))
noncomputable def cM(w:Bool->Lx->Int):LP->Int
 |[]=>0
 |x::p=>x.2*w x.1.1 x.1.2+cM w p
theorem VN:∀(x y:Lx),x.beq y=ae->x=y:=by
 intro x;induction x with
 |v i=>intro y h;cases y with
  |v j=>rw[eq_of_beq (show(i==j)=ae from h)]
  |k j=>exact iS h
  |b o e f=>exact iS h
 |k i=>intro y h;cases y with
  |k j=>rw[eq_of_beq (show(i==j)=ae from h)]
  |v j=>exact iS h
  |b o e f=>exact iS h
 |b o e f h1 h2=>intro y h;cases y with
  |v j=>exact iS h
  |k j=>exact iS h
  |b p g k=>have h':(o==p&&e.beq g&&f.beq k)=ae:=h;have a:=(eg.1 h');have b:=(eg.1 a.1);rw[eq_of_beq b.1,h1 g b.2,h2 k a.2]
theorem Kw(x y:Bool×Lx)(h:Lx.beqk x y=ae):x=y:=by have a:=eg.1 h;exact Prod.ext (eq_of_beq a.1) (VN _ _ a.2)
section
variable {w:Bool->Lx->Int}
theorem VO(x:Bool×Lx)(c:Int):∀p,cM w (uU x c p)=c*w x.1 x.2+cM w p:=by
 intro p;induction p with
 |nil=>rfl
 |cons y p ih=>
  show cM w (cond (Lx.beqk x y.1) ((y.1,y.2+c)::p) (y::uU x c p))=c*w x.1 x.2+(y.2*w y.1.1 y.1.2+cM w p)
  cases h:Lx.beqk x y.1 with
  |true=>
   show(y.2+c)*w y.1.1 y.1.2+cM w p=_
   rw[Kw x y.1 h,Tf,Int.add_comm (y.2*_),Int.add_assoc]
  |false=>
   show y.2*w y.1.1 y.1.2+cM w (uU x c p)=_
   rw[ih,Int.add_left_comm]
theorem uV(q:LP):∀p,cM w (iZ p q)=cM w p+cM w q:=by
 intro p;induction p with
 |nil=>exact(Int.zero_add _).symm
 |cons x p ih=>
  show cM w (uU x.1 x.2 (iZ p q))=x.2*w x.1.1 x.1.2+cM w p+cM w q
  rw[VO,ih,Int.add_assoc]
theorem sD(c:Int):∀p,cM w (i4 c p)=c*cM w p:=by
 intro p;induction p with
 |nil=>exact(Int.mul_zero c).symm
 |cons x p ih=>
  show c*x.2*w x.1.1 x.1.2+cM w (i4 c p)=c*(x.2*w x.1.1 x.1.2+cM w p)
  rw[ih,Int.mul_add,Int.mul_assoc]
theorem EF(p q:LP):cM w (l5 p q)=cM w p-cM w q:=by show cM w (iZ p (i4 (-1) q))=_;rw[uV,sD,Tg,Int.sub_eq_add_neg]
theorem EG(V:Vok w)(c:Int):cM w [(Lx.kone,c)]=c:=by show c*w ae (.k 1)+0=c;rw[V.k];exact(Th _).trans (Ti c)
theorem qr(b:Bool)(e:Lx):cM w [((b,e),1)]=w b e:=(Th _).trans (Int.one_mul _)
theorem Kx{e:Lx}{c:Nat}(h:e.isk=aa c):e=.k c:=by
 cases e with
 |k d=>exact congrArg Lx.k (aB h)
 |v i=>exact nomatch h
 |b o e f=>exact nomatch h
set_option tactic.hygienic true in
theorem eH(V:Vok w):∀(e:Lx)(eM:Bool),cM w (e.lin eM)=w eM e:=by
 intro e;induction e with
 |v i=>exact λeM=>qr _ _
 |k c=>exact λeM=>(EG V c).trans (V.k eM c).symm
 |b o e f i j=>
  intro eM
  rcases o with _|_|_|_|_|_|_|o
  ·exact(uV _ _).trans ((congr (congrArg HAdd.hAdd (i eM)) (j eM)).trans (V.a eM e f).symm)
  ·cases eM
   ·exact(EF _ _).trans ((congr (congrArg HSub.hSub (i af)) (j af)).trans (V.s e f).symm)
   ·exact qr _ _
  ·show cM w (match Lx.isk e with
    |some c=>i4 c (f.lin eM)
    |none=>match Lx.isk f with
     |some c=>i4 c (e.lin eM)
     |none=>[((eM,.b 2 e f),1)])=w eM (.b 2 e f)
   split
   ·next c hc=>rw[sD,j,V.m,Kx hc,V.k]
   ·split
    ·next c hc=>rw[sD,i,V.m,Kx hc,V.k,wr]
    ·exact qr _ _
  ·exact qr _ _
  ·exact qr _ _
  ·cases eM
   ·exact(sD _ _).trans ((congrArg _ (i af)).trans ((Tg _).trans (V.g e f).symm))
   ·exact qr _ _
  ·cases eM
   ·exact(i ae).trans (V.c e f).symm
   ·exact qr _ _
  ·exact qr _ _
theorem VP(V:Vok w):cM w Lx.one=1:=EG V 1
def Lc.hold(w:Bool->Lx->Int)(c:Lc):Prop:=Lx.rel c.r (w c.t c.e) (w c.t c.f)
theorem Ky(V:Vok w)(c:Lc):cM w c.d=w c.t c.e-w c.t c.f:=by show cM w (l5 (c.e.lin c.t) (c.f.lin c.t))=_;rw[EF,eH V,eH V]
theorem Kz{a b:Int}(h:a<=b):a-b<=0:=Int.sub_nonpos_of_le h
theorem VQ{a b:Int}(h:a<b):1+(a-b)<=0:=by omega
theorem EH(V:Vok w)(c:Lc)(h:w c.t c.e<w c.t c.f):cM w (iZ Lx.one c.d)<=0:=by rw[uV,VP V,Ky V];exact VQ h
theorem KA(V:Vok w)(c:Lc)(h:w c.t c.f<w c.t c.e):cM w (iZ Lx.one c.d')<=0:=EH V ⟨c.t,c.r,c.f,c.e⟩ h
theorem EI(V:Vok w)(c:Lc)(h:w c.t c.e<=w c.t c.f):cM w c.d<=0:=by rw[Ky V];exact Kz h
theorem KB(V:Vok w)(c:Lc)(h:w c.t c.f<=w c.t c.e):cM w c.d'<=0:=EI V ⟨c.t,c.r,c.f,c.e⟩ h
theorem VR(V:Vok w)(c:Lc)(h:c.hold w):cM w c.lo<=0:=by
 obtain⟨t,r,e,f⟩:=c;rcases r with _|_|_|_|_|_|_|r
 ·exact EI V ⟨t,0,e,f⟩ h
 ·exact EH V ⟨t,0,e,f⟩ h
 ·exact EI V ⟨t,0,e,f⟩ (tM h)
 ·exact KA V ⟨t,0,e,f⟩ (Int.not_le.1 h)
 ·exact KB V ⟨t,0,e,f⟩ (Int.not_lt.1 h)
 ·exact fZ h
 ·exact KB V ⟨t,0,e,f⟩ (tM (Eq.symm h))
 ·exact Do 0
noncomputable def Lx.alls{α:Type}(P:α->Prop):List α->Prop
 |[]=>True
 |x::o=>P x/\alls P o
theorem VS(c:Lc)(h:¬c.hold w):Lx.alls (Lc.hold w) c.negs:=by
 obtain⟨t,r,e,f⟩:=c;rcases r with _|_|_|_|_|_|_|r
 ·exact⟨h,trivial⟩
 ·exact⟨h,trivial⟩
 ·exact⟨h,trivial⟩
 ·exact⟨It.1 h,trivial⟩
 ·exact⟨It.1 h,trivial⟩
 ·exact trivial
 ·exact⟨h,trivial⟩
 ·exact⟨It.1 h,It.1 h,trivial⟩
abbrev sE(w:Bool->Lx->Int)(p:LP):Prop:=cM w p<=0
theorem VT(V:Vok w):∀o,Lx.alls (Lc.hold w) o->Lx.alls (sE w) (Lx.los o):=by
 intro o;induction o with
 |nil=>exact id
 |cons c o ih=>exact λh=>⟨VR V c h.1,ih h.2⟩
theorem VU:∀(ks:List LP)(m:Nat),Lx.alls (sE w) ks->cM w (Lx.comb ks m)<=0:=by
 intro ks;induction ks with
 |nil=>exact λ_ _=>Do 0
 |cons p ks ih=>
  intro m h
  show cM w (iZ (i4 ((m%8:Nat):Int) p) (Lx.comb ks (m/8)))<=0
  rw[uV,sD]
  exact Int.add_nonpos (Int.mul_nonpos_of_nonneg_of_nonpos (rt _) h.1) (ih _ h.2)
theorem VV(V:Vok w):∀p,Lx.all1 p=ae->0<=cM w p/\(Lx.any1 p=ae->0<cM w p):=by
 intro p;induction p with
 |nil=>exact λ_=>⟨Do 0,λh=>iS h⟩
 |cons x p ih=>
  intro h
  have a:=eg.1 (show(cond (Lx.beqk Lx.kone x.1) (decide (0<x.2)) (cond x.1.1 (decide (0<=x.2)) (decide (x.2=0)))&&Lx.all1 p)=ae from h)
  have b:=ih a.2
  have d:=a.1
  show 0<=x.2*w x.1.1 x.1.2+cM w p/\((Lx.beqk Lx.kone x.1||Lx.any1 p)=ae->0<x.2*w x.1.1 x.1.2+cM w p)
  cases hk:Lx.beqk Lx.kone x.1 with
  |true=>
   rw[hk]at d
   have e:=of_decide_eq_true d
   rw[<-Kw _ _ hk,show w Lx.kone.1 Lx.kone.2=1 from V.k ae 1,Ti]
   exact⟨Int.add_nonneg (mC e) b.1,λ_=>Int.add_pos_of_pos_of_nonneg e b.1⟩
  |false=>
   rw[hk]at d
   have e:0<=x.2*w x.1.1 x.1.2:=by
    cases hx:x.1.1 with
    |true=>rw[hx]at d;exact Int.mul_nonneg (of_decide_eq_true d) (V.p _)
    |false=>rw[hx]at d;rw[show x.2=0 from of_decide_eq_true d,Int.zero_mul];exact Do 0
   exact⟨Int.add_nonneg e b.1,λh=>Int.add_pos_of_nonneg_of_pos e (b.2 h)⟩
theorem VW{P:Lc->Prop}(h5:P Lx.z0->False):∀(o:List Lc)(j:Nat),Lx.alls P o->(Lx.nth Lx.z0 o j).r =7->P (Lx.nth Lx.z0 o j):=by
 intro o;induction o with
 |nil=>exact λj _ h=>nomatch h
 |cons c o ih=>
  intro j h e
  cases j with
  |zero=>exact h.1
  |succ j=>exact ih j h.2 e
theorem uW{p q:LP}(h:cM w p<=cM w q):sE w (l5 p q):=wt (tM (EF p q)) (Kz h)
theorem sF{p q:LP}{ks:List LP}(h:cM w p=cM w q)(hk:Lx.alls (sE w) ks):Lx.alls (sE w) (Lx.eq2 p q ks):=⟨uW (tM h),uW (tM h.symm),hk⟩
theorem KC{p:LP}(h:0<=cM w p):sE w (i4 (-1) p):=by show cM w _<=0;rw[sD,Tg];exact Int.neg_nonpos_of_nonneg h
theorem VX(V:Vok w)(o:List Lc)(ho:Lx.alls (Lc.hold w) o):∀(t:Tr)(ks:List LP),Lx.alls (sE w) ks->t.chk o ks=ae->False:=by
 intro t;induction t with
 |leaf m=>
  intro ks hk h
  have a:=eg.1 (show(Lx.all1 (Lx.comb ks m)&&Lx.any1 (Lx.comb ks m))=ae from h)
  exact Int.not_lt.2 (VU ks m hk) ((VV V _ a.1).2 a.2)
 |sub x y l r il ir=>
  intro ks hk h
  have a:=eg.1 h
  rcases V.t x y with q|q
  ·refine il _ ?_ a.1;exact sF (by rw[uV,eH V,eH V,eH V];exact q) hk
  ·refine ir _ ?_ a.2;exact⟨wt (tM (eH V _ _)) q.1,uW (by rw[eH V,eH V];exact q.2),hk⟩
 |ne j l r il ir=>
  intro ks hk h
  have a:=eg.1 h
  have b:=eg.1 a.2
  have q:=VW id o j ho (eq_of_beq a.1)
  unfold Lc.hold at q
  rw[eq_of_beq a.1]at q
  rcases Qgd q with q|q
  ·refine il _ ?_ b.1;exact⟨EH V _ q,hk⟩
  ·refine ir _ ?_ b.2;exact⟨KA V _ q,hk⟩
 |dm b x c t it=>
  intro ks hk h
  have a:=eg.1 h
  have c0:0<c:=Nat.pos_of_ne_zero λe=>by rw[e]at a;exact iS a.1
  have q:=V.d b x c c0
  refine it _ ?_ a.2
  refine sF (by rw[uV,sD,eH V,eH V,eH V];exact q.1) ⟨uW (by rw[eH V,EG V];exact q.2.1),KC (by rw[eH V];exact q.2.2),hk⟩
 |tn x l r il ir=>
  intro ks hk h
  have a:=eg.1 h
  rcases V.z x Lx.k0 with q|q
  ·refine il _ ?_ a.1;exact sF (by rw[eH V,eH V];exact q.1) ⟨KC (by rw[eH V];exact q.2),hk⟩
  ·refine ir _ ?_ a.2;exact⟨wt (tM (eH V _ _)) q.1,wt (tM (eH V _ _)) q.2,hk⟩
 |mm b x y l r il ir=>
  intro ks hk h
  have a:=eg.1 h
  rcases V.x b x y with q|q
  ·refine il _ ?_ a.1;exact sF (by rw[eH V,eH V];exact q.2.1) (sF (by rw[eH V,eH V];exact q.2.2) ⟨uW (by rw[eH V,eH V];exact q.1),hk⟩)
  ·refine ir _ ?_ a.2;exact sF (by rw[eH V,eH V];exact q.2.1) (sF (by rw[eH V,eH V];exact q.2.2) ⟨uW (by rw[eH V,eH V];exact q.1),hk⟩)
theorem VY{P:Lc->Prop}(q:List Lc):∀p,Lx.alls P p->Lx.alls P q->Lx.alls P (Lx.ap p q):=by
 intro p;induction p with
 |nil=>exact λ_ h=>h
 |cons x p ih=>exact λh g=>⟨h.1,ih h.2 g⟩
theorem VZ(V:Vok w)(n:Nat)(h:Lx.chk n=ae)(ho:Lx.alls (Lc.hold w) (Lx.tl (Lx.dec n).1)):(Lx.hd (Lx.dec n).1).hold w:=
 ay λhn=>
  have ha:=VY _ _ (VS _ hn) ho
  VX V _ ha _ _ (VT V _ ha) h
end
noncomputable def Lx.w(l:List Nat)(m:List Int)(b:Bool)(e:Lx):Int:=cond b ((e.nv l m):Int) ((e.iv l m))
theorem V0(l:List Nat)(m:List Int):Vok (Lx.w l m) where
 k:=λb _=>by cases b<;>rfl
 a:=λb _ _=>by cases b<;>rfl
 m:=λb _ _=>by cases b<;>rfl
 s:=λ_ _=>rfl
 g:=λ_ _=>rfl
 c:=λ_ _=>rfl
 p:=λ_=>rt _
 t:=λe f=>(Tj (f.nv l m) (e.nv l m)).elim (λh=>.inl (congrArg fe (Tk h).symm))
  λh=>.inr ⟨ry.2 (Nat.le_of_eq (Nat.sub_eq_zero_of_le h)),ry.2 h⟩
 z:=λe f=>by
  show((e.iv l m).toNat :Int)=e.iv l m/\0<=e.iv l m\/((e.iv l m).toNat :Int)<=0/\e.iv l m<=0;cases e.iv l m with
  |ofNat n=>exact .inl ⟨rfl,rt n⟩
  |negSucc n=>exact .inr ⟨Do 0,mC (Qge n)⟩
 x:=λb e f=>by
  cases b
  ·exact(Int.le_total (e.iv l m) (f.iv l m)).imp (λh=>⟨h,Dp h,Int.min_eq_left h⟩) λh=>⟨h,Iu h,Qgf h⟩
  ·exact(Tj (e.nv l m) (f.nv l m)).imp (λh=>⟨ry.2 h,congrArg fe (Nat.max_eq_right h),congrArg fe (Tl h)⟩)
    λh=>⟨ry.2 h,congrArg fe (Nat.max_eq_left h),congrArg fe (Tm h)⟩
 d:=λb e c h=>by
  cases b
  ·exact⟨Int.mul_ediv_add_emod _ _,Qgg (Qgh _ (Int.natCast_pos.2 h)),Int.emod_nonneg _ (Int.ne_of_gt (Int.natCast_pos.2 h))⟩
  ·exact⟨congrArg fe (lH (e.nv l m) c),Qgg (tN.2 (im (e.nv l m) h)),rt _⟩
noncomputable def Lx.at(n i:Nat):Lc:=nth z0 (dec n).1 i
def Lc.den(l:List Nat)(m:List Int)(c:Lc):Prop:=@fY (λ_=>Prop) (Lx.rel c.r (c.e.iv l m) (c.f.iv l m)) (Lx.rel c.r (c.e.nv l m) (c.f.nv l m)) c.t
def Lx.ih(l:List Nat)(m:List Int)(n i:Nat):Prop:=(Lx.at n i).den l m
theorem V1(r x y:Nat):Lx.rel r (x:Int) (y:Int)=Lx.rel r x y:=by
 rcases r with _|_|_|_|_|_|_|r
 ·exact propext ry
 ·exact propext tN
 ·exact propext rz
 ·exact congrArg Not (propext ry)
 ·exact congrArg Not (propext tN)
 ·rfl
 ·exact propext rz
 ·exact congrArg Not (propext rz)
theorem KD(l:List Nat)(m:List Int)(c:Lc):c.hold (Lx.w l m)=c.den l m:=by
 obtain⟨t,r,e,f⟩:=c;cases t
 ·rfl
 ·exact V1 _ _ _
noncomputable def Lx.len:List Lc->Nat
 |[]=>0
 |_::o=>len o+1
noncomputable def Lx.ck(n i:Nat):Bool:=chk n&&len (dec n).1==i+1
theorem V2{P:Lc->Prop}:∀(o:List Lc)(k:Nat),Lx.len o=k->(∀i,i<k->P (Lx.nth Lx.z0 o i))->Lx.alls P o:=by
 intro o;induction o with
 |nil=>exact λ_ _ _=>trivial
 |cons c o ih=>
  intro k hk H
  subst hk
  exact⟨H 0 (Nat.succ_pos _),ih _ rfl (λi hi=>H (i+1) (Nat.succ_lt_succ hi))⟩
theorem hV(n k:Nat)(l:List Nat)(m:List Int)(h:Lx.ck n k=ae)(H:∀i,i<k->Lx.ih l m n (i+1)):Lx.ih l m n 0:=by
 have a:=eg.1 h;have q:=VZ (V0 l m) n a.1;have e:=eq_of_beq a.2;have H':∀i,i<k->(Lx.nth Lx.z0 (Lx.dec n).1 (i+1)).hold (Lx.w l m):=λi hi=>(KD l m _).mpr (H i hi);refine(KD l m _).mp ?_;unfold Lx.at;cases hd:(Lx.dec n).1 with
 |nil=>rw[hd]at e;exact nomatch e
 |cons c o=>
  rw[hd]at q H' e
  exact q (V2 o k (Dq e) H')
theorem cN{P:Nat->Prop}{k:Nat}(H:∀i,i<k->P (i+1))(h:P (k+1)):∀i,i<k+1->P (i+1):=λi hi=>(Nat.lt_or_eq_of_le (Nat.le_of_lt_succ hi)).elim (H i) (λe=>e▸h)
theorem N0(n:Nat)(l:List Nat)(h:Lx.ck n 0=ae):Lx.ih l [] n 0:=hV n 0 l [] h (λ_ h=>absurd h (iT _))
theorem N1(n:Nat)(l:List Nat)(h:Lx.ck n 1=ae)(h1:Lx.ih l [] n 1):Lx.ih l [] n 0:=hV n 1 l [] h (cN (λ_ h=>absurd h (iT _)) h1)
theorem N2(n:Nat)(l:List Nat)(h:Lx.ck n 2=ae)(h1:Lx.ih l [] n 1)(h2:Lx.ih l [] n 2):Lx.ih l [] n 0:=hV n 2 l [] h (cN (cN (λ_ h=>absurd h (iT _)) h1) h2)
theorem N3(n:Nat)(l:List Nat)(h:Lx.ck n 3=ae)(h1:Lx.ih l [] n 1)(h2:Lx.ih l [] n 2)(h3:Lx.ih l [] n 3):Lx.ih l [] n 0:=hV n 3 l [] h (cN (cN (cN (λ_ h=>absurd h (iT _)) h1) h2) h3)
theorem N4(n:Nat)(l:List Nat)(h:Lx.ck n 4=ae)(h1:Lx.ih l [] n 1)(h2:Lx.ih l [] n 2)(h3:Lx.ih l [] n 3)(h4:Lx.ih l [] n 4):Lx.ih l [] n 0:=hV n 4 l [] h (cN (cN (cN (cN (λ_ h=>absurd h (iT _)) h1) h2) h3) h4)
theorem N5(n:Nat)(l:List Nat)(h:Lx.ck n 5=ae)(h1:Lx.ih l [] n 1)(h2:Lx.ih l [] n 2)(h3:Lx.ih l [] n 3)(h4:Lx.ih l [] n 4)(h5:Lx.ih l [] n 5):Lx.ih l [] n 0:=hV n 5 l [] h (cN (cN (cN (cN (cN (λ_ h=>absurd h (iT _)) h1) h2) h3) h4) h5)
theorem N6(n:Nat)(l:List Nat)(h:Lx.ck n 6=ae)(h1:Lx.ih l [] n 1)(h2:Lx.ih l [] n 2)(h3:Lx.ih l [] n 3)(h4:Lx.ih l [] n 4)(h5:Lx.ih l [] n 5)(h6:Lx.ih l [] n 6):Lx.ih l [] n 0:=hV n 6 l [] h (cN (cN (cN (cN (cN (cN (λ_ h=>absurd h (iT _)) h1) h2) h3) h4) h5) h6)
theorem Z0(n:Nat)(m:List Int)(h:Lx.ck n 0=ae):Lx.ih [] m n 0:=hV n 0 [] m h (λ_ h=>absurd h (iT _))
theorem Z1(n:Nat)(m:List Int)(h:Lx.ck n 1=ae)(h1:Lx.ih [] m n 1):Lx.ih [] m n 0:=hV n 1 [] m h (cN (λ_ h=>absurd h (iT _)) h1)
theorem Z2(n:Nat)(m:List Int)(h:Lx.ck n 2=ae)(h1:Lx.ih [] m n 1)(h2:Lx.ih [] m n 2):Lx.ih [] m n 0:=hV n 2 [] m h (cN (cN (λ_ h=>absurd h (iT _)) h1) h2)
theorem Z3(n:Nat)(m:List Int)(h:Lx.ck n 3=ae)(h1:Lx.ih [] m n 1)(h2:Lx.ih [] m n 2)(h3:Lx.ih [] m n 3):Lx.ih [] m n 0:=hV n 3 [] m h (cN (cN (cN (λ_ h=>absurd h (iT _)) h1) h2) h3)
theorem Z4(n:Nat)(m:List Int)(h:Lx.ck n 4=ae)(h1:Lx.ih [] m n 1)(h2:Lx.ih [] m n 2)(h3:Lx.ih [] m n 3)(h4:Lx.ih [] m n 4):Lx.ih [] m n 0:=hV n 4 [] m h (cN (cN (cN (cN (λ_ h=>absurd h (iT _)) h1) h2) h3) h4)
theorem W0(n:Nat)(l:List Nat)(m:List Int)(h:Lx.ck n 0=ae):Lx.ih l m n 0:=hV n 0 l m h (λ_ h=>absurd h (iT _))
theorem W1(n:Nat)(l:List Nat)(m:List Int)(h:Lx.ck n 1=ae)(h1:Lx.ih l m n 1):Lx.ih l m n 0:=hV n 1 l m h (cN (λ_ h=>absurd h (iT _)) h1)
theorem W2(n:Nat)(l:List Nat)(m:List Int)(h:Lx.ck n 2=ae)(h1:Lx.ih l m n 1)(h2:Lx.ih l m n 2):Lx.ih l m n 0:=hV n 2 l m h (cN (cN (λ_ h=>absurd h (iT _)) h1) h2)
theorem W3(n:Nat)(l:List Nat)(m:List Int)(h:Lx.ck n 3=ae)(h1:Lx.ih l m n 1)(h2:Lx.ih l m n 2)(h3:Lx.ih l m n 3):Lx.ih l m n 0:=hV n 3 l m h (cN (cN (cN (λ_ h=>absurd h (iT _)) h1) h2) h3)
theorem W4(n:Nat)(l:List Nat)(m:List Int)(h:Lx.ck n 4=ae)(h1:Lx.ih l m n 1)(h2:Lx.ih l m n 2)(h3:Lx.ih l m n 3)(h4:Lx.ih l m n 4):Lx.ih l m n 0:=hV n 4 l m h (cN (cN (cN (cN (λ_ h=>absurd h (iT _)) h1) h2) h3) h4)
theorem W5(n:Nat)(l:List Nat)(m:List Int)(h:Lx.ck n 5=ae)(h1:Lx.ih l m n 1)(h2:Lx.ih l m n 2)(h3:Lx.ih l m n 3)(h4:Lx.ih l m n 4)(h5:Lx.ih l m n 5):Lx.ih l m n 0:=hV n 5 l m h (cN (cN (cN (cN (cN (λ_ h=>absurd h (iT _)) h1) h2) h3) h4) h5)
theorem Yt:ae=ae:=rfl
def KF{a0 a1 a2:Nat}:=N2 0x74114a08914a0822560c84005ec40bb08b00dec40bb08b00 [a0,a1,a2] Yt
def KG{a0:Nat}{b0:Int}:=W1 0xb42c4014208a08a24e0b10178c2c40b00 [a0] [b0] Yt
def EJ{a0 a1 a2:Nat}:=N4 0x2544074114a08a08209208914a2820820824822560c84d04405906d103641b4405888d1036223440 [a0,a1,a2] Yt
def Aj{a0:Int}:=Z1 0x14a089fc100f001 [a0] Yt
def KH{a0:Int}:=Z1 0x1c0f02082082082082082082082082082082247001 [a0] Yt
def KI{a0:Int}:=Z1 0x3c20820820820820820820820820820822401c2892682640 [a0] Yt
def xr{a0:Nat}:=N1 0x6082082082082240182892682640 [a0] Yt
def KJ{a0:Int}:=Z1 0x70820820820822401c2892682640 [a0] Yt
def KL{a0:Nat}{b0:Int}:=W2 0x70820820820820890c0b001c208a2a2c9900608228a8b2640 [a0] [b0] Yt
def EK{a0 a1:Nat}:=N2 0x2e04118020e200 [a0,a1] Yt
def xu{a0 a1:Nat}:=N2 0x75114a24528224600324818023e200 [a0,a1] Yt
def oq{a0 a1:Nat}:=N1 0x188006203240 [a0,a1] Yt
def xw{a0 a1 a2:Nat}:=N1 0x3900064030c9200 [a0,a1,a2] Yt
def Ak{a0 a1 a2:Nat}:=N1 0x1900c80c90064030c9200 [a0,a1,a2] Yt
def Al{a0 a1:Nat}:=N0 0x1d0452452560c3248003203240 [a0,a1] Yt
def mV{a0 a1:Nat}:=N1 0x183248006200 [a0,a1] Yt
def KM{a0:Nat}:=N1 0x74114a089149581006040 [a0] Yt
def KN{a0 a1:Nat}:=N2 0x74114a08914a0822560c92005832480c10360c9203040 [a0,a1] Yt
def KO{a0 a1:Nat}:=N0 0x1520324054800528208224508a08954800528208224508a2822462c80c900b200 [a0,a1] Yt
def EM{a0:Nat}:=N0 0x60c9000 [a0] Yt
def Am{a0 a1 a2:Nat}:=N1 0x1520014a08224508a2893802360c940b200 [a0,a1,a2] Yt
def An{a0 a1:Nat}:=N1 0x54021d04528a08224528225d0452822452895880cb008006200 [a0,a1] Yt
def xz{a0:Nat}:=N0 0x60c9003240 [a0] Yt
def KP{a0 a1:Nat}:=N2 0x1520074114a08914a08208974114a28208224528208225620018021604b200 [a0,a1] Yt
def EN{a0 a1:Nat}:=N1 0x188016200 [a0,a1] Yt
def Ao{a0 a1 a2 a3 a4:Nat}:=N2 0x36000508228228a28914208a08228a24e603d200083980e28890d3412248182240 [a0,a1,a2,a3,a4] Yt
def Ap{a0 a1 a2 a3 a4:Nat}:=N2 0x34080508228208a28914208a08a28a24e603d008032483980e28890d3412248182240 [a0,a1,a2,a3,a4] Yt
def Aq{a0 a1:Nat}:=N1 0x180236200 [a0,a1] Yt
def KQ{a0 a1:Nat}:=N2 0xf082082082082082082082082082082089b003c208208208208208208208208208208226c206200 [a0,a1] Yt
def Ar{a0:Int}:=Z1 0x9c1007001 [a0] Yt
def KR{a0:Int}:=Z1 0xf4005d04528a08208208914a08a08225d04528914a0895c0ec0047001 [a0] Yt
def EO:=N0 0x6449 [] Yt
def As{a0 a1:Nat}:=N0 0x60c8000 [a0,a1] Yt
def xA{a0:Nat}:=N1 0x1d24528914938007e040 [a0] Yt
def EP{a0 a1 a2:Nat}:=N2 0x6400190216200 [a0,a1,a2] Yt
def KS{a0:Nat}:=N1 0x1828926826409800a249a099 [a0] Yt
def uX{a0:Int}:=Z1 0x3c101f001 [a0] Yt
def KT{a0 a1 a2:Nat}{b0:Int}:=W4 0xf08208208208208208208208208208208900f082082082082082082082082082082089b1019000fb08036200 [a0,a1,a2] [b0] Yt
def KU{a0 a1 a2:Nat}{b0:Int}:=W4 0x703c0820820820820820820820820820820893c208208208208208208208208208208226c4064001c0f2c236200 [a0,a1,a2] [b0] Yt
def KV{a0 a1 a2:Nat}:=N0 0x34801543420014a08208208224508a082282089550d0800528208208208914228208a08a24620b434200 [a0,a1,a2] Yt
def KW{a0:Nat}:=N1 0x6082082082082240182aba240 [a0] Yt
def KX{a0:Nat}:=N1 0x6082082082082240382aba240 [a0] Yt
def KY{a0:Int}:=Z1 0x1c0f020820820820820820820820820820a13c0f02082082082082082082082082082089 [a0] Yt
def EQ{a0:Int}:=Z1 0x3c0f020820820820820820820820820820893c0f02082082082082082082082082082089 [a0] Yt
def KZ{a0:Int}:=Z1 0x3c208208208208208208208208208208900f082082082082082082082082082082240 [a0] Yt
def K0{a0 a1 a2:Nat}:=N2 0x54940528228a24508a24e40b250d880d000e200 [a0,a1,a2] Yt
def K3{a0 a1 a2:Nat}:=N3 0x1525074114a28208208914a08a08225d04528228224528a0820895880cb2500c9016203400d880d000e200 [a0,a1,a2] Yt
def K4{a0 a1 a2 a3:Nat}:=N3 0x6082082082082243010182892682643218598416200 [a0,a1,a2,a3] Yt
def K5{a0 a1:Nat}:=N1 0x34800508228208a245082082289188016d08000 [a0,a1] Yt
def K6{a0 a1 a2:Nat}:=N1 0xd40814208a08a28914208a08228938800ed10200 [a0,a1,a2] Yt
def qt{a0 a1 a2:Nat}:=N2 0xe40059020e200 [a0,a1,a2] Yt
def ER{a0 a1 a2 a3:Nat}:=N3 0x390016608d9840e200 [a0,a1,a2,a3] Yt
def mW{a0 a1:Nat}:=N1 0x180226200 [a0,a1] Yt
def Au{a0:Nat}:=N1 0x18208208208208900e082240 [a0] Yt
def ES{a0:Nat}:=N1 0x380046011 [a0] Yt
def xB{a0 a1 a2:Nat}:=N2 0xe400d8840e200 [a0,a1,a2] Yt
def Av{a0:Nat}:=N1 0x183240c99180c99 [a0] Yt
def K7{a0 a1:Nat}:=N2 0x74114a08914a082256200383248026200 [a0,a1] Yt
def K8{a0 a1:Nat}:=N2 0x54921d44528228224528208975114a28208914a08224e2c920038803e2c9200 [a0,a1] Yt
def Aw{a0:Nat}:=N1 0x5490052822891422893802c9006009 [a0] Yt
def Ax{a0 a1 a2:Nat}:=N1 0x1524014a08a24508a2893902c90064030c9200 [a0,a1,a2] Yt
def K9{a0:Nat}:=N1 0x54900528208a24508a089f802c9006009 [a0] Yt
def pk{a0:Nat}:=N0 0x60c9009 [a0] Yt
def Ay{a0:Nat}:=N0 0x6001 [a0] Yt
def La{a0 a1:Nat}:=N2 0x54324920528228a24508a2822462001884460cb0c92480c9240 [a0,a1] Yt
def Lb{a0 a1 a2 a3:Nat}:=N3 0x9510c02052820824924893986d10c020e61019001e200 [a0,a1,a2,a3] Yt
def Az{a0 a1 a2:Nat}:=N1 0x3900164030c9200 [a0,a1,a2] Yt
def AA{a0:Nat}:=N1 0xb8104e040 [a0] Yt
def ET{a0 a1 a2:Nat}:=N2 0x74114a08914a0822564032032405900c32480364030c9200 [a0,a1,a2] Yt
def AB{a0 a1:Nat}:=N0 0x54800528224508a24600b200 [a0,a1] Yt
def Ld{a0 a1 a2:Nat}:=N2 0x54900528228a24508a28224e20b24038040e0c9200 [a0,a1,a2] Yt
def AC{a0 a1 a2:Nat}:=N2 0xe40039020e200 [a0,a1,a2] Yt
def EU{a0 a1:Nat}:=N1 0x1500814228225d0452822452895880cb00800e200 [a0,a1] Yt
def Lg{a0 a1:Nat}:=N2 0x6eba08a8b26401bae822a2c9920e200 [a0,a1] Yt
def Lh{a0 a1 a2:Int}:=Z3 0x2d44320075114a08208208914a08a2824820913d000f200fc80c901741b443200 [a0,a1,a2] Yt
def Li{a0 a1 a2:Int}:=Z2 0xb510c800528208a48a44f2103c803741b443200 [a0,a1,a2] Yt
def Lj{a0 a1:Int}:=Z3 0x74914a245482089b8104f008fc00c92074532c8011 [a0,a1] Yt
def Lk{a0:Int}:=Z0 0x1d0452452574d3011453453440 [a0] Yt
def Ll{a0:Int}:=Z0 0x1d0452452574c0453440 [a0] Yt
def Lm{a0:Nat}{b0 b1 b2:Int}:=W3 0xb510c800528208a48a4911ec0103c8007b0023741b443200 [a0] [b0,b1,b2] Yt
def Lo{a0 a1:Nat}:=N2 0x6eba08a8b26401828b2a9a699206200 [a0,a1] Yt
def xC{a0 a1:Int}:=Z1 0x1cb00804f200 [a0,a1] Yt
def Lp{a0 a1:Nat}:=N2 0x3c20820820a1b001828b2a9a699206213240 [a0,a1] Yt
def Lq{a0 a1:Int}:=Z2 0x15226e0413c02072532c8011 [a0,a1] Yt
def Lr{a0 a1:Nat}:=N1 0x382aba240382aba2430c90c9200 [a0,a1] Yt
def ke{a0:Nat}:=N0 0x1ec001 [a0] Yt
def Ls{a0:Nat}:=N1 0x75114a24527e040fc1b00 [a0] Yt
def qu{a0:Nat}:=N1 0x380046009 [a0] Yt
def Lu{a0:Nat}:=N1 0x6082082082082240182082082440 [a0] Yt
def xD{a0:Nat}:=N1 0xfb0004e001 [a0] Yt
def AD{a0 a1:Nat}:=N1 0x3ec22c00e200 [a0,a1] Yt
def Lv{a0 a1:Int}:=Z1 0x1c32032000470d3211001 [a0,a1] Yt
def EV{a0 a1:Nat}:=N2 0x548a24e20119321100e001 [a0,a1] Yt
def AE{a0 a1:Nat}:=N2 0x6eba08a8b2640182092a8a889206200 [a0,a1] Yt
def Lw{a0:Nat}:=N1 0x54901d04528224528a08225d04528914a0895ec2c900b26c00e001 [a0] Yt
def AF{a0 a1:Nat}:=N2 0x608228a8b2640182092a8a889206200 [a0,a1] Yt
def EW{a0 a1:Nat}:=N1 0x1500874114a08914a28208974114a245282257b0b0082ec02c206200 [a0,a1] Yt
def xE{a0 a1:Nat}:=N1 0x1524814228a24528228918b24800e200 [a0,a1] Yt
def qv{a0 a1:Nat}:=N1 0x18800e200 [a0,a1] Yt
def xF{a0 a1:Nat}:=N1 0x1880c900e200 [a0,a1] Yt
def AG{a0:Nat}:=N1 0x528227f06c00e001 [a0] Yt
def Ly{a0 a1 a2:Nat}:=N2 0x74114a08914a0822564030085900c8036403200 [a0,a1,a2] Yt
def EX{a0 a1 a2:Nat}:=N2 0xe210380406200 [a0,a1,a2] Yt
def Lz{a0:Nat}:=N0 0x1d0452452564d1013440 [a0] Yt
def LA{a0 a1 a2 a3:Nat}:=N3 0x95100508228248a2891984064d84405a34402364d0443200 [a0,a1,a2,a3] Yt
def LB{a0 a1 a2 a3:Nat}:=N4 0x2544014208a09248a28918208a2a2c99406082ab20b16064d84405a34402364d0443200 [a0,a1,a2,a3] Yt
def pl{a0:Nat}:=N0 0x9c1b00 [a0] Yt
def EY{a0:Nat}:=N0 0x1d045245257b002c9f0b27cb00 [a0] Yt
def LC{a0:Nat}:=N0 0x1d045245257b03240f0b27cb00 [a0] Yt
def LD{a0 a1 a2:Nat}:=N2 0x54041d04528914a08a08974114a08a08224528a08225620b0105900c8036403200 [a0,a1,a2] Yt
def LF{a0 a1 a2:Nat}:=N2 0x54841d04528914a08a08974114a08a08224528a08225600b2105900c8036403200 [a0,a1,a2] Yt
def EZ{a0:Nat}:=N0 0xfb00f020820820820820820820820820820a1 [a0] Yt
def LG{a0 a1:Nat}:=N0 0x3c3b08b00f020820820820820820820820820820a1 [a0,a1] Yt
def LH{a0:Nat}:=N1 0x3828926826401824aa2a2240 [a0] Yt
def mX{a0 a1:Nat}:=N0 0x1d0452452560c80c90030c9200 [a0,a1] Yt
def LI{a0 a1:Nat}:=N1 0x1824aa2a22432001824aa2a22430c9200 [a0,a1] Yt
def LJ{a0 a1:Nat}:=N2 0x62001880820820a1382082082840 [a0,a1] Yt
def E0{a0:Nat}:=N1 0x6009180491 [a0] Yt
def LK{a0:Nat}:=N1 0x70a249a099b00182892682640 [a0] Yt
def LL{a0:Nat}:=N0 0xfb00f02082082082082082082082082082089 [a0] Yt
def LM{a0 a1:Nat}:=N2 0xe0083820820828481800820820a1 [a0,a1] Yt
def E1{a0:Nat}:=N1 0x60d2240c99180c99 [a0] Yt
def E2{a0 a1:Nat}:=N1 0x9512052820822911884c324044e6d1200 [a0,a1] Yt
def E3{a0 a1:Nat}:=N1 0x3832480c900e200 [a0,a1] Yt
def E4{a0:Nat}:=N0 0xe0c9001 [a0] Yt
def xG{a0 a1:Nat}:=N1 0xf6c001d7bb0004db3bb0004874114a08228208914a08208208208208208974114a08228228914a08208a08208208208208936ceec00121d04528208a08228208914a08208208208208208225d04528208a08a28208914a08208a082082082082082275eec00136ceec00121d04528208a08224528208208208a08974114a08228228914a08208a08208208208208936ceec00121d04528208a08228208914a08208a08228208974114a08228228a082245282082282082082082082089580d2ceec001206200 [a0,a1] Yt
def LN{a0 a1:Nat}:=N1 0x3db00045082082282275eec00114228228208208936ceec00120508208228228208a08208224508208a0820820820820891b4b3bb0004821e200 [a0,a1] Yt
def LO{a0:Nat}:=N1 0x54901d04528a08224528225d0452822452895800cb240246009 [a0] Yt
def LQ{a0 a1:Nat}:=N1 0x1500814228224528228918b00824e200 [a0,a1] Yt
def AH{a0:Nat}:=N0 0x6000 [a0] Yt
def E5{a0 a1 a2:Nat}:=N1 0x1900c8006403203240 [a0,a1,a2] Yt
def uY{a0 a1:Nat}:=N1 0x38800e0c9203240 [a0,a1] Yt
def AI{a0 a1 a2:Nat}:=N2 0x55020528208a24508a2822462030101802462d0200 [a0,a1,a2] Yt
def E6{a0 a1:Nat}:=N0 0x60c0200 [a0,a1] Yt
def E7{a0 a1 a2:Nat}:=N0 0x54340800528224508a24600b0d0200 [a0,a1,a2] Yt
def E8{a0 a1:Nat}:=N1 0x54021d04528224528a08225d04528914a0895832c0200206200 [a0,a1] Yt
def LR{a0 a1:Nat}:=N2 0x75114a08914a2460c920018324324803e0d1200 [a0,a1] Yt
def xH{a0:Nat}:=N0 0xe0c9000 [a0] Yt
def LS{a0:Nat}:=N1 0x54901d04528a08224528225d0452822452895800c92c9006009 [a0] Yt
def LU{a0 a1:Nat}:=N1 0x1500814228225d0452822452895880c02c020e200 [a0,a1] Yt
def LV{a0 a1:Nat}:=N2 0x1524814228228954900528228228a24508a28228224e2c920b24018024e200 [a0,a1] Yt
def LW{a0:Nat}:=N1 0x54901d04528224528a08225d04528914a0895834cb240249006009 [a0] Yt
def LX{a0 a1:Nat}:=N1 0x1524814a08224508a2893880d300924e2c9200 [a0,a1] Yt
def E9{a0:Nat}:=N1 0x142289f8004e001 [a0] Yt
def LY{a0 a1:Nat}:=N2 0x75114a08914a24e20038324803e200 [a0,a1] Yt
def LZ{a0 a1:Nat}:=N2 0x1500814a08a28914228a24e20b008180246200 [a0,a1] Yt
def L2{a0 a1 a2:Nat}:=N2 0x55021524b40814a0820822891422895492d020528208208a24508a08a28224620301018044e0cb24b408440 [a0,a1,a2] Yt
def L3{a0 a1 a2:Nat}:=N2 0x1524814a08a28914228a24e40b24819020e200 [a0,a1,a2] Yt
def Fa{a0 a1:Nat}:=N2 0x74114a082245282256008980226200 [a0,a1] Yt
def Fb{a0 a1 a2:Nat}:=N1 0x1540814a08224508a2893880c040e2d0200 [a0,a1,a2] Yt
def L4{a0:Nat}:=N1 0x1d24528914918027e040 [a0] Yt
def L5{a0 a1 a2 a3:Nat}:=N0 0x1d0452452560d00d80c8003603403200 [a0,a1,a2,a3] Yt
def L6{a0 a1:Nat}:=N2 0x74114a08914a082256200588036200 [a0,a1] Yt
def L7{a0 a1 a2 a3:Nat}:=N3 0x95140508a28248a29139b4502c90062034c045819021600324b240 [a0,a1,a2,a3] Yt
def L8{a0 a1 a2:Nat}:=N2 0x54920528208224508a28a24e4034c024959020e2c9200 [a0,a1,a2] Yt
def Fc{a0 a1 a2:Nat}:=N2 0xd403200540d100c800508a08208a08228974114a08a08228224528a08208228208225503440320014228208228208974114a08a08224528a08208225620b034403200188246403200 [a0,a1,a2] Yt
def L9{a0 a1:Nat}:=N2 0x1522891a9006489206213011 [a0,a1] Yt
def AJ{a0 a1 a2 a3:Nat}:=N2 0xe6030101980c840e200 [a0,a1,a2,a3] Yt
def AL{a0 a1 a2 a3 a4:Nat}:=N3 0x3980c08064034c846019840e200 [a0,a1,a2,a3,a4] Yt
def Fd{a0 a1 a2 a3:Nat}:=N2 0x55020528208224508a28a24e60301019820e2d0200 [a0,a1,a2,a3] Yt
def AM{a0:Int}:=Z1 0x2d84014208208a089fc18e1037263840 [a0] Yt
def Ma{a0:Int}:=Z1 0x2d84014208208a089fd18e1037663840 [a0] Yt
def xI{a0:Nat}:=N1 0x182240980089 [a0] Yt
def AN{a0 a1:Nat}:=N2 0x528a8460aae892064c0848980089 [a0,a1] Yt
def Mb{a0 a1 a2 a3:Nat}:=N2 0x64c32188430101936214064c8840 [a0,a1,a2,a3] Yt
def Mc{a0:Int}:=Z0 0x2d0926a102d4a96c249a840d634a96c249a84014a08208208208208914a08208228208208224e4a9b234a96c249a840 [a0] Yt
def Fe{a0:Nat}:=N1 0x182892682640182aba240 [a0] Yt
def Ff{a0:Nat}:=N1 0x608228a8b2640182aba240 [a0] Yt
def Md{a0 a1:Nat}:=N1 0xd00814208a08228914208a08a289192274008192240 [a0,a1] Yt
def Me{a0 a1:Nat}:=N1 0x54b20000528224508a28919224b2c8000192240 [a0,a1] Yt
def AO{a0:Nat}:=N1 0x1a2240192240 [a0] Yt
def AP{a0:Nat}:=N1 0x1a2243240192240 [a0] Yt
def qw{a0:Nat}:=N1 0x182aba240192240 [a0] Yt
def xJ{a0:Nat}:=N1 0x60aae8900689a440 [a0] Yt
def Mf{a0 a1:Nat}:=N2 0x182aba2430081a2691216640 [a0,a1] Yt
def Mg{a0 a1:Nat}:=N2 0x182aba2432001a2691216640 [a0,a1] Yt
def Mh{a0 a1:Nat}:=N1 0x528227e0c06b284308228a8b2648382c40 [a0,a1] Yt
def Mi{a0:Nat}:=N0 0x1d0452452560c06b28430c0e62aa1 [a0] Yt
def Mj{a0:Nat}:=N1 0x382082082843039382c40 [a0] Yt
def bu{a0 a1 a2:Nat}(z:Nat):=N2 z [a0,a1,a2]
def f7{a0 a1 a2 a3:Nat}(z:Nat):=N3 z [a0,a1,a2,a3]
def aQ{a0 a1:Nat}(z:Nat):=N1 z [a0,a1]
def k8{a0 a1 a2:Nat}(z:Nat):=N3 z [a0,a1,a2]
def fz{a0 a1 a2 a3:Nat}(z:Nat):=N2 z [a0,a1,a2,a3]
def gP{a0:Int}(z:Nat):=Z0 z [a0]
def qx{a0:Nat}{b0:Int}(z:Nat):=W1 z [a0] [b0]
def bR{a0 a1 a2:Nat}(z:Nat):=N1 z [a0,a1,a2]
def eY{a0:Int}(z:Nat):=Z1 z [a0]
def aH{a0:Nat}(z:Nat):=N1 z [a0]
def i5(z:Nat):=N0 z []
def ot{a0 a1:Int}(z:Nat):=Z2 z [a0,a1]
def fN{a0 a1:Nat}(z:Nat):=N0 z [a0,a1]
def bp{a0 a1:Nat}(z:Nat):=N2 z [a0,a1]
def ou{a0 a1 a2 a3:Nat}(z:Nat):=N4 z [a0,a1,a2,a3]
def bL{a0:Nat}(z:Nat):=N0 z [a0]
def sG{a0 a1 a2 a3:Nat}(z:Nat):=N1 z [a0,a1,a2,a3]
def l6{a0:Nat}(z:Nat):=N2 z [a0]
def xK{a0 a1 a2 a3 a4:Nat}(z:Nat):=N3 z [a0,a1,a2,a3,a4]
def sH{a0 a1 a2 a3 a4:Nat}(z:Nat):=N4 z [a0,a1,a2,a3,a4]
def sI{a0 a1 a2:Nat}(z:Nat):=N0 z [a0,a1,a2]
end
section
theorem hz{v b X d:Nat}(h:v<b)(hd:d<X):v*X+d<b*X:=nK (Nat.add_lt_add_left hd _) (by rw[<-Tn];exact lI X h)
theorem V3(h1:x<131072)(h2:y<131072)(hh:131072<=h)(hX:X=2*h):1<=x+h-y/\x+h-y<X:=⟨bu 0x5480c040508a08a24528228a2462c80c04093820820828481800820820a1 Yt h2 hh,f7 0x1560321014a08a09224508a28a2893802d80c840e0820820a14062020820828764c8440 Yt h1 hh hX⟩
theorem Mk{L R M K K1 K2:Int}(hM:(L+R)/2=M)(h:2*(R-L)<=K2)(p2:K2=2*(2*K))(p1:K1=2*K):2*(M-L)<=K1/\2*(R-M)<=K1:=⟨Z4 0xb510d88054820924a228a4470132e0a11de86d10d88074132e06115d34c84514374c8440 [_,_,_,_,_,_] Yt hM h p2 p1,(by have e:R-M<=K:=Z3 0xb510d06050924828a22891c82e041781b4434181c04cb6104574d3211440 [_,_,_,_,_] Yt hM h p2;clear hM h p2;exact Z2 0x528a4476132c8011dd341160740b200 [_,_,_,_] Yt p1 e)⟩
theorem Fg(x:Int):x%4=0\/x%4=1\/x%4=2\/x%4=3:=by
 by_cases h0:x%4=0
 ·exact .inl h0
 by_cases h1:x%4=1
 ·exact .inr (.inl h1)
 by_cases h2:x%4=2
 ·exact .inr (.inr (.inl h2))
 exact .inr (.inr (.inr (Z3 0xb6101d04528208975175914a08914a25d24528914a0820820895d98e103f063840fc98e103f463840 [_] Yt h0 h1 h2)))
theorem Ml(q:n%2=1):n+1=2*((n+1)/2):=(Nat.mul_div_cancel' (Nat.dvd_of_mod_eq_zero (by rw[Nat.add_mod,q]))).symm
theorem V4(p n:Nat):min n (max 0 (-(p:Int)+n)).toNat =n-p:=by
 by_cases h:p<=n
 ·rw[show-(p:Int)+n=((n-p:Nat):Int)from aQ 0x54021d04528224528a08225d04528914a0895ec2c0203b08f2c006200 Yt h,Dp (rt _),jY,Tm (Nat.sub_le _ _)]
 ·rw[Iu (by exact aQ 0x7043b08f2c01e200 Yt h),show n-p=0 by exact aQ 0x1500874114a24524508a0895812c021e200 Yt h];exact Nat.min_zero _
theorem V5(n:Nat):∀z:Int,min n (max 0 z).toNat =(max 0 (min z n)).toNat
 | .ofNat k=>by
  show min n (max 0 (k:Int)).toNat =(max 0 (min (k:Int) n)).toNat;rw[Dp (rt k)];show min n k=_;refine(Tj k n).elim (λh=>?_) (λh=>?_)
  ·rw[Int.min_eq_left (ry.mpr h),Dp (rt k),Tm h];rfl
  ·rw[Qgf (ry.mpr h),Dp (rt n),Tl h];rfl
 | .negSucc k=>by have h:Int.negSucc k<=0:=mC (Qge k);rw[Iu h,Iu (wt (Int.min_le_left _ _) h)];exact Nat.min_zero _
theorem sJ(h:x<n+1):x<n\/x=n:=Nat.lt_succ_iff_lt_or_eq.mp h
theorem Fh(h:x<3):x=0\/x=1\/x=2:=(sJ h).elim (λh=>(sJ h).elim (λh=>.inl (Nat.lt_one_iff.mp h)) (λe=>.inr (.inl e))) (λe=>.inr (.inr e))
theorem V6(h1:1<=p)(h:p<=5):p=1\/p=2\/p=3\/p=4\/p=5:=(sJ (Nat.lt_succ_of_le h)).elim (λh=>(sJ h).elim (λh=>(sJ h).elim (λh=>(sJ h).elim (λh=>(sJ h).elim (λh=>absurd (Nat.lt_one_iff.mp h) (Nat.ne_of_gt h1)) .inl) (λe=>.inr (.inl e))) (λe=>.inr (.inr (.inl e)))) (λe=>.inr (.inr (.inr (.inl e))))) (λe=>.inr (.inr (.inr (.inr e))))
theorem V7{L R:Int}{i:Nat}(h2:0<=L)(e:L+1=R)(hi:(i:Int)<L\/R<=i):L.toNat≠i:=hi.elim (λh c=>W2 0x3500508a24508a08a26e0413c0b00580b00 [_] [_] Yt h c) (λh c=>W4 0xd4014a08a28a24528208228a26e0411c00572032401ec008d80b00 [_] [_,_] Yt h2 e h c)
theorem V8{x y h:Nat}(hy:y<=h):x+h-y=h↔x=y:=⟨λe=>k8 0x5500c801d04528224528a08228225d04528a08208914a08a0820895900062105882d00c803620b403200 Yt hy e e,λe=>bu 0x1520340074114a24528228208974114a08a08914a28208225640b203400588036200 Yt e e⟩
theorem V9{A B C D E F G H I:Nat}(e:(A:Int)-B=C)(h1:D=2*A+E)(h2:F=2*B+G)(h3:H=2*C+I)(c:(E:Int)-G=I):(D:Int)-F=H:=by have hA:A=C+B:=KF e e;have hE:E=I+G:=KF c c;subst hA hE h1 h2 h3;exact N0 0x7411491495ec0d04c044bb03613211b030d84130c8011 [_,_,_,_] Yt
theorem Wa(l:x<y+1+4010):x/30+1<=y/30+1+150:=by have h:=Nat.div_le_div_right (c:=30) (show x<=y+30*134 from aQ 0x1834f2091c992003834aacb90c9200 Yt l);rw[Nat.add_mul_div_left _ _ (by decide)]at h;exact aQ 0x25c99225c99005082082082082289183c9244325bc9920325bc990060f20916f26486f2640 Yt h
theorem Wb{A B C D:Nat}(h:A+B=C+D):(A:Int)+((B:Int)-(D:Int))=(C:Int):=fz 0x74114a08914a082257b100cbb18b08b005836100c80360d8403200 Yt h h
theorem ci(k c:Nat):((k:Int)=(c:Int))↔(c=k):=⟨λh=>(To h).symm,λh=>congrArg fe h.symm⟩
theorem We{A:Nat}{m:Int}(t:(A:Int)=m%48)(h:(A:Int)<=m/48%47):A<48/\(m/48%47).toNat +1<48/\A≠(m/48%47).toNat +1:=⟨KG t,gP 0x2d0b102dea96c2c40d63ea96c2c4014a08208208208208914a08208228208208224e0b10c9b23ea96c2c40 Yt,qx 0xb42c40b7aa5b0b10358faa5b0b100508a08208208208208a24508a082082082082082289f8326c8faa5b0b10001e3ea96c2c40b00 Yt h⟩
theorem Wg{A:Nat}{m:Int}(t:(A:Int)=m%48)(h:¬(A:Int)<=m/48%47):A<48/\(m/48%47).toNat <48/\A≠(m/48%47).toNat :=⟨KG t,gP 0x2d0b102dea96c2c40d63ea96c2c4014a08208208208208914a08208228208208224e0b1b23ea96c2c40 Yt,qx 0xb42c40b7aa5b0b10358faa5b0b100528208208a08208228224528208208208208208a089fac8faa5b0b10007e3ea96c2c40b00 Yt h⟩
theorem Wh{y:Int}(h:0<y)(h2:y<2^30):y.natAbs<1073741824:=tN.mp (by rw[Iv (mC h)];exact h2)
theorem Wi{a b:Nat}:(-1*(a:Int)= -1*(b:Int))↔a=b:=⟨λh=>To (Qgi (by decide) h),λh=>by rw[h]⟩
theorem Wj{a b:Nat}:(1*(a:Int)=1*(b:Int))↔a=b:=⟨λh=>To (Qgi (by decide) h),λh=>by rw[h]⟩
end
section
inductive BI|len|sum|ord|chr|sorted|all|max|list|divmod
inductive MM|bitlen|split|startswith|endswith|find|join|lower|count
inductive TB|b1|b3|tok
inductive BO|add|sub|mul|fdiv|mod|shl|shr|band|bor|bxor|pow
inductive CO|eq|ne|lt|le|gt|ge|is|isnt|isin|notin
 deriving DecidableEq
inductive ME
 |kn|kb (b:Bool)|ki (i:Int)|ks (s:List Nat)
 |v (i:Nat)
 |bin (op:BO) (l r:ME)
 |neg (e:ME)|inv (e:ME)
 |cmp (op:CO) (l r:ME)
 |ite (t a b:ME)
 |nt (t:ME)
 |bop (Fs:Bool) (es:List ME)
 |tup (es:List ME)|lst (es:List ME)
 |call (f:Nat) (es:List ME)
 |bi (b:BI) (es:List ME)
 |meth (m:MM) (o:ME) (es:List ME)
 |idx (o i:ME)
 |sl (o lo hi:ME)
 |rv (o:ME)
 |rng (es:List ME)
 |rvd (e:ME)
 |comp (cJ:List (Option Nat)) (tgt:Nat) (cK it:ME) (Up:List ME)
 |dget (ps:List (Int×Int)) (e:ME)
 |gIn (t:TB) (neg:Bool) (e:ME)
 |gGet (t:TB) (e:ME)
 |gget (t:TB) (e:ME)
inductive MS
 |asg (i:Nat) (e:ME)
 |own (i:Nat) (e:ME)
 |unp (is:List Nat) (e:ME)
 |aug (i:Nat) (op:BO) (e:ME)
 |ife (t:ME) (a b:List MS)
 |whl (t:ME) (b:List MS)
 |forr (is:List Nat) (one:Bool) (it:ME) (b:List MS)
 |ret (e:ME)
 |app (i:Nat) (e:ME)
 |ext (i:Nat) (e:ME)
 |rev (i:Nat)
 |del (i:Nat) (k:Int)
 |asrt (t:ME)
 |brk
 |frz (i:Nat)
 |rais
structure Cx where
 names:List (ar×dR)
 own:List Nat:=[]
 comp:Bool:=af
noncomputable def Cx.find(c:Cx)(x:ar):Option (Nat×dR):=go 0 c.names
where go (i:Nat):List (ar×dR)->Option (Nat×dR)
 |[]=>ac
 |(n,k)::r=>if n==x then aa (i,k)else go (i+1) r
noncomputable def AQ(s:ar):List Nat:=s.cps.toList
noncomputable def uZ:List ar:=["_div2n1n","_div3n2n","_int2digits","_digits2int","_divmod_pos","int_divmod","_ellipsis_match","in_table_b1","map_table_b3",
 "ISTERMINAL","ISNONTERMINAL","ISEOF","_law_unseen","_law_spelled","_law_drawn","_law_read","_law_divided","_law_shown","_law_longest","_law_due",
 "_law_words","_law_height","_law_line","_law_trees","_law_orders","_law_rows"]
def Fi(x:ar):Option Nat:=uZ.findIdx? (· ==x)
noncomputable def sK(x:ar):Option BI:=
 if x=="len" then aa .len else if x=="sum" then aa .sum else if x=="ord" then aa .ord else if x=="chr" then aa .chr
 else if x=="sorted" then aa .sorted else if x=="all" then aa .all else if x=="max" then aa .max else if x=="list" then aa .list
 else if x=="divmod" then aa .divmod else ac
noncomputable def xL(x:ar):Option MM:=
 if x=="bit_length" then aa .bitlen else if x=="split" then aa .split else if x=="startswith" then aa .startswith else if x=="endswith" then aa .endswith
 else if x=="find" then aa .find else if x=="join" then aa .join else if x=="lower" then aa .lower else if x=="count" then aa .count else ac
noncomputable def Fj(x:ar):Option TB:=if x=="b1_set" then aa .b1 else if x=="b3_exceptions" then aa .b3 else if x=="EXACT_TOKEN_TYPES" then aa .tok else ac
noncomputable def sL(x:ar):Option ME:=if x=="_DIV_LIMIT" then aa (.ki 4000)else if x=="NT_OFFSET" then aa (.ki 256)else if x=="ENDMARKER" then aa (.ki 0)else if x=="ELLIPSIS_MARKER" then aa (.ks [46,46,46])else ac
noncomputable def AR:Operator->Option BO
 | .Add =>aa .add | .Sub =>aa .sub | .Mult =>aa .mul | .FloorDiv =>aa .fdiv | .Mod =>aa .mod | .LShift =>aa .shl | .RShift =>aa .shr
 | .BitAnd =>aa .band | .BitOr =>aa .bor | .BitXor =>aa .bxor | .Pow =>aa .pow |_=>ac
noncomputable def Mm:CmpOp->Option CO
 | .Eq =>aa .eq | .NotEq =>aa .ne | .Lt =>aa .lt | .LtE =>aa .le | .Gt =>aa .gt | .GtE =>aa .ge | .Is =>aa .is | .IsNot =>aa .isnt | .In =>aa .isin | .NotIn =>aa .notin
noncomputable def one{α:Type}:List α->Option α|[x]=>aa x|_=>ac
theorem k9{α:Type}{l:List α}{x:α}(h:one l=aa x):l=[x]:=by
 cases l with
 |nil=>injection h
 |cons a r=>cases r with
  |nil=>obtain rfl:=aB h;rfl
  |cons b r=>injection h
theorem po{α β:Type}{o:Option α}{b:Option β}{g:α->Option β}{m:β}(h:o.elim b g=aa m):(o=ac/\b=aa m)\/∃a,o=aa a/\g a=aa m:=by
 cases o with
 |none=>exact .inl ⟨rfl,h⟩
 |some a=>exact .inr ⟨a,rfl,h⟩
theorem xM{α β:Type}{o:Option α}{f:α->Option β}{m:β}(h:o.bind f=aa m):∃a,o=aa a/\f a=aa m:=bx.mp h
theorem mY{α:Type}{b:Bool}{x:Option α}{m:α}(h:(if b=ae then x else ac)=aa m):b=ae/\x=aa m:=pS.mp h
noncomputable def Cx.glob(c:Cx)(x:ar):Bool:=(c.find x).elim af λp=>p.2==.globalImplicit
noncomputable def ct(f:ax->Option ME):List ax->Option (List ME)
 |[]=>aa []
 |e::r=>match f e with|some m=>(ct f r).map (m::·)|none=>ac
noncomputable def Mn(c:Cx)(n:ar)(k:dR):Option (Option Nat):=if k==.free then(c.find n).bind λp=>if p.2==.cell ||p.2==.free then aa (aa p.1)else ac else aa ac
noncomputable def pq(c:Cx):List (ar×dR)->Option (List (Option Nat))
 |[]=>aa []
 |p::r=>(pq c r).bind λs=>(Mn c p.1 p.2).map (· ::s)
noncomputable def mZ(sc:mD):Bool:=sc.kind==.function &&decide ((sc.names.map (·.1)).Nodup)&&sc.names.all (λx=>x.2 !=.cell)
noncomputable def pt(e:ax):Option (ar×aR):=if h:e.ctorIdx=23 then Tp.elim (motive_1:=λ_=>Option (ar×aR)) e h (λx p=>aa (x,p))else ac
noncomputable def xN(e:ax):Option (ax×ar×aR):=if h:e.ctorIdx=20 then Tq.elim (motive_1:=λ_=>Option (ax×ar×aR)) e h (λo m p=>aa (o,m,p))else ac
noncomputable def Mo(e:ax):Option (List (Option ax)×List ax×aR):=if h:e.ctorIdx=6 then Ts.elim (motive_1:=λ_=>Option (List (Option ax)×List ax×aR)) e h (λks vs p=>aa (ks,vs,p))else ac
noncomputable def Mp(e:ax):Option (Option ax×Option ax×Option ax×aR):=if h:e.ctorIdx=26 then Tt.elim (motive_1:=λ_=>Option (Option ax×Option ax×Option ax×aR)) e h (λa b c p=>aa (a,b,c,p))else ac
noncomputable def Mq(e:ax):Option (tP×Nat×aR):=if h:e.ctorIdx=19 then Tu.elim (motive_1:=λ_=>Option (tP×Nat×aR)) e h (λk a p=>aa (k,a,p))else ac
noncomputable def xO(e:ax):Option (List ax×Nat×aR):=if h:e.ctorIdx=25 then Tv.elim (motive_1:=λ_=>Option (List ax×Nat×aR)) e h (λes k p=>aa (es,k,p))else ac
noncomputable def Mr(e:ax):Option (List ax×aR):=if h:e.ctorIdx=24 then Tw.elim (motive_1:=λ_=>Option (List ax×aR)) e h (λes p=>aa (es,p))else ac
noncomputable def xP(e:ax):Option (ax×List ax×List wu×aR):=if h:e.ctorIdx=16 then Tx.elim (motive_1:=λ_=>Option (ax×List ax×List wu×aR)) e h (λf a k p=>aa (f,a,k,p))else ac
noncomputable def Ms(e:ax):Option (rA×ax×aR):=if h:e.ctorIdx=3 then Tz.elim (motive_1:=λ_=>Option (rA×ax×aR)) e h (λo x p=>aa (o,x,p))else ac
noncomputable def Fk(e:ax):Option (ax×ax×aR):=if h:e.ctorIdx=21 then TA.elim (motive_1:=λ_=>Option (ax×ax×aR)) e h (λo i p=>aa (o,i,p))else ac
noncomputable def Fm:tP->Option Int| .int i=>aa i|_=>ac
def u7(e:ax):Option (Int×Nat×aR):=match Mq e with
 |some (k,a,p)=>(Fm k).map λi=>(i,a,p)
 |none=>ac
noncomputable def Mt:rA->Bool| .USub =>ae|_=>af
def AS(e:ax):Option (Int×Nat×aR×aR):=match Ms e with
 |some (o,x,p)=>if Mt o then(u7 x).map λ(k,a,q)=>(k,a,q,p)else ac
 |none=>ac
def Says{α:Type}(o:Option α)(P:α->Prop):Prop:=match o with|some a=>P a|none=>True
theorem Says.get{α:Type}{o:Option α}{P:α->Prop}(h:Says o P){a:α}(e:o=aa a):P a:=by subst e;exact h
theorem Says.of{α:Type}{o:Option α}{P:α->Prop}(h:∀a,o=aa a->P a):Says o P:=by cases o with|none=>trivial|some a=>exact h a rfl
theorem ow{γ:Type}{n:Nat}{e e':ax}{k:e.ctorIdx=n->Option γ}{w:γ}(h:(if q:e.ctorIdx=n then k q else ac)=aa w)(H:∀q,k q=aa w->e=e'):e=e':=if q:e.ctorIdx=n then H q ((dif_pos q).symm.trans h)else(Option.some_ne_none w (h.symm.trans (dif_neg q))).elim
theorem sM{e:ax}{x:ar}{p:aR}(h:pt e=aa (x,p)):e=.Name x p:=ow h λq=>Tp.elim (motive_1:=λe=>∀q:e.ctorIdx=23,Tp.elim (motive_1:=λ_=>Option (ar×aR)) e q (λx p=>aa (x,p))=aa (x,p)->e=.Name x p) e q (λ_ _ _ h=>congrArg (λo:Option (ar×aR)=>o.elim e λv=>.Name v.1 v.2) h) q
theorem Fn{e o:ax}{x:ar}{p:aR}(h:xN e=aa (o,x,p)):e=.Attribute o x p:=ow h λq=>Tq.elim (motive_1:=λe=>∀q:e.ctorIdx=20,Tq.elim (motive_1:=λ_=>Option (ax×ar×aR)) e q (λo m p=>aa (o,m,p))=aa (o,x,p)->e=.Attribute o x p) e q (λ_ _ _ _ h=>congrArg (λo:Option (ax×ar×aR)=>o.elim e λv=>.Attribute v.1 v.2.1 v.2.2) h) q
theorem Wl{e:ax}{ks:List (Option ax)}{vs:List ax}{p:aR}(h:Mo e=aa (ks,vs,p)):e=.Dict ks vs p:=ow h λq=>Ts.elim (motive_1:=λe=>∀q:e.ctorIdx=6,Ts.elim (motive_1:=λ_=>Option (List (Option ax)×List ax×aR)) e q (λks vs p=>aa (ks,vs,p))=aa (ks,vs,p)->e=.Dict ks vs p) e q (λ_ _ _ _ h=>congrArg (λo:Option (List (Option ax)×List ax×aR)=>o.elim e λv=>.Dict v.1 v.2.1 v.2.2) h) q
theorem Wm{e:ax}{a b c:Option ax}{p:aR}(h:Mp e=aa (a,b,c,p)):e=.Slice a b c p:=ow h λq=>Tt.elim (motive_1:=λe=>∀q:e.ctorIdx=26,Tt.elim (motive_1:=λ_=>Option (Option ax×Option ax×Option ax×aR)) e q (λa b c p=>aa (a,b,c,p))=aa (a,b,c,p)->e=.Slice a b c p) e q (λ_ _ _ _ _ h=>congrArg (λo:Option (Option ax×Option ax×Option ax×aR)=>o.elim e λv=>.Slice v.1 v.2.1 v.2.2.1 v.2.2.2) h) q
theorem Wn{e:ax}{k:tP}{a:Nat}{p:aR}(h:Mq e=aa (k,a,p)):e=.Constant k a p:=ow h λq=>Tu.elim (motive_1:=λe=>∀q:e.ctorIdx=19,Tu.elim (motive_1:=λ_=>Option (tP×Nat×aR)) e q (λk a p=>aa (k,a,p))=aa (k,a,p)->e=.Constant k a p) e q (λ_ _ _ _ h=>congrArg (λo:Option (tP×Nat×aR)=>o.elim e λv=>.Constant v.1 v.2.1 v.2.2) h) q
theorem Mu{e:ax}{es:List ax}{a:Nat}{p:aR}(h:xO e=aa (es,a,p)):e=.Tuple es a p:=ow h λq=>Tv.elim (motive_1:=λe=>∀q:e.ctorIdx=25,Tv.elim (motive_1:=λ_=>Option (List ax×Nat×aR)) e q (λes k p=>aa (es,k,p))=aa (es,a,p)->e=.Tuple es a p) e q (λ_ _ _ _ h=>congrArg (λo:Option (List ax×Nat×aR)=>o.elim e λv=>.Tuple v.1 v.2.1 v.2.2) h) q
theorem Wo{e:ax}{es:List ax}{p:aR}(h:Mr e=aa (es,p)):e=.List es p:=ow h λq=>Tw.elim (motive_1:=λe=>∀q:e.ctorIdx=24,Tw.elim (motive_1:=λ_=>Option (List ax×aR)) e q (λes p=>aa (es,p))=aa (es,p)->e=.List es p) e q (λ_ _ _ h=>congrArg (λo:Option (List ax×aR)=>o.elim e λv=>.List v.1 v.2) h) q
theorem Fo{e f:ax}{as:List ax}{ks:List wu}{p:aR}(h:xP e=aa (f,as,ks,p)):e=.Call f as ks p:=ow h λq=>Tx.elim (motive_1:=λe=>∀q:e.ctorIdx=16,Tx.elim (motive_1:=λ_=>Option (ax×List ax×List wu×aR)) e q (λf a k p=>aa (f,a,k,p))=aa (f,as,ks,p)->e=.Call f as ks p) e q (λ_ _ _ _ _ h=>congrArg (λo:Option (ax×List ax×List wu×aR)=>o.elim e λv=>.Call v.1 v.2.1 v.2.2.1 v.2.2.2) h) q
theorem Wp{e x:ax}{o:rA}{p:aR}(h:Ms e=aa (o,x,p)):e=.UnaryOp o x p:=ow h λq=>Tz.elim (motive_1:=λe=>∀q:e.ctorIdx=3,Tz.elim (motive_1:=λ_=>Option (rA×ax×aR)) e q (λo x p=>aa (o,x,p))=aa (o,x,p)->e=.UnaryOp o x p) e q (λ_ _ _ _ h=>congrArg (λo:Option (rA×ax×aR)=>o.elim e λv=>.UnaryOp v.1 v.2.1 v.2.2) h) q
theorem Wq{e o i:ax}{p:aR}(h:Fk e=aa (o,i,p)):e=.Subscript o i p:=ow h λq=>TA.elim (motive_1:=λe=>∀q:e.ctorIdx=21,TA.elim (motive_1:=λ_=>Option (ax×ax×aR)) e q (λo i p=>aa (o,i,p))=aa (o,i,p)->e=.Subscript o i p) e q (λ_ _ _ _ h=>congrArg (λo:Option (ax×ax×aR)=>o.elim e λv=>.Subscript v.1 v.2.1 v.2.2) h) q
theorem Ws{k:tP}{i:Int}(h:Fm k=aa i):k=.int i:=(show Says (Fm k) (λi=>k=.int i)from by clear h;cases k using Const.casesOn<;>first|exact io|exact rfl).get h
theorem AT{e:ax}{i:Int}{a:Nat}{p:aR}(h:u7 e=aa (i,a,p)):e=.Constant (.int i) a p:=by
 unfold u7 at h;split at h
 ·rename_i q;refine ai (bO.mp h) λj h1 h2=>?_;obtain⟨rfl,qh⟩:=dx h2;obtain⟨rfl,rfl⟩:=dx qh;exact ag (Wn q) (ag (Ws h1) rfl)
 ·injection h
theorem Wt{o:rA}(h:Mt o=ae):o=.USub :=by cases o<;>first|rfl|injection h
theorem Mv{e:ax}{i:Int}{a:Nat}{p q:aR}(h:AS e=aa (i,a,p,q)):e=.UnaryOp .USub (.Constant (.int i) a p) q:=by
 unfold AS at h;split at h
 ·rename_i hv;split at h
  ·rename_i ho;refine ai (bO.mp h) λj h1 h2=>?_;obtain⟨rfl,qh⟩:=dx h2;obtain⟨rfl,Qhu⟩:=dx qh;obtain⟨rfl,rfl⟩:=dx Qhu;simp only[Wp hv,Wt ho,AT h1]
  ·injection h
 ·injection h
noncomputable def sN:List (Option ax)->List ax->Option (List (Int×Int))
 |[],[]=>aa []
 |some a::ks,b::vs=>(u7 a).bind λp=>(u7 b).bind λq=>(sN ks vs).map ((p.1,q.1)::·)
 |_,_=>ac
noncomputable def fO(x:ar):Bool:=(x==("__debug__":ar))==af&&(x==("__classdict__":ar))==af
noncomputable def u8:ax->Bool
 | .Call (.Name _ _) [] [] _=>af
 |_=>ae
def Wu:tP->Option ME
 | .none =>aa .kn
 | .bool b=>aa (.kb b)
 | .int i=>aa (.ki i)
 | .str s=>if s.length<=1000 then aa (.ks (AQ s))else ac
 |_=>ac
def Fp(c:Cx)(x:ar):Option ME:=if !fO x then ac else match c.find x with
 |none=>ac
 |some (i,k)=>(match k with
  | .local | .cell | .free =>aa (.v i)
  | .globalImplicit =>sL x
  |_=>ac)
noncomputable def Mw(o:rA)(m:ME):Option ME:=match o with
 | .USub =>aa (.neg m)
 | .Invert =>aa (.inv m)
 | .Not =>aa (.nt m)
 | .UAdd =>ac
noncomputable def Mx:CmpOp->Option Bool| .In =>aa af| .NotIn =>aa ae|_=>ac
def AU(c:Cx)(e:ax):Option TB:=(pt e).bind λp=>if c.glob p.1 then Fj p.1 else ac
def My(c:Cx)(f:ax->Option ME)(l:ax)(op:CmpOp)(r:ax):Option ME:=(AU c r).elim (do return .cmp (<-Mm op) (<-f l) (<-f r)) λt=>(Mx op).bind λb=>(f l).map (.gIn t b)
def Wv(f:ax->Option ME)(x:ar)(args:List ax):Option ME:=(sK x).elim (if x=="range" then(ct f args).map .rng else if x=="reversed" then(one args).bind λa=>(f a).map .rvd else ac) λb=>(ct f args).map (.bi b)
def Mz(c:Cx)(f:ax->Option ME)(x:ar)(args:List ax):Option ME:=if c.glob x&&fO x&& !args.isEmpty then(Fi x).elim (Wv f x args) λi=>(ct f args).map (.call i)else ac
def MA(c:Cx)(f:ax->Option ME)(o:ax)(m:ar)(args:List ax):Option ME:=(if m=="get" then AU c o else ac).elim (do return .meth (<-xL m) (<-f o) (<-ct f args)) λt=>(one args).bind λa=>(f a).map (.gget t)
def MB(c:Cx)(f:ax->Option ME)(g:ax)(args:List ax)(pos:aR):Option ME:=(pt g).elim ((xN g).bind λq=>if q.2.2.endLine==pos.line&&u8 q.1&&args.length<20 then MA c f q.1 q.2.1 args else ac) λp=>Mz c f p.1 args
noncomputable def Fq(f:ax->Option ME):Option ax->Option ME
 |none=>aa .kn
 |some e=>f e
def Ww(c:Cx)(f:ax->Option ME)(o:ax)(s:Option ax×Option ax×Option ax×aR):Option ME:=s.2.2.1.elim (do return .sl (<-f o) (<-Fq f s.1) (<-Fq f s.2.1)) λe=>if s.1.isNone&&s.2.1.isNone&&(AS e).map (·.1)==aa 1 then(f o).map .rv else ac
def Wx(c:Cx)(f:ax->Option ME)(o i:ax):Option ME:=(AU c o).elim (do return .idx (<-f o) (<-f i)) λt=>(f i).map (.gGet t)
def Wy(f:ax->Option ME)(i:ax)(d:List (Option ax)×List ax×aR):Option ME:=(sN d.1 d.2.1).bind λps=>if ps.length<=15&&0<ps.length&&decide ((ps.map (·.1)).Nodup)then(f i).map (.dget ps)else ac
def MC(c:Cx)(f:ax->Option ME)(o i:ax):Option ME:=(Mo o).elim ((Mp i).elim (Wx c f o i) (Ww c f o)) (Wy f i)
def MD(tr:Cx->ax->Option ME)(c:Cx)(cK:ax)(g:Comprehension)(sc:mD):Option ME:=
 if g.ifs.isEmpty&&g.is_async==0&&mZ sc then(pt g.target).bind λp=>(pq c sc.names).bind λcJ=>(Cx.find {names:=sc.names,own:=[],comp:=ae} p.1).bind λq=>if q.2==.local then do return .comp cJ q.1 (<-tr {names:=sc.names,own:=[],comp:=ae} cK) (<-tr c g.iter) []else ac
 else ac
noncomputable def Fs:BoolOp->Bool| .And =>ae|_=>af
noncomputable def br:Nat->Cx->ax->Option ME
 |0,_,_=>ac
 |n+1,c,e=>match e with
  | .Constant k _ _=>Wu k
  | .Name x _=>Fp c x
  | .BinOp l op r _=>do return .bin (<-AR op) (<-br n c l) (<-br n c r)
  | .UnaryOp o x _=>(br n c x).bind (Mw o)
  | .IfExp t a b _=>do return .ite (<-br n c t) (<-br n c a) (<-br n c b)
  | .BoolOp o es _=>(ct (br n c) es).map (.bop (Fs o))
  | .Tuple es _ _=>if es.length<1000 then(ct (br n c) es).map .tup else ac
  | .List es _=>if es.length<1000 then(ct (br n c) es).map .lst else ac
  | .Compare l ops rs _=>do My c (br n c) l (<-one ops) (<-one rs)
  | .Call f args uk pos=>if uk.isEmpty then MB c (br n c) f args pos else ac
  | .Subscript o i _=>MC c (br n c) o i
  | .ListComp cK gens sc _=>do MD (br n) c cK (<-one gens) sc
  |_=>ac
noncomputable def AV(f:ME->List Nat):List ME->List Nat
 |[]=>[]
 |e::r=>f e++AV f r
noncomputable def gD(own:List Nat):Nat->ME->List Nat
 |0,_=>[]
 |n+1,e=>match e with
  | .v i=>if own.contains i then[i]else[]
  | .bin _ l r=>gD own n l++gD own n r
  | .neg e| .inv e| .nt e| .rv e| .rvd e| .dget _ e| .gIn _ _ e| .gGet _ e| .gget _ e=>gD own n e
  | .cmp op l r=>gD own n l++(match op,r with| .isin,.v _=>[]| .notin,.v _=>[]|_,_=>gD own n r)
  | .ite t a b=>gD own n t++gD own n a++gD own n b
  | .bop _ es| .tup es| .lst es| .call _ es| .rng es=>AV (gD own n) es
  | .bi .len [.v _]=>[]
  | .bi _ es=>AV (gD own n) es
  | .meth _ o es=>gD own n o++AV (gD own n) es
  | .idx (.v _) i=>gD own n i
  | .idx o i=>gD own n o++gD own n i
  | .sl o l h=>gD own n o++gD own n l++gD own n h
  | .comp cJ _ _ it _=>(cJ.filterMap id).filter own.contains++gD own n it
  |_=>[]
def frz(c:Cx)(e:ME):List MS:=((gD c.own 40 e).eraseDups).map .frz
noncomputable def sO(c:Cx):List ax->Option (List Nat)
 |[]=>aa []
 |e::r=>(pt e).bind λv=>(sO c r).bind λs=>(c.find v.1).bind λp=>if(p.2==.local ||p.2==.cell)=ae then aa (p.1::s)else ac
def Ft(e:ax):Bool:=match xO e with
 |some (vs,_,_)=>vs.all (foldedForSure 8)|| !vs.all (constantsAlone 8)
 |none=>ae
def m0(c:Cx)(m:Option ME)(k:ME->MS):Option (List MS):=m.map λe=>frz c e++[k e]
noncomputable def kf(f:dF->Option (List MS)):List dF->Option (List MS)
 |[]=>aa []
 |s::r=>(f s).bind λa=>(kf f r).bind λb=>aa (a++b)
def Fu(c:Cx)(i:Nat)(e:ax):Option (List MS):=match Mr e with
 |some (es,_)=>if es.isEmpty then aa [.own i (.lst [])]else ac
 |none=>(match xP e with
  |some (g,args,uk,pos)=>(match xN g with
   |some (o,m,iq)=>if m=="split"&&iq.endLine==pos.line&&u8 o&&args.length<20&&uk.isEmpty then do
      let mo<-br 40 c o
      let ms<-ct (br 40 c) args
      return frz c (.meth .split mo ms)++[.own i (.meth .split mo ms)]
     else ac
   |none=>ac)
  |none=>ac)
def Fv(c:Cx)(t e:ax):Option (List MS):=match pt t with
 |some (x,_)=>(match c.find x with
  |some (i,k)=>if k==.local ||k==.cell then(if c.own.contains i then(if k==.local then Fu c i e else ac)else m0 c (br 40 c e) (.asg i))else ac
  |none=>ac)
 |none=>(match xO t with
  |some (ts,_,_)=>(match sO c ts with
   |some is=>if decide is.Nodup&&Ft e then m0 c (br 40 c e) (.unp is)else ac
   |none=>ac)
  |none=>ac)
def qy(c:Cx)(e:ax):Option (Nat×ar×aR):=match pt e with
 |some (x,p)=>(match c.find x with
  |some (i,k)=>if k==.local then aa (i,x,p)else ac
  |none=>ac)
 |none=>ac
def Fw(c:Cx)(e:ax):Option (List MS):=match xP e with
 |some (g,args,uk,pos)=>(match xN g with
  |some (o,m,iq)=>(match qy c o with
   |some (i,x,_)=>if fO x&&iq.endLine==pos.line&&uk.isEmpty then(match one args with
     |some a=>if m=="append" then m0 c (br 40 c a) (.app i)else if m=="extend" then m0 c (br 40 c a) (.ext i)else ac
     |none=>if m=="reverse"&&args.isEmpty then aa [.rev i]else ac)else ac
   |none=>ac)
  |none=>ac)
 |none=>ac
def Fx(c:Cx)(e:ax):Option (List MS):=match Fk e with
 |some (o,k,_)=>(match qy c o with
  |some (i,x,_)=>if fO x then(match u7 k with
    |some (j,_)=>aa [.del i j]
    |none=>(match AS k with
     |some (j,_)=>aa [.del i (-j)]
     |none=>ac))else ac
  |none=>ac)
 |none=>ac
noncomputable def i6:Nat->Cx->dF->Option (List MS)
 |0,_,_=>ac
 |n+1,c,s=>match s with
  | .Assign ts e _=>do Fv c (<-one ts) e
  | .AugAssign t op e _=>(match qy c t,AR op with
    |some (i,_),aa o=>m0 c (br 40 c e) (.aug i o)
    |_,_=>ac)
  | .If t a b _=>do
    let m<-br 40 c t
    let ma<-kf (i6 n c) a
    let mb<-kf (i6 n c) b
    return frz c m++[.ife m ma mb]
  | .While t b uo _=>(match br 40 c t,kf (i6 n c) b with
    |some m,aa mb=>if(frz c m).isEmpty &&uo.isEmpty then aa [.whl m mb]else ac
    |_,_=>ac)
  | .For t it b uo _=>(match br 40 c it,kf (i6 n c) b with
    |some m,aa mb=>if uo.isEmpty then(match qy c t with
      |some (i,_)=>aa (frz c m++[.forr [i] ae m mb])
      |none=>(match xO t with
       |some (ts,_)=>(sO c ts).map λis=>frz c m++[.forr is af m mb]
       |none=>ac))else ac
    |_,_=>ac)
  | .Return oe _=>do m0 c (br 40 c (<-oe)) .ret
  | .Expr e _=>Fw c e
  | .Delete es _=>do Fx c (<-one es)
  | .Assert t m _=>if m.isNone then m0 c (br 40 c t) .asrt else ac
  | .Break _=>aa [.brk]
  | .Raise .. =>aa [.rais]
  |_=>ac
def MG(c:Cx)(e:ax):List Nat:=match pt e with|some (x,_)=>((c.find x).map (·.1)).toList |none=>[]
noncomputable def xQ(c:Cx):Nat->List dF->List Nat
 |0,_=>[]
 |n+1,ss=>ss.flatMap λs=>match s with
  | .Expr e _=>(match xP e with
   |some (g,_,_,_)=>(match xN g with
    |some (o,m,_)=>if m=="append"||m=="extend"||m=="reverse" then MG c o else[]
    |none=>[])
   |none=>[])
  | .Delete es _=>(match one es with
   |some e=>(match Fk e with|some (o,_,_)=>MG c o|none=>[])
   |none=>[])
  | .If _ a b _=>xQ c n a++xQ c n b
  | .While _ b _ _=>xQ c n b
  | .For _ _ b _ _=>xQ c n b
  |_=>[]
structure MF where
 nParams:Nat
 nNames:Nat
 body:List MS
def Fy(params:Dr)(sc:mD)(body:List dF):Option MF:=
 let c0:Cx:={names:=sc.names}
 let c:Cx:={names:=sc.names,own:=(xQ c0 20 body).eraseDups}
 match kf (i6 20 c) body with
 |some b=>aa ⟨params.args.length,sc.names.length,b⟩
 |none=>ac
noncomputable def bk(l:List Nat):ar:=⟨l.toArray⟩
noncomputable def place(k:Int)(n:Nat):Option Nat:=if 0<=k then(if k<n then aa k.toNat else ac)else(if 0<=k+n then aa (k+n).toNat else ac)
noncomputable def i7(k:Option Int)(dflt n:Nat):Nat:=match k with
 |none=>dflt
 |some k=>min n (max 0 (if k<0 then k+n else k)).toNat
def cj{α:Type}(xs:List α)(lo hi:Option Int):List α:=(xs.take (i7 hi xs.length xs.length)).drop (i7 lo 0 xs.length)
noncomputable def pu(w g:List Nat)(j:Nat):Nat->Nat->Int
 |0,_=> -1
 |n+1,k=>if k+w.length<=j&&w.isPrefixOf (g.drop k)then k else pu w g j n (k+1)
def i8(w g:List Nat)(i j:Nat):Int:=pu w g j (j+1-i) i
noncomputable def fA(bZ:List Nat):Nat->List Nat->List Nat->List (List Nat)
 |0,eB,_=>[eB]
 |_+1,eB,[]=>[eB]
 |n+1,eB,c::x=>if bZ.isPrefixOf (c::x)then eB::fA bZ n [] ((c::x).drop bZ.length)else fA bZ n (eB++[c]) x
def gE(bZ x:List Nat):List (List Nat):=fA bZ (x.length+1) [] x
noncomputable def dh(bZ:List Nat):List (List Nat)->List Nat
 |[]=>[]
 |[x]=>x
 |x::r=>x++bZ++dh bZ r
def ox(w g:List Nat):Bool:=0<=i8 w g 0 g.length
noncomputable def bI:List Int->List Int->Bool
 |[],[]=>af
 |[],_::_=>ae
 |_::_,[]=>af
 |a::x,b::y=>if a=b then bI x y else a<b
noncomputable def cW{α:Type}(c:Nat->Nat->Bool):kL α->α
 | .ret a=>a
 | .ask i j k=>cW c (k (c i j))
def l7(xs:List (List Int)):List Nat:=if xs.length<2 then f0 xs.length else(cW (λi j=>bI (xs.getD i []) (xs.getD j [])) (oY xs.length)).toList
def qz(xs:List (List Int)):Option (List (List Int)):=if xs.length<64&&xs.all (λx=>x.length !=0)&&(l7 xs).all (λi=>decide (i<xs.length))&&decide ((l7 xs).length <=64)then aa ((l7 xs).map λi=>xs.getD i [])else ac
noncomputable def m6(a b:an):Bool:=tQ a b
noncomputable def di(i:Int):Bool:=i.natAbs.log2+1<=1000000
noncomputable def gQ:an->Option Int| .int i=>aa i|_=>ac
noncomputable def fP:an->Option ar| .str s=>aa s|_=>ac
noncomputable def i9:an->Option (List an)| .list l=>aa l|_=>ac
noncomputable def u9:an->Option (List an)| .tuple l=>aa l|_=>ac
noncomputable def oy{α:Type}(f:an->Option α):List an->Option (List α)
 |[]=>aa []
 |d::r=>(f d).bind λx=>(oy f r).map (x::·)
theorem AW(h:oy f (d::r)=aa xs):∃x ys,f d=aa x/\oy f r=aa ys/\xs=x::ys:=by refine ay λcG=>?_;refine ai (bx.mp h) λx h1 h=>?_;refine ai (bO.mp h) λys h2 h3=>?_;apply cG;clear cG;exact(gO x ys h1 h2 h3.symm)
theorem AX{f:an->Option α}{g:α->an}(hf:∀d x,f d=aa x->d=g x){ds:List an}:∀{xs:List α},oy f ds=aa xs->ds=xs.map g:=by
 induction ds with
 |nil=>intro xs h;obtain rfl:=aB h;rfl
 |cons d r ih=>
  intro xs h
  refine cY (AW h) λx ys h1 h2 fM=>?_;clear h;subst fM
  refine ag (hf d x h1) (ag (ih h2) ?_);rfl
theorem Fz{f:an->Option α}{g:α->an}(hf:∀x,f (g x)=aa x)(xs:List α):oy f (xs.map g)=aa xs:=by
 induction xs with
 |nil=>rfl
 |cons x r ih=>show(f (g x)).bind (λx=>(oy f (r.map g)).map (x::·))=_;rw[hf];refine ag ih ?_;rfl
def fB(l:List an):Option (List Int):=oy gQ l
def xR(l:List an):Option (List (List Nat)):=oy (λd=>(fP d).map λs=>s.cps.toList) l
def xS(l:List an):Option (List (List Int)):=oy (λd=>(u9 d).bind fB) l
noncomputable def two{α β:Type}:Option α->Option β->Option (α×β)|some a,aa b=>aa (a,b)|_,_=>ac
noncomputable def AY{α:Type}:List α->Option (α×α)|[a,b]=>aa (a,b)|_=>ac
theorem hY(h:gQ d=aa i):d=.int i:=(show Says (gQ d) (λi=>d=.int i)from by clear h;cases d using mE<;>first|exact io|exact rfl).get h
theorem gc(h:fP d=aa i):d=.str i:=(show Says (fP d) (λi=>d=.str i)from by clear h;cases d using mE<;>first|exact io|exact rfl).get h
theorem kg(h:i9 d=aa i):d=.list i:=(show Says (i9 d) (λi=>d=.list i)from by clear h;cases d using mE<;>first|exact io|exact rfl).get h
theorem AZ(h:u9 d=aa i):d=.tuple i:=(show Says (u9 d) (λi=>d=.tuple i)from by clear h;cases d using mE<;>first|exact io|exact rfl).get h
theorem cX(h:two o p=aa (x,y)):o=aa x/\p=aa y:=by
 cases o with
 |none=>injection h
 |some a=>cases p with
  |none=>injection h
  |some b=>obtain⟨rfl,rfl⟩:=dx (aB h);exact⟨rfl,rfl⟩
theorem FA(h:AY l=aa (x,y)):l=[x,y]:=by
 rcases l with _|⟨a,_|⟨b,_|⟨c,r⟩⟩⟩
 ·injection h
 ·injection h
 ·obtain⟨rfl,rfl⟩:=dx (aB h);rfl
 ·injection h
def m7(a b:an):Option (Int×Int):=two (gQ a) (gQ b)
def A0(a b:an):Option (ar×ar):=two (fP a) (fP b)
theorem qA(h:m7 a b=aa (x,y)):a=.int x/\b=.int y:=⟨hY (cX h).1,hY (cX h).2⟩
theorem FB(h:A0 a b=aa (x,y)):a=.str x/\b=.str y:=⟨gc (cX h).1,gc (cX h).2⟩
def FC(a b:an):Option an:=match m7 a b with
 |some (x,y)=>aa (.int (x+y))
 |none=>(match A0 a b with
  |some (x,y)=>if x.length+y.length<=100000 then aa (.str (x++y))else ac
  |none=>(match two (i9 a) (i9 b)with
   |some (x,y)=>if x.length+y.length<=100000 then aa (.list (x++y))else ac
   |none=>ac))
def FD(a b:an):Option an:=match m7 a b with
 |some (x,y)=>if di x&&di y then aa (.int (x*y))else ac
 |none=>(match two (fP a) (gQ b)with
  |some (x,y)=>if 0<=y&&y<=100000&&y*x.length<=100000 then aa (.str (bk (bz y.toNat x.cps.toList).flatten))else ac
  |none=>(match two ((i9 a).bind one) (gQ b)with
   |some (x,y)=>if(gQ x).isSome ||(fP x).isSome then(if 0<=y&&y<=100000 then aa (.list (bz y.toNat x))else ac)else ac
   |none=>ac))
def FE(op:BO)(x y:Int):Option an:=match op with
 | .sub =>aa (.int (x-y))
 | .fdiv =>if 0<y&&y<2^30 then aa (.int (x/y))else ac
 | .mod =>if 0<y then aa (.int (x%y))else ac
 | .shl =>if 0<=y&&y<=1000000&&di x then aa (.int (x*2^y.toNat))else ac
 | .shr =>if 0<=y then aa (.int (x/2^y.toNat))else ac
 | .band =>if 0<=x&&0<=y then aa (.int ((x.toNat&&& y.toNat:Nat):Int))else ac
 | .bor =>if 0<=x&&0<=y then aa (.int ((x.toNat|||y.toNat:Nat):Int))else ac
 | .bxor =>if 0<=x&&0<=y then aa (.int ((x.toNat^^^y.toNat:Nat):Int))else ac
 | .pow =>if 0<=y&&y<=1000000&&x.natAbs<16 then aa (.int (x^y.toNat))else ac
 |_=>ac
def bM(op:BO)(a b:an):Option an:=match op with
 | .add =>FC a b
 | .mul =>FD a b
 |op=>(m7 a b).bind λp=>FE op p.1 p.2
def oA(op:BO)(x y:Int):Option Int:=match op with
 | .add =>aa (x+y)
 | .sub =>aa (x-y)
 | .shl =>if 0<=y&&y<=1000000&&di x then aa (x*2^y.toNat)else ac
 | .shr =>if 0<=y then aa (x/2^y.toNat)else ac
 |_=>ac
noncomputable def qB:an->Option Bool| .bool b=>aa b|_=>ac
def xT(l:List an):Option (List Bool):=oy qB l
noncomputable def vd:an->Bool| .none =>ae|_=>af
theorem FF(h:qB d=aa b):d=.bool b:=(show Says (qB d) (λb=>d=.bool b)from by clear h;cases d using mE<;>first|exact io|exact rfl).get h
theorem FG(h:vd d=ae):d=.none :=by cases d<;>first|rfl|injection h
def ve(a b:an):Option Bool:=match two (qB a) (qB b)with
 |some (x,y)=>aa (x==y)
 |none=>if vd a then(if vd b then aa ae else(fP b).map λ_=>af)else if vd b then(fP a).map λ_=>af else ac
noncomputable def iA(d:an):Bool:=d.canLay0&&decide (d.depth<=8)
def A1(a b:an):Option Bool:=match m7 a b with
 |some (x,y)=>aa (x==y)
 |none=>(match A0 a b with
  |some (x,y)=>aa (x==y)
  |none=>if((two (i9 a) (i9 b)).isSome ||(two (u9 a) (u9 b)).isSome)&&iA a&&iA b then aa (m6 a b)else ac)
def MH(d:an):Option (List an):=match i9 d with|some l=>aa l|none=>u9 d
def A2(a b:an):Option Bool:=match A0 a b with
 |some (x,y)=>aa (ox x.cps.toList y.cps.toList)
 |none=>(MH b).bind λys=>if iA a&&ys.all iA then aa (ys.any λy=>m6 y a)else ac
noncomputable def MI(op:CO)(x y:Int):Option Bool:=match op with
 | .lt =>aa (x<y)
 | .le =>aa (x<=y)
 | .gt =>aa (x>y)
 | .ge =>aa (x>=y)
 |_=>ac
def FH(a b:an):Option Bool:=(two ((i9 a).bind fB) ((i9 b).bind fB)).map λp=>bI p.1 p.2
def dt(op:CO)(a b:an):Option Bool:=match op with
 | .eq =>A1 a b
 | .ne =>(A1 a b).map (!·)
 | .is =>ve a b
 | .isnt =>(ve a b).map (!·)
 | .isin =>A2 a b
 | .notin =>(A2 a b).map (!·)
 |op=>(match m7 a b with
  |some p=>MI op p.1 p.2
  |none=>if op==.lt then FH a b else ac)
noncomputable def dO:an->Option Bool
 | .bool b=>aa b
 | .int i=>aa (i !=0)
 | .str s=>aa (s.length !=0)
 |_=>ac
noncomputable def m8(a b:Int):List Int:=(f0 (b-a).toNat).map λ(k:Nat)=>a+k
noncomputable def FI:an->Option Int
 | .str s=>aa s.length
 | .list l=>aa l.length
 | .tuple l=>aa l.length
 |_=>ac
def l8{α:Type}(f:an->Option α)(vs:List an):Option α:=(one vs).bind f
def gR(b:BI)(vs:List an):Option an:=match b with
 | .len =>(l8 FI vs).map .int
 | .sum =>(l8 i9 vs).bind λl=>(fB l).map λxs=>.int xs.sum
 | .ord =>(l8 fP vs).bind λs=>(one s.cps.toList).map λc:Nat=>bQ (c:Int)
 | .chr =>(l8 gQ vs).bind λi=>if 0<=i&&i<1114112 then aa (.str (bk [i.toNat]))else ac
 | .sorted =>(l8 i9 vs).bind λl=>(xS l).bind λxs=>(qz xs).map λys=>.list (ys.map λx=>.tuple (x.map .int))
 | .all =>(l8 i9 vs).bind λl=>(xT l).map λbs=>.bool (bs.all id)
 | .divmod =>(AY vs).bind λp=>(m7 p.1 p.2).bind λq=>if 0<q.2&&0<=q.1&&q.1<q.2*2^4010 then aa (.tuple [.int (q.1/q.2),.int (q.1%q.2)])else ac
 | .max =>ac
 | .list =>ac
def MJ:List an->Option (ar×Int×Int)
 |[a,b,c]=>(fP a).bind λy=>(m7 b c).map λp=>(y,p.1,p.2)
 |_=>ac
def gS(m:MM)(o:an)(vs:List an):Option an:=match m with
 | .bitlen =>(gQ o).bind λi=>if vs.isEmpty then aa (.int (if i=0 then 0 else i.natAbs.log2+1:Nat))else ac
 | .split =>(two (fP o) (l8 fP vs)).bind λp=>if p.2.length==0||100000<p.1.length then ac else aa (.list ((gE p.2.cps.toList p.1.cps.toList).map λl=>.str (bk l)))
 | .startswith =>(two (fP o) (l8 fP vs)).map λp=>.bool (p.2.cps.toList.isPrefixOf p.1.cps.toList)
 | .endswith =>(two (fP o) (l8 fP vs)).map λp=>.bool (p.2.cps.toList.isSuffixOf p.1.cps.toList)
 | .find =>(two (fP o) (MJ vs)).bind λp=>if 0<=p.2.2.1&&0<=p.2.2.2&&p.2.2.2<=p.1.length then aa (.int (i8 p.2.1.cps.toList p.1.cps.toList p.2.2.1.toNat p.2.2.2.toNat))else ac
 | .join =>(two (fP o) (l8 i9 vs)).bind λp=>(xR p.2).bind λss=>if p.1.length<=100000&&decide ((dh p.1.cps.toList ss).length <=100000)then aa (.str (bk (dh p.1.cps.toList ss)))else ac
 | .lower =>(fP o).bind λx=>if vs.isEmpty&&decide ((ww x).length <=100000)then aa (.str (ww x))else ac
 | .count =>ac
theorem vf{P:Prop}(h:(ac:Option α)=aa a):P:=nomatch h
def Wz(k:Int):an->Option an
 | .list l=>(place k l.length).bind λj=>l[j]?
 | .tuple l=>(place k l.length).bind λj=>l[j]?
 | .str s=>(place k s.length).bind λj=>(s.cps.toList[j]?).map λc=>.str (bk [c])
 |_=>ac
def hZ(o i:an):Option an:=(gQ i).bind λk=>Wz k o
theorem MK{o i d:an}(h:hZ o i=aa d):∃k,i=.int k/\((∃l,o=.list l/\∃j,place k l.length=aa j/\l[j]?=aa d)\/(∃l,o=.tuple l/\∃j,place k l.length=aa j/\l[j]?=aa d)
  \/∃s,o=.str s/\∃j c,place k s.length=aa j/\s.cps.toList[j]?=aa c/\d=.str (bk [c])):=by
 refine ai (bx.mp h) λk e h=>?_
 refine(aO k (hY e) ?_)
 cases o with
 |list l=>exact .inl (aO l rfl (bx.mp h))
 |tuple l=>exact .inr (.inl (aO l rfl (bx.mp h)))
 |str s=>
  refine ay λcG=>?_
  refine ai (bx.mp h) λj h1 h2=>?_
  refine ai (bO.mp h2) λc h3 h4=>?_
  apply cG;clear cG
  exact .inr (.inr ⟨s,rfl,j,c,h1,h3,h4.symm⟩)
 |_=>exact vf h
noncomputable def kh:an->Option (Option Int)
 | .none =>aa ac
 | .int i=>if-2^62<i&&i<2^62 then aa (aa i)else ac
 |_=>ac
def WA(l h:Option Int):an->Option an
 | .list xs=>aa (.list (cj xs l h))
 | .str s=>aa (.str (bk (cj s.cps.toList l h)))
 |_=>ac
def gF(o lo hi:an):Option an:=(two (kh lo) (kh hi)).bind λp=>WA p.1 p.2 o
theorem ML{o a b d:an}(h:gF o a b=aa d):∃l u,kh a=aa l/\kh b=aa u/\((∃xs,o=.list xs/\d=.list (cj xs l u))\/∃s,o=.str s/\d=.str (bk (cj s.cps.toList l u))):=by
 refine ay λcG=>?_;refine ai (bx.mp h) λaM e h=>?_;obtain⟨l,u⟩:=aM;apply cG;clear cG;refine(gO l u ((cX e).1) ((cX e).2) ?_);cases o with
 |list xs=>exact .inl (aO xs rfl ((aB h).symm))
 |str s=>exact .inr (aO s rfl ((aB h).symm))
 |_=>exact vf h
noncomputable def A3:an->Option an
 | .list xs=>aa (.list xs.reverse)
 |_=>ac
structure Tabs where
 b1:List Int
 b3:List (Int×List Nat)
 tok:List (List Nat×Int)
def A4(T:Tabs)(t:TB)(d:an):Option Bool:=match t with
 | .b1 =>(gQ d).map λi=>T.b1.contains i
 | .tok =>(fP d).map λs=>(T.tok.lookup s.cps.toList).isSome
 | .b3 =>ac
def A5(T:Tabs)(t:TB)(d:an):Option an:=match t with
 | .tok =>(fP d).bind λs=>(T.tok.lookup s.cps.toList).map .int
 |_=>ac
def A6(T:Tabs)(t:TB)(d:an):Option an:=match t with
 | .b3 =>(gQ d).map λi=>match T.b3.lookup i with|some l=>.str (bk l)|none=>.none
 |_=>ac
inductive FV
 |un|val (d:an)|own (xs:List an)
noncomputable abbrev bn:=Nat->List an->Option an
noncomputable abbrev Frm:=List FV
noncomputable def Frm.get(f:Frm)(i:Nat):Option an:=match f[i]? with
 |some (.val d)=>aa d
 |_=>ac
noncomputable def Frm.peek(f:Frm)(i:Nat):Option an:=match f[i]? with
 |some (.val d)=>aa d
 |some (.own xs)=>aa (.list xs)
 |_=>ac
noncomputable def Frm.put(f:Frm)(i:Nat)(v:FV):Frm:=f.set i v
noncomputable def eC(f:Frm):List Nat->List an->Option Frm
 |[],[]=>aa f
 |i::is,d::ds=>eC (f.put i (.val d)) is ds
 |_,_=>ac
noncomputable def aV(f:ME->Option an):List ME->Option (List an)
 |[]=>aa []
 |e::r=>match f e with|some d=>(aV f r).map (d::·)|none=>ac
def vg:an->Option (List an)
 | .list l=>aa l
 | .tuple l=>aa l
 | .str s=>aa (s.cps.toList.map λc=>.str (bk [c]))
 |_=>ac
noncomputable def gf(f:ME->Option Bool):List ME->Option Bool
 |[]=>aa ae
 |e::r=>match f e with|some ae=>gf f r|some af=>aa af|none=>ac
noncomputable def qC(f:ME->Option Bool):List ME->Option Bool
 |[]=>aa af
 |e::r=>match f e with|some ae=>aa ae|some af=>qC f r|none=>ac
noncomputable def iB(f:Frm)(cJ:List (Option Nat)):Frm:=cJ.map λo=>match o with
 |some i=>(match f[i]? with|some (.val d)=>.val d|_=>.un)
 |none=>.un
noncomputable def lc(cK:Frm->Option an)(cond:Frm->Option Bool)(f:Frm)(t:Nat):List an->Option (List an)
 |[]=>aa []
 |x::r=>match cond (f.put t (.val x))with
  |some ae=>(match cK (f.put t (.val x))with|some d=>(lc cK cond f t r).map (d::·)|none=>ac)
  |some af=>lc cK cond f t r
  |none=>ac
def xU:List Int->Option (List an)
 |[b]=>if b<=100000&& -2^60<b then aa ((m8 0 b).map .int)else ac
 |[a,b]=>if b-a<=100000&& -2^60<a&&a<2^60&& -2^60<b&&b<2^60 then aa ((m8 a b).map .int)else ac
 |_=>ac
mutual
noncomputable def aj(T:Tabs)(O:bn):Nat->ME->Frm->Option an
 |0,_,_=>ac
 |n+1,e,f=>match e with
  | .kn =>aa .none
  | .kb b=>aa (.bool b)
  | .ki i=>aa (.int i)
  | .ks s=>aa (.str (bk s))
  | .v i=>f.get i
  | .bin op l r=>(match aj T O n l f with|some a=>(match aj T O n r f with|some b=>bM op a b|none=>ac)|none=>ac)
  | .neg e=>(match aj T O n e f with|some (.int i)=>aa (.int (-i))|_=>ac)
  | .inv e=>(match aj T O n e f with|some (.int i)=>aa (.int (-i-1))|_=>ac)
  | .cmp op l r=>(match aj T O n l f with|some a=>(match eZ T O n r f with|some b=>(dt op a b).map .bool |none=>ac)|none=>ac)
  | .ite t a b=>(match aK T O n t f with|some ae=>aj T O n a f|some af=>aj T O n b f|none=>ac)
  | .tup es=>(aV (λe=>aj T O n e f) es).map .tuple
  | .lst es=>(aV (λe=>aj T O n e f) es).map .list
  | .call g es=>(match aV (λe=>aj T O n e f) es with|some vs=>O g vs|none=>ac)
  | .bi b es=>(match aV (λe=>eZ T O n e f) es with|some vs=>gR b vs|none=>ac)
  | .meth m o es=>(match aj T O n o f with|some d=>(match aV (λe=>aj T O n e f) es with|some vs=>gS m d vs|none=>ac)|none=>ac)
  | .idx o i=>(match eZ T O n o f with|some d=>(match aj T O n i f with|some k=>hZ d k|none=>ac)|none=>ac)
  | .sl o l h=>(match aj T O n o f with|some d=>(match aj T O n l f with|some a=>(match aj T O n h f with|some b=>gF d a b|none=>ac)|none=>ac)|none=>ac)
  | .rv o=>(match aj T O n o f with|some d=>A3 d|none=>ac)
  | .comp cJ t cK it Up=>(match gm T O n it f with
    |some xs=>(lc (λg=>aj T O n cK g) (λg=>gf (λc=>aK T O n c g) Up) (iB f cJ) t xs).map .list
    |none=>ac)
  | .dget ps e=>(match aj T O n e f with|some (.int i)=>(ps.lookup i).map .int |_=>ac)
  | .gIn t neg e=>(match aj T O n e f with|some d=>(A4 T t d).map λb=>.bool (b !=neg)|none=>ac)
  | .gGet t e=>(match aj T O n e f with|some d=>A5 T t d|none=>ac)
  | .gget t e=>(match aj T O n e f with|some d=>A6 T t d|none=>ac)
  | .nt _=>ac
  | .bop _ _=>ac
  | .rng _=>ac
  | .rvd _=>ac
noncomputable def eZ(T:Tabs)(O:bn):Nat->ME->Frm->Option an
 |0,_,_=>ac
 |n+1,e,f=>match e with
  | .v i=>f.peek i
  |e=>aj T O n e f
noncomputable def aK(T:Tabs)(O:bn):Nat->ME->Frm->Option Bool
 |0,_,_=>ac
 |n+1,e,f=>match e with
  | .nt e=>(aK T O n e f).map (!·)
  | .bop ae es=>gf (λe=>aK T O n e f) es
  | .bop af es=>qC (λe=>aK T O n e f) es
  | .ite .. =>ac
  |e=>(match aj T O n e f with|some d=>dO d|none=>ac)
noncomputable def gm(T:Tabs)(O:bn):Nat->ME->Frm->Option (List an)
 |0,_,_=>ac
 |n+1,e,f=>match e with
  | .rng es=>(aV (λe=>aj T O n e f) es).bind λds=>(fB ds).bind xU
  | .rvd e=>(match aj T O n e f with|some (.list xs)=>aa xs.reverse|_=>ac)
  |e=>(match aj T O n e f with|some d=>vg d|none=>ac)
end
inductive Fl|next|brk|ret(d:an)
noncomputable def eJ(body:Frm->Option (Fl×Frm))(bind:an->Frm->Option Frm):List an->Frm->Option (Fl×Frm)
 |[],f=>aa (.next,f)
 |x::r,f=>match bind x f with
  |none=>ac
  |some f=>match body f with
   |some (.next,f)=>eJ body bind r f
   |some (.brk,f)=>aa (.next,f)
   |some (.ret d,f)=>aa (.ret d,f)
   |none=>ac
noncomputable def ek(test:Frm->Option Bool)(body:Frm->Option (Fl×Frm)):Nat->Frm->Option (Fl×Frm)
 |0,_=>ac
 |n+1,f=>match test f with
  |some ae=>(match body f with
   |some (.next,f)=>ek test body n f
   |some (.brk,f)=>aa (.next,f)
   |some (.ret d,f)=>aa (.ret d,f)
   |none=>ac)
  |some af=>aa (.next,f)
  |none=>ac
def e9(is:List Nat)(one:Bool)(x:an)(f:Frm):Option Frm:=
 if one then eC f is [x]else match x with
  | .tuple ds=>eC f is ds
  |_=>ac
mutual
noncomputable def bJ(T:Tabs)(O:bn)(W:Nat):Nat->MS->Frm->Option (Fl×Frm)
 |0,_,_=>ac
 |n+1,s,f=>match s with
  | .asg i e=>(match aj T O 40 e f with|some d=>aa (.next,f.put i (.val d))|none=>ac)
  | .own i e=>(match e with
    | .lst []=>aa (.next,f.put i (.own []))
    | .meth .split _ _=>(match aj T O 40 e f with|some (.list xs)=>aa (.next,f.put i (.own xs))|_=>ac)
    |_=>ac)
  | .unp is e=>(match aj T O 40 e f with|some (.tuple ds)=>(eC f is ds).map λf=>(.next,f)|_=>ac)
  | .aug i op e=>(match f.get i,aj T O 40 e f with|some (.int a),aa (.int b)=>(oA op a b).map λd=>(.next,f.put i (.val (.int d)))|_,_=>ac)
  | .ife t a b=>(match aK T O 40 t f with|some ae=>bc T O W n a f|some af=>bc T O W n b f|none=>ac)
  | .whl t b=>ek (λf=>aK T O 40 t f) (λf=>bc T O W n b f) W f
  | .forr is one it b=>(match gm T O 40 it f with|some xs=>eJ (λf=>bc T O W n b f) (e9 is one) xs f|none=>ac)
  | .ret e=>(match aj T O 40 e f with|some d=>aa (.ret d,f)|none=>ac)
  | .app i e=>(match f[i]?,aj T O 40 e f with|some (.own xs),aa d=>if xs.length<100000 then aa (.next,f.put i (.own (xs++[d])))else ac|_,_=>ac)
  | .ext i e=>(match f[i]?,aj T O 40 e f with|some (.own xs),aa (.list ds)=>if xs.length+ds.length<=100000 then aa (.next,f.put i (.own (xs++ds)))else ac|_,_=>ac)
  | .rev i=>(match f[i]? with|some (.own xs)=>aa (.next,f.put i (.own xs.reverse))|_=>ac)
  | .del i k=>(match f[i]? with|some (.own xs)=>(match place k xs.length with|some j=>aa (.next,f.put i (.own (xs.eraseIdx j)))|none=>ac)|_=>ac)
  | .asrt t=>(match aK T O 40 t f with|some ae=>aa (.next,f)|_=>ac)
  | .brk =>aa (.brk,f)
  | .frz i=>(match f[i]? with|some (.own xs)=>aa (.next,f.put i (.val (.list xs)))|_=>aa (.next,f))
  | .rais =>ac
noncomputable def bc(T:Tabs)(O:bn)(W:Nat):Nat->List MS->Frm->Option (Fl×Frm)
 |0,_,_=>ac
 |_+1,[],f=>aa (.next,f)
 |n+1,s::r,f=>match bJ T O W n s f with
  |some (.next,f)=>bc T O W n r f
  |x=>x
end
def evF(T:Tabs)(O:bn)(W:Nat)(m:MF)(vs:List an):Option an:=
 if vs.length=m.nParams then
  match bc T O W 200 m.body (vs.map .val ++bz (m.nNames-m.nParams) .un)with
  |some (.ret d,_)=>aa d
  |_=>ac
 else ac
section
variable {T:Tabs} {O:bn} {W n:Nat} {f g:Frm}
theorem fQ:aj T O (n+1) (.bin op l r) f=(match aj T O n l f with|some a=>(match aj T O n r f with|some b=>bM op a b|none=>ac)|none=>ac):=rfl
theorem iC:aj T O (n+1) (.cmp op l r) f=(match aj T O n l f with|some a=>(match eZ T O n r f with|some b=>(dt op a b).map .bool |none=>ac)|none=>ac):=rfl
theorem vh:aj T O (n+1) (.neg e) f=(match aj T O n e f with|some (.int i)=>aa (.int (-i))|_=>ac):=rfl
theorem A7:aj T O (n+1) (.inv e) f=(match aj T O n e f with|some (.int i)=>aa (.int (-i-1))|_=>ac):=rfl
theorem jF{g:Nat}{es:List ME}:aj T O (n+1) (.call g es) f=(match aV (λe=>aj T O n e f) es with|some vs=>O g vs|none=>ac):=rfl
theorem oB:aj T O (n+1) (.bi b es) f=(match aV (λe=>eZ T O n e f) es with|some vs=>gR b vs|none=>ac):=rfl
theorem jG:aj T O (n+1) (.meth m o es) f=(match aj T O n o f with|some d=>(match aV (λe=>aj T O n e f) es with|some vs=>gS m d vs|none=>ac)|none=>ac):=rfl
theorem A8:aj T O (n+1) (.idx o i) f=(match eZ T O n o f with|some d=>(match aj T O n i f with|some k=>hZ d k|none=>ac)|none=>ac):=rfl
theorem MN:aj T O (n+1) (.sl o l h) f=(match aj T O n o f with|some d=>(match aj T O n l f with|some a=>(match aj T O n h f with|some b=>gF d a b|none=>ac)|none=>ac)|none=>ac):=rfl
theorem qE:aj T O (n+1) (.tup es) f=(aV (λe=>aj T O n e f) es).map .tuple :=rfl
theorem xV:aj T O (n+1) (.lst es) f=(aV (λe=>aj T O n e f) es).map .list :=rfl
theorem A9:aj T O (n+1) (.ite t a b) f=(match aK T O n t f with|some ae=>aj T O n a f|some af=>aj T O n b f|none=>ac):=rfl
theorem FJ:aj T O (n+1) (.gIn t neg e) f=(match aj T O n e f with|some d=>(A4 T t d).map λb=>.bool (b !=neg)|none=>ac):=rfl
theorem ja:bJ T O W (n+1) (.asg i e) f=(match aj T O 40 e f with|some d=>aa (.next,f.put i (.val d))|none=>ac):=rfl
theorem m9:bJ T O W (n+1) (.unp is e) f=(match aj T O 40 e f with|some (.tuple ds)=>(eC f is ds).map λf=>(.next,f)|_=>ac):=rfl
theorem xW:bJ T O W (n+1) (.aug i op e) f=(match f.get i,aj T O 40 e f with|some (.int a),aa (.int b)=>(oA op a b).map λd=>(.next,f.put i (.val (.int d)))|_,_=>ac):=rfl
theorem l9:bJ T O W (n+1) (.ret e) f=(match aj T O 40 e f with|some d=>aa (.ret d,f)|none=>ac):=rfl
theorem FK:bJ T O W (n+1) (.app i e) f=(match f[i]?,aj T O 40 e f with|some (.own xs),aa d=>if xs.length<100000 then aa (.next,f.put i (.own (xs++[d])))else ac|_,_=>ac):=rfl
theorem iD:bJ T O W (n+1) (.ife t a b) f=(match aK T O 40 t f with|some ae=>bc T O W n a f|some af=>bc T O W n b f|none=>ac):=rfl
theorem MO:bJ T O W (n+1) (.asrt t) f=(match aK T O 40 t f with|some ae=>aa (.next,f)|_=>ac):=rfl
theorem iE:bc T O W (n+1) (s::r) f=(match bJ T O W n s f with|some (.next,f)=>bc T O W n r f|x=>x):=rfl
theorem WB:aj T O (n+1) .kn f=aa .none :=rfl
theorem xX:aj T O (n+1) (.kb b) f=aa (.bool b):=rfl
theorem WC:eZ T O (n+1) (.kb b) f=aj T O n (.kb b) f:=rfl
theorem gG:aj T O (n+1) (.ki i) f=aa (.int i):=rfl
theorem sP:eZ T O (n+1) (.ki i) f=aj T O n (.ki i) f:=rfl
theorem xY:aj T O (n+1) (.ks s) f=aa (.str (bk s)):=rfl
theorem cQ:aj T O (n+1) (.v i) f=f.get i:=rfl
theorem iF:eZ T O (n+1) (.v i) f=f.peek i:=rfl
theorem qF:aK T O (n+1) (.v i) f=(match aj T O n (.v i) f with|some d=>dO d|none=>ac):=rfl
theorem kj:aK T O (n+1) (.cmp op l r) f=(match aj T O n (.cmp op l r) f with|some d=>dO d|none=>ac):=rfl
theorem MP:aK T O (n+1) (.meth m o es) f=(match aj T O n (.meth m o es) f with|some d=>dO d|none=>ac):=rfl
theorem MQ:aj T O (n+1) (.rv o) f=(match aj T O n o f with|some d=>A3 d|none=>ac):=rfl
theorem FL:aj T O (n+1) (.comp c t x y cs) f=(match gm T O n y f with|some xs=>(lc (λg=>aj T O n x g) (λg=>gf (λc=>aK T O n c g) cs) (iB f c) t xs).map .list |none=>ac):=rfl
theorem MR:aj T O (n+1) (.dget ps e) f=(match aj T O n e f with|some (.int i)=>(ps.lookup i).map .int |_=>ac):=rfl
theorem MT:aj T O (n+1) (.gGet t e) f=(match aj T O n e f with|some d=>A5 T t d|none=>ac):=rfl
theorem MU:aj T O (n+1) (.gget t e) f=(match aj T O n e f with|some d=>A6 T t d|none=>ac):=rfl
theorem xZ:aK T O (n+1) (.bop ae es) f=gf (λe=>aK T O n e f) es:=rfl
theorem MV:aK T O (n+1) (.bop af es) f=qC (λe=>aK T O n e f) es:=rfl
theorem MW:gm T O (n+1) (.rvd e) f=(match aj T O n e f with|some (.list xs)=>aa xs.reverse|_=>ac):=rfl
theorem MX:bJ T O W (n+1) (.own i (.meth .split o es)) f=(match aj T O 40 (.meth .split o es) f with|some (.list xs)=>aa (.next,f.put i (.own xs))|_=>ac):=rfl
theorem MY:bJ T O W (n+1) (.whl t b) f=ek (λf=>aK T O 40 t f) (λf=>bc T O W n b f) W f:=rfl
theorem Ba{is:List Nat}{one:Bool}{b:List MS}:bJ T O W (n+1) (.forr is one it b) f=(match gm T O 40 it f with|some xs=>eJ (λf=>bc T O W n b f) (e9 is one) xs f|none=>ac):=rfl
theorem FM:bJ T O W (n+1) (.ext i e) f=(match f[i]?,aj T O 40 e f with|some (.own xs),aa (.list ds)=>if xs.length+ds.length<=100000 then aa (Fl.next,f.put i (.own (xs++ds)))else ac|_,_=>ac):=rfl
theorem WD:bJ T O W (n+1) (.rev i) f=(match f[i]? with|some (.own xs)=>aa (.next,f.put i (.own xs.reverse))|_=>ac):=rfl
theorem FN:bJ T O W (n+1) (.del i k) f=(match f[i]? with|some (.own xs)=>(match place k xs.length with|some j=>aa (.next,f.put i (.own (xs.eraseIdx j)))|none=>ac)|_=>ac):=rfl
theorem WE:bJ T O W (n+1) .brk f=aa (.brk,f):=rfl
theorem WF:bJ T O W (n+1) (.frz i) f=(match f[i]? with|some (.own xs)=>aa (Fl.next,f.put i (.val (.list xs)))|_=>aa (.next,f)):=rfl
theorem md:bc T O W (n+1) [] f=aa (.next,f):=rfl
theorem MZ(h1:aj T O n l f=aa a)(h2:eZ T O n r f=aa b)(h:dt op a b=aa c):aj T O (n+1) (.cmp op l r) f=aa (.bool c):=by rw[iC,h1,h2];exact congrArg (Iw Ix) h
theorem sQ(h1:aj T O n l f=aa a)(h2:eZ T O n r f=aa b)(h:dt op a b=aa c):aK T O (n+2) (.cmp op l r) f=aa c:=by show(match aj T O (n+1) (.cmp op l r) f with|some d=>dO d|none=>ac)=_;rw[MZ h1 h2 h];rfl
theorem M0(h:aj T O n e f=aa (.bool c))(he:aK T O (n+1) e f=(match aj T O n e f with|some d=>dO d|none=>ac)):aK T O (n+1) e f=aa c:=by rw[he,h];rfl
theorem M1(h1:eZ T O n o f=aa a)(h2:aj T O n i f=aa k)(h:hZ a k=d):aj T O (n+1) (.idx o i) f=d:=by rw[A8,h1,h2];exact h
theorem M2:aV F []=aa []:=rfl
theorem FO(h:F e=aa d)(h2:aV F es=aa ds):aV F (e::es)=aa (d::ds):=by show(match F e with|some d=>(aV F es).map (d::·)|none=>ac)=_;rw[h,h2];rfl
theorem vi{g:Nat}{es:List ME}{ds:List an}{d:Option an}(h1:aV (λe=>aj T O n e f) es=aa ds)(h:O g ds=d):aj T O (n+1) (.call g es) f=d:=by rw[jF,h1];exact h
theorem M3(h0:aj T O n o f=aa a)(h1:aV (λe=>aj T O n e f) es=aa ds)(h:gS m a ds=d):aj T O (n+1) (.meth m o es) f=d:=by rw[jG,h0,h1];exact h
theorem M4(h:aj T O 40 e f=aa d):bJ T O W (n+1) (.asg i e) f=aa (.next,f.put i (.val d)):=by rw[ja,h]
theorem FP(h:aj T O 40 e f=aa d):bJ T O W (n+1) (.ret e) f=aa (.ret d,f):=by rw[l9,h]
theorem Bb(h:aj T O 40 e f=aa (.tuple ds))(h2:eC f is ds=aa g):bJ T O W (n+1) (.unp is e) f=aa (.next,g):=by rw[m9,h];exact congrArg (Iw _) h2
theorem WG(c:Bool)(h:aK T O 40 t f=aa c)(h1:bc T O W n (if c then a else b) f=r):bJ T O W (n+1) (.ife t a b) f=r:=by rw[iD,h];clear h;cases c<;>exact h1
end
end
section
noncomputable def vj:MF:=⟨3,14,[.ife (.cmp (CO.le) (.bin (BO.sub) (.meth (MM.bitlen) (.v 0) []) (.v 2)) (.ki 4000)) [.ret (.bi (BI.divmod) [.v 0,.v 1])] [],
 .asg 3 (.bin (BO.band) (.v 2) (.ki 1)),
 .ife (.v 3) [.aug 0 (BO.shl) (.ki 1),.aug 1 (BO.shl) (.ki 1),.aug 2 (BO.add) (.ki 1)] [],
 .asg 4 (.bin (BO.shr) (.v 2) (.ki 1)),
 .asg 5 (.bin (BO.sub) (.bin (BO.shl) (.ki 1) (.v 4)) (.ki 1)),
 .unp [6,7] (.tup [.bin (BO.shr) (.v 1) (.v 4),.bin (BO.band) (.v 1) (.v 5)]),
 .unp
   [8,9]
   (.call 1 [.bin (BO.shr) (.v 0) (.v 2),.bin (BO.band) (.bin (BO.shr) (.v 0) (.v 4)) (.v 5),.v 1,.v 6,.v 7,.v 4]),
 .unp [10,9] (.call 1 [.v 9,.bin (BO.band) (.v 0) (.v 5),.v 1,.v 6,.v 7,.v 4]),
 .ife (.v 3) [.aug 9 (BO.shr) (.ki 1)] [],
 .ret (.tup [.bin (BO.bor) (.bin (BO.shl) (.v 8) (.v 4)) (.v 10),.v 9])]⟩
noncomputable def M5:MF:=⟨6,9,[.ife
   (.cmp (CO.eq) (.bin (BO.shr) (.v 0) (.v 5)) (.v 3))
   [.unp
   [6,7]
   (.tup
    [.bin (BO.sub) (.bin (BO.shl) (.ki 1) (.v 5)) (.ki 1),
         .bin (BO.add) (.bin (BO.sub) (.v 0) (.bin (BO.shl) (.v 3) (.v 5))) (.v 3)])]
   [.unp [6,7] (.call 0 [.v 0,.v 3,.v 5])],
 .asg 7 (.bin (BO.sub) (.bin (BO.bor) (.bin (BO.shl) (.v 7) (.v 5)) (.v 1)) (.bin (BO.mul) (.v 6) (.v 4))),
 .whl (.cmp (CO.lt) (.v 7) (.ki 0)) [.aug 6 (BO.sub) (.ki 1),.aug 7 (BO.add) (.v 2)],
 .ret (.tup [.v 6,.v 7])]⟩
noncomputable def M6:MF:=⟨2,13,[.asg 2 (.meth (MM.bitlen) (.v 1) []),
 .asg 3 (.call 2 [.v 0,.v 2]),
 .asg 4 (.ki 0),
 .own 5 (.lst []),
 .forr
   [6]
   ae
   (.rvd (.v 3))
   [.unp [7,4] (.call 0 [.bin (BO.add) (.bin (BO.shl) (.v 4) (.v 2)) (.v 6),.v 1,.v 2]),.app 5 (.v 7)],
 .rev 5,
 .frz 5,
 .asg 8 (.call 3 [.v 5,.v 2]),
 .ret (.tup [.v 8,.v 4])]⟩
noncomputable def Bc:MF:=⟨2,7,[.ife
   (.cmp (CO.eq) (.v 1) (.ki 0))
   [.rais]
   [.ife
   (.cmp (CO.lt) (.v 1) (.ki 0))
   [.unp [2,3] (.call 5 [.neg (.v 0),.neg (.v 1)]),.ret (.tup [.v 2,.neg (.v 3)])]
   [.ife
         (.cmp (CO.lt) (.v 0) (.ki 0))
         [.unp [2,3] (.call 5 [.inv (.v 0),.v 1]),.ret (.tup [.inv (.v 2),.bin (BO.add) (.v 1) (.inv (.v 3))])]
         [.ret (.call 4 [.v 0,.v 1])]]]]⟩
noncomputable def M7:MF:=⟨2,8,[.ife (.cmp (CO.notin) (.ks [46,46,46]) (.v 0)) [.ret (.cmp (CO.eq) (.v 0) (.v 1))] [],
 .own 2 (.meth (MM.split) (.v 0) [.ks [46,46,46]]),
 .asrt (.cmp (CO.ge) (.bi (BI.len) [.v 2]) (.ki 2)),
 .unp [3,4] (.tup [.ki 0,.bi (BI.len) [.v 1]]),
 .asg 5 (.idx (.v 2) (.ki 0)),
 .ife (.v 5) [.ife (.meth (MM.startswith) (.v 1) [.v 5]) [.asg 3 (.bi (BI.len) [.v 5]),.del 2 0] [.ret (.kb af)]] [],
 .asg 5 (.idx (.v 2) (.neg (.ki 1))),
 .ife (.v 5) [.ife (.meth (MM.endswith) (.v 1) [.v 5]) [.aug 4 (BO.sub) (.bi (BI.len) [.v 5]),.del 2 (-1)] [.ret (.kb af)]] [],
 .ife (.cmp (CO.gt) (.v 3) (.v 4)) [.ret (.kb af)] [],
 .frz 2,
 .forr
   [5]
   ae
   (.v 2)
   [.asg 3 (.meth (MM.find) (.v 1) [.v 5,.v 3,.v 4]),
  .ife (.cmp (CO.lt) (.v 3) (.ki 0)) [.ret (.kb af)] [],
  .aug 3 (BO.add) (.bi (BI.len) [.v 5])],
 .ret (.kb ae)]⟩
noncomputable def M8:MF:=⟨1,3,[.ret (.gIn (TB.b1) af (.bi (BI.ord) [.v 0]))]⟩
noncomputable def M9:MF:=⟨1,4,[.asg 1 (.gget (TB.b3) (.bi (BI.ord) [.v 0])),
 .ife (.cmp (CO.isnt) (.v 1) (.kn)) [.ret (.v 1)] [],
 .ret (.meth (MM.lower) (.v 0) [])]⟩
noncomputable def Na:MF:=⟨1,2,[.ret (.cmp (CO.lt) (.v 0) (.ki 256))]⟩
noncomputable def Nb:MF:=⟨1,2,[.ret (.cmp (CO.ge) (.v 0) (.ki 256))]⟩
noncomputable def Nc:MF:=⟨1,2,[.ret (.cmp (CO.eq) (.v 0) (.ki 0))]⟩
noncomputable def Nd:MF:=⟨1,2,[.ife (.cmp (CO.gt) (.v 0) (.ki 10)) [.ret (.bi (BI.chr) [.bin (BO.add) (.ki 65013) (.v 0)])] [],
 .ret
   (.bi
     (BI.chr)
     [.idx (.lst [.ki 173,.ki 847,.ki 6150,.ki 6155,.ki 6156,.ki 6157,.ki 8203,.ki 8204,.ki 8205,.ki 8288,.ki 65279]) (.v 0)])]⟩
noncomputable def Nf:MF:=⟨2,3,[.ife (.bop af [.cmp (CO.gt) (.v 0) (.ki 122),.cmp (CO.eq) (.v 1) (.ki 0)]) [.ret (.bi (BI.chr) [.v 0])] [],
 .ife (.cmp (CO.eq) (.v 1) (.ki 1)) [.ret (.bi (BI.chr) [.bin (BO.sub) (.v 0) (.ki 32)])] [],
 .ret
   (.bi
     (BI.chr)
     [.bin
    (BO.add)
    (.bin (BO.add) (.ki 119711) (.v 0))
    (.bin
     (BO.mul)
     (.ki 52)
     (.idx
      (.lst [.ki 0,.ki 1,.ki 2,.ki 4,.ki 7,.ki 8,.ki 9,.ki 10,.ki 11,.ki 12])
      (.bin (BO.sub) (.v 1) (.ki 2))))])]⟩
noncomputable def Ng:MF:=⟨1,16,[.asg
   1
   (.meth
     (MM.split)
     (.ks
       [40,32,41,32,91,32,93,32,58,32,44,32,59,32,43,32,45,32,42,32,47,32,124,32,38,32,60,32,62,32,61,32,46,32,37,32,123,32,125,32,61,61,32,33,61,32,60,61,32,62,61,32,126,32,94,32,60,
    60,32,62,62,32,42,42,32,43,61,32,45,61,32,42,61,32,47,61,32,37,61,32,38,61,32,124,61,32,94,61,32,60,60,61,32,62,62,61,32,42,42,61,32,47,47,32,47,47,61,32,64,32,64,61,32,45,62,
    32,46,46,46,32,58,61,32,33])
     [.ks [32]]),
 .asg 2 (.bin (BO.add) (.bi (BI.sum) [.v 0]) (.ki 12585)),
 .asg 3 (.bin (BO.mod) (.v 2) (.ki 48)),
 .asg 4 (.bin (BO.mod) (.bin (BO.fdiv) (.v 2) (.ki 48)) (.ki 47)),
 .ife (.cmp (CO.ge) (.v 4) (.v 3)) [.asg 4 (.bin (BO.add) (.v 4) (.ki 1))] [],
 .asg 5 (.bin (BO.add) (.ki 97) (.bin (BO.mod) (.bin (BO.fdiv) (.v 2) (.ki 2256)) (.ki 42))),
 .ife
   (.cmp (CO.gt) (.v 5) (.ki 122))
   [.asg
   5
   (.idx
    (.lst
     [.ki 172,
           .ki 174,
           .ki 846,
           .ki 848,
           .ki 6149,
           .ki 6151,
           .ki 6154,
           .ki 6158,
           .ki 8202,
           .ki 8206,
           .ki 8287,
           .ki 8289,
           .ki 65023,
           .ki 65040,
           .ki 65278,
           .ki 65280])
    (.bin (BO.sub) (.v 5) (.ki 123)))]
   [],
 .asg 6 (.ks []),
 .own 7 (.lst []),
 .forr
   [8]
   ae
   (.bin
     (BO.add)
     (.sl (.v 0) (.kn) (.ki 8))
     (.sl (.lst [.ki 0,.ki 1,.ki 48,.ki 97,.ki 4,.ki 3]) (.bi (BI.len) [.v 0]) (.kn)))
   [.ife (.cmp (CO.gt) (.bi (BI.len) [.v 7]) (.ki 8)) [.brk] [],
  .asg 9 (.call 12 [.bin (BO.mod) (.bin (BO.fdiv) (.v 8) (.ki 48)) (.ki 27)]),
  .ife
   (.cmp (CO.lt) (.bin (BO.mod) (.v 8) (.ki 4)) (.ki 2))
   [.asg
         6
         (.bin (BO.add) (.bin (BO.add) (.v 6) (.idx (.v 1) (.idx (.lst [.v 3,.v 4]) (.bin (BO.mod) (.v 8) (.ki 4))))) (.v 9)),
       .app 7 (.bin (BO.add) (.ki 7) (.idx (.lst [.v 3,.v 4]) (.bin (BO.mod) (.v 8) (.ki 4))))]
   [.asg 10 (.call 13 [.v 5,.bin (BO.mod) (.bin (BO.fdiv) (.v 8) (.ki 4)) (.ki 12)]),
       .ife
         (.bop
           ae
           [.cmp (CO.eq) (.bin (BO.mod) (.v 8) (.ki 4)) (.ki 3),
      .cmp (CO.isin) (.v 5) (.tup [.ki 102,.ki 107,.ki 115]),
      .cmp (CO.eq) (.bin (BO.mod) (.bin (BO.fdiv) (.v 8) (.ki 4)) (.ki 2)) (.ki 0)])
         [.asg 10 (.bi (BI.chr) [.dget [(102,64256),(107,13261),(115,223)] (.v 5)])]
         [.ife (.cmp (CO.eq) (.bin (BO.mod) (.v 8) (.ki 4)) (.ki 3)) [.asg 10 (.bin (BO.add) (.v 10) (.v 10))] []],
       .asg 6 (.bin (BO.add) (.v 6) (.v 10)),
       .ife (.cmp (CO.eq) (.bin (BO.mod) (.bin (BO.fdiv) (.v 8) (.ki 1296)) (.ki 2)) (.ki 1)) [.asg 6 (.bin (BO.add) (.v 6) (.v 9))] [],
       .ext 7 (.bin (BO.mul) (.lst [.bin (BO.add) (.ki 159) (.v 5)]) (.bin (BO.sub) (.bin (BO.mod) (.v 8) (.ki 4)) (.ki 1)))]],
 .frz 7,
 .ret (.tup [.v 6,.v 7])]⟩
noncomputable def Nh:MF:=⟨1,9,[.own 1 (.lst []),
 .asg 2 (.ki 0),
 .whl
   (.cmp (CO.lt) (.v 2) (.bi (BI.len) [.v 0]))
   [.asg 3 (.ki 3),
  .whl
   (.bop ae [.cmp (CO.gt) (.v 3) (.ki 1),.gIn (TB.tok) ae (.sl (.v 0) (.v 2) (.bin (BO.add) (.v 2) (.v 3)))])
   [.asg 3 (.bin (BO.sub) (.v 3) (.ki 1))],
  .asg 4 (.sl (.v 0) (.v 2) (.bin (BO.add) (.v 2) (.v 3))),
  .ife
   (.gIn (TB.tok) af (.v 4))
   [.app 1 (.gGet (TB.tok) (.v 4))]
   [.ife
         (.cmp (CO.isnt) (.call 7 [.v 4]) (.kb ae))
         [.ext 1 (.comp [ac,ac,ac] 1 (.bin (BO.add) (.ki 159) (.bi (BI.ord) [.v 1])) (.bin (BO.add) (.ks []) (.call 8 [.v 4])) [])]
         []],
  .asg 2 (.bin (BO.add) (.v 2) (.bi (BI.len) [.v 4]))],
 .frz 1,
 .ret (.v 1)]⟩
noncomputable def Ni:MF:=⟨3,6,[.ife (.cmp (CO.eq) (.v 2) (.ki 0)) [.ret (.call 5 [.v 0,.v 1])] [],
 .ife (.cmp (CO.eq) (.v 2) (.ki 1)) [.unp [3,4] (.call 5 [.neg (.v 0),.neg (.v 1)]),.ret (.tup [.v 3,.neg (.v 4)])] [],
 .ife
   (.cmp (CO.eq) (.v 2) (.ki 2))
   [.unp [3,4] (.call 5 [.inv (.v 0),.v 1]),.ret (.tup [.inv (.v 3),.bin (BO.add) (.v 1) (.inv (.v 4))])]
   [],
 .unp [3,4] (.call 5 [.v 0,.neg (.v 1)]),
 .ife
   (.bop ae [.cmp (CO.lt) (.v 4) (.ki 0),.cmp (CO.gt) (.bin (BO.add) (.v 1) (.v 4)) (.ki 0)])
   [.ret (.tup [.inv (.v 3),.bin (BO.add) (.v 1) (.v 4)])]
   [],
 .ret (.tup [.neg (.v 3),.neg (.v 4)])]⟩
noncomputable def Nj:MF:=⟨5,22,[.asg 5 (.bin (BO.shl) (.ki 1) (.bin (BO.sub) (.v 2) (.ki 1))),
 .asg 6 (.call 3 [.rv (.v 0),.v 2]),
 .own 7 (.lst []),
 .forr
   [8]
   ae
   (.rng [.ki 1,.bin (BO.add) (.bin (BO.fdiv) (.bi (BI.len) [.v 0]) (.ki 2)) (.ki 1)])
   [.asg 9 (.idx (.call 16 [.bin (BO.mul) (.v 6) (.v 3),.bin (BO.shl) (.v 3) (.bin (BO.mul) (.v 2) (.v 8)),.v 4]) (.ki 0)),
  .asg
   10
   (.idx
    (.call 16 [.v 6,.bin (BO.shl) (.ki 1) (.bin (BO.mul) (.v 2) (.bin (BO.sub) (.bi (BI.len) [.v 0]) (.v 8))),.v 4])
    (.ki 1)),
  .asg
   11
   (.call
    2
    [.bin
           (BO.add)
           (.bin (BO.sub) (.v 9) (.v 10))
           (.call 3 [.bin (BO.mul) (.lst [.v 5]) (.bin (BO.sub) (.bi (BI.len) [.v 0]) (.v 8)),.v 2]),
         .v 2]),
  .asg 12 (.bin (BO.add) (.comp [ac,ac,aa 5] 1 (.cmp (CO.eq) (.v 1) (.v 2)) (.rv (.v 11)) []) (.lst [.kb af])),
  .asg 13 (.ki 0),
  .forr
   [14]
   ae
   (.rng [.bi (BI.len) [.v 12]])
   [.ife
         (.nt (.idx (.v 12) (.v 14)))
         [.asg 15 (.sl (.v 1) (.v 13) (.bin (BO.add) (.v 13) (.v 8))),
     .ife
      (.bop
       ae
       [.cmp (CO.ge) (.bin (BO.sub) (.v 14) (.v 13)) (.v 8),
               .cmp
                 (CO.is)
                 (.call
                   6
                   [.bin (BO.add) (.bin (BO.add) (.ks [46,46,46]) (.v 15)) (.ks [46,46,46]),
          .sl (.bin (BO.add) (.v 15) (.v 15)) (.ki 1) (.neg (.ki 1))])
                 (.kb af)])
      [.app 7 (.tup [.v 13,.bin (BO.add) (.v 14) (.v 8),.v 8])]
      [],
     .asg 13 (.bin (BO.add) (.v 14) (.ki 1))]
         []]],
 .frz 7,
 .ret (.v 7)]⟩
noncomputable def Nk:MF:=⟨2,11,[.asg 2 (.bin (BO.add) (.v 1) (.ki 1)),
 .whl (.cmp (CO.eq) (.idx (.v 0) (.v 2)) (.idx (.v 0) (.v 1))) [.asg 2 (.bin (BO.add) (.v 2) (.ki 1))],
 .asg 3 (.ite (.cmp (CO.gt) (.idx (.v 0) (.v 2)) (.idx (.v 0) (.v 1))) (.ki 1) (.neg (.ki 1))),
 .asg 4 (.comp [ac,ac,aa 3] 1 (.bin (BO.mul) (.v 2) (.v 1)) (.sl (.v 0) (.v 1) (.neg (.ki 1))) []),
 .asg 5 (.ki 1),
 .forr
   [6]
   ae
   (.rng [.ki 2,.bin (BO.add) (.bi (BI.len) [.v 4]) (.ki 1)])
   [.asg 7 (.sl (.v 4) (.kn) (.v 6)),
  .ife
   (.bi (BI.all) [.comp [ac,ac,aa 7] 1 (.cmp (CO.lt) (.v 2) (.sl (.v 2) (.v 1) (.kn))) (.rng [.ki 1,.v 6]) []])
   [.asg 5 (.v 6)]
   []],
 .ret (.v 5)]⟩
noncomputable def Nl:MF:=⟨1,9,[.own 1 (.lst []),
 .forr
   [2]
   ae
   (.rng [.ki 1,.bi (BI.len) [.v 0]])
   [.asg
   3
   (.ite
    (.cmp (CO.eq) (.idx (.v 0) (.bin (BO.sub) (.v 2) (.ki 1))) (.idx (.v 0) (.v 2)))
    (.ki 1)
    (.call 18 [.bin (BO.add) (.v 0) (.lst [.ki 0]),.v 2])),
  .asg 4 (.v 2),
  .whl
   (.bop
    ae
    [.cmp (CO.gt) (.v 4) (.ki 0),
         .cmp
           (CO.eq)
           (.idx (.v 0) (.bin (BO.sub) (.v 4) (.ki 1)))
           (.idx (.v 0) (.bin (BO.add) (.bin (BO.sub) (.v 4) (.ki 1)) (.v 3)))])
   [.asg 4 (.bin (BO.sub) (.v 4) (.ki 1))],
  .asg 5 (.bin (BO.add) (.v 2) (.v 3)),
  .whl
   (.bop
    ae
    [.cmp (CO.lt) (.v 5) (.bi (BI.len) [.v 0]),
         .cmp (CO.eq) (.idx (.v 0) (.v 5)) (.idx (.v 0) (.bin (BO.sub) (.v 5) (.v 3)))])
   [.asg 5 (.bin (BO.add) (.v 5) (.ki 1))],
  .ife
   (.bop
    ae
    [.cmp (CO.lt) (.v 4) (.v 2),
         .cmp (CO.ge) (.bin (BO.sub) (.v 5) (.v 4)) (.bin (BO.mul) (.ki 2) (.v 3)),
         .cmp (CO.notin) (.tup [.v 4,.v 5,.v 3]) (.v 1)])
   [.app 1 (.tup [.v 4,.v 5,.v 3])]
   []],
 .frz 1,
 .ret (.v 1)]⟩
noncomputable def Nm:MF:=⟨1,30,[.unp [1,2] (.call 14 [.v 0]),
 .ife (.cmp (CO.ne) (.call 15 [.v 1]) (.v 2)) [.ret (.kb af)] [],
 .forr
   [3]
   ae
   (.bin (BO.add) (.v 2) (.lst [.neg (.ki 1),.ki 0,.ki 255,.ki 256]))
   [.ife
   (.bop
    af
    [.cmp (CO.isnt) (.call 9 [.v 3]) (.cmp (CO.lt) (.v 3) (.ki 256)),
         .cmp (CO.isnt) (.call 10 [.v 3]) (.cmp (CO.gt) (.v 3) (.ki 255)),
         .cmp (CO.isnt) (.call 11 [.v 3]) (.cmp (CO.eq) (.v 3) (.ki 0))])
   [.ret (.kb af)]
   []],
 .asg 4 (.bin (BO.mod) (.bi (BI.sum) [.v 0]) (.ki 4)),
 .asg
   5
   (.meth
     (MM.join)
     (.ks [])
     [.comp [ac,ac,ac] 1 (.ite (.cmp (CO.gt) (.v 1) (.ki 255)) (.ks [10]) (.bi (BI.chr) [.bin (BO.add) (.ki 300) (.v 1)])) (.v 2) []]),
 .asg
   6
   (.call
     17
     [.v 2,
   .v 5,
   .bin (BO.add) (.ki 18) (.bin (BO.mod) (.bi (BI.sum) [.v 0]) (.ki 1400)),
   .bin (BO.pow) (.ki 3) (.bin (BO.mod) (.bi (BI.sum) [.v 0]) (.ki 4000)),
   .v 4]),
 .ife (.cmp (CO.ne) (.bi (BI.sorted) [.v 6]) (.bi (BI.sorted) [.call 19 [.v 2]])) [.ret (.kb af)] [],
 .forr
   [7,8,9]
   af
   (.v 6)
   [.asg 10 (.sl (.v 5) (.v 7) (.v 8)),
  .asg 11 (.sl (.v 10) (.kn) (.v 9)),
  .asg 12 (.sl (.v 10) (.neg (.v 9)) (.kn)),
  .unp [13,14] (.call 16 [.bi (BI.len) [.v 10],.v 9,.v 4]),
  .asg
   15
   (.lst
    [.tup [.bin (BO.add) (.meth (MM.join) (.ks [46,46,46]) [.bin (BO.mul) (.lst [.v 11]) (.v 13)]) (.ks [46,46,46]),.kb ae],
         .tup
           [.bin (BO.add) (.meth (MM.join) (.ks [46,46,46]) [.bin (BO.mul) (.lst [.v 11]) (.bin (BO.add) (.v 13) (.ki 1))]) (.ks [46,46,46]),
      .kb af],
         .tup [.bin (BO.add) (.ks [46,46,46]) (.meth (MM.join) (.ks [46,46,46]) [.bin (BO.mul) (.lst [.v 12]) (.v 13)]),.kb ae],
         .tup
           [.bin (BO.add) (.ks [46,46,46]) (.meth (MM.join) (.ks [46,46,46]) [.bin (BO.mul) (.lst [.v 12]) (.bin (BO.add) (.v 13) (.ki 1))]),
      .kb af],
         .tup [.meth (MM.join) (.ks [46,46,46]) [.bin (BO.mul) (.lst [.v 11]) (.v 13)],.cmp (CO.eq) (.v 14) (.ki 0)],
         .tup [.meth (MM.join) (.ks [46,46,46]) [.bin (BO.mul) (.lst [.v 12]) (.v 13)],.cmp (CO.eq) (.v 14) (.ki 0)],
         .tup [.meth (MM.join) (.ks [46,46,46]) [.bin (BO.add) (.bin (BO.mul) (.lst [.v 11]) (.v 13)) (.lst [.v 12])],.kb af],
         .tup [.v 10,.kb ae],
         .tup [.v 11,.kb af],
         .tup
           [.bin
       (BO.add)
       (.ks [46,46,46])
       (.bin (BO.mul) (.bin (BO.add) (.bin (BO.add) (.v 11) (.sl (.v 11) (.kn) (.ki 1))) (.ks [46,46,46])) (.ki 2)),
      .cmp (CO.gt) (.bi (BI.len) [.v 10]) (.bin (BO.mul) (.ki 3) (.v 9))],
         .tup [.bin (BO.add) (.sl (.v 10) (.v 9) (.kn)) (.v 11),.cmp (CO.eq) (.v 14) (.ki 0)],
         .tup [.bin (BO.add) (.bin (BO.add) (.sl (.v 11) (.kn) (.ki 1)) (.ks [46])) (.sl (.v 10) (.ki 2) (.kn)),.kb af]]),
  .forr [16,17] af (.v 15) [.ife (.cmp (CO.isnt) (.call 6 [.v 16,.v 10]) (.v 17)) [.ret (.kb af)] []],
  .ife
   (.cmp (CO.isnt) (.call 6 [.bin (BO.add) (.bin (BO.add) (.v 11) (.ks [46,46,46])) (.v 11),.v 11]) (.kb af))
   [.ret (.kb af)]
   []],
 .ret (.kb ae)]⟩
noncomputable abbrev Bd:=au->Option be
inductive Rep(g:Bd):ao->an->Prop
 |none:Rep g .none .none
 |bool (b):Rep g (.bool b) (.bool b)
 |int (i t):Rep g (.int i t) (.int i)
 |str (x:ar) (t):x.length<=cz->Rep g (.str x t) (.str x)
 |list {a n ds} (vs:List ao):g a=aa {cls:=.type "list",data:=.seq vs.toArray n}->vs.length<=cz->vs.length=ds.length->
   (∀(i:Nat)(v:ao)(d:an),vs[i]?=aa v->ds[i]?=aa d->Rep g v d)->Rep g (.ref a) (.list ds)
 |tuple {a n ds} (vs:List ao):g a=aa {cls:=.type "tuple",data:=.seq vs.toArray n}->vs.length<=cz->vs.length=ds.length->
   (∀(i:Nat)(v:ao)(d:an),vs[i]?=aa v->ds[i]?=aa d->Rep g v d)->Rep g (.ref a) (.tuple ds)
inductive RepL(g:Bd):List ao->List an->Prop
 |nil:RepL g [] []
 |cons {v d vs ds}:Rep g v d->RepL g vs ds->RepL g (v::vs) (d::ds)
theorem RepL.uncons(r:RepL g vs (d::ds)):∃v us,vs=v::us/\Rep g v d/\RepL g us ds:=by cases r with|cons a b=>exact(gO _ _ rfl a b)
theorem RepL.unnil(r:RepL g vs []):vs=[]:=by cases r;rfl
theorem RepL.length(r:RepL g vs ds):vs.length=ds.length:=by
 induction r with
 |nil=>rfl
 |cons _ _ ih=>simp[ih]
theorem RepL.at(r:RepL g vs ds):∀(i:Nat)(v:ao)(d:an),vs[i]?=aa v->ds[i]?=aa d->Rep g v d:=by
 induction r with
 |nil=>intro i v d h;injection h
 |cons h _ ih=>
  intro i v d h1 h2
  cases i with
  |zero=>simp at h1 h2;subst h1;subst h2;exact h
  |succ i=>simp at h1 h2;exact ih i v d h1 h2
theorem RepL.of_at:∀{vs:List ao}{ds:List an},vs.length=ds.length->(∀(i:Nat)(v:ao)(d:an),vs[i]?=aa v->ds[i]?=aa d->Rep g v d)->RepL g vs ds
 |[],[],_,_=>.nil
 |[],_::_,h,_=>by injection h
 |_::_,[],h,_=>by injection h
 |v::vs,d::ds,h,k=>.cons (k 0 v d rfl rfl) (RepL.of_at (by simpa using h) λi v d h1 h2=>k (i+1) v d (by exact h1) (by exact h2))
theorem RepL.append(r:RepL g a x)(q:RepL g b y):RepL g (a++b) (x++y):=by
 induction r with
 |nil=>exact q
 |cons h _ ih=>exact .cons h ih
theorem RepL.reverse(r:RepL g a x):RepL g a.reverse x.reverse:=by
 induction r with
 |nil=>exact .nil
 |cons h _ ih=>simp only[wx,wx];exact ih.append (.cons h .nil)
theorem RepL.drop:∀{a:List ao}{x:List an}(n:Nat),RepL g a x->RepL g (a.drop n) (x.drop n)
 |_,_,0,r=>r
 |_,_,_+1,.nil =>.nil
 |_,_,n+1,.cons _ r=>by exact r.drop n
theorem RepL.take:∀{a:List ao}{x:List an}(n:Nat),RepL g a x->RepL g (a.take n) (x.take n)
 |_,_,0,_=>.nil
 |_,_,_+1,.nil =>.nil
 |_,_,n+1,.cons h r=>.cons h (r.take n)
theorem RepL.eraseIdx:∀{a:List ao}{x:List an}(n:Nat),RepL g a x->RepL g (a.eraseIdx n) (x.eraseIdx n)
 |_,_,_,.nil =>.nil
 |_,_,0,.cons _ r=>r
 |_,_,n+1,.cons h r=>.cons h (r.eraseIdx n)
theorem Rep.mono(k:∀a o,g a=aa o->g' a=aa o)(r:Rep g v d):Rep g' v d:=by
 induction r with
 |none=>exact .none
 |bool b=>exact .bool b
 |int i t=>exact .int i t
 |str x t h=>exact .str x t h
 |list vs h1 h4 h5 _ ih=>exact .list vs (k _ _ h1) h4 h5 ih
 |tuple vs h1 h4 h5 _ ih=>exact .tuple vs (k _ _ h1) h4 h5 ih
theorem RepL.mono(k:∀a o,g a=aa o->g' a=aa o)(r:RepL g vs ds):RepL g' vs ds:=by
 induction r with
 |nil=>exact .nil
 |cons h _ ih=>exact .cons (h.mono k) ih
theorem FQ:∀{vs:List ao}{ds:List an},vs.length=ds.length->(∀(i:Nat)(v:ao)(d:an),vs[i]?=aa v->ds[i]?=aa d->∃as,Reads h v d as)->∃as,ReadsAll h vs ds as
 |[],[],_,_=>(bC _ .nil)
 |[],_::_,h,_=>by injection h
 |_::_,[],h,_=>by injection h
 |v::vs,d::ds,h,k=>
  let⟨_,ha⟩:=k 0 v d rfl rfl
  let⟨_,hb⟩:=FQ (vs:=vs) (ds:=ds) (by simpa using h) λi v d h1 h2=>k (i+1) v d (by exact h1) (by exact h2)
  (bC _ (.cons ha hb))
theorem Rep.reads(k:∀a o,g a=aa o->h.get? a=aa o)(r:Rep g v d):∃as,Reads h v d as:=by
 induction r with
 |none=>exact(bC _ .none)
 |bool b=>exact(bC _ (.bool b))
 |int i t=>exact(bC _ (.int i t))
 |str x t _=>exact(bC _ (.str x t))
 |list vs h1 _ h5 _ ih=>
  obtain⟨as,ha⟩:=FQ h5 ih
  exact(bC _ (.list (k _ _ h1) rfl rfl (by simpa using ha)))
 |tuple vs h1 _ h5 _ ih=>
  obtain⟨as,ha⟩:=FQ h5 ih
  exact(bC _ (.tuple (k _ _ h1) rfl rfl (by simpa using ha)))
theorem Rep.int_inv(r:Rep g v (.int i)):∃t,v=.int i t:=by cases r;exact⟨_,rfl⟩
theorem Rep.bool_inv(r:Rep g v (.bool b)):v=.bool b:=by cases r;rfl
theorem Rep.none_inv(r:Rep g v .none):v=.none :=by cases r;rfl
theorem Rep.str_inv(r:Rep g v (.str x)):∃t,v=.str x t/\x.length<=cz:=by cases r with|str _ t h=>exact(aO t rfl h)
theorem Rep.list_inv(r:Rep g v (.list ds)):∃a n vs,v=.ref a/\g a=aa {cls:=.type "list",data:=.seq vs.toArray n}/\dN vs<=cz/\RepL g vs ds:=by cases r with|list vs h1 h4 h5 h6=>exact(jE _ _ vs rfl h1 h4 (RepL.of_at h5 h6))
theorem Rep.tuple_inv(r:Rep g v (.tuple ds)):∃a n vs,v=.ref a/\g a=aa {cls:=.type "tuple",data:=.seq vs.toArray n}/\dN vs<=cz/\RepL g vs ds:=by cases r with|tuple vs h1 h4 h5 h6=>exact(jE _ _ vs rfl h1 h4 (RepL.of_at h5 h6))
theorem Rep.mkList(h1:g a=aa {cls:=.type "list",data:=.seq vs.toArray n})(h4:vs.length<=cz)(r:RepL g vs ds):Rep g (.ref a) (.list ds):=.list vs h1 h4 r.length r.at
theorem Rep.mkTuple(h1:g a=aa {cls:=.type "tuple",data:=.seq vs.toArray n})(h4:vs.length<=cz)(r:RepL g vs ds):Rep g (.ref a) (.tuple ds):=.tuple vs h1 h4 r.length r.at
noncomputable def aJ(X:List au)(h:cC):Bd:=λa=>if a∈X then ac else h.get? a
theorem cb:aJ X h a=aa o↔a∉X/\h.get? a=aa o:=by unfold aJ;by_cases q:a∈X<;>simp[q]
theorem ed(e:aJ X h a=aa o):h.get? a=aa o:=(cb.mp e).2
structure Wd where
 prog:rB
 w:d9
 mg:ar->Option ao
 mb:ar->Option ao
 T:List au
 Bs:cC->Prop
 Tb:cC->Prop
 Base:au->Prop
def na(o:be):Prop:=(o.cls=.none \/o.cls=.type "code")/\∃vs,o.data=.fields vs
structure Wd.Ok(W:Wd):Prop where
 bsG:∀h,W.Bs h->h.Ns ew W.mg
 bsB:∀h,W.Bs h->h.Ns za W.mb
 bsLim:∀h,W.Bs h->h.NoLimit
 bsKeep:∀h h',W.Bs h->(∀b o,W.Base b->h.get? b=aa o->h'.get? b=aa o)->W.Bs h'
 base:∀h,W.Bs h->∀a,W.Base a->a∉W.T/\∃o,h.get? a=aa o
 tbKeep:∀h h',W.Tb h->(∀b o,h.get? b=aa o->na o->h'.get? b=aa o)->W.Tb h'
 tStill:∀h,W.Tb h->∀a∈W.T,∃o,h.get? a=aa o/\na o
 builtins:∀x:ar,W.mg x=ac->x≠"__name__"->W.mb x=zb x
structure Ext(W:Wd)(s s':aE):Prop where
 same:∃h tk,s'={s with heap:=h,toks:=tk}
 keep:∀b o,b∉W.T->s.heap.get? b=aa o->s'.heap.get? b=aa o
 bs:W.Bs s.heap->W.Bs s'.heap
 tb:W.Tb s.heap->W.Tb s'.heap
theorem Ext.refl(W:Wd)(s:aE):Ext W s s:=⟨(eR s.heap s.toks rfl),λ_ _ _ e=>e,id,id⟩
theorem Ext.trans(a:Ext W s s')(b:Ext W s' zE):Ext W s zE:=by refine ay λcG=>?_;obtain⟨⟨h,tk,rfl⟩,k1,b1,t1⟩:=a;obtain⟨⟨h',zF,rfl⟩,k2,b2,t2⟩:=b;apply cG;clear cG;exact⟨(eR h' zF rfl),λb o n e=>k2 b o n (k1 b o n e),b2∘b1,t2∘t1⟩
theorem Ext.tok(t:Nat):Ext W s {s with toks:=t}:=⟨(eR s.heap t rfl),λ_ _ _ e=>e,id,id⟩
theorem Ext.grow(k:W.Ok)(t:Nat)(hk:∀b o,s.heap.get? b=aa o->h.get? b=aa o):Ext W s {s with heap:=h,toks:=t}:=⟨(eR h t rfl),λb o _ e=>hk b o e,λb=>k.bsKeep _ _ b λb o _ e=>hk b o e,λb=>k.tbKeep _ _ b λb o e _=>hk b o e⟩
theorem Ext.push(k:W.Ok)(o:be)(t:Nat):Ext W s {s with heap:=s.heap.push o,toks:=t}:=Ext.grow k t (λ_ _ e=>jr _ e)
theorem Ext.maskK(x:Ext W s s')(hT:∀a∈W.T,a∈X):∀a o,aJ X s.heap a=aa o->aJ X s'.heap a=aa o:=λa o e=>by obtain⟨n,e⟩:=cb.mp e;exact cb.mpr ⟨n,x.keep a o (λq=>n (hT a q)) e⟩
theorem Ext.rep(x:Ext W s s')(hT:∀a∈W.T,a∈X)(r:Rep (aJ X s.heap) v d):Rep (aJ X s'.heap) v d:=r.mono (x.maskK hT)
theorem Ext.repL(x:Ext W s s')(hT:∀a∈W.T,a∈X)(r:RepL (aJ X s.heap) v d):RepL (aJ X s'.heap) v d:=r.mono (x.maskK hT)
structure AOk(A:dK)(k:Nat):Prop where
 handled:A.handled=ac
 depth:A.depth+k<1000
 units:A.units+10*k+100<cLine
theorem AOk.deeper(a:AOk A (k+1)):AOk (A.deeper env) k:=⟨a.handled,by have:=a.depth;show A.depth+1+k<1000;exact aQ 0x382aba243203240382aba2430c9200 Yt this,by have:=a.units;show A.units+3+10*k+100<cLine;exact bR 0x3900e28890d32122436403900e28890d30c9212240 Yt this⟩
def oE(env:bP)(h:cC)(m:ar->Option ao)(x:ar)(k:dR)(v:ao):Prop:=
 match k with
 | .local =>m x=aa v
 | .cell | .free =>∃c,env.cells.lookup x=aa c/\h.IsCell c (aa v)
 |_=>False
def VarOk(W:Wd)(X0:List au)(env:bP)(oa:Nat->au)(X:List au)(h:cC)(m:ar->Option ao)(i:Nat)(x:ar)(k:dR):Option FV->Prop
 |some (.val d)=>∃v,oE env h m x k v/\Rep (aJ X h) v d
 |some (.own xs)=>k=.local /\m x=aa (.ref (oa i))/\oa i∈X/\(oa i∉X0/\¬W.Base (oa i))/\
   ∃n vs,h.get? (oa i)=aa {cls:=.type "list",data:=.seq vs.toArray n}/\dN vs<=cz/\RepL (aJ X h) vs xs
 |_=>True
structure SR(W:Wd)(X0:List au)(env:bP)(oa:Nat->au)(X:List au)(h:cC)(f:Frm):Prop where
 bs:W.Bs h
 tb:W.Tb h
 tX:∀a∈W.T,a∈X0
 sub:∀a∈X0,a∈X
 alX:∀a∈X,∃o,h.get? a=aa o
 loc:env.locals∈X/\env.locals∉X0/\¬W.Base env.locals
 cellI:∀x c,env.cells.lookup x=aa c->c∈X/\∃v,h.IsCell c v
 vars:∃m,h.Ns env.locals m/\∀i x k,env.scope.names[i]?=aa (x,k)->VarOk W X0 env oa X h m i x k f[i]?
 ownA:∀i j xs ys,f[i]?=aa (.own xs)->f[j]?=aa (.own ys)->i≠j->oa i≠oa j
 len:f.length=env.scope.names.length
structure CellsMine(W:Wd)(X0:List au)(env:bP):Prop where
 mine:∀x c,env.kindOf x=aa .cell ->env.cells.lookup x=aa c->c∉X0/\¬W.Base c
 apart:env.cells.Pairwise λx y=>x.2≠y.2
structure Stp(W:Wd)(X0 X X':List au)(s s':aE):Prop where
 same:∃h tk,s'={s with heap:=h,toks:=tk}
 keep:∀b o,b∉X->s.heap.get? b=aa o->s'.heap.get? b=aa o
 keep0:∀b o,b∈X0->b∉W.T->s.heap.get? b=aa o->s'.heap.get? b=aa o
 new:∀a∈X',a∈X\/s.heap.get? a=ac
theorem Stp.refl(W:Wd)(X0 X:List au)(s:aE):Stp W X0 X X s s:=⟨(eR s.heap s.toks rfl),λ_ _ _ e=>e,λ_ _ _ _ e=>e,λ_ h=>.inl h⟩
theorem Stp.trans(a:Stp W X0 X X' s s')(b:Stp W X0 X' Ja s' zE):Stp W X0 X Ja s zE:=by
 refine ay λcG=>?_;obtain⟨⟨h,tk,rfl⟩,k1,z1,n1⟩:=a;obtain⟨⟨h',zF,rfl⟩,k2,z2,n2⟩:=b;apply cG;clear cG;refine⟨(eR h' zF rfl),λb o n e=>?_,λb o i n e=>z2 b o i n (z1 b o i n e),λa q=>?_⟩
 ·refine k2 b o (λq=>?_) (k1 b o n e);refine bX (n1 b q) (λq=>?_) λq=>?_
  ·exact n q
  ·rw[e]at q;injection q
 ·refine bX (n2 a q) (λq=>?_) λq=>?_
  ·exact n1 a q
  ·by_cases qX:a∈X
   ·exact .inl qX
   ·refine .inr ?_;cases e:s.heap.get? a with
    |none=>rfl
    |some o=>rw[k1 a o qX e]at q;injection q
theorem Stp.sub(a:Stp W X0 X X' s s')(h:∀x∈Ja,x∈X'):Stp W X0 X Ja s s':=⟨a.same,a.keep,a.keep0,λx q=>a.new x (h x q)⟩
theorem Ext.stp(x:Ext W s s')(tX:∀a∈W.T,a∈X):Stp W X0 X X s s':=⟨x.same,λb o n e=>x.keep b o (λq=>n (tX b q)) e,λb o _ n e=>x.keep b o n e,λ_ h=>.inl h⟩
theorem Stp.mut(t:Nat)(hs:mF a s.heap h')(ha:a∈X)(h0:a∉X0):Stp W X0 X X s {s with heap:=h',toks:=t}:=⟨(eR h' t rfl),λb o n e=>(hs.2 b λq=>n (q▸ha)).trans e,λb o i _ e=>(hs.2 b λq=>h0 (q▸i)).trans e,λ_ h=>.inl h⟩
structure EnvOk(env:bP):Prop where
 kind:env.scope.kind=.function
 glob:env.globals=ew
 blt:env.builtins=za
 nodup:(env.scope.names.map (·.1)).Nodup
 cellsAll:∀(i:Nat)(x:ar)(k:dR),env.scope.names[i]?=aa (x,k)->k=.cell \/k=.free ->∃c,env.cells.lookup x=aa c
theorem sR:∀{l:List (ar×α)}{i:Nat}{x:ar}{k:α},(l.map (·.1)).Nodup ->l[i]?=aa (x,k)->l.lookup x=aa k
 |[],_,_,_,_,h=>by injection h
 |(y,b)::l,0,x,k,hn,h=>by simp at h;obtain⟨rfl,rfl⟩:=h;simp[pT]
 |(y,b)::l,i+1,x,k,hn,h=>by
  simp only[cU]at h;simp only[cA,rC]at hn;refine(?_:(x∈l.map (·.1))->_) (gi.mpr (aO ((x,k)) (mG h) rfl));intro hx;have bT:(x==y)=af:=by
   cases q:x==y with
   |false=>rfl
   |true=>exact absurd (bV.mp q▸hx) hn.1
  simp only[pT,bT];exact sR hn.2 h
theorem EnvOk.kindAt(e:EnvOk env){i:Nat}{x:ar}{k:dR}(h:env.scope.names[i]?=aa (x,k)):env.kindOf x=aa k:=sR e.nodup h
theorem Be{l:List (ar×dR)}(hn:(l.map (·.1)).Nodup){i j:Nat}{x:ar}{k k':dR}(h:l[i]?=aa (x,k))(h':l[j]?=aa (x,k')):i=j:=by refine(?_:((l.map (·.1))[i]?=aa x)->_) (by rw[dS];refine ag h ?_;rfl);intro hi;refine(?_:((l.map (·.1))[j]?=aa x)->_) (by rw[dS];refine ag h' ?_;rfl);intro hj;obtain⟨uq,ut⟩:=mH.mp hi;obtain⟨rW,qi⟩:=mH.mp hj;exact(List.getElem_inj hn).mp (ut.trans qi.symm)
theorem sT{h h':cC}{T:List au}(k:∀b o,b∉T->h.get? b=aa o->h'.get? b=aa o){c v}(hc:c∉T)(x:h.IsCell c v):h'.IsCell c v:=let⟨o,a,b⟩:=x;⟨o,k c o hc a,b⟩
section
variable {W:Wd} {X0:List au} {env:bP} {oa:Nat->au} {X:List au} {f:Frm}
theorem oH(k:W.Ok)(tb:W.Tb h)(x:h.IsCell c v):c∉W.T:=λhc=>by refine ai (k.tStill h tb c hc) λo ho hs=>?_;obtain⟨o',iU,hd⟩:=x;rw[ho]at iU;obtain rfl:=aB iU;obtain⟨_,vs,hv⟩:=hs;rw[hd]at hv;injection hv
theorem Bf(k:W.Ok)(tb:W.Tb h)(x:h.Ns a m):a∉W.T:=λhc=>by refine ai (k.tStill h tb a hc) λo ho hs=>?_;obtain⟨o',es,n,iU,hd,_⟩:=x;rw[ho]at iU;obtain rfl:=aB iU;obtain⟨_,vs,hv⟩:=hs;rw[hd]at hv;injection hv
theorem qG(k:W.Ok)(tb:W.Tb h)(ho:h.get? a=aa o)(hd:o.data=.seq vs n):a∉W.T:=λhc=>by refine ai (k.tStill h tb a hc) λo' iU hs=>?_;rw[ho]at iU;obtain rfl:=aB iU;obtain⟨_,vs,hv⟩:=hs;rw[hd]at hv;injection hv
theorem VarOk.keep{h h':cC}{T:List au}{m i x k fv}(hk:∀b o,b∉T->h.get? b=aa o->h'.get? b=aa o)(hT:∀a∈T,a∈X)
  (hc:∀c v,env.cells.lookup x=aa c->h.IsCell c v->c∉T) (hs:∀a o vs n,h.get? a=aa o->o.data=.seq vs n->a∉T)
  (v:VarOk W X0 env oa X h m i x k fv):VarOk W X0 env oa X h' m i x k fv:=by
 have mk:∀a o,aJ X h a=aa o->aJ X h' a=aa o:=λa o e=>by refine aF (cb.mp e) λn e=>?_;exact cb.mpr ⟨n,hk a o (λq=>n (hT a q)) e⟩
 cases fv with
 |none=>trivial
 |some fv=>cases fv with
  |un=>trivial
  |val d=>
   refine ay λcG=>?_
   obtain⟨v,a,r⟩:=v
   apply cG;clear cG
   refine⟨v,?_,r.mono mk⟩
   cases k with
   |«local»=>exact a
   |cell=>obtain⟨c,e,i⟩:=a;exact⟨c,e,sT hk (hc c _ e i) i⟩
   |free=>obtain⟨c,e,i⟩:=a;exact⟨c,e,sT hk (hc c _ e i) i⟩
   |_=>exact a
  |own xs=>
   refine ay λcG=>?_
   obtain⟨a,b,c,d,n,vs,e1,e5,e6⟩:=v
   apply cG;clear cG
   exact⟨a,b,c,d,n,vs,hk _ _ (hs _ _ _ _ e1 rfl) e1,e5,e6.mono mk⟩
theorem SR.ext(k:W.Ok){s s':aE}(r:SR W X0 env oa X s.heap f)(x:Ext W s s'):SR W X0 env oa X s'.heap f:=by
 refine ai r.vars λm hn hv=>?_;refine(?_:(s'.heap.Ns env.locals m)->_) (by refine ay λcG=>?_;have:=Bf k r.tb hn;obtain⟨o,es,n,a,b,c⟩:=hn;apply cG;clear cG;exact⟨o,es,n,x.keep _ _ this a,b,c⟩);intro dY;exact⟨x.bs r.bs,x.tb r.tb,r.tX,r.sub,λa ha=>by
   by_cases q:a∈W.T
   ·refine ai (k.tStill _ (x.tb r.tb) a q) λo e _=>?_;exact(bC o e)
   ·refine aD (r.alX a ha) λo e=>?_;exact(bC o (x.keep a o q e)),r.loc,
  λy c e=>⟨(r.cellI y c e).1,let⟨v,i⟩:=(r.cellI y c e).2;⟨v,sT x.keep (oH k r.tb i) i⟩⟩,
  (aO m dY (λi y kd e=>(hv i y kd e).keep x.keep (λa ha=>r.sub a (r.tX a ha)) (λc v _ i=>oH k r.tb i) λa o vs n e d=>qG k r.tb e d)),r.ownA,r.len⟩
theorem SR.tXX(r:SR W X0 env oa X h f):∀a∈W.T,a∈X:=λa ha=>r.sub a (r.tX a ha)
theorem km(f:Frm)(i j:Nat)(v:FV):(f.put i v)[j]?=if i=j then(if i<f.length then aa v else ac)else f[j]?:=by unfold Frm.put;simp only[List.getElem?_set]
theorem qH(hs:mF a h h')(ha:a∈X):∀b o,aJ X h b=aa o->aJ X h' b=aa o:=λb o e=>by obtain⟨n,e⟩:=cb.mp e;exact cb.mpr ⟨n,(hs.2 b λq=>n (q▸ha)).trans e⟩
theorem x0{h:cC}{a c m v}(x:h.Ns a m)(y:h.IsCell c v):c≠a:=λq=>by subst q;obtain⟨o,es,n,ho,hd,_⟩:=x;obtain⟨o',iU,DR⟩:=y;rw[ho]at iU;obtain rfl:=aB iU;rw[hd]at DR;injection DR
theorem Bg{h:cC}{a c m o vs n}(x:h.Ns a m)(y:h.get? c=aa o)(d:o.data=.seq vs n):c≠a:=λq=>by subst q;obtain⟨o',es,n,ho,hd,_⟩:=x;rw[ho]at y;obtain rfl:=aB y;rw[hd]at d;injection d
theorem vk{h:cC}{a c v o vs n}(x:h.IsCell a v)(y:h.get? c=aa o)(d:o.data=.seq vs n):c≠a:=λq=>by subst q;obtain⟨o',ho,hd⟩:=x;rw[ho]at y;obtain rfl:=aB y;rw[hd]at d;injection d
structure MutOk(W:Wd)(X0 X:List au)(a:au)(h h':cC):Prop where
 same:mF a h h'
 mem:a∈X
 new:a∉X0/\¬W.Base a
 still:∀o,h.get? a=aa o->¬na o
 live:∃o,h'.get? a=aa o
theorem MutOk.bs(k:W.Ok)(x:MutOk W X0 X a h h')(b:W.Bs h):W.Bs h':=k.bsKeep h h' b λc o n e=>(x.same.2 c λq=>x.new.2 (q▸n)).trans e
theorem MutOk.tb(k:W.Ok)(x:MutOk W X0 X a h h')(t:W.Tb h):W.Tb h':=k.tbKeep h h' t λb o e st=>(x.same.2 b λq=>x.still o (q▸e) st).trans e
theorem MutOk.alive(x:MutOk W X0 X a h h')(r:SR W X0 env oa X h f):∀b∈X,∃o,h'.get? b=aa o:=λb hb=>by
 by_cases q:b=a
 ·subst q;exact x.live
 ·obtain⟨o,e⟩:=r.alX b hb;exact⟨o,(x.same.2 b q).trans e⟩
theorem VarOk.mut(hs:mF a h h')(ha:a∈X)(hc:∀c v,env.cells.lookup x=aa c->h.IsCell c v->c≠a)
  (ho:∀xs,fv=aa (.own xs)->oa i≠a) (v:VarOk W X0 env oa X h m i x k fv):VarOk W X0 env oa X h' m i x k fv:=by
 cases fv with
 |none=>trivial
 |some fv=>cases fv with
  |un=>trivial
  |val d=>
   refine ay λcG=>?_
   obtain⟨v,b,r⟩:=v
   apply cG;clear cG
   refine⟨v,?_,r.mono (qH hs ha)⟩
   cases k with
   |«local»=>exact b
   |cell=>obtain⟨c,e,i⟩:=b;exact⟨c,e,i.sameBut hs (hc c _ e i)⟩
   |free=>obtain⟨c,e,i⟩:=b;exact⟨c,e,i.sameBut hs (hc c _ e i)⟩
   |_=>exact b
  |own xs=>
   refine ay λcG=>?_
   obtain⟨b,c,d,e,n,vs,e1,e5,e6⟩:=v
   apply cG;clear cG
   exact⟨b,c,d,e,n,vs,(hs.2 _ (ho xs rfl)).trans e1,e5,e6.mono (qH hs ha)⟩
theorem VarOk.setm(hm:m' x=m x)(v:VarOk W X0 env oa X h m i x k fv):VarOk W X0 env oa X h m' i x k fv:=by
 cases fv with
 |none=>trivial
 |some fv=>cases fv with
  |un=>trivial
  |val d=>
   obtain⟨v,b,r⟩:=v;refine⟨v,?_,r⟩;cases k with
   |«local»=>exact hm.trans b
   |cell=>exact b
   |free=>exact b
   |_=>exact b
  |own xs=>obtain⟨b,c,d⟩:=v;exact⟨b,hm.trans c,d⟩
theorem SR.storeLocal(k:W.Ok)(eo:EnvOk env){h h':cC}{m:ar->Option ao}{i:Nat}{x:ar}{v:ao}{d:an}(r:SR W X0 env oa X h f)
  (hn:h.Ns env.locals m) (hv:∀j y kd,env.scope.names[j]?=aa (y,kd)->VarOk W X0 env oa X h m j y kd f[j]?) (hi:env.scope.names[i]?=aa (x,.local))
  (g7:h'.Ns env.locals λy=>if y=x then aa v else m y) (hs:mF env.locals h h') (rp:Rep (aJ X h) v d):SR W X0 env oa X h' (f.put i (.val d)):=by
 refine(?_:(MutOk W X0 X env.locals h h')->_) (⟨hs,r.loc.1,r.loc.2,(λo e st=>by obtain⟨o',es,n,ho,hd,_⟩:=hn;rw[ho]at e;obtain rfl:=aB e;obtain⟨_,vs,q⟩:=st;rw[hd]at q;injection q),(by obtain⟨o,_,_,e,_⟩:=g7;exact(bC o e))⟩)
 intro M
 refine⟨M.bs k r.bs,M.tb k r.tb,r.tX,r.sub,M.alive r,r.loc,λy c e=>?_,(aO _ g7 (λj y kd e=>?_)),λa b xs ys ha hb=>?_,(tS ..).trans r.len⟩
 ·refine ay λcG=>?_;obtain⟨q,w,i⟩:=r.cellI y c e;apply cG;clear cG;exact⟨q,w,i.sameBut hs (x0 hn i)⟩
 ·simp only[km];by_cases ch:i=j
  ·subst ch;rw[hi]at e;obtain⟨rfl,rfl⟩:=dx (aB e);rw[aw rfl];by_cases hl:i<f.length
   ·rw[aw hl];exact⟨v,by simp[oE],rp.mono (qH hs r.loc.1)⟩
   ·rw[az hl];trivial
  ·rw[az ch];refine(?_:(y≠x)->_) (λq=>ch (Be eo.nodup hi (q▸e)));intro rX;refine((hv j y kd e).mut hs r.loc.1 (λc v _ i=>x0 hn i) λxs q=>?_).setm (by simp[rX]);refine ay λcG=>?_;have:=hv j y kd e;simp only[q]at this;obtain⟨_,_,_,_,n,vs,e1,_⟩:=this;apply cG;clear cG;exact Bg hn e1 rfl
 ·rw[km]at ha hb;by_cases h1:i=a
  ·rw[aw h1]at ha;split at ha<;>cases ha
  ·by_cases h2:i=b
   ·rw[aw h2]at hb;split at hb<;>cases hb
   ·rw[az h1]at ha;rw[az h2]at hb;exact r.ownA a b xs ys ha hb
theorem SR.storeCell(k:W.Ok)(eo:EnvOk env)(cm:CellsMine W X0 env){h h':cC}{m:ar->Option ao}{i:Nat}{x:ar}{c:au}{v:ao}{d:an}(r:SR W X0 env oa X h f)
  (hn:h.Ns env.locals m) (hv:∀j y kd,env.scope.names[j]?=aa (y,kd)->VarOk W X0 env oa X h m j y kd f[j]?) (hi:env.scope.names[i]?=aa (x,.cell)) (hc:env.cells.lookup x=aa c)
  {Jb:Option ao} (iV:h.IsCell c Jb) (rY:h'.IsCell c (aa v)) (hs:mF c h h') (rp:Rep (aJ X h) v d):SR W X0 env oa X h' (f.put i (.val d)):=by
 have lQ:=(r.cellI x c hc).1
 refine(?_:(MutOk W X0 X c h h')->_) (⟨hs,lQ,cm.mine x c (eo.kindAt hi) hc,(λo e st=>by obtain⟨o',ho,hd⟩:=iV;rw[ho]at e;obtain rfl:=aB e;obtain⟨_,vs,q⟩:=st;rw[hd]at q;injection q),(by obtain⟨o,e,_⟩:=rY;exact(bC o e))⟩)
 intro M
 refine(?_:(env.locals≠c)->_) ((x0 hn iV).symm);intro zG
 refine⟨M.bs k r.bs,M.tb k r.tb,r.tX,r.sub,M.alive r,r.loc,λy c' e=>?_,(aO m (hn.sameBut hs zG) (λj y kd e=>?_)),λa b xs ys ha hb=>?_,(tS ..).trans r.len⟩
 ·refine ay λcG=>?_;obtain⟨q,w,i⟩:=r.cellI y c' e;apply cG;clear cG;by_cases g8:c'=c
  ·clear hc iV hs lQ M zG;subst g8;exact⟨q,_,rY⟩
  ·exact⟨q,w,i.sameBut hs g8⟩
 ·simp only[km];by_cases ch:i=j
  ·subst ch;rw[hi]at e;obtain⟨rfl,rfl⟩:=dx (aB e);rw[aw rfl];by_cases hl:i<f.length
   ·rw[aw hl];exact⟨v,⟨c,hc,rY⟩,rp.mono (qH hs lQ)⟩
   ·rw[az hl];trivial
  ·rw[az ch];have rX:y≠x:=λq=>ch (Be eo.nodup hi (q▸e));refine(hv j y kd e).mut hs lQ (λc' v e' i q=>?_) λxs q=>?_
   ·exact rX (name_of_addr cm.apart (mem_of_lookup e') (q▸mem_of_lookup hc))
   ·refine ay λcG=>?_;have:=hv j y kd e;simp only[q]at this;obtain⟨_,_,_,_,n,vs,e1,_⟩:=this;apply cG;clear cG;exact vk iV e1 rfl
 ·rw[km]at ha hb;by_cases h1:i=a
  ·rw[aw h1]at ha;split at ha<;>cases ha
  ·by_cases h2:i=b
   ·rw[aw h2]at hb;split at hb<;>cases hb
   ·rw[az h1]at ha;rw[az h2]at hb;exact r.ownA a b xs ys ha hb
theorem SR.ltX(r:SR W X0 env oa X h f):∀a∈X,a<h.objs.size:=λa ha=>let⟨_,e⟩:=r.alX a ha;fK e
theorem SR.ltX'(r:SR W X0 env oa X h f):∀a,h.get? a=ac->a∉X:=λa e q=>by refine aD (r.alX a q) λo q=>?_;rw[e]at q;injection q
theorem Wd.Ok.fresh(k:W.Ok)(b:W.Bs h)(e:h.get? a=ac):¬W.Base a:=λq=>by obtain⟨_,o,q⟩:=k.base h b a q;rw[e]at q;injection q
theorem WH(hk:∀a o,aJ X h a=aa o->h'.get? a=aa o)(hI:∀a∈I,h.get? a=ac):∀a o,aJ X h a=aa o->aJ (I++X) h' a=aa o:=λa o e=>by
 have e':=cb.mp e;refine cb.mpr ⟨λq=>?_,hk a o e⟩;refine bX (gZ.mp q) (λq=>?_) λq=>?_
 ·have:=hI a q;rw[e'.2]at this;injection this
 ·exact e'.1 q
theorem FR(s:∀a∈X,a∈X'):∀a o,aJ X' h a=aa o->aJ X h a=aa o:=λa o e=>by obtain⟨n,e⟩:=cb.mp e;exact cb.mpr ⟨λq=>n (s a q),e⟩
theorem SR.hide(k:W.Ok){s s':aE}{I:List au}(r:SR W X0 env oa X s.heap f)(x:Ext W s s')(hI:∀a∈I,s.heap.get? a=ac/\∃o,s'.heap.get? a=aa o):
  SR W (I++X0) env oa (I++X) s'.heap f:=by
 refine ay λcG=>?_
 have r':=r.ext k x
 refine ai r.vars λm hn hv=>?_
 refine ai r'.vars λm' g7 hv'=>?_
 have hm:∀a o,aJ X s.heap a=aa o->aJ (I++X) s'.heap a=aa o:=WH (λa o e=>ed (x.maskK (λa ha=>r.sub a (r.tX a ha)) a o e)) λa ha=>(hI a ha).1
 have Uq:∀a o,s.heap.get? a=aa o->a∉I:=λa o e q=>by rw[(hI a q).1]at e;injection e
 refine(?_:(s'.heap.Ns env.locals m)->_) (by refine ay λcG=>?_;have:=Bf k r.tb hn;obtain⟨o,es,n,a,b,c⟩:=hn;apply cG;clear cG;exact⟨o,es,n,x.keep _ _ this a,b,c⟩)
 intro dY
 apply cG;clear cG
 refine⟨r'.bs,r'.tb,λa ha=>nM _ (r.tX a ha),λa ha=>?_,λa ha=>?_,⟨nM _ r.loc.1,λq=>?_,r.loc.2.2⟩,λy c e=>?_,(aO m dY (λi y kd e=>?_)),r.ownA,r.len⟩
 ·refine bX (gZ.mp ha) (λq=>?_) λq=>?_
  ·exact Iy _ q
  ·exact nM _ (r.sub a q)
 ·refine bX (gZ.mp ha) (λq=>?_) λq=>?_
  ·exact(hI a q).2
  ·exact r'.alX a q
 ·refine bX (gZ.mp q) (λq=>?_) λq=>?_
  ·obtain⟨o,_,_,e,_⟩:=hn;exact Uq _ o e q
  ·exact r.loc.2.1 q
 ·exact⟨nM _ (r'.cellI y c e).1,(r'.cellI y c e).2⟩
 ·refine(?_:_->_) (hv i y kd e);intro v;revert v;generalize f[i]?=fv;intro v;cases fv with
  |none=>trivial
  |some fv=>cases fv with
   |un=>trivial
   |val d=>
    refine ay λcG=>?_;obtain⟨v,b,q⟩:=v;apply cG;clear cG;refine⟨v,?_,q.mono hm⟩;cases kd with
    |«local»=>exact b
    |cell=>obtain⟨c,e,i⟩:=b;exact⟨c,e,sT x.keep (oH k r.tb i) i⟩
    |free=>obtain⟨c,e,i⟩:=b;exact⟨c,e,sT x.keep (oH k r.tb i) i⟩
    |_=>exact b
   |own xs=>
    refine ay λcG=>?_;obtain⟨a,b,c,⟨d1,d2⟩,n,vs,e1,e5,e6⟩:=v;apply cG;clear cG;refine⟨a,b,nM _ c,⟨λq=>?_,d2⟩,n,vs,x.keep _ _ (qG k r.tb e1 rfl) e1,e5,e6.mono hm⟩;refine bX (gZ.mp q) (λq=>?_) λq=>?_
    ·exact Uq _ _ e1 q
    ·exact d1 q
theorem SR.less(r:SR W (I++X0) env oa X h f)(tX:∀a∈W.T,a∈X0):SR W X0 env oa X h f:=by
 refine ai r.vars λm hn hv=>?_;refine⟨r.bs,r.tb,tX,λa ha=>r.sub a (nM _ ha),r.alX,⟨r.loc.1,λq=>r.loc.2.1 (nM _ q),r.loc.2.2⟩,r.cellI,(aO m hn (λi y kd e=>?_)),r.ownA,r.len⟩;refine(?_:_->_) (hv i y kd e);intro v;revert v;generalize f[i]?=fv;intro v;cases fv with
 |none=>trivial
 |some fv=>cases fv with
  |un=>trivial
  |val d=>exact v
  |own xs=>refine ay λcG=>?_;obtain⟨a,b,c,⟨d1,d2⟩,z⟩:=v;apply cG;clear cG;exact⟨a,b,c,⟨λq=>d1 (nM _ q),d2⟩,z⟩
theorem SR.other(k:W.Ok){Wr:List au}(r:SR W X0 env oa X h f)(hk:∀b o,b∉Wr->h.get? b=aa o->h'.get? b=aa o)
  (hW:∀a∈Wr,a∈X0/\¬W.Base a/\a∉W.T/\(∃o,h'.get? a=aa o)/\∀o,h.get? a=aa o->¬na o/\∀v,o.data≠.cell v):SR W X0 env oa X h' f:=by
 refine ay λcG=>?_
 refine ai r.vars λm hn hv=>?_
 have zH:∀a,a∉X0->a∉Wr:=λa n q=>n (hW a q).1
 have rZ:∀c v,h.IsCell c v->c∉Wr:=λc v ⟨o,e,d⟩ q=>((hW c q).2.2.2.2 o e).2 v d
 have hm:∀a o,aJ X h a=aa o->aJ X h' a=aa o:=λa o e=>by refine aF (cb.mp e) λn e=>?_;exact cb.mpr ⟨n,hk a o (λq=>n (r.sub a (hW a q).1)) e⟩
 refine(?_:(h'.Ns env.locals m)->_) (by refine ay λcG=>?_;obtain⟨o,es,n,a,b,c⟩:=hn;apply cG;clear cG;exact⟨o,es,n,hk _ _ (zH _ r.loc.2.1) a,b,c⟩)
 intro dY
 apply cG;clear cG
 refine⟨k.bsKeep h h' r.bs λb o q e=>hk b o (λq'=>(hW b q').2.1 q) e,k.tbKeep h h' r.tb λb o e st=>hk b o (λq'=>((hW b q').2.2.2.2 o e).1 st) e,r.tX,r.sub,λa ha=>?_,r.loc,λy c e=>?_,(aO m dY (λi y kd e=>?_)),r.ownA,r.len⟩
 ·by_cases q:a∈Wr
  ·exact(hW a q).2.2.2.1
  ·refine aD (r.alX a ha) λo e=>?_;exact(bC o (hk a o q e))
 ·refine ay λcG=>?_;obtain⟨p,v,i⟩:=r.cellI y c e;obtain⟨o,e1,e2⟩:=id i;apply cG;clear cG;exact⟨p,v,o,hk c o (rZ c v i) e1,e2⟩
 ·refine(?_:_->_) (hv i y kd e);intro v;revert v;generalize f[i]?=fv;intro v;cases fv with
  |none=>trivial
  |some fv=>cases fv with
   |un=>trivial
   |val d=>
    refine ay λcG=>?_;obtain⟨v,b,q⟩:=v;apply cG;clear cG;refine⟨v,?_,q.mono hm⟩;cases kd with
    |«local»=>exact b
    |cell=>obtain⟨c,e,i⟩:=b;obtain⟨o,e1,e2⟩:=id i;exact⟨c,e,o,hk c o (rZ c _ i) e1,e2⟩
    |free=>obtain⟨c,e,i⟩:=b;obtain⟨o,e1,e2⟩:=id i;exact⟨c,e,o,hk c o (rZ c _ i) e1,e2⟩
    |_=>exact b
   |own xs=>refine ay λcG=>?_;obtain⟨a,b,c,d,n,vs,e1,e5,e6⟩:=v;apply cG;clear cG;exact⟨a,b,c,d,n,vs,hk _ _ (zH _ d.1) e1,e5,e6.mono hm⟩
theorem SR.forget(r:SR W X0 env oa X h f)(i:Nat):SR W X0 env oa X h (f.put i .un):=by
 refine ay λcG=>?_;refine ai r.vars λm hn hv=>?_;apply cG;clear cG;refine⟨r.bs,r.tb,r.tX,r.sub,r.alX,r.loc,r.cellI,(aO m hn (λj y kd e=>?_)),λa b xs ys ha hb=>?_,(tS ..).trans r.len⟩
 ·simp only[km];by_cases ch:i=j
  ·rw[aw ch];split<;>trivial
  ·rw[az ch];exact hv j y kd e
 ·rw[km]at ha hb;by_cases h1:i=a
  ·rw[aw h1]at ha;split at ha<;>cases ha
  ·by_cases h2:i=b
   ·rw[aw h2]at hb;split at hb<;>cases hb
   ·rw[az h1]at ha;rw[az h2]at hb;exact r.ownA a b xs ys ha hb
theorem SR.drop(k:W.Ok)(r:SR W (I::X0) env oa X h f)(tX:∀a∈W.T,a∈X0)(hI:I∉X0)(hk:∀b o,b≠I->h.get? b=aa o->h'.get? b=aa o)
  (hb:¬W.Base I) (hs:∀o,h.get? I=aa o->¬na o/\(∀v,o.data≠.cell v)/\∀vs n,o.data≠.seq vs n):SR W X0 env oa (X.filter (· ≠I)) h' f:=by
 refine ay λcG=>?_
 refine ai r.vars λm hn hv=>?_
 have mem:∀a,a∈X->a≠I->a∈X.filter (· ≠I):=λa q n=>oZ.mpr ⟨q,by simpa using n⟩
 have rZ:∀c v,h.IsCell c v->c≠I:=λc v ⟨o,e,d⟩ q=>(hs o (q▸e)).2.1 v d
 have nI:∀a,a∉I::X0->a≠I:=λa n q=>n (q▸fD)
 have zH:∀a,a∉I::X0->a∉X0:=λa n q=>n (eh _ q)
 refine(?_:(h'.Ns env.locals m)->_) (by refine ay λcG=>?_;obtain⟨o,es,n,a,b,c⟩:=hn;apply cG;clear cG;exact⟨o,es,n,hk _ _ (nI _ r.loc.2.1) a,b,c⟩)
 intro dY
 have hm:∀a o,aJ X h a=aa o->aJ (X.filter (· ≠I)) h' a=aa o:=λa o e=>by refine aF (cb.mp e) λn e=>?_;refine cb.mpr ⟨λq=>n (oZ.mp q).1,hk a o (λq=>n (q▸r.sub I fD)) e⟩
 apply cG;clear cG
 refine⟨k.bsKeep h h' r.bs λb o q e=>hk b o (λq'=>hb (q'▸q)) e,k.tbKeep h h' r.tb λb o e st=>hk b o (λq'=>(hs o (q'▸e)).1 st) e,tX,λa ha=>?_,λa ha=>?_,⟨mem _ r.loc.1 (nI _ r.loc.2.1),zH _ r.loc.2.1,r.loc.2.2⟩,λy c e=>?_,(aO m dY (λi y kd e=>?_)),r.ownA,r.len⟩
 ·exact mem a (r.sub a (eh _ ha)) λq=>hI (q▸ha)
 ·refine aF (oZ.mp ha) λp q=>?_;refine aD (r.alX a p) λo e=>?_;exact(bC o (hk a o (by simpa using q) e))
 ·refine ay λcG=>?_;obtain⟨p,v,i⟩:=r.cellI y c e;obtain⟨o,e1,e2⟩:=id i;apply cG;clear cG;exact⟨mem c p (rZ c v i),v,o,hk c o (rZ c v i) e1,e2⟩
 ·refine(?_:_->_) (hv i y kd e);intro v;revert v;generalize f[i]?=fv;intro v;cases fv with
  |none=>trivial
  |some fv=>cases fv with
   |un=>trivial
   |val d=>
    refine ay λcG=>?_;obtain⟨v,b,q⟩:=v;apply cG;clear cG;refine⟨v,?_,q.mono hm⟩;cases kd with
    |«local»=>exact b
    |cell=>obtain⟨c,e,i⟩:=b;obtain⟨o,e1,e2⟩:=id i;exact⟨c,e,o,hk c o (rZ c _ i) e1,e2⟩
    |free=>obtain⟨c,e,i⟩:=b;obtain⟨o,e1,e2⟩:=id i;exact⟨c,e,o,hk c o (rZ c _ i) e1,e2⟩
    |_=>exact b
   |own xs=>refine ay λcG=>?_;obtain⟨a,b,c,d,n,vs,e1,e5,e6⟩:=v;apply cG;clear cG;exact⟨a,b,mem _ c (nI _ d.1),⟨zH _ d.1,d.2⟩,n,vs,hk _ _ (nI _ d.1) e1,e5,e6.mono hm⟩
end
theorem qJ{a b c:aE}(h1:∃h t,b={a with heap:=h,toks:=t})(h2:∃h t,c={b with heap:=h,toks:=t}):∃h t,c={a with heap:=h,toks:=t}:=by obtain⟨h,t,rfl⟩:=h1;obtain⟨h',t',rfl⟩:=h2;exact(eR h' t' rfl)
end
section
abbrev bg:ao->aE->Prop:=λ_ _=>False
abbrev jH(W:Wd)(X:List au)(s:aE)(d:an)(Q:ao->aE->Prop):Prop:=∀v s',Ext W s s'->Rep (aJ X s'.heap) v d->Q v s'
noncomputable def sU:BO->Operator
 | .add =>.Add | .sub =>.Sub | .mul =>.Mult | .fdiv =>.FloorDiv | .mod =>.Mod | .shl =>.LShift | .shr =>.RShift | .band =>.BitAnd | .bor =>.BitOr | .bxor =>.BitXor | .pow =>.Pow
noncomputable def qK:CO->CmpOp
 | .eq =>.Eq | .ne =>.NotEq | .lt =>.Lt | .le =>.LtE | .gt =>.Gt | .ge =>.GtE | .is =>.Is | .isnt =>.IsNot | .isin =>.In | .notin =>.NotIn
theorem Bh{x y:Int}(h:0<y):x.fdiv y=x/y:=Int.fdiv_eq_ediv_of_nonneg x (mC h)
theorem Nn{x y:Int}(h:0<y):x.fmod y=x%y:=Int.fmod_eq_emod_of_nonneg x (mC h)
theorem No(n:Nat):(0:Int)<2^n:=Ds (by decide)
theorem Bi(h:di x=ae):wy x<=1000000:=by unfold di at h;have:=of_decide_eq_true h;unfold wy;split<;>lia
theorem WI(hx:di x=ae)(hy:di y=ae):IntMulOk x y:=by have a:=Bi hx;have b:=Bi hy;delta IntMulOk Builtin.Int.intTooBig;simp only[bo,bl,not_and];intro _ q;refine(?_:(bitsLine=134217728)->_) (rfl);intro e;exact N4 0x2e04118208a2a2c9920608228a8b26503c3b10b08b00d82082082082082240 [_,_,_] Yt a b q e
theorem Np(hx:0<=x)(hy:0<=y):TC x y=((x.toNat&&& y.toNat:Nat):Int):=by unfold TC;simp[hx,hy]
theorem Nq(hx:0<=x):¬(0<=wz x):=by unfold wz;exact eY 0x1f2c9f00047001 Yt hx
theorem WJ(x:Int):wz (wz x)=x:=by unfold wz;exact gP 0x1d04524525700b27c2c9f00 Yt
theorem Nr(hx:0<=x)(hy:0<=y):Qgj x y=((x.toNat|||y.toNat:Nat):Int):=by delta Qgj TC;simp[Nq hx,Nq hy,WJ]
theorem WK(a:Nat):∀b,((a|||b:Nat):Int)-((a&&& b:Nat):Int)=((a^^^b:Nat):Int):=by
 induction a using Nat.strongRecOn with
 |ind a ih=>
  intro b
  by_cases h0:a=0
  ·clear ih;subst h0;simp
  ·refine(?_:_->_) (ih (a/2) (by exact aH 0x95101d24528a0820911493806d103e040 Yt h0) (b/2));intro e;refine(?_:((a|||b)=2*(a/2|||b/2)+(a%2|||b%2))->_) (by
    refine(?_:_->_) (Nat.or_div_two (a:=a) (b:=b));intro t1;refine(?_:_->_) (Nat.or_mod_two_pow (a:=a) (b:=b) (n:=1));intro hm;have:=lH (a|||b) 2;simp at hm;exact EJ t1 t1 hm hm)
   intro h1;have h2:(a&&& b)=2*(a/2&&& b/2)+(a%2&&& b%2):=by have t1:=Nat.and_div_two (a:=a) (b:=b);have hm:=Nat.and_mod_two_pow (a:=a) (b:=b) (n:=1);have:=lH (a&&& b) 2;simp at hm;exact EJ t1 t1 hm hm
   have h3:(a^^^b)=2*(a/2^^^b/2)+(a%2^^^b%2):=by have t1:=Nat.xor_div_two (a:=a) (b:=b);have hm:=Nat.xor_mod_two_pow (a:=a) (b:=b) (n:=1);have:=lH (a^^^b) 2;simp at hm;exact EJ t1 t1 hm hm
   have c:((a%2|||b%2:Nat):Int)-((a%2&&& b%2:Nat):Int)=((a%2^^^b%2:Nat):Int):=by rcases Iz a with p|p<;>rcases Iz b with q|q<;>refine ag p (ag q ?_)<;>decide
   exact V9 e h1 h2 h3 c
theorem WL(hx:0<=x)(hy:0<=y):Qgk x y=((x.toNat^^^y.toNat:Nat):Int):=by unfold Qgk;simp only[Nr hx hy,Np hx hy,WK]
theorem WM(h:x.natAbs<16):wy x<=4:=by
 unfold wy;split
 ·exact i5 0x6841 Yt
 ·have:x.natAbs.log2<4:=(Dt (by simp_all)).mpr (aH 0x382440382440 Yt h);exact aH 0x1a10c900e840 Yt this
theorem WN(x:ar):x.length=x.cps.toList.length:=by simp[wA]
section
variable {W:Wd} {A:dK} {X:List au} {s:aE} {Q:ao->aE->Prop} {n:Nat}
theorem Bj(hX:∀a∈X,a<s.heap.objs.size)(ho:o=({cls:=.type "list",data:=.seq vs.toArray}:be))(hl:dN vs<=cz)(r:RepL (aJ X s.heap) vs ds):
  Rep (aJ X (s.heap.push o)) (.ref s.heap.objs.size) (.list ds):=by
 subst ho
 refine Rep.mkList (n:=0) (cb.mpr ⟨λq=>mI _ (hX _ q),g5 _ rfl⟩) hl (r.mono λa o e=>?_)
 obtain⟨p,q⟩:=cb.mp e
 exact cb.mpr ⟨p,jr _ q⟩
theorem Nt(hX:∀a∈X,a<s.heap.objs.size)(ho:o=({cls:=.type "tuple",data:=.seq vs.toArray}:be))(hl:dN vs<=cz)(r:RepL (aJ X s.heap) vs ds):
  Rep (aJ X (s.heap.push o)) (.ref s.heap.objs.size) (.tuple ds):=by
 subst ho
 refine Rep.mkTuple (n:=0) (cb.mpr ⟨λq=>mI _ (hX _ q),g5 _ rfl⟩) hl (r.mono λa o e=>?_)
 obtain⟨p,q⟩:=cb.mp e
 exact cb.mpr ⟨p,jr _ q⟩
theorem WO(hy:0<y)(hx:0<=x)(h:x<y*2^4010):Qgl x y=af:=by
 unfold Qgl;refine(?_:((y==0)=af)->_) (by simp;exact Aj hy);intro Ur;by_cases Us:x=0
 ·subst Us;simp[Ur]
 have Qhv:(x==0)=af:=by simp;exact eY 0x1d44528914a089fc103f040 Yt Us
 simp only[Ur,Qhv,wB,if_false,Bool.and_eq_false_iff,decide_eq_false_iff_not,Du];right;refine(?_:(x.natAbs<2^(y.natAbs.log2+1+4010))->_) (by
  refine(?_:(x.natAbs<y.natAbs*2^4010)->_) (by
   have:(x.natAbs:Int)<((y.natAbs*2^4010:Nat):Int):=by simp only[mJ,Iv hx,Iv (mC hy)];exact_mod_cast h
   exact_mod_cast this)
  intro a;have b:y.natAbs<2^(y.natAbs.log2+1):=Qgm;simp only[jZ 2 (y.natAbs.log2+1) 4010];exact nK a (lI _ (Dv b)))
 intro l1;have l2:x.natAbs.log2<y.natAbs.log2+1+4010:=(Dt (by lia)).mpr l1;exact Wa l2
theorem Nu:∀(l:List (Array Nat))(acc:Array Nat),(l.foldl (· ++·) acc).toList =acc.toList++(l.map Array.toList).flatten
 |[],acc=>by simp
 |x::l,acc=>by simp only[tT,Nu l];simp
theorem WP(x:ar)(hy:0<=y):Txt.mul x y=bk (bz y.toNat x.cps.toList).flatten :=by
 delta Txt.mul bk;split
 ·have:y=0:=by lia
  clear hy;subst this;rfl
 ·split
  ·rename_i h;simp only[mK,bV]at h;refine Str.ext' (zc.mp ?_);rcases h with h|h
   ·clear hy;subst h;simp
   ·refine(?_:(x.cps.toList=[])->_) (by rw[WN]at h;exact Dw.mp h);intro e;simp[e]
  ·refine Str.ext' (zc.mp ?_);simp only[Nu];simp
theorem WQ(x:ar){y:Int}(hy:0<=y)(hy2:y<=100000)(h:y*x.length<=100000)(hx:x.length<=cz):MulOk x y:=by
 refine⟨by simp;exact⟨KH hy,KI hy2⟩,λh1 _=>?_,λh1 _=>?_⟩
 ·refine(?_:(0<y)->_) (eY 0x3c0067240 Yt h1);intro hp;simp only[dy]at hx;have:(92233720368547:Int)<=(2^63-1)/y:=by
   rw[Int.le_ediv_iff_mul_le hp];lia
  exact W2 0x27b000060820820820822401c06a2cb20ba08ac9268acba891 [_] [_] Yt hx this
 ·unfold Builtin.Str.tooLong;refine(?_:((x.length*y.toNat:Nat)<=100000)->_) (by
   have:((x.length*y.toNat:Nat):Int)<=100000:=by simp only[mJ,Dx hy,wr];exact h
   exact aH 0x60a249a0990070a249a099b00 Yt this)
  intro e;simp[dy];exact xr e
theorem Nv:∀(l:List (Array ao))(acc:Array ao),(l.foldl (· ++·) acc)=(acc.toList++(l.map Array.toList).flatten).toArray
 |[],acc=>by simp
 |x::l,acc=>by simp only[tT,Nv l];simp
theorem Nw(hl:s.heap.get? l=aa {cls:=.type "list",dict:=ac,data:=.seq #[v] k,slots:=#[]})
  (zI:0<=x) (Jc:x<=100000) (h:Q (.ref s.heap.objs.size) {s with heap:=s.heap.push {cls:=.type "list",data:=.seq (bz x.toNat v).toArray}}):
  aI (aP W.prog W.w) A (zd .Mult (.ref l) (.int x u)) Q bg s:=
 wpAny_binaryOp_repeat_ref (T:="list") (U:="int") rfl ⟨_,hl,rfl⟩ (λs'=>IA s' x u) noFill_list_mul F.fills_int_mul F.slot_int_rmul repeat_list F.slot_int_index.lookup
  (wC F.slot_int_rmul (IA s x u) F.entry_int_rmul (F.args_int_rmul_2 _ _) (int___rmul___int_list x u l #[v] k)
   ⟨hl,rfl,⟨_,hl,rfl⟩,wC F.slot_list_mul ⟨_,hl,rfl⟩ F.entry_list_mul (F.args_list_mul_2 _ _)
    (AutoListH.list___mul___list_int_3 l #[v] k x u (by simp[Builtin.List.listFitsIndex];exact⟨KH zI,KI Jc⟩) (by simp;exact eY 0x1faebaebaebaebaebaebaebaebaebae401c2892682640 Yt Jc) (by simp[Builtin.List.listTooLong,cz];exact KJ Jc))
    ⟨hl,by refine(?_:(List.foldl (λx1 x2=>x1++x2) #[] (bz (if(#[v]:Array ao).isEmpty =ae then 0 else x.toNat) #[v])=(bz x.toNat v).toArray)->_) (by simp only[Nv];simp);intro e;refine ag e ?_;exact h⟩⟩)
theorem Nx(r:Rep g v d):∀n,RepL g (bz n v) (bz n d)
 |0=>.nil
 |n+1=>.cons r (Nx r n)
theorem WR(h:FE op x y=aa d)(hQ:∀i,d=.int i->Q (.int i s.toks) {s with toks:=s.toks+1}):aI (aP W.prog W.w) A (zd (sU op) (.int x t) (.int y u)) Q bg s:=by
 refine(?_:(∀{c:Bool}{e:an},(if c=ae then aa e else ac)=aa d->c=ae/\e=d)->_) (λ{c e} h=>by
  cases c with
  |true=>exact⟨rfl,aB h⟩
  |false=>injection h)
 intro j6;cases op with
 |add=>injection h
 |mul=>injection h
 |sub=>clear j6;obtain rfl:=aB h;exact sub_int (hQ _ rfl)
 |fdiv=>
  refine aF (j6 h) λq am=>?_;clear j6;subst am
  simp only[bo,bl]at q
  exact floordiv_int (Aj q.1) (by rw[Bh q.1];exact hQ _ rfl) (.inl (PyProof.noPylong_small (by exact Wh q.1 q.2)))
 |mod=>
  have h:(if 0<y then aa (bQ (x%y))else ac)=aa d:=h
  split at h<;>(clear j6;cases h)
  rename_i q
  exact mod_int' (Aj q) (by rw[Nn q];exact hQ _ rfl)
 |shl=>
  refine aF (j6 h) λq am=>?_;clear j6;subst am
  simp only[bo,bl]at q
  have:=Bi q.2
  exact lshift_int q.1.1 (KL q.1.2 this) (hQ _ rfl)
 |shr=>
  have h:(if 0<=y then aa (bQ (x/2^y.toNat))else ac)=aa d:=h
  split at h<;>(clear j6;cases h)
  rename_i q
  exact rshift_int q (by rw[Bh (No _)];exact hQ _ rfl)
 |band=>
  refine aF (j6 h) λq am=>?_;clear j6;subst am
  simp only[bo,bl]at q
  exact and_int (by refine ag (Np q.1 q.2) ?_;exact hQ _ rfl)
 |bor=>
  refine aF (j6 h) λq am=>?_;clear j6;subst am
  simp only[bo,bl]at q
  exact or_int (by refine ag (Nr q.1 q.2) ?_;exact hQ _ rfl)
 |bxor=>
  refine aF (j6 h) λq am=>?_;clear j6;subst am
  simp only[bo,bl]at q
  exact xor_int (by refine ag (WL q.1 q.2) ?_;exact hQ _ rfl)
 |pow=>
  refine aF (j6 h) λq am=>?_;clear j6;subst am
  simp only[bo,bl]at q
  have:=WM q.2
  refine pow_int q.1.1 ?_ (hQ _ rfl)
  have e:(wy x:Int)*y<=4*y:=Qgn (aH 0x786c006840 Yt this) q.1.1
  exact ot 0x14a8891c20820820820822401c208a2a2c992074c8840 Yt q.1.2 e
set_option tactic.hygienic true in
theorem WS(k:W.Ok)(hX:∀a∈X,a<s.heap.objs.size)(h:FC a b=aa d)
  (ra:Rep (aJ X s.heap) va a) (rb:Rep (aJ X s.heap) vb b) (hQ:jH W X s d Q):aI (aP W.prog W.w) A (zd .Add va vb) Q bg s:=by
 unfold FC at h
 split at h
 ·refine ay λcG=>?_;rename_i q;refine aF (qA q) λaM am=>?_;subst aM;subst am;refine aD ra.int_inv λt am=>?_;clear ra;subst am;refine aD rb.int_inv λu am=>?_;clear rb;subst am;obtain rfl:=aB h;apply cG;clear cG;exact add_int (hQ _ _ (Ext.tok _) (.int _ _))
 ·split at h
  ·refine ay λcG=>?_;rename_i x y q;refine aF (FB q) λaM am=>?_;subst aM;subst am;refine ai ra.str_inv λt am hx=>?_;clear ra;subst am;refine ai rb.str_inv λu am hy=>?_;clear rb;subst am;apply cG;clear cG;split at h<;>cases h;refine(?_:((x++y).length <=cz)->_) (by simp only[Str.length_append,dy];lia);intro e;exact add_str (λt' tk=>hQ _ _ (Ext.tok _) (.str _ _ e)) (by refine ag dy ?_;lia)
  ·split at h
   ·refine ay λcG=>?_;rename_i x y q;refine aF (cX q) λq1 q2=>?_;have:=kg q1;clear q;subst this;have:=kg q2;subst this;refine dc ra.list_inv λa n1 vs bB ha hv rv=>?_;clear ra;subst bB;refine dc rb.list_inv λb n2 ws bB hb hw DS=>?_;clear rb;subst bB;apply cG;clear cG;split at h<;>cases h;have hz:vs.length+ws.length<=cz:=by refine ag rv.length (ag DS.length (ag dy ?_));lia
    refine P.add_list (ed ha) (ed hb) (hQ _ _ (Ext.push k _ _) ?_) (by simpa using hz);exact Bj hX (by simp) (by simpa using hz) (rv.append DS)
   ·injection h
set_option tactic.hygienic true in
theorem WT(k:W.Ok)(hX:∀a∈X,a<s.heap.objs.size)(h:FD a b=aa d)
  (ra:Rep (aJ X s.heap) va a) (rb:Rep (aJ X s.heap) vb b) (hQ:jH W X s d Q):aI (aP W.prog W.w) A (zd .Mult va vb) Q bg s:=by
 unfold FD at h
 split at h
 ·rename_i q;refine aF (qA q) λaM am=>?_;subst aM;subst am;refine aD ra.int_inv λt am=>?_;clear ra;subst am;refine aD rb.int_inv λu am=>?_;clear rb;subst am;split at h<;>cases h;rename_i q;simp only[bo]at q;exact mul_int (hQ _ _ (Ext.tok _) (.int _ _)) (WI q.1 q.2)
 ·split at h
  ·refine ay λcG=>?_;rename_i x y q;refine aF (cX q) λq1 q2=>?_;have:=gc q1;clear q;subst this;have:=hY q2;subst this;apply cG;clear cG;refine ai ra.str_inv λt am hx=>?_;clear ra;subst am;refine aD rb.int_inv λu am=>?_;clear rb;subst am;split at h<;>cases h;rename_i q;simp only[bo,bl]at q;have e2:(bk (bz y.toNat x.cps.toList).flatten).length <=cz:=by
    simp only[dy];have:((x.length*y.toNat:Nat):Int)<=100000:=by rw[mJ];refine ag (Dx q.1.1) ?_;rw[wr];exact q.2
    have e:(bk (bz y.toNat x.cps.toList).flatten).length =y.toNat*x.length:=by simp[bk,wA]
    refine ag e ?_;rw[fm];exact aH 0x1820820820820890070a249a099b00 Yt this
   refine SB.mul (WQ x q.1.1 q.1.2 q.2 hx) λt' kk=>hQ _ _ (Ext.tok _) ?_;refine ag (WP x q.1.1) ?_;exact .str _ _ e2
  ·split at h
   ·refine ay λcG=>?_;rename_i x y q;refine aF (cX q) λq1 q2=>?_;refine ai (bx.mp q1) λl q3 q4=>?_;have:=kg q3;clear q;subst this;have:=k9 q4;subst this;have:=hY q2;subst this;refine aD rb.int_inv λu am=>?_;clear rb;subst am;refine dc ra.list_inv λa n1 vs bB ha hv rv=>?_;clear ra;subst bB;refine aD (TD.mp (show vs.length=1 from rv.length)) λv am=>?_;clear hv;subst am;have r1:Rep (aJ X s.heap) v x:=by cases rv with|cons r _=>exact r
    apply cG;clear cG;split at h
    ·split at h<;>cases h;rename_i q;simp only[bo,bl]at q;exact Nw (ed ha) q.1 q.2 (hQ _ _ (Ext.push k _ _) (Bj hX rfl (by refine ag dy ?_;simp;exact KJ q.2) (Nx r1 _)))
    ·injection h
   ·injection h
theorem WU(k:W.Ok)(aq:AOk A n)(b0:W.Bs s.heap)(hT:∀a∈W.T,a∈X)(hX:∀a∈X,a<s.heap.objs.size)(h:bM op a b=aa d)
  (ra:Rep (aJ X s.heap) va a) (rb:Rep (aJ X s.heap) vb b) (hQ:jH W X s d Q):aI (aP W.prog W.w) A (zd (sU op) va vb) Q bg s:=by
 refine(?_:(((m7 a b).bind λp=>FE op p.1 p.2)=aa d->aI (aP W.prog W.w) A (zd (sU op) va vb) Q bg s)->_) (λh'=>by refine ay λcG=>?_;refine ai (bx.mp h') λaM q h2=>?_;obtain⟨x,y⟩:=aM;refine aF (qA q) λaM am=>?_;subst aM;subst am;apply cG;clear cG;refine aD ra.int_inv λt am=>?_;clear ra;subst am;refine aD rb.int_inv λu am=>?_;clear rb;subst am;exact WR h2 λi e=>hQ _ _ (Ext.tok _) (e▸.int _ _))
 intro H
 cases op<;>first
  |exact H h
  |exact WS k hX h ra rb hQ
  |exact WT k hX h ra rb hQ
end
end
section
open PySem.Builtin PySem.Builtin.Str PySem.StrLaws
theorem dM(x:ar):x.cps.toList.length=x.length:=by simp[wA]
theorem vm(x:ar):bk x.cps.toList=x:=by simp[bk]
theorem mf(l:List Nat):(bk l).length =l.length:=by simp[bk,wA]
theorem FS(p l:List Nat):p.isPrefixOf l=(l.take p.length==p):=by
 induction p generalizing l with
 |nil=>simp
 |cons a p ih=>
  cases l with
  |nil=>simp
  |cons b l=>
   simp only[List.isPrefixOf,ce,Qgo,ih]
   simp only[show(b::TE p.length l==a::p)=((b==a)&&(TE p.length l==p))from rfl]
   rw[show(a==b)=(b==a)from by rw[gA,bV,bV];exact⟨Eq.symm,Eq.symm⟩]
theorem vp(x y:ar)(hi i:Nat):At x y hi i↔i+y.length<=hi/\y.cps.toList.isPrefixOf (x.cps.toList.drop i)=ae:=by unfold At;rw[subAt_eq,FS,dM]
theorem WV(x y:ar)(lo hi lR:Nat)(hl:1<=lR):
  (occurrences x y lo hi lR=[]/\∀i,lo<=i->¬At x y hi i)\/
  ∃i r,occurrences x y lo hi lR=i::r/\lo<=i/\At x y hi i/\∀k,lo<=k->k<i->¬At x y hi k:=by
 rw[occ_eq]
 rcases occ_first x y hi lR hl (ey lo (hi+1-lo)) lo (λi hi=>by have:=Qgp.mp hi;exact aQ 0x188006200 Yt this.1)with⟨h0,hn⟩|⟨pre,a,post,e,h0,ha,hn⟩
 ·refine .inl ⟨by exact ag h0 rfl,λi zI hi=>?_⟩;exact hn i (by have:=hi.1;rw[Qgp];exact⟨aQ 0x188006200 Yt zI,fz 0x5580c940508a08a24528228224e0cb603250600180606403200 Yt zI this⟩) hi
 ·refine(?_:_->_) (range'_split_from e);intro hs;refine .inr (EA a (((forIn (ey lo (hi+1-lo)) ((#[]:Array Nat),lo) (occBody x y hi lR)).run.fst.toList).tail) ?_ hs.1 ha (λk Jd hk=>hn k (hs.2 k Jd hk)));generalize (forIn (ey lo (hi+1-lo)) ((#[]:Array Nat),lo) (occBody x y hi lR)).run.fst =Ut at h0;refine(?_:(Ut.toList[0]?=aa a)->_) (by simpa using h0);intro h1;cases hL:Ut.toList with
  |nil=>rw[hL]at h1;injection h1
  |cons b t=>rw[hL]at h1;simp at h1;refine ag h1 ?_;rfl
theorem Ny(w g:List Nat)(j:Nat):∀(n k:Nat),j+1-k<=n->
  (pu w g j n k= -1/\∀i,k<=i->¬(i+w.length<=j/\w.isPrefixOf (g.drop i)=ae))\/
  ∃i:Nat,pu w g j n k=(i:Int)/\k<=i/\(i+w.length<=j/\w.isPrefixOf (g.drop i)=ae)/\∀m,k<=m->m<i->¬(m+w.length<=j/\w.isPrefixOf (g.drop m)=ae)
 |0,k,h=>.inl ⟨rfl,λi hi q=>f7 0x1560325014228228914a08a289b8104604b603250180606403200 Yt h hi q.1⟩
 |n+1,k,h=>by
  unfold pu;by_cases c:k+w.length<=j/\w.isPrefixOf (g.drop k)=ae
  ·have:(decide (k+w.length<=j)&&w.isPrefixOf (g.drop k))=ae:=by simp[c.1,c.2]
   rw[aw this];exact .inr (oh k rfl (dj _) c (λm h1 h2=>by exact fZ (EK h1 h2)))
  ·have:¬(decide (k+w.length<=j)&&w.isPrefixOf (g.drop k))=ae:=by
    intro q;simp only[bo,bl]at q;exact c q
   rw[az this];rcases Ny w g j n (k+1) (bR 0x5432480c900528225520324014228224528208a2891902c32480c90060c940b203240 Yt h)with⟨a,b⟩|⟨i,a,b,d,e⟩
   ·refine .inl ⟨a,λi hi q=>?_⟩;by_cases hk:i=k
    ·exact c (hk▸q)
    ·exact b i (xu hi hk) q
   ·refine .inr (oh i a (oq b) d (λm h1 h2 q=>?_));by_cases hk:m=k
    ·exact c (hk▸q)
    ·exact e m (xu h1 hk) h2 q
theorem Nz(x y:ar)(lo hi:Nat):(match occurrences x y lo hi 1 with|i::_=>(i:Int)|[]=> -1)=i8 y.cps.toList x.cps.toList lo hi:=by
 unfold i8;rcases WV x y lo hi 1 (dj _)with⟨a,b⟩|⟨i,r,a,b,c,d⟩<;>
  rcases Ny y.cps.toList x.cps.toList hi (hi+1-lo) lo (fN 0x62c80c900b203240 Yt)with⟨a',b'⟩|⟨i',a',b',c',d'⟩
 ·simp only[a,a']
 ·exact absurd ((vp x y hi i').mpr (by rw[<-dM];exact c')) (b i' b')
 ·have:=(vp x y hi i).mp c;rw[<-dM]at this;exact absurd this (b' i b)
 ·simp only[a,a'];have hc:=(vp x y hi i).mp c;rw[<-dM]at hc;have:i=i':=by
   rcases Nat.lt_trichotomy i i' with q|q|q
   ·exact absurd hc (d' i b q)
   ·exact q
   ·exact absurd ((vp x y hi i').mpr (by rw[<-dM];exact c')) (d i' b' q)
  exact ag this rfl
theorem NA(x y:ar):(!(occurrences x y 0 x.length 1).isEmpty)=ox y.cps.toList x.cps.toList:=by
 unfold ox;rw[dM, <-Nz];cases occurrences x y 0 x.length 1 with
 |nil=>rfl
 |cons i r=>simp
noncomputable def gT(x y:ar)(hi:Nat):Nat->Nat->Nat->List Nat
 |0,_,_=>[]
 |n+1,a,free=>if(free<=a/\a+y.length<=hi)/\subAt x y a=ae then a::gT x y hi n (a+1) (a+y.length)else gT x y hi n (a+1) free
theorem FT(x y:ar)(hi lR:Nat):∀(n a:Nat)(st:Array Nat×Nat),st.fst.size+n<=lR->
  (forIn (ey a n) st (occBody x y hi lR)).run.fst.toList =st.fst.toList++gT x y hi n a st.snd
 |0,a,st,_=>by simp[gT]
 |n+1,a,st,h=>by
  rw[TF,Dy];unfold occBody;by_cases c:(st.snd<=a/\a+y.length<=hi)/\subAt x y a=ae
  ·rw[aw ⟨⟨⟨xw h,c.1.1⟩,c.1.2⟩,c.2⟩];show(forIn (ey (a+1) n) (st.fst.push a,a+y.length) (occBody x y hi lR)).run.fst.toList =_;rw[FT x y hi lR n (a+1) _ (by simp;exact Ak h)];simp[gT,c]
  ·rw[az (λq=>c ⟨⟨q.1.1.2,q.1.2⟩,q.2⟩)];show(forIn (ey (a+1) n) st (occBody x y hi lR)).run.fst.toList =_;rw[FT x y hi lR n (a+1) _ (bR 0x1900c80064030c9200 Yt h)];simp only[gT,az c]
theorem WW(x y:ar):occurrences x y 0 x.length (x.length+1)=gT x y x.length (x.length+1) 0 0:=by simp only[occ_eq];have:=FT x y x.length (x.length+1) (x.length+1-0) 0 (#[],0) (by simp);exact this
theorem NB(x y:ar)(hi:Nat):∀(m n a free:Nat),a+m<=free->gT x y hi (n+m) a free=gT x y hi n (a+m) free
 |0,n,a,free,_=>rfl
 |m+1,n,a,free,h=>by rw[show n+(m+1)=(n+m)+1 from fN 0x1d0452452560c90c80030c9200 Yt];rw[gT,az (λq=>bu 0x2e0411800c3250206200 Yt h q.1.1),NB x y hi m n (a+1) free (Ak h)];congr 1;exact Al
theorem NC(x y:ar)(hi:Nat):∀(n a f f':Nat),f<=a->f'<=a->gT x y hi n a f=gT x y hi n a f'
 |0,_,_,_,_,_=>rfl
 |n+1,a,f,f',h,h'=>by
  unfold gT;by_cases c:a+y.length<=hi/\subAt x y a=ae
  ·rw[aw ⟨⟨h,c.1⟩,c.2⟩,aw ⟨⟨h',c.1⟩,c.2⟩]
  ·rw[az (λq=>c ⟨q.1.2,q.2⟩),az (λq=>c ⟨q.1.2,q.2⟩)];exact NC x y hi n (a+1) f f' (mV h) (mV h')
theorem FU(x y:ar)(hy:0<y.length):∀(f st a n:Nat),st<=a->a+n=x.length+1->n<=f->
  fA y.cps.toList f ((x.cps.toList.drop st).take (a-st)) (x.cps.toList.drop a)=(partsFrom x y.length st (gT x y x.length n a a)).map λp=>p.cps.toList
 |0,st,a,n,h1,h2,h3=>by have:n=0:=KM h3;clear h3;subst this;unfold fA gT partsFrom;simp only[cA,tU,strSub_toList];have:a=x.length+1:=KN h2 h2;clear h1 h2;subst this;rw[nN (by simp only[dL,dM];exact KO),nN (by simp only[dL,dM];exact fN 0x62c800b200 Yt)]
 |f+1,st,a,0,h1,h2,h3=>by have:a=x.length+1:=KN h2 h2;clear h1 h2;subst this;have e:x.cps.toList.drop (x.length+1)=[]:=wD (by rw[dM];exact EM);simp only[e];unfold fA gT partsFrom;simp only[cA,tU,strSub_toList];rw[nN (by simp only[dL,dM];exact KO),nN (by simp only[dL,dM];exact fN 0x62c800b200 Yt)]
 |f+1,st,a,n+1,h1,h2,h3=>by
  cases hd:x.cps.toList.drop a with
  |nil=>
   refine(?_:(x.length<=a)->_) (by have:=congrArg dN hd;simp only[dL,dM,js,ce]at this;exact aQ 0x54800508a24528228918801604b200 Yt this)
   intro bh
   have ha:a=x.length:=bu 0x74114a08914a0822560085832400c3250206200 Yt h2 bh
   clear h1 bh;subst ha
   have hn:n=0:=aQ 0x74114a0891495812160c90030c9200 Yt h2
   clear h3;subst hn
   have Je:¬((x.length<=x.length/\x.length+y.length<=x.length)/\subAt x y x.length=ae):=λq=>bp 0x2e041388046003200 Yt hy q.1.2
   unfold fA gT
   rw[az Je]
   delta gT partsFrom
   simp only[cA,tU,strSub_toList]
  |cons c r=>
   have bK:a<x.length:=by have:=congrArg dN hd;simp only[dL,dM,js,ce]at this;exact Am this
   rw[fA,gT]
   refine a8 hd ?_
   by_cases c1:y.cps.toList.isPrefixOf (x.cps.toList.drop a)=ae
   ·have pb:a+y.length<=x.length:=by
     have q:=c1;rw[FS]at q;have q:=congrArg dN (eq_of_beq q);simp only[eV,dL,dM]at q;exact bu 0x55020508a08934b40800508228208228a08914208208a08a2462030103884360342d0200 Yt bK q
    have hat:At x y x.length a:=(vp x y x.length a).mpr ⟨pb,c1⟩;rw[aw c1,aw ⟨⟨dj _,pb⟩,hat.2⟩];unfold partsFrom;rw[cA,strSub_toList,ze,dM];congr 1;have sk:=NB x y x.length (y.length-1) (n-(y.length-1)) (a+1) (a+y.length) (aQ 0x5490052822891422891830080cb2400c920e001 Yt hy);rw[show n-(y.length-1)+(y.length-1)=n from f7 0x152c921854920528208a08a28914228228208a25d0452822452895980cb2482cb24860e201d832500c3258006403200 Yt hy h2 pb,show a+1+(y.length-1)=a+y.length from aQ 0x54901d04528a08224528225d0452822452895830080cb2400c920e001 Yt hy]at sk;refine ag sk ?_;have ih:=FU x y hy f (a+y.length) (a+y.length) (n-(y.length-1)) (dj _) (ou 0x5492152c921814228a08228228974114a08a08a08224528a08a0822822552c921814228228208228974114a08a28208224528a0822820822560c94032cb2486032003880560c94030c9600d832500c3258006403200 Yt hy h2 h2 pb) (bR 0x54b25000528224508a2891882cb2500060c9203240 Yt h3);simpa using ih
   ·have Je:¬((a<=a/\a+y.length<=x.length)/\subAt x y a=ae):=λq=>c1 ((vp x y x.length a).mp ⟨q.1.2,q.2⟩).2;rw[az c1,az Je];have ih:=FU x y hy f st (a+1) n (mV h1) (bu 0x74114a08914a0822560c94032032405832500c32480360c94030c9200 Yt h2 h2) (aQ 0x1880060c9203240 Yt h3);have e1:(x.cps.toList.drop st).take (a+1-st)=(x.cps.toList.drop st).take (a-st)++[c]:=by
     rw[show a+1-st=(a-st)+1 from aQ 0x54021500324814228208225d04528228224528a08a08225500324814228208225d04528228914a28208958324b0082c00c9206200 Yt h1,Qgq];congr 1;rw[tV,show st+(a-st)=a from An h1];have:x.cps.toList[a]?=aa c:=by have:=congrArg (·[0]?) hd;simpa using this
     refine ag this ?_;rfl
    have e2:x.cps.toList.drop (a+1)=r:=by have:=congrArg TG hd;simpa[TH]using this
    have e3:=NC x y x.length n (a+1) a (a+1) (EM) (xz);rw[e1,e2]at ih;refine ag e3 ?_;exact ih
theorem FW(x y:ar)(hy:0<y.length):(partsBetween x (occurrences x y 0 x.length (x.length+1)) y.length).map (λp=>p.cps.toList)=gE y.cps.toList x.cps.toList:=by rw[partsBetween_eq,WW];unfold gE;refine(?_:_->_) (FU x y hy (x.length+1) 0 0 (x.length+1) (dj _) (bL 0x1d0452452560c90030c9001 Yt) (dj _));intro h;rw[dM];exact h.symm
theorem WX(x y:ar)(h:(occurrences x y 0 x.length (x.length+1)).isEmpty =ae)(hy:0<y.length):gE y.cps.toList x.cps.toList=[x.cps.toList]:=by simp only[<-FW x y hy,nO.mp h,partsBetween_eq];delta partsFrom;simp only[cA,tU,strSub_toList];rw[IC,nN (by rw[dM];exact bL 0x54100508a2452822462c1000 Yt)]
theorem WY(x y:ar):Txt.startswith x y=y.cps.toList.isPrefixOf x.cps.toList:=by
 unfold Txt.startswith
 simp only[subAt_eq,FS,dM,IC,gB];by_cases h:(TE y.length x.cps.toList==y.cps.toList)=ae
 ·refine(?_:_->_) (congrArg dN (eq_of_beq h));intro q;simp only[eV,dM,dM]at q;have:y.length<=x.length:=aQ 0x34800508228208a245082082289188036034200 Yt q;simp[h,this]
 ·simp[h]
theorem WZ(p l:List Nat):p.isSuffixOf l=(decide (p.length<=l.length)&&(l.drop (l.length-p.length)==p)):=by
 rw[gA,Qgr];simp only[bo,bl,bV];constructor
 ·intro h;exact⟨h.length_le,by obtain⟨t,rfl⟩:=h;simp⟩
 ·rintro⟨_,h⟩;refine a8 h ?_;exact List.drop_suffix _ _
theorem W6(x y:ar):Txt.endswith x y=y.cps.toList.isSuffixOf x.cps.toList:=by
 unfold Txt.endswith
 simp only[subAt_eq,WZ,dM,dM,gB];by_cases h:y.length<=x.length
 ·simp only[h,decide_true,Bool.true_and];rw[nN (by simp only[dL,dM];exact fN 0x5480152c800014a08208914228228954b20000528208224508a28224620b2c8000 Yt)]
 ·simp[h]
end
section
def RepB(X:List au)(h:cC)(v:ao)(d:an):Prop:=Rep (aJ X h) v d\/∃a n vs xs,v=.ref a/\d=.list xs/\h.get? a=aa {cls:=.type "list",data:=.seq (wE vs) n}/\dN vs<=cz/\RepL (aJ X h) vs xs
theorem RepB.full(r:RepB X h v d):Rep h.get? v d:=by
 rcases r with r|⟨a,n,vs,xs,rfl,rfl,h1,h2,h3⟩
 ·exact r.mono λa o e=>ed e
 ·exact Rep.mkList h1 h2 (h3.mono λa o e=>ed e)
theorem RepB.reads(r:RepB X h v d):∃as,Reads h v d as:=r.full.reads λ_ _ e=>e
theorem RepB.list_inv(r:RepB X h v (.list xs)):∃a n vs,v=.ref a/\h.get? a=aa {cls:=.type "list",data:=.seq (wE vs) n}/\dN vs<=cz/\RepL (aJ X h) vs xs:=by
 rcases r with r|⟨a,n,vs,lS,rfl,e,h1,h2,h3⟩
 ·refine dc r.list_inv λa n vs e h1 h2 h3=>?_;exact(jE a n vs e (ed h1) h2 h3)
 ·obtain rfl:=QjI e;exact(jE a n vs rfl h1 h2 h3)
theorem RepB.other(r:RepB X h v d)(hd:∀xs,d≠.list xs):Rep (aJ X h) v d:=by
 refine bX r (λr=>?_) λfq=>?_
 ·exact r
 ·clear r;obtain⟨a,n,vs,xs,rfl,e,_⟩:=fq;exact absurd e (hd xs)
theorem Bk(h:iA d=ae):d.canLay0=ae/\d.depth<=8:=by unfold iA at h;simpa using h
section
open AutoSeq1 (wpAny_loadPart')
open MeetsSeq MeetsSeq2 MeetsSeq3 SeqRoads2 SeqAt
theorem ya:∀{ds:List an}{xs:List Int}{vs:List ao},fB ds=aa xs->RepL g vs ds->∃ts:List fL,ts.length=xs.length/\vs=(xs.zip ts).map λp=>TI p.1 p.2:=by
 intro ds;induction ds with
 |nil=>intro xs vs h r;obtain rfl:=aB h;obtain rfl:=r.unnil;exact(aO ([]) rfl rfl)
 |cons d ds ih=>
  intro xs vs h r
  refine cY (AW h) λx ys h1 h2 fM=>?_;clear h;subst fM
  refine cY r.uncons λv us av r1 r2=>?_;clear r;subst av
  obtain rfl:=hY h1
  refine aD r1.int_inv λt am=>?_;subst am
  refine ai (ih h2 r2) λts h1 h2=>?_
  exact(aO (t::ts) (congrArg kN h1) (congrArg (_::·) h2))
def qL(vs:List ao)(xs:List Int):Prop:=∃ts:List fL,ts.length=xs.length/\vs=(xs.zip ts).map λp=>TI p.1 p.2
theorem ND(h:qL (v::vs) xs):∃x ys t,xs=x::ys/\v=.int x t/\qL vs ys:=by
 refine ay λcG=>?_;obtain⟨ts,h1,h2⟩:=h;apply cG;clear cG;cases xs with
 |nil=>injection h2
 |cons x ys=>cases ts with
  |nil=>injection h1
  |cons t ts=>simp at h1 h2;exact⟨x,ys,t,rfl,h2.1,ts,h1,h2.2⟩
theorem NE(h:qL [] xs):xs=[]:=by
 obtain⟨ts,h1,h2⟩:=h;cases xs with
 |nil=>rfl
 |cons x ys=>cases ts with
  |nil=>injection h1
  |cons=>injection h2
theorem W7(h:qL vs xs):vs.length=xs.length:=by obtain⟨ts,h1,h2⟩:=h;subst h2;simp[h1]
theorem W8(l b:au)(vs ws:List ao)(n n2:Nat):∀(k:Nat)(us zs:List ao)(xs ys:List Int)(i:Nat),us.length=k->vs.drop i=us->ws.drop i=zs->i<=vs.length->i<=ws.length->qL us xs->qL zs ys->
  Meets (Dz.«list.__eq__.loop» ⟨[.ref l,.ref b,pU i,pU 0],[]⟩)
   (λ_ R s=>s.heap.get? l=aa {cls:=.type "list",dict:=ac,data:=.seq vs.toArray n,slots:=#[]}/\s.heap.get? b=aa {cls:=.type "list",dict:=ac,data:=.seq ws.toArray n2,slots:=#[]}/\
    R (.ok (.ret (.bool (bI xs ys)))) s):=by
 intro k
 induction k with
 |zero=>
  intro us zs xs ys i hk hu hz Uu Uv ix iy prog w A R s h
  refine ay λcG=>?_
  obtain⟨hp,g,d,tk,os⟩:=s;obtain⟨hl,hb,h⟩:=h
  have:us=[]:=Dw.mp hk
  subst this
  obtain rfl:=NE ix
  have iW:vs.length=i:=by have:=congrArg dN hu;simp at this;exact KP Uu this
  apply cG;clear cG
  wp_walk using kM hl,kM hb
  have uq:vs.toArray[((i:Nat):Int).toNat]?=ac:=by simp;exact EN iW
  refine ag uq ?_
  wp_walk using kM hl,kM hb
  show R (.ok (.ret (.bool (decide (vs.toArray.size<ws.toArray.size))))) _
  have e:decide (vs.toArray.size<ws.toArray.size)=bI [] ys:=by
   have qj:=congrArg dN hz;rw[dL,W7 iy]at qj;cases ys with
   |nil=>simp[bI];simp at qj;exact bu 0x1520014228a24528228a246400d8841604b200 Yt iW qj
   |cons y ys=>simp[bI];simp at qj;exact fz 0x54800528208224508a28a24e0185886360c940b200 Yt iW qj
  refine ag e ?_;exact h
 |succ k ih=>
  intro us zs xs ys i hk hu hz Uu Uv ix iy prog w A R s h
  refine ay λcG=>?_
  obtain⟨hp,g,d,tk,os⟩:=s;obtain⟨hl,hb,h⟩:=h
  obtain⟨v,us,rfl⟩:∃v us',us=v::us':=by cases us with|nil=>injection hk|cons v us=>exact⟨v,us,rfl⟩
  obtain⟨x,xs,t,rfl,rfl,ix'⟩:=ND ix
  have hv:vs.toArray[((i:Nat):Int).toNat]?=aa (.int x t):=by have:=congrArg (·[0]?) hu;simpa using this
  have hu':vs.drop (i+1)=us:=by have:=congrArg TG hu;simpa[TH]using this
  have Uw:i<vs.length:=by have:=congrArg dN hu;simp at this;exact Am this
  apply cG;clear cG
  cases zs with
  |nil=>
   refine ay λcG=>?_
   obtain rfl:=NE iy
   have iW:ws.length=i:=by have:=congrArg dN hz;simp at this;exact KP Uv this
   have hw:ws.toArray[((i:Nat):Int).toNat]?=ac:=by simp;exact EN iW
   apply cG;clear cG
   wp_walk using kM hl,kM hb
   refine ag hv (ag hw ?_)
   wp_walk using kM hl,kM hb
   show R (.ok (.ret (.bool (decide (vs.toArray.size<ws.toArray.size))))) _
   have e:decide (vs.toArray.size<ws.toArray.size)=bI (x::xs) []:=by simp[bI];exact bu 0x6400390216200 Yt Uw iW
   refine ag e ?_;exact h
  |cons z zs=>
   refine ay λcG=>?_
   refine ay λcG=>?_
   obtain⟨y,ys,u,rfl,rfl,iy'⟩:=ND iy
   have hw:ws.toArray[((i:Nat):Int).toNat]?=aa (.int y u):=by have:=congrArg (·[0]?) hz;simpa using this
   have qj:ws.drop (i+1)=zs:=by have:=congrArg TG hz;simpa[TH]using this
   have hiw:i<ws.length:=by have:=congrArg dN hz;simp at this;exact Am this
   apply cG;clear cG
   apply cG;clear cG
   wp_walk using kM hl,kM hb
   refine ag hv (ag hw ?_)
   refine bH (wpAny_eqBool_int ?_)
   by_cases c:x=y
   ·subst c;have e:bI (x::xs) (x::ys)=bI xs ys:=by simp[bI]
    rw[e]at h;refine ag (show(x==x)=ae from beq_self_eq_true x) ?_;wp_walk;have hc:((i:Int)+1)=((i+1:Nat):Int):=by push_cast;rfl
    refine ag hc ?_;exact⟨plainId_quiet plain_eq_loop _,codeAny_builtin entry_eq_loop (by rw[Qgs plain_eq_loop _];exact ih us zs xs ys (i+1) (by simpa using hk) hu' qj Uw hiw ix' iy' prog w A R _ ⟨hl,hb,h⟩)⟩
   ·have e:bI (x::xs) (y::ys)=decide (x<y):=by simp[bI,c]
    rw[e]at h;refine ag (show(x==y)=af from beq_eq_false_iff_ne.mpr c) ?_;wp_walk using kM hl,kM hb;refine ag hv (ag hw ?_);refine bH ?_;have q:=@P.lt_int prog w A.in1 (λe s'=>R (.error e) s') ⟨hp,g,d,tk,os⟩ x y t u (λv s'=>aI (aP prog w) A.in1 (ret v) (λfin s'=>match fin with| .done f=>R (.ok f) s'| .again c'=>c'.quiet=ae/\codeAny (aP prog w) A c' R s') (λe s'=>R (.error e) s') s') (dW h)
    exact q
theorem W9(l b:au)(vs ws:List ao)(n n2:Nat)(xs ys:List Int)(ix:qL vs xs)(iy:qL ws ys):
  Meets (Dz.«list.__lt__» ⟨[.ref l,.ref b],[]⟩)
   (λ_ R s=>s.heap.get? l=aa {cls:=.type "list",dict:=ac,data:=.seq vs.toArray n,slots:=#[]}/\s.heap.get? b=aa {cls:=.type "list",dict:=ac,data:=.seq ws.toArray n2,slots:=#[]}/\
    R (.ok (.ret (.bool (bI xs ys)))) s):=by
 intro prog w A R s h
 obtain⟨hp,g,d,tk,os⟩:=s;refine eQ h λhl hb h=>?_
 have f3:=AutoSeq1.sub_list_list
 wp_walk using kM hl,kM hb
 exact⟨plainId_quiet plain_eq_loop _,codeAny_builtin entry_eq_loop (by rw[Qgs plain_eq_loop _];exact W8 l b vs ws n n2 _ vs ws xs ys 0 rfl rfl rfl (tW _) (tW _) ix iy prog w A R _ ⟨hl,hb,h⟩)⟩
end
section
variable {W:Wd} {A:dK} {X:List au} {s:aE} {Q:ao->aE->Prop} {n:Nat}
theorem Xa(h:ve a b=aa r)(ra:Rep g va a)(rb:Rep g vb b):PySem.plainIs va vb=ae/\(va==vb)=r:=by
 cases q:two (qB a) (qB b)with
 |some p=>
  obtain⟨x,y⟩:=p
  rw[ve,q]at h
  obtain rfl:=aB h
  clear h;obtain rfl:=FF (cX q).1
  obtain rfl:=FF (cX q).2
  refine ag ra.bool_inv (ag rb.bool_inv ?_)
  cases x<;>cases y<;>exact⟨rfl,rfl⟩
 |none=>
  rw[ve,q]at h
  cases qa:vd a with
  |true=>
   obtain rfl:=FG qa
   refine ag ra.none_inv ?_
   cases qb:vd b with
   |true=>
    obtain rfl:=FG qb
    refine ag rb.none_inv ?_
    obtain rfl:=aB h
    exact⟨rfl,rfl⟩
   |false=>
    obtain⟨x,q,rfl⟩:=bO.mp (show(fP b).map (λ_=>af)=aa r from by refine a8 h (ag qb ?_);rfl)
    obtain rfl:=gc q
    refine ai rb.str_inv λt am _=>?_;clear rb;subst am
    exact⟨rfl,rfl⟩
  |false=>
   rw[qa]at h
   refine aF (pS.mp h) λqb h=>?_
   obtain rfl:=FG qb
   refine ag rb.none_inv ?_
   refine ai (bO.mp h) λx q av=>?_;subst av
   obtain rfl:=gc q
   refine ai ra.str_inv λt am _=>?_;clear ra;subst am
   exact⟨rfl,rfl⟩
theorem NF:∀{ds:List an},ds.all iA=ae->wF ds<=8/\wG ds=ae
 |[],_=>⟨tW _,rfl⟩
 |d::ds,h=>by
  refine ay λcG=>?_;simp only[ID,bo]at h;refine aF (Bk h.1) λa b=>?_;refine aF (NF h.2) λc e=>?_;apply cG;clear cG;refine⟨?_,?_⟩
  ·simp only[wF];exact bp 0x34020528208208a24528208208a08918227b008182248182240 Yt b c
  ·simp only[wG,a,e,Bool.and_self]
theorem NG(aq:AOk A n)(h:A1 a b=aa r)(ra:Rep (aJ X s.heap) va a)(rb:RepB X s.heap vb b):(Q (.bool r) s->aI (aP W.prog W.w) A (tY .Eq va vb) Q bg s)/\(Q (.bool (!r)) s->aI (aP W.prog W.w) A (tY .NotEq va vb) Q bg s):=by
 have hu:=aq.units;unfold A1 at h;split at h
 ·rename_i q;obtain⟨rfl,rfl⟩:=qA q;obtain⟨t,rfl⟩:=ra.int_inv;obtain⟨u,rfl⟩:=(rb.other (by intro _ q;injection q)).int_inv;obtain rfl:=aB h;exact⟨λhQ=>P.eq_int hQ,λhQ=>P.ne_int hQ⟩
 ·split at h
  ·refine ay λcG=>?_;rename_i q;obtain⟨rfl,rfl⟩:=FB q;obtain⟨t,rfl,_⟩:=ra.str_inv;obtain⟨u,rfl,_⟩:=(rb.other (by intro _ q;injection q)).str_inv;obtain rfl:=aB h;apply cG;clear cG;exact⟨λhQ=>PyProof.Rows.eq_str hQ,λhQ=>PyProof.Rows.ne_str hQ⟩
  ·split at h<;>cases h;refine ay λcG=>?_;rename_i q;simp only[bo,mK]at q;obtain⟨as,qa⟩:=ra.reads (h:=s.heap) λa o e=>ed e;obtain⟨bs,qb⟩:=rb.reads;obtain⟨⟨q0,q1⟩,q2⟩:=q;have d1:=Bk q1;have d2:=Bk q2;apply cG;clear cG;rcases q0 with q0|q0
   ·obtain⟨⟨x,y⟩,e⟩:=DA.mp q0;have:=kg (cX e).1;clear ra;subst this;have:=kg (cX e).2;clear rb;subst this;exact⟨λhQ=>Qgt qa qb d1.1 d2.1 (Ao hu d1.2) hQ,λhQ=>Qgu qa qb d1.1 d2.1 (Ao hu d1.2) hQ⟩
   ·obtain⟨⟨x,y⟩,e⟩:=DA.mp q0;have:=AZ (cX e).1;clear ra;subst this;have:=AZ (cX e).2;clear rb;subst this;exact⟨λhQ=>Qgt qa qb d1.1 d2.1 (Ao hu d1.2) hQ,λhQ=>Qgu qa qb d1.1 d2.1 (Ao hu d1.2) hQ⟩
theorem NH(aq:AOk A n)(h:A2 a b=aa r)(ra:Rep (aJ X s.heap) va a)(rb:RepB X s.heap vb b):(Q (.bool r) s->aI (aP W.prog W.w) A (tY .In va vb) Q bg s)/\(Q (.bool (!r)) s->aI (aP W.prog W.w) A (tY .NotIn va vb) Q bg s):=by
 have hu:=aq.units;unfold A2 at h;split at h
 ·refine ay λcG=>?_;rename_i q;refine aF (FB q) λaM am=>?_;subst aM;subst am;refine ai ra.str_inv λt am _=>?_;clear ra;subst am;obtain⟨u,rfl,_⟩:=(rb.other (by intro _ q;injection q)).str_inv;obtain rfl:=aB h;apply cG;clear cG;exact⟨λhQ=>P.in_str (by rw[NA];exact hQ),λhQ=>P.notIn_str (by rw[NA];exact hQ)⟩
 ·refine ay λcG=>?_;refine ai (bx.mp h) λys hy h=>?_;apply cG;clear cG;split at h<;>cases h;refine ay λcG=>?_;rename_i q;simp only[bo]at q;refine aD (ra.reads (h:=s.heap) λa o e=>ed e) λas qa=>?_;refine aD rb.reads λbs qb=>?_;have d1:=Bk q.1;have d2:=NF q.2;unfold MH at hy;apply cG;clear cG;split at hy
  ·rename_i hl;clear h q;obtain rfl:=aB hy;have:=kg hl;subst this;exact⟨λhQ=>SeqAt.in_list_reads qb qa d2.2 d1.1 (Ap hu d1.2) hQ,λhQ=>SeqAt.notIn_list_reads qb qa d2.2 d1.1 (Ap hu d1.2) hQ⟩
  ·have:=AZ hy;subst this;exact⟨λhQ=>SeqAt.in_tuple_reads qb qa d2.2 d1.1 (Ap hu d1.2) hQ,λhQ=>SeqAt.notIn_tuple_reads qb qa d2.2 d1.1 (Ap hu d1.2) hQ⟩
theorem NI(h:ve a b=aa r)(ra:Rep (aJ X s.heap) va a)(rb:RepB X s.heap vb b):PySem.plainIs va vb=ae/\(va==vb)=r:=Xa h ra (rb.other (by rintro _ rfl;clear ra;cases a<;>injection h))
theorem NJ(aq:AOk A n)(h:dt op a b=aa r)
  (ra:Rep (aJ X s.heap) va a) (rb:RepB X s.heap vb b) (hQ:Q (.bool r) s):aI (aP W.prog W.w) A (tY (qK op) va vb) Q bg s:=by
 have hu:=aq.units
 have lt:∀{r},FH a b=aa r->Q (.bool r) s->aI (aP W.prog W.w) A (tY .Lt va vb) Q bg s:=λ{r} h hQ=>by
  refine ai (bO.mp h) λp q av=>?_;subst av;obtain⟨x,y⟩:=p;refine aF (cX q) λq1 q2=>?_;refine ai (bx.mp q1) λl1 g1 e1=>?_;refine ai (bx.mp q2) λl2 g2 e2=>?_;have:=kg g1;clear q q1 g1;subst this;have:=kg g2;subst this;refine dc ra.list_inv λl n1 vs bB h1 h2 rv=>?_;clear ra;subst bB;refine dc rb.list_inv λl' n2 ws bB Ux h2' DS=>?_;clear rb;subst bB;exact richCompare_meets_room (op:=.Lt) ⟨_,ed h1,rfl⟩ ⟨_,Ux,rfl⟩ F.slot_list_lt F.entry_list_lt (F.args_list_lt_2 _ _) (W9 l l' vs ws n1 n2 x y (ya e1 rv) (ya e2 DS))
   ⟨ed h1,Ux,show TJ (bI x y)≠Value.notImplemented/\Q (.bool (bI x y)) s from⟨(λx=>nomatch x),hQ⟩⟩ (bR 0xe4003900e28890d3212240 Yt hu)
 have os:∀{r},(match m7 a b with|some p=>MI op p.1 p.2|none=>if op==.lt then FH a b else ac)=aa r->Q (.bool r) s->aI (aP W.prog W.w) A (tY (qK op) va vb) Q bg s:=λ{r} h' hQ=>by
  split at h'
  ·rename_i p q;obtain⟨x,y⟩:=p;refine aF (qA q) λaM am=>?_;subst aM;subst am;refine aD ra.int_inv λt am=>?_;subst am;obtain⟨u,rfl⟩:=(rb.other (by intro _ q;injection q)).int_inv;cases op with
   |lt=>obtain rfl:=aB h';exact P.lt_int hQ
   |le=>obtain rfl:=aB h';exact P.le_int hQ
   |gt=>obtain rfl:=aB h';exact P.gt_int hQ
   |ge=>obtain rfl:=aB h';exact P.ge_int hQ
   |_=>injection h'
  ·split at h'
   ·rename_i q;have:=eq_of_beq q;clear q;subst this;exact lt h' hQ
   ·injection h'
 cases op with
 |eq=>exact(NG aq h ra rb).1 hQ
 |ne=>refine ai (bO.mp h) λr' hx av=>?_;subst av;exact(NG aq hx ra rb).2 hQ
 |lt=>exact os h hQ
 |le=>exact os h hQ
 |gt=>exact os h hQ
 |ge=>exact os h hQ
 |is=>
  refine aF (NI h ra rb) λp e=>?_
  exact wpAny_is_plain p (by refine ag e ?_;exact hQ)
 |isnt=>
  refine ai (bO.mp h) λr' hx av=>?_;subst av
  refine aF (NI hx ra rb) λp e=>?_
  exact wpAny_isNot_plain p (by refine ag e ?_;exact hQ)
 |isin=>exact(NH aq h ra rb).1 hQ
 |notin=>refine ai (bO.mp h) λr' hx av=>?_;subst av;exact(NH aq hx ra rb).2 hQ
end
end
section
section
variable {W:Wd} {A:dK} {X:List au} {s:aE} {Q:ao->aE->Prop} {n:Nat}
theorem Xb:∀(xs:List Int)(ts:List fL),ts.length=xs.length->preSum (numAt (xs.zip ts).toArray) xs.length=xs.sum:=by
 intro xs ts h;refine(?_:((xs.zip ts).map (·.1)=xs)->_) (by rw[IE (Aq h)]);intro hz;refine(?_:(∀(k:Nat),k<=xs.length->preSum (numAt (xs.zip ts).toArray) k=(xs.take k).sum)->_) (by
  intro k hk;induction k with
  |zero=>simp[preSum]
  |succ k ih=>
   have jw:k<xs.length:=hk
   refine(?_:(numAt (xs.zip ts).toArray k=xs[k]'jw)->_) (by
    unfold numAt;have:((xs.zip ts).toArray[k]?.map (·.1))=aa (xs[k]'jw):=by rw[Qgv, <-dS];exact ag hz (ag (cf jw) rfl)
    refine ag this ?_;rfl)
   intro e
   simp only[preSum,ih (oq hk),e,List.take_succ_eq_append_getElem jw,List.sum_append]
   simp)
 intro key;simp only[key _ (dj _),zg]
theorem Xd(k:W.Ok)(aq:AOk A n)(hl:s.heap.get? l=aa {cls:=.type "list",data:=.seq vs.toArray m})(r:RepL (aJ X s.heap) vs ds)
  (h:fB ds=aa xs) (hQ:∀t s',Ext W s s'->Q (.int xs.sum t) s'):aI (aP W.prog W.w) A (call (.builtin "sum") [.ref l]) Q bg s:=by
 refine ay λcG=>?_
 refine ai (ya h r) λts h1 h2=>?_
 refine(?_:(vs.toArray=intItems (xs.zip ts).toArray)->_) (by refine ag h2 ?_;simp[intItems]);intro e
 apply cG;clear cG
 refine sum_intListG (xs:=(xs.zip ts).toArray) aq.handled ⟨_,hl,rfl,m,by exact ag e rfl⟩ λh' tk t' hk=>?_
 have:(xs.zip ts).toArray.size =xs.length:=by simp[h1]
 simp only[this,Xb xs ts h1]
 exact hQ _ _ (Ext.grow k tk hk)
theorem Xe(h:xT ds=aa bs):ds=bs.map .bool :=AX (λ_ _=>FF) h
theorem Xf(k:W.Ok)(aq:AOk A n)(hl:s.heap.get? l=aa {cls:=.type "list",data:=.seq vs.toArray m})(r:RepL (aJ X s.heap) vs ds)
  (h:xT ds=aa bs) (hQ:∀s',Ext W s s'->Q (.bool (bs.all id)) s'):aI (aP W.prog W.w) A (call (.builtin "all") [.ref l]) Q bg s:=by
 refine(?_:_->_) (Xe h);intro hd
 clear h;subst hd
 refine(?_:(vs=bs.map .bool)->_) (by
  refine(?_:_->_) (r.length);intro bh;apply rE;intro i;by_cases hi:i<vs.length
  ·have iX:i<bs.length:=by simpa[bh]using hi
   have:=r.at i vs[i] (.bool bs[i]) (by simp[hi]) (by simp[iX]);simp[hi,iX,this.bool_inv]
  ·have iX:¬i<bs.length:=by simpa[bh]using hi
   simp[hi,iX,lJ (Nat.le_of_not_lt hi)])
 intro hv
 subst hv
 refine(?_:(l≠s.heap.objs.size)->_) (lK (fK hl));intro bT
 refine(?_:(s.heap.IsList l (bs.map TJ).toArray)->_) (⟨_,hl,rfl,m,rfl⟩);intro gb
 refine call_all_walk (wpAny_pyIter_list gb ⟨_,_,_,_,_,_,λi=>bs.getD i ae,rfl,Walks.list (A:=A.in1) aq.handled _ l bT _,⟨⟨_,g5 _ rfl,rfl,rfl⟩,gb.push _⟩,?_,?_⟩)
 ·intro i v s' Q' E' hi hq;simp only[Qgv,dS]at hi;refine ai (bO.mp hi) λb hb av=>?_;clear hi;subst av;refine IF ?_;refine(?_:(bs.getD i ae=b)->_) (by simp only[eW,hb];rfl);intro e;dsimp only at hq;rwa[e]at hq
 ·intro h' tk hk;refine(?_:((f0 (bs.map TJ).toArray.size).all (λi=>bs.getD i ae)=bs.all id)->_) (by
   simp only[mL,bq];rw[gA,eA,eA];constructor
   ·intro q b hb;obtain⟨i,hi,rfl⟩:=pV hb;have:=q i (by simp[hi]);simpa[hi]using this
   ·intro q i hi;have iX:i<bs.length:=by simpa using hi
    have:=q bs[i] (wH _);simpa[iX]using this)
  intro e;refine ag e ?_;refine hQ _ ⟨(eR h' tk rfl),λb o _ eb=>?_,λb=>k.bsKeep _ _ b λc o _ ec=>?_,λb=>k.tbKeep _ _ b λc o ec _=>?_⟩;all_goals
   refine hk _ _ (λhm=>?_) (jr _ (by assumption))
   simp at hm
   subst hm
   rename_i hx
   first
    |exact mI _ (fK hx)
    |exact mI _ (fK (by assumption))
noncomputable def FX:BI->ao
 | .len =>.builtin "len"| .sum =>.builtin "sum"| .ord =>.builtin "ord"| .chr =>.builtin "chr"| .sorted =>.builtin "sorted"| .all =>.builtin "all"| .max =>.builtin "max"| .list =>.type "list"| .divmod =>.builtin "divmod"
def pv(W:Wd)(b:BI):Prop:=∀(A:dK)(n:Nat)(X:List au)(s:aE)(vs:List ao)(ds:List an)(d:an)(Q:ao->aE->Prop),AOk A n->W.Bs s.heap->(∀a∈X,a<s.heap.objs.size)->(∀a∈W.T,a∈X)->
 gR b ds=aa d->dN vs=dN ds->(∀(i:Nat)(v:ao)(d:an),vs[i]?=aa v->ds[i]?=aa d->RepB X s.heap v d)->jH W X s d Q->aI (aP W.prog W.w) A (call (FX b) vs) Q bg s
theorem Xg(hl:dN vs=1)(r:∀(i:Nat)(v:ao)(d':an),vs[i]?=aa v->[d][i]?=aa d'->RepB X h v d'):∃v,vs=[v]/\RepB X h v d:=by refine aD (TD.mp hl) λv am=>?_;clear hl;subst am;exact(aO v rfl (r 0 v d rfl rfl))
theorem Xh(hl:dN vs=2)(r:∀(i:Nat)(v:ao)(d':an),vs[i]?=aa v->[d,e][i]?=aa d'->RepB X h v d'):∃v u,vs=[v,u]/\RepB X h v d/\RepB X h u e:=by
 cases vs with
 |nil=>cases hl
 |cons v vs=>
  obtain⟨u,rfl⟩:=TD.mp (Dq hl)
  exact(gO v u rfl (r 0 v d rfl rfl) (r 1 u e rfl rfl))
theorem vq(e:l8 f ds=aa x)(hl:dN vs=dN ds)(r:∀(i:Nat)(v:ao)(d':an),vs[i]?=aa v->ds[i]?=aa d'->RepB X h v d'):∃v d,vs=[v]/\f d=aa x/\RepB X h v d:=by refine ay λcG=>?_;refine ai (bx.mp e) λd e1 e2=>?_;have:=k9 e1;clear e e1;subst this;refine ai (Xg hl r) λv e3 e4=>?_;apply cG;clear cG;exact(gO v d e3 e2 e4)
def NK(d:an)(i:Int):Prop:=(∃x:ar,d=.str x/\i=x.length)\/(∃l,d=.list l/\i=l.length)\/∃l,d=.tuple l/\i=l.length
theorem Xi(h:FI d=aa i):NK d i:=(show Says (FI d) (NK d)from by
 cases d with
 |str x=>exact .inl (aO x rfl rfl)
 |list l=>exact .inr (.inl (aO l rfl rfl))
 |tuple l=>exact .inr (.inr (aO l rfl rfl))
 |_=>exact io).get h
theorem Xj(k:W.Ok):pv W .len :=by
 intro A n X s vs ds d Q aq b0 hX hT h hl r hQ;refine ay λcG=>?_;refine(?_:((cz:Int)<2^63)->_) (by refine ag dy ?_;decide);intro sz;refine ai (bO.mp h) λi g av=>?_;clear h;subst av;refine cY (vq g hl r) λv d av hd rv=>?_;clear hl r;subst av;apply cG;clear cG;rcases Xi hd with⟨x,rfl,rfl⟩|⟨l,rfl,rfl⟩|⟨l,rfl,rfl⟩
 ·refine ai ((rv.other (by intro _ q;cases q)).str_inv) λt am hx=>?_;subst am;exact P.len_str (bp 0x1fb000820820820820820820820820820820893c208208208208208208208208208208226c206200 Yt sz hx) (hQ _ _ (Ext.tok _) (.int _ _))
 ·refine dc rv.list_inv λa m ws bB h1 h2 h3=>?_;subst bB;exact Calls.call_len_list ⟨_,h1,rfl,_,rfl⟩ (by simp;exact KQ sz h2) (hQ _ _ (Ext.tok _) (by rw[mL];refine ag h3.length ?_;exact .int _ _))
 ·refine dc ((rv.other (by intro _ q;cases q)).tuple_inv) λa m ws bB h1 h2 h3=>?_;subst bB;exact P.len_tuple (ed h1) (by simp;exact KQ sz h2) (hQ _ _ (Ext.tok _) (by rw[mL];refine ag h3.length ?_;exact .int _ _))
theorem Xk(k:W.Ok):pv W .sum :=by intro A n X s vs ds d Q aq b0 hX hT h hl r hQ;refine ay λcG=>?_;refine ai (bx.mp h) λl g h'=>?_;refine ai (bO.mp h') λxs hx av=>?_;clear h h';subst av;refine cY (vq g hl r) λv d av hd rv=>?_;clear hl r;subst av;have:=kg hd;clear hd;subst this;refine dc rv.list_inv λa m ws bB h1 h2 h3=>?_;subst bB;apply cG;clear cG;exact Xd k aq h1 h3 hx λt s' x=>hQ _ _ x (.int _ _)
theorem Xl(k:W.Ok):pv W .all :=by intro A n X s vs ds d Q aq b0 hX hT h hl r hQ;refine ay λcG=>?_;refine ai (bx.mp h) λl g h'=>?_;refine ai (bO.mp h') λxs hx av=>?_;clear h h';subst av;refine cY (vq g hl r) λv d av hd rv=>?_;clear hl r;subst av;have:=kg hd;clear hd;subst this;refine dc rv.list_inv λa m ws bB h1 h2 h3=>?_;subst bB;apply cG;clear cG;exact Xf k aq h1 h3 hx λs' x=>hQ _ _ x (.bool _)
theorem Xn(k:W.Ok):pv W .ord :=by intro A n X s vs ds d Q aq b0 hX hT h hl r hQ;refine ay λcG=>?_;refine ai (bx.mp h) λx g h'=>?_;refine ai (bO.mp h') λc e av=>?_;clear h h';subst av;refine cY (vq g hl r) λv d av hd rv=>?_;clear hl r;subst av;have:=gc hd;clear hd;subst this;obtain⟨t,rfl,hx⟩:=(rv.other (by intro _ q;injection q)).str_inv;refine(?_:(x=⟨#[c]⟩)->_) (by have:=vm x;rw[k9 e]at this;exact this.symm);intro ex;subst ex;apply cG;clear cG;exact P.ord_of_char (hQ _ _ (Ext.tok _) (.int _ _))
theorem Xo(k:W.Ok):pv W .chr :=by intro A n X s vs ds d Q aq b0 hX hT h hl r hQ;refine ay λcG=>?_;refine ai (bx.mp h) λx g h'=>?_;refine cY (vq g hl r) λv d av hd rv=>?_;clear hl r;subst av;have:=hY hd;clear hd;subst this;obtain⟨t,rfl⟩:=(rv.other (by intro _ q;injection q)).int_inv;apply cG;clear cG;split at h'<;>cases h';rename_i q;simp only[bo,bl]at q;exact P.chr_of_int (by simp;exact⟨eY 0x1c0047001 Yt q.1,eY 0x1faebaeba2a100f082082092840 Yt q.2⟩) (hQ _ _ (Ext.tok _) (.str _ _ (by simp only[dy];simp[wA])))
theorem Xq(k:W.Ok):pv W .divmod :=by intro A n X s vs ds d Q aq b0 hX hT h hl r hQ;refine ay λcG=>?_;refine ai (bx.mp h) λaM h0 g1=>?_;obtain⟨d1,d2⟩:=aM;refine ai (bx.mp g1) λaM h1 g=>?_;obtain⟨a,b⟩:=aM;clear h g1;have:=FA h0;clear h0;subst this;refine aF (qA h1) λaM am=>?_;subst aM;subst am;refine cY (Xh hl r) λv u av rv ru=>?_;clear hl r;subst av;obtain⟨t,rfl⟩:=(rv.other (by intro _ q;injection q)).int_inv;obtain⟨t',rfl⟩:=(ru.other (by intro _ q;injection q)).int_inv;apply cG;clear cG;split at g<;>cases g;rename_i q;simp only[bo,bl]at q;refine divmod_int (Aj q.1.1) ?_ (.inl (WO q.1.1 q.1.2 q.2));rw[Bh q.1.1,Nn q.1.1];refine hQ _ _ (Ext.push k _ _) (Nt (vs:=[.int _ _,.int _ _]) hX rfl (by simp only[dy];simp) (.cons (.int _ _) (.cons (.int _ _) .nil)))
end
end
section
open PySem.Builtin PySem.Builtin.Str
section
variable {W:Wd} {A:dK} {X:List au} {s:aE} {Q:ao->aE->Prop} {n:Nat}
theorem Xr:∀{ds:List an}{xs:List (List Nat)}{vs:List ao},xR ds=aa xs->RepL g vs ds->∃l:List (ar×fL),vs=wI l/\l.map (λp=>p.1.cps.toList)=xs:=by
 intro ds;induction ds with
 |nil=>intro xs vs h r;obtain rfl:=aB h;exact(aO ([]) r.unnil rfl)
 |cons d ds ih=>
  intro xs vs h r
  refine cY (AW h) λx ys h1 h2 fM=>?_;clear h;subst fM
  refine cY r.uncons λv us av hv r'=>?_;clear r;subst av
  refine ai (bO.mp h1) λy h3 av=>?_;subst av
  obtain rfl:=gc h3
  refine ai hv.str_inv λt am _=>?_;subst am
  refine ai (ih h2 r') λl am e=>?_;subst am
  exact(aO ((_,t)::l) rfl (congrArg (_::·) e))
theorem NL(bZ:ar):∀l:List ar,(Str.join bZ l).cps.toList =dh bZ.cps.toList (l.map λp=>p.cps.toList)
 |[]=>rfl
 |[x]=>rfl
 |x::y::r=>by show(x.cps++bZ.cps++(Str.join bZ (y::r)).cps).toList =_;simp only[Qgw,Qgw,NL bZ (y::r)];rfl
theorem NM(bZ:Nat):∀(l:List ar)(a:Nat),l.foldl (λa(p:ar)=>a+p.length+bZ) a=a+(l.map (·.length)).sum +l.length*bZ
 |[],a=>by simp
 |x::r,a=>by simp only[tT,NM bZ r];simp[Tn];exact N0 0x1d0452452560c34200c3608003803603403200 [_,_,_,_,_] Yt
theorem NN(bZ:List Nat):∀l:List (List Nat),(l.map (·.length)).sum +l.length*bZ.length<=(dh bZ l).length +bZ.length
 |[]=>by simp
 |[x]=>by simp[show dh bZ [x]=x from rfl]
 |x::y::r=>by have:=NN bZ (y::r);rw[show dh bZ (x::y::r)=x++bZ++dh bZ (y::r)from rfl];simp only[dn,cA,List.sum_cons,ce,Tn]at this⊢;exact N1 0x1836038036280c36036100c3200a060d88030d8403200 [_,_,_,_,_,_] Yt this
theorem Xs(h1:bZ.length<=100000)(h2:(dh bZ.cps.toList (l.map λp=>p.cps.toList)).length <=100000):JoinOk bZ l=ae:=by
 unfold JoinOk;simp only[List.foldl_toArray,NM];have:=NN bZ.cps.toList (l.map λp=>p.cps.toList);rw[dM]at this;simp only[g6,bq]at this;have e:(l.map ((λx=>x.length)∘λp:ar=>p.cps.toList))=l.map (·.length):=by apply zh;intro x _;exact dM x
 rw[e]at this;have t:¬(0+(l.map (·.length)).sum +l.length*bZ.length>2^24):=f7 0x9832030010820820820822460a249a0996060a249a0994060d8403200 Yt h1 h2 this;simp only[tooLong,rI,decide_eq_false_iff_not];exact t
noncomputable def sV:MM->an->String
 | .bitlen,_=>"int.bit_length"| .split,_=>"str.split"| .startswith,_=>"str.startswith"| .endswith,_=>"str.endswith"| .find,_=>"str.find"
 | .join,_=>"str.join"| .lower,_=>"str.lower"| .count,_=>"list.count"
def py(W:Wd)(m:MM):Prop:=∀(A:dK)(n:Nat)(X:List au)(s:aE)(v:ao)(o:an)(vs:List ao)(ds:List an)(d:an)(Q:ao->aE->Prop),AOk A n->W.Bs s.heap->(∀a∈X,a<s.heap.objs.size)->(∀a∈W.T,a∈X)->
 gS m o ds=aa d->Rep (aJ X s.heap) v o->RepL (aJ X s.heap) vs ds->jH W X s d Q->aI (aP W.prog W.w) A (call (.builtin (sV m o)) (v::vs)) Q bg s
theorem RepL.one(r:RepL g vs [d]):∃v,vs=[v]/\Rep g v d:=by cases r with|cons h r=>cases r;exact(aO _ rfl h)
theorem RepL.none(r:RepL g vs []):vs=[]:=by cases r;rfl
theorem RepL.two(r:RepL g vs [d,e]):∃v u,vs=[v,u]/\Rep g v d/\Rep g u e:=by cases r with|cons h r=>cases r with|cons h' r=>cases r;exact(gO _ _ rfl h h')
theorem RepL.three(r:RepL g vs [d,e,f]):∃v u w,vs=[v,u,w]/\Rep g v d/\Rep g u e/\Rep g w f:=by cases r with|cons h r=>refine cY r.two λv u av a b=>?_;subst av;exact(jE _ _ _ rfl h a b)
theorem RepL.of1(e:l8 f ds=aa x)(r:RepL g vs ds):∃v d,vs=[v]/\f d=aa x/\Rep g v d:=by refine ay λcG=>?_;refine ai (bx.mp e) λd e1 e2=>?_;have:=k9 e1;clear e e1;subst this;refine ai r.one λv e3 e4=>?_;apply cG;clear cG;exact(gO v d e3 e2 e4)
theorem Xu:py W .bitlen :=by
 intro A n X s v o vs ds d Q aq b0 hX hT h hv r hQ;refine ai (bx.mp h) λi h0 h'=>?_;clear h;have:=hY h0;clear h0;subst this;split at h'<;>cases h';rename_i q;have:=nO.mp q;clear q;subst this;refine aD hv.int_inv λt am=>?_;clear hv;subst am;cases r.none;show aI _ _ (call (.builtin "int.bit_length") [_]) _ _ _;refine call_gives F.slot_int_bit_length (IA _ _ _) F.entry_int_bit_length (F.args_int_bit_length_1 _) (AutoIntG2.int_bit_length_int_0 _ _) ?_;have e:((if i=0 then 0 else i.natAbs.log2+1:Nat):Int)=(wy i:Nat):=by unfold wy;simp
 rw[e]at hQ;exact hQ _ _ (Ext.tok _) (.int _ _)
theorem Xv:py W .startswith :=by intro A n X s v o vs ds d Q aq b0 hX hT h hv r hQ;refine ay λcG=>?_;refine ai (bO.mp h) λaM h0 av=>?_;obtain⟨x,y⟩:=aM;clear h;subst av;have:=gc (cX h0).1;subst this;refine cY (r.of1 (cX h0).2) λu e av he ru=>?_;clear r;subst av;have:=gc he;clear he;subst this;refine ai hv.str_inv λt am _=>?_;clear hv;subst am;refine ai ru.str_inv λt' am _=>?_;subst am;apply cG;clear cG;refine SC.startswith ?_;rw[WY];exact hQ _ _ (Ext.refl _ _) (.bool _)
theorem Xw:py W .endswith :=by intro A n X s v o vs ds d Q aq b0 hX hT h hv r hQ;refine ay λcG=>?_;refine ai (bO.mp h) λaM h0 av=>?_;obtain⟨x,y⟩:=aM;clear h;subst av;have:=gc (cX h0).1;subst this;refine cY (r.of1 (cX h0).2) λu e av he ru=>?_;clear r;subst av;have:=gc he;clear he;subst this;refine ai hv.str_inv λt am _=>?_;clear hv;subst am;refine ai ru.str_inv λt' am _=>?_;subst am;apply cG;clear cG;refine SC.endswith ?_;rw[W6];exact hQ _ _ (Ext.refl _ _) (.bool _)
theorem Xx(x y:ar)(i j:Int)(t u v z:fL)(hi:0<=i)(hj:0<=j)(hjx:j<=x.length):Gives («str.find» ⟨[.str x t,.str y u,.int i v,.int j z],[]⟩) (.int (i8 y.cps.toList x.cps.toList i.toNat j.toNat)):=by
 have e1:wJ x.length i=i.toNat:=by unfold wJ;rw[az (by exact Ar hi)];congr 1;exact KR hi
 have e2:min (wJ x.length j) x.length=j.toNat:=by
  have:wJ x.length j=j.toNat:=by unfold wJ;rw[az (by exact Ar hj)];congr 1;exact KR hj
  exact W3 0x3500d20074114a08228228208208914a08208208974114a08228208208208914a08208a08208208224d20074114a08228228208208224528208228228208225d04528208a08208208208914a08208a0820820820895ac0342001ec2005ac000dac000 [_,_] [_] Yt hjx this this
 have:Gives (match occurrences x y (wJ x.length i) (min (wJ x.length j) x.length) 1 with|k::_=>retInt k|[]=>(do rule "str.find.not-found";retInt (-1))) (.int (i8 y.cps.toList x.cps.toList i.toNat j.toNat)):=by
  refine ag e1 (ag e2 ?_);rw[<-Nz];cases occurrences x y i.toNat j.toNat 1 with
  |nil=>exact .rule (.of_eq rfl)
  |cons k _=>exact .of_eq rfl
 exact this
theorem Xy(h:MJ ds=aa (y,i,j)):ds=[.str y,.int i,.int j]:=by
 rcases ds with _|⟨a,_|⟨b,_|⟨c,_|⟨e,r⟩⟩⟩⟩
 ·injection h
 ·injection h
 ·injection h
 ·refine ay λcG=>?_;refine ai (bx.mp h) λy' h1 h=>?_;refine ai (bO.mp h) λaM h2 h=>?_;obtain⟨i',j'⟩:=aM;apply cG;clear cG;obtain⟨rfl,qh⟩:=dx h;obtain⟨rfl,rfl⟩:=dx qh;refine aF (qA h2) λaM am=>?_;subst aM;subst am;exact ag (gc h1) rfl
 ·injection h
theorem Xz:py W .find :=by intro A n X s v o vs ds d Q aq b0 hX hT h hv r hQ;refine ay λcG=>?_;refine ai (bx.mp h) λaM h0 h'=>?_;obtain⟨x,y,i,j⟩:=aM;clear h;have:=gc (cX h0).1;subst this;have:=Xy (cX h0).2;clear h0;subst this;apply cG;clear cG;split at h'<;>cases h';refine ay λcG=>?_;rename_i q;simp only[bo,bl]at q;refine ai hv.str_inv λt am _=>?_;clear hv;subst am;refine dc r.three λu a b bB ru ra rb=>?_;clear r;subst bB;refine ai ru.str_inv λt' am _=>?_;subst am;refine aD ra.int_inv λt1 am=>?_;subst am;refine aD rb.int_inv λt2 am=>?_;subst am;apply cG;clear cG;show aI _ _ (call (.builtin "str.find") [_,_,_,_]) _ _ _;refine call_gives F.slot_str_find (wK _ _ _) F.entry_str_find (F.args_str_find_4 _ _ _ _) (Xx _ _ _ _ _ _ _ _ q.1.1 q.1.2 q.2) ?_;exact hQ _ _ (Ext.tok _) (.int _ _)
theorem XA:py W .lower :=by
 intro A n X s v o vs ds d Q aq b0 hX hT h hv r hQ;refine ai (bx.mp h) λx h0 h'=>?_;clear h;have:=gc h0;clear h0;subst this;split at h'<;>cases h';rename_i q;simp only[bo,bl,nO]at q;have:=q.1;subst this;refine ai hv.str_inv λt am _=>?_;clear hv;subst am;cases r.none;have e:tooLong (ww x).length =af:=by simp only[tooLong,decide_eq_false_iff_not];refine ag dy ?_;exact aH 0x26002082082082089182892682640 Yt q.2
 refine SC.lower e (hQ _ _ (Ext.tok _) (.str _ _ (by simp only[dy];exact xr q.2)))
theorem XB:py W .join :=by
 intro A n X s v o vs ds d Q aq b0 hX hT h hv r hQ;refine ay λcG=>?_;refine ai (bx.mp h) λaM h0 h'=>?_;obtain⟨x,l⟩:=aM;clear h;refine ai (bx.mp h') λss hs h'=>?_;have:=gc (cX h0).1;subst this;refine cY (r.of1 (cX h0).2) λu e av he ru=>?_;clear r;subst av;have:=kg he;clear he;subst this;apply cG;clear cG;split at h'<;>cases h';refine ay λcG=>?_;rename_i q;simp only[bo,bl]at q;refine ai hv.str_inv λt am _=>?_;clear hv;subst am;refine dc ru.list_inv λa m ws bB h1 h2 h3=>?_;subst bB;refine ai (Xr hs h3) λsl am e=>?_;clear h2 h3;subst am;have e':((sl.map (·.1)).map λp:ar=>p.cps.toList)=ss:=by simp only[<-e,g6];rfl
 apply cG;clear cG;refine SC.join ⟨_,ed h1,rfl,m,rfl⟩ rfl (Xs q.1 (by refine ag e' ?_;exact q.2)) λt' k=>?_;have e2:Txt.join x (sl.map (·.1))=bk (dh x.cps.toList ss):=by refine a8 e' ?_;rw[<-NL,vm];exact StrLaws.glued_eq_join _ _
 refine ag e2 ?_;refine hQ _ _ (Ext.tok _) (.str _ _ ?_);simp only[mf,dy];exact xr q.2
theorem FY:∀(l:List (ar×fL))(xs:List (List Nat)),l.map (λp=>p.1.cps.toList)=xs->(∀p∈l,p.1.length<=cz)->RepL g (wI l) (xs.map λx=>.str (bk x))
 |[],xs,h,_=>by cases h;exact .nil
 |(y,t)::l,xs,h,k=>by cases h;refine .cons ?_ (FY l _ rfl λp hp=>k p (eh _ hp));show Rep g (.str y t) (.str (bk y.cps.toList));rw[vm];exact .str _ _ (k (y,t) fD)
theorem NO(bZ:List Nat)(hs:0<bZ.length):∀(n:Nat)(eB x:List Nat),x.length<=n->(∀i,¬bZ.isPrefixOf (x.drop i)=ae)->fA bZ n eB x=[eB++x]
 |0,eB,x,h,_=>by have:x=[]:=TK (KM h);subst this;simp[fA]
 |n+1,eB,[],_,_=>by simp[fA]
 |n+1,eB,c::x,h,k=>by simp only[fA];rw[az (by exact k 0),NO bZ hs n (eB++[c]) x (by simpa using h) λi=>by simpa using k (i+1)];simp
theorem XC(h:∀c∈y.cps.toList,c∈x.cps.toList):rJ y<=rJ x:=by
 have key:∀m:Nat,x.cps.all (· <m)=ae->y.cps.all (· <m)=ae:=λm q=>by rw[<-Array.all_toList]at q⊢;rw[eA]at q⊢;exact λc hc=>q c (h c hc)
 unfold rJ;by_cases a:x.cps.all (· <256)=ae
 ·rw[aw a,aw (key _ a)];exact i5 0x6249 Yt
 ·rw[az a];by_cases b:x.cps.all (· <65536)=ae
  ·rw[aw b];split
   ·exact EO
   ·rw[aw (key _ b)];exact i5 0x6451 Yt
  ·rw[az b];split
   ·exact i5 0x6849 Yt
   ·split<;>(first|exact i5 0x6851 Yt|exact i5 0x6861 Yt)
theorem XD(hy:0<y.length)(h:(decide (x.length<y.length)||decide (rJ x<rJ y))=ae):gE y.cps.toList x.cps.toList=[x.cps.toList]:=by
 unfold gE;rw[NO _ (by simp only[dM];exact aH 0x38004e001 Yt hy) _ _ _ (by exact EM)]
 ·simp
 ·intro i q;have q':=List.isPrefixOf_iff_prefix.mp q;obtain⟨r,e⟩:=q';simp only[mK,bl]at h;refine bX h (λh=>?_) λh=>?_
  ·have:=congrArg dN e;simp only[dn,dL,dM]at this;exact f7 0x1561014a08a089142282289b8104e0013804162d8403200 Yt hy h this
  ·have:rJ y<=rJ x:=XC λc hc=>pW (i:=i) (by refine a8 e ?_;exact Iy _ hc);lia
theorem FZ(bZ:List Nat):∀(n:Nat)(eB x:List Nat),∀l∈fA bZ n eB x,l.length<=eB.length+x.length
 |0,eB,x,l,h=>by simp[fA]at h;subst h;exact As
 |n+1,eB,[],l,h=>by simp[fA]at h;subst h;exact As
 |n+1,eB,c::x,l,h=>by
  simp only[fA]at h;split at h
  ·refine bX (cB.mp h) (λg9=>?_) λh=>?_
   ·clear h;subst g9;exact As
   ·have:=FZ bZ n _ _ l h;simp only[dL,ce,js]at this⊢;exact sG 0x1540324814a08a24508a2891830c92180060cb403248040 Yt this
  ·have:=FZ bZ n _ _ l h;simp only[dn,ce,js]at this⊢;exact bR 0x1830c94080060d00c3241200 Yt this
theorem F0(bZ:List Nat)(hs:0<bZ.length):∀(n:Nat)(eB x:List Nat),(fA bZ n eB x).length <=x.length+1
 |0,eB,x=>by simp[fA]
 |n+1,eB,[]=>by simp[fA]
 |n+1,eB,c::x=>by
  simp only[fA];split
  ·have:=F0 bZ hs n [] ((c::x).drop bZ.length);simp only[dL,ce]at this⊢;exact bu 0x5500c920528228224508a28a2460c90c92032403900460c92d00c9200 Yt hs this
  ·have:=F0 bZ hs n (eB++[c]) x;simp only[ce]at this⊢;exact aQ 0x1832432480060c9200 Yt this
theorem NP(k:W.Ok)(hy:y.length≠0)(hx:x.length<=100000)
  (h:∀(a:au)(s':aE),Ext W s s'->s.heap.objs.size<=a->(∃(n:Nat)(l:List (ar×fL)),s'.heap.get? a=aa {cls:=.type "list",data:=.seq (wI l).toArray n}/\l.length<=cz/\l.map (λp=>p.1.cps.toList)=gE y.cps.toList x.cps.toList/\∀p∈l,p.1.length<=cz)->Q (.ref a) s'):
  aI (aP W.prog W.w) A (call (.builtin "str.split") [.str x t,.str y u]) Q bg s:=by
 have Uy:(y.length==0)=af:=by simpa using hy
 have ee:(gE y.cps.toList x.cps.toList).length <=cz:=by have:=F0 y.cps.toList (by simp only[dM];exact xA hy) (x.cps.toList.length+1) [] x.cps.toList;simp only[dy];unfold gE;rw[dM]at this⊢;exact bp 0x1820820820820890060a249a0992060c9200 Yt hx this
 have iW:(partsBetween x (occurrences x y 0 x.length (x.length+1)) y.length).length <=cz:=by have:=congrArg dN (FW x y (xA hy));rw[bq]at this;exact EP ee this
 have one:gE y.cps.toList x.cps.toList=[x.cps.toList]->∀(n:Nat),∃(m:Nat)(l:List (ar×fL)),(s.heap.push {cls:=.type "list",data:=.seq [Value.str x t].toArray n}).get? s.heap.objs.size=aa {cls:=.type "list",data:=.seq (wI l).toArray m}/\l.length<=cz/\l.map (λp=>p.1.cps.toList)=gE y.cps.toList x.cps.toList/\∀p∈l,p.1.length<=cz:=λe n=>by refine(EA n ([(x,t)]) (g5 _ rfl) (by simp only[dy];simp) (by simp only[e];rfl) (λp hp=>?_));simp only[o0]at hp;subst hp;refine ag dy ?_;show x.length<=_;exact xr hx
 cases h1:(decide (x.length<y.length)||decide (rJ x<rJ y))
 ·cases hf:(occurrences x y 0 x.length (x.length+1)).isEmpty
  ·refine wC F.slot_str_split (wK _ _ _) F.entry_str_split (F.args_str_split_2 _ _) (meets_str_split_sep x y t u h1 Uy hf (by refine ag dy ?_;exact xr hx) iW) ?_;show wants Q bg _ {s with toks:=_,heap:=s.heap.push {cls:=.type "list",data:=.seq (strsFrom s.toks (partsBetween x (occurrences x y 0 x.length (x.length+1)) y.length)).toArray}};rw[strsFrom_eq];have e:(numbered s.toks (partsBetween x (occurrences x y 0 x.length (x.length+1)) y.length)).map (λp=>p.1.cps.toList)=gE y.cps.toList x.cps.toList:=by
    have:=numbered_texts s.toks (partsBetween x (occurrences x y 0 x.length (x.length+1)) y.length);rw[<-FW x y (xA hy)];conv=>rhs;rw[<-this]
    rw[g6];rfl
   refine h _ _ (Ext.push k _ _) (dj _) (EA _ _ (g5 _ rfl) ?_ e (λp hp=>?_))
   ·have:=congrArg dN e;rw[bq]at this;exact EP ee this
   ·have:p.1.cps.toList∈gE y.cps.toList x.cps.toList:=by refine a8 e ?_;exact gi.mpr (aO p hp rfl)
    have:=FZ _ _ _ _ _ this;rw[dM,dM]at this;refine ag dy ?_;simp at this;exact bp 0x1820820820820890060a249a099206200 Yt hx this
  ·refine wC F.slot_str_split (wK _ _ _) F.entry_str_split (F.args_str_split_2 _ _) (meets_str_split_not_found x y t u h1 Uy hf) ?_;exact h _ _ (Ext.push k _ _) (dj _) (one (WX x y hf (xA hy)) 0)
 ·refine wC F.slot_str_split (wK _ _ _) F.entry_str_split (F.args_str_split_2 _ _) (meets_str_split_cannot_occur x y t u h1) ?_;refine h _ _ (Ext.push k _ _) (dj _) (one (XD (xA hy) h1) 0)
theorem XE(k:W.Ok):py W .split :=by intro A n X s v o vs ds d Q aq b0 hX hT h hv r hQ;refine ay λcG=>?_;refine ai (bx.mp h) λaM h0 h'=>?_;obtain⟨x,y⟩:=aM;clear h;have:=gc (cX h0).1;subst this;refine cY (r.of1 (cX h0).2) λu e av he ru=>?_;clear r;subst av;have:=gc he;clear he;subst this;apply cG;clear cG;split at h'<;>cases h';rename_i q;simp only[mK,bV,bl,not_or]at q;refine ai hv.str_inv λt am _=>?_;clear hv;subst am;refine ai ru.str_inv λt' am _=>?_;subst am;refine NP k q.1 (KS q.2) λa s' x ha ⟨n,l,e1,e2,e3,e4⟩=>hQ _ _ x ?_;refine Rep.mkList (cb.mpr ⟨λm=>?_,e1⟩) (by simpa[wI]using e2) (FY l _ e3 e4);exact mI _ (nK (hX a m) ha)
end
end
section
theorem Bl(k:Option Int)(dflt n:Nat)(hd:dflt<=n):i7 k dflt n=k.elim dflt (clipAt n):=by
 cases k with
 |none=>rfl
 |some i=>
  show min n (max 0 (if i<0 then i+n else i)).toNat =(max 0 (min (if i<0 then i+n else i) n)).toNat
  exact V5 n _
theorem XF(items:List ao)(lo hi:Option Int):slicePick items.toArray lo hi ac=(cj items lo hi).toArray :=by rw[slicePick_plain];unfold cj;rw[Bl _ _ _ (dj _),Bl _ _ _ (tW _),List.drop_take];simp
theorem NQ(lo hi:Option Int)(n:Nat):IG lo hi 1 n=(f0 (i7 hi n n-i7 lo 0 n)).map (i7 lo 0 n+·):=by
 have e:IG lo hi 1 n=sliceRange (IH lo hi ac n).1 (IH lo hi ac n).2.1 1:=by cases lo<;>cases hi<;>rfl
 refine ag e ?_;rw[sliceBounds_plain,Bl _ _ _ (dj _),Bl _ _ _ (tW _)];simp only[sliceRange_one]
theorem XG(k:Option Int)(d n:Nat)(h:d<=n):i7 k d n<=n:=by
 unfold i7;split
 ·exact h
 ·exact W0 0x36cec004014208a08a245082282089180d2cec0040 [_] [_] Yt
theorem XH(x:ar)(lo hi:Option Int):(⟨((IG lo hi 1 x.length).filterMap (x.cps[·]?)).toArray⟩:ar)=bk (cj x.cps.toList lo hi):=by rw[NQ];simp only[pick_run];unfold bk cj;rw[dM,List.drop_take]
theorem XI(x:ar)(lo hi:Option Int)(h:(IG lo hi 1 x.length).length =x.length):bk (cj x.cps.toList lo hi)=x:=by
 rw[NQ]at h;simp only[bq,TL]at h;have h1:=XG hi x.length x.length (dj _);unfold cj;rw[dM];by_cases q:x.length=0
 ·have e:x.cps.toList=[]:=TK (by rw[dM];exact q);conv=>rhs;rw[<-vm x]
  refine ag e ?_;simp
 ·have a0:i7 lo 0 x.length=0:=k8 0x55021d64528a08224525d04528228228914958143600b40818023e040 Yt h h1 q;have b0:i7 hi x.length x.length=x.length:=bu 0x55001d04528208208914a28208974114a082082245282282256200d882d0006200 Yt h h1;refine ag a0 (ag b0 ?_);rw[IC,nN (by rw[dM];exact dj _),vm]
theorem NR(l:List α):∀k:Nat,k<=l.length->((f0 k).map (λ(i:Nat)=>l.length-1-i)).filterMap (l.toArray[·]?)=l.reverse.take k
 |0,_=>by simp
 |k+1,h=>by rw[Qgx,fn,List.filterMap_append,NR l k (oq h),Qgq];congr 1;have hk:l.length-1-k<l.length:=aQ 0x152485402c920528208228914228a08a25500b24814a0822891422822893882c02c9206203240 Yt h;simp[Qgy (show k<l.length from aQ 0x388006203240 Yt h),hk]
theorem XJ(items:List ao):slicePick items.toArray ac ac (aa (-1))=items.reverse.toArray:=by
 unfold slicePick;have e:IH ac ac (aa (-1)) items.toArray.size=((items.length:Int)-1, -1, -1):=by simp[IH]
 refine ag e ?_;have e2:sliceRange ((items.length:Int)-1) (-1) (-1)=(f0 items.length).map (λ(i:Nat)=>items.length-1-i):=by
  unfold sliceRange;have c:(if(-1:Int)>0 then(if(items.length:Int)-1< -1 then(-1-((items.length:Int)-1)+ -1-1)/ -1 else 0)else if(items.length:Int)-1> -1 then((items.length:Int)-1- -1- -1-1)/(- -1)else 0)=(items.length:Int):=by
   rw[az (by decide)];split
   ·rw[show(- -1:Int)=1 by decide,Int.ediv_one];exact bL 0x1d045245257b002c92fc24bf092c9b00 Yt
   ·lia
  refine ag c ?_;simp only[jY];apply zh;intro k hk;have:=mM.mp hk;lia
 simp only[e2];refine ag (NR items _ (dj _)) ?_;rw[nN (by simp)]
section
variable {prog:rB} {w:d9} {A:dK} {E:ao->aE->Prop} {s:aE} {env:bP}
def pz(T:String):Prop:=∃id,typeLookup (.type T) "__getitem__"=pure (aa (.builtin id))
theorem F1:pz "list":=⟨_,slot_list_getitem.lookup⟩
theorem NS:pz "str":=⟨_,F.slot_str_getitem.lookup⟩
theorem XK:pz "tuple":=⟨_,F.slot_tuple_getitem.lookup⟩
theorem NT:pz "dict":=⟨_,F.slot_dict_getitem.lookup⟩
theorem XM:(∀a b p,sl≠.Slice a b ac p)->subscripted sl af o i=operate [o,i] (rK o i):=by
 cases sl using wL with
 |Slice a b st p=>cases st with
  |none=>exact λh=>absurd rfl (h a b p)
  |some e=>exact λ_=>rfl
 |_=>exact λ_=>rfl
theorem Bm(dY:∀a b p,sl≠.Slice a b ac p)
  (h:aI (aP prog w) A (eval value env) (λo aS=>aI (aP prog w) A (eval sl env) (λi s₂=>(∃T,pz T/\s₂.TypeIs o T)/\aI (aP prog w) A (rK o i) Q E s₂) E aS) E s):
  aI (aP prog w) A (eval (.Subscript value sl pos) env) Q E s:=by
 rw[arm_eval_Subscript]
 refine bH (nQ h (λo aS n0=>bH (zi (nQ n0 (λi s₂ Jf=>bH (zj ?_)) λ_ _ x=>x)))
  λ_ _ x=>x)
 refine aF Jf λaM hg=>?_;obtain⟨T,⟨id,hl⟩,hT⟩:=aM
 refine bH ?_
 refine ag (Qgz hT.not_modules) ?_
 refine bH (wpAny_specialOf hT hl ?_)
 have fin:aI (aP prog w) A (operate [o,i] (rK o i)) (λr uu=>aI (aP prog w) A (letTemporaryGo value o r>>=λ_=>pure r) Q E uu) E s₂:=wpAny_operating (nQ hg (λr uu Jg=>bH (QgA (dW Jg))) λ_ _ x=>x)
 have e:subscripted sl af o i=operate [o,i] (rK o i):=XM dY
 refine dW (bH ?_)
 refine ag e ?_
 exact fin
theorem XN{value:ax}{lo hi:Option ax}{Q:ao->aE->Prop}
  (h:aI (aP prog w) A (eval value env) (λo aS=>aI (aP prog w) A (eval (.Slice lo hi ac p) env) (λi s₂=>(∃T,pz T/\s₂.TypeIs o T)/\aI (aP prog w) A (rK o i) Q E s₂) E aS) E s):
  aI (aP prog w) A (eval (.Subscript value (.Slice lo hi ac p) pos) env) Q E s:=by
 rw[arm_eval_Subscript]
 refine bH (nQ h (λo aS n0=>bH (zi (nQ n0 (λi s₂ Jf=>bH (zj ?_)) λ_ _ x=>x)))
  λ_ _ x=>x)
 refine aF Jf λaM hg=>?_;obtain⟨T,⟨id,hl⟩,hT⟩:=aM
 refine bH ?_
 refine ag (Qgz hT.not_modules) ?_
 refine bH (wpAny_specialOf hT hl ?_)
 have fin:aI (aP prog w) A (operate [i,o] (rK o i)) (λr uu=>aI (aP prog w) A (letTemporaryGo value o r>>=λ_=>pure r) Q E uu) E s₂:=wpAny_operating (nQ hg (λr uu Jg=>bH (QgA (dW Jg))) λ_ _ x=>x)
 exact dW (bH fin)
end
section
variable {W:Wd} {A:dK} {X:List au} {s:aE} {Q:ao->aE->Prop} {n:Nat}
theorem Bo(h:place k n=aa j):seqIndex? k n=aa j/\ -(n:Int)<=k/\k<n/\j<n:=by
 unfold place at h;unfold seqIndex?;split at h<;>rename_i q
 ·split at h<;>cases h;have:¬k<0:=Ar q;simp only[this,if_false];rw[aw (by simp only[bo,bl];lia)];exact⟨rfl,qx 0x1c0f2c007001 Yt q,by lia,by lia⟩
 ·split at h<;>cases h;have:k<0:=uX q;simp only[this,if_true];rw[aw (by simp only[bo,bl];lia)];exact⟨rfl,by lia,qx 0xfb0001f001 Yt q,by lia⟩
theorem XO(h:place k n=aa j):(0<=k->j=k.toNat)/\(k<0->j=(k+n).toNat):=by
 unfold place at h;by_cases q:0<=k
 ·rw[aw q]at h;refine⟨λ_=>?_,λq'=>W2 0x508a256b03b080001c004f040 [_,_] [_] Yt q q'⟩;by_cases q2:k<n
  ·rw[aw q2]at h;obtain rfl:=aB h;rfl
  ·rw[az q2]at h;injection h
 ·rw[az q]at h;refine⟨λq'=>absurd q' q,λ_=>?_⟩;by_cases q2:0<=k+n
  ·rw[aw q2]at h;obtain rfl:=aB h;rfl
  ·rw[az q2]at h;injection h
theorem RepL.getSome{g:Bd}{vs:List ao}{ds:List an}(r:RepL g vs ds){i:Nat}(h:ds[i]?=aa d):∃v,vs[i]?=aa v/\Rep g v d:=by
 have hi:i<vs.length:=by refine ag r.length ?_;exact(mH.mp h).1
 exact⟨vs[i],by simp[hi],r.at i _ d (by simp[hi]) h⟩
theorem RepB.takes(h:hZ o u=aa d)(r:RepB X s.heap v o):∃T,pz T/\s.TypeIs v T:=by
 obtain⟨_,_,⟨_,rfl,_⟩|⟨_,rfl,_⟩|⟨_,rfl,_⟩⟩:=MK h
 ·refine k7 r.list_inv λa m ws bB h1 _=>?_;subst bB;exact⟨_,F1,_,h1,rfl⟩
 ·refine k7 ((r.other (by intro _ q;cases q)).tuple_inv) λa m ws bB h1 _=>?_;subst bB;exact⟨_,XK,_,ed h1,rfl⟩
 ·refine ai ((r.other (by intro _ q;cases q)).str_inv) λt am _=>?_;subst am;exact(aO _ NS (wK _ _ _))
theorem XQ{v u:ao}(h:hZ o k=aa d)(r:RepB X s.heap v o)(ru:Rep (aJ X s.heap) u k)(hQ:jH W X s d Q):aI (aP W.prog W.w) A (rK v u) Q bg s:=by
 have sz:(cz:Int)<2^63:=by refine ag dy ?_;decide
 obtain⟨k,rfl,⟨l,rfl,j,hp,h⟩|⟨l,rfl,j,hp,h⟩|⟨x,rfl,j,c,hp,hc,rfl⟩⟩:=MK h
 ·refine dc r.list_inv λa m ws bB h1 h2 h3=>?_;subst bB;refine aD ru.int_inv λt am=>?_;subst am
  ·refine og (Bo hp) λe q1 q2 q3=>?_;refine ai (h3.getSome h) λx hx rx=>?_;have hl:=h3.length;have gb:s.heap.IsList a ws.toArray:=⟨_,h1,rfl,_,rfl⟩;refine aF (XO hp) λJh Ji=>?_;by_cases q0:0<=k
   ·have:=Jh q0;clear hp h e q3 Jh Ji;subst this;exact wpAny_getItem_list gb q0 (KT sz h2 q2 hl) (by simpa using hx) (hQ _ _ (Ext.refl _ _) rx)
   ·have:=Ji (uX q0);clear hp h e q3 Jh Ji;subst this;refine wpAny_getItem_list_neg gb (uX q0) (by simp;exact W2 0x703cb001c0f2c236200 [_,_] [_] Yt q1 hl) (KU sz h2 q1 hl) ?_ (hQ _ _ (Ext.refl _ _) rx);rw[mL];refine ag hl ?_;simpa using hx
 ·refine dc ((r.other (by intro _ q;cases q)).tuple_inv) λa m ws bB h1 h2 h3=>?_;subst bB;refine aD ru.int_inv λt am=>?_;subst am
  ·refine og (Bo hp) λe q1 q2 q3=>?_;refine ai (h3.getSome h) λx hx rx=>?_;have hl:=h3.length;refine PyProof.Rows.getItem_tuple (t:=a) (items:=ws.toArray) ⟨_,ed h1,rfl,_,rfl⟩ (KU sz h2 q1 hl) (KT sz h2 q2 hl) (j:=j) ?_ (x:=x) (by simpa using hx) (hQ _ _ (Ext.refl _ _) rx);rw[mL];refine ag hl ?_;exact e
 ·refine ai ((r.other (by intro _ q;cases q)).str_inv) λt am hx=>?_;subst am;refine aD ru.int_inv λt' am=>?_;subst am
  ·refine og (Bo hp) λe q1 q2 q3=>?_
   ·refine P.getItem_str (c:=c) (by simp;exact⟨W3 0x1c0f0208208208208208208208208208208224f082082082082082082082082082082089b0818800703cb00 [_,_] [_] Yt sz hx q1,W3 0x3c20820820820820820820820820820822403c208208208208208208208208208208226c2062003ec000 [_,_] [_] Yt sz hx q2⟩) ?_ (hQ _ _ (Ext.tok _) (.str _ _ (by refine ag dy ?_;simp[wA,bk])));refine ag e ?_;simpa using hc
theorem NU(h:kh d=aa k)(r:Rep g v d):IsPart v k/\∃p:Option (Int×fL),v=partValue p/\p.map (·.1)=k:=by
 cases d using mE with
 |none=>obtain rfl:=aB h;cases r.none_inv;exact⟨.none,ac,rfl,rfl⟩
 |int i=>
  refine aF (mY h) λ_ e=>?_
  obtain rfl:=aB e
  clear h e;refine aD r.int_inv λt am=>?_;subst am
  exact⟨.int _ _,aa (_,t),rfl,rfl⟩
 |_=>exact vf h
theorem NV(h:gF o a b=aa d)(r:Rep (aJ X s.heap) v o):∃T,pz T/\s.TypeIs v T:=by
 obtain⟨_,_,_,_,⟨_,rfl,_⟩|⟨_,rfl,_⟩⟩:=ML h
 ·refine k7 r.list_inv λa m ws bB h1 _=>?_;subst bB;exact⟨_,F1,_,ed h1,rfl⟩
 ·refine ai r.str_inv λt am _=>?_;subst am;exact(aO _ NS (wK _ _ _))
theorem RepL.slice(r:RepL g vs ds)(lo hi:Option Int):RepL g (cj vs lo hi) (cj ds lo hi):=by unfold cj;refine ag r.length ?_;exact(r.take _).drop _
theorem NW(l:List α)(lo hi:Option Int):(cj l lo hi).length <=l.length:=by unfold cj;simp only[dL,eV];exact KV
theorem XR(k:W.Ok)(hX:∀a∈X,a<s.heap.objs.size)(hT:∀a∈W.T,a∈X)(h:gF o a b=aa d)(r:Rep (aJ X s.heap) v o)(r1:Rep (aJ X s.heap) u1 a)(r2:Rep (aJ X s.heap) u2 b)
  (hQ:jH W X s d Q):aI (aP W.prog W.w) A (rK v (.ref s.heap.objs.size)) Q bg {s with heap:=s.heap.push {cls:=.type "slice",data:=.fields #[u1,u2,.none]}}:=by
 have x1:Ext W s {s with heap:=s.heap.push {cls:=.type "slice",data:=.fields #[u1,u2,.none]}}:=Ext.push k _ _
 refine cY (ML h) λl hh e1 e2 ho=>?_
 obtain⟨p1,q1,hq1,Uz⟩:=NU e1 r1
 obtain⟨p2,q2,Jj,UA⟩:=NU e2 r2
 clear h;rcases ho with⟨xs,rfl,rfl⟩|⟨x,rfl,rfl⟩
 ·refine dc r.list_inv λa m ws bB h1 h2 h3=>?_;subst bB;have gb:s.heap.IsList a ws.toArray:=⟨_,ed h1,rfl,_,rfl⟩;refine QgB (gb.push _) (QgC ..) p1 p2 .none (by simp) ?_ (by simpa using h2);rw[XF];refine hQ _ _ (x1.trans (Ext.push k _ _)) ?_;have x2:Ext W s {s with heap:=(s.heap.push {cls:=.type "slice",data:=.fields #[u1,u2,.none]}).push {cls:=.type "list",data:=.seq (cj ws l hh).toArray}}:=x1.trans (Ext.push k _ _);refine Rep.mkList (vs:=cj ws l hh) (n:=0) (cb.mpr ⟨λm=>?_,g5 _ rfl⟩) (nR (NW _ _ _) h2) (x2.repL hT (h3.slice l hh));have q:=hX _ m;rw[TM]at q;exact QgD _ (Dv q)
 ·refine ai r.str_inv λt am hx=>?_;subst am;clear r1 p1;subst hq1;clear r2 p2;subst Jj;refine wpAny_getItem_str_slice (l:=q1) (u:=q2) (st:=ac) ⟨_,g5 _ rfl,rfl,rfl⟩ rfl ?_;have e:(⟨((TN x q1 q2 ac).filterMap (x.cps[·]?)).toArray⟩:ar)=bk (cj x.cps.toList l hh):=by
   unfold TN;refine ag Uz (ag UA ?_);exact XH x l hh
  have bh:(bk (cj x.cps.toList l hh)).length <=cz:=by rw[mf];have:=NW x.cps.toList l hh;rw[dM]at this;exact bu 0x6400190206200 Yt hx this
  unfold sliceMade;refine ag e ?_;split
  ·rename_i q;have:bk (cj x.cps.toList l hh)=x:=by
    simp only[Option.map_none,Option.getD_none,bo,bV]at q;have q2:=q.2;unfold TN at q2;rw[Uz,UA]at q2;exact XI x l hh q2
   rw[this]at hQ;exact hQ _ _ x1 (.str _ _ hx)
  ·exact⟨bh,hQ _ _ (x1.trans (Ext.tok _)) (.str _ _ bh)⟩
end
end
section
section
variable {T:Tabs} {O:bn} {W fu:Nat} {f f':Frm} {fl:Fl} {d:an}
theorem b1{α β:Type}{o:Option α}{g:α->Option β}{d:β}(h:o.bind g=aa d):∃a,o=aa a/\g a=aa d:=bx.mp h
theorem qM{α β:Type}{o:Option α}{g:α->β}{d:β}(h:o.map g=aa d):∃a,o=aa a/\d=g a:=ai (bO.mp h) λa h1 h2=>⟨a,h1,h2.symm⟩
theorem lf{g:Frm}{x:Fl}(h:aa (x,g)=aa (fl,f')):fl=x/\f'=g:=aF (dx (aB h)) λh1 h2=>⟨h1.symm,h2.symm⟩
theorem dP{β:Type}{d:β}{P:Prop}(h:ac=aa d):P:=nomatch h
theorem uE{e:ME}(h:aj T O fu e f=aa d):∃n,aj T O (n+1) e f=aa d:=by cases fu with|zero=>exact dP h|succ n=>exact⟨n,h⟩
theorem uT{e:ME}{b:Bool}(h:aK T O fu e f=aa b):∃n,aK T O (n+1) e f=aa b:=by cases fu with|zero=>exact dP h|succ n=>exact⟨n,h⟩
theorem uI{e:ME}{b:List an}(h:gm T O fu e f=aa b):∃n,gm T O (n+1) e f=aa b:=by cases fu with|zero=>exact dP h|succ n=>exact⟨n,h⟩
theorem uS{s:MS}{r:Fl×Frm}(h:bJ T O W fu s f=aa r):∃n,bJ T O W (n+1) s f=aa r:=by cases fu with|zero=>exact dP h|succ n=>exact⟨n,h⟩
theorem NX{s:List MS}{r:Fl×Frm}(h:bc T O W fu s f=aa r):∃n,bc T O W (n+1) s f=aa r:=by cases fu with|zero=>exact dP h|succ n=>exact⟨n,h⟩
theorem m2{β:Type}{o:Option an}{g:an->Option β}{d:β}(h:(match o with|some a=>g a|none=>ac)=aa d):∃a,o=aa a/\g a=aa d:=by
 cases o with
 |none=>exact dP h
 |some a=>exact⟨a,rfl,h⟩
theorem m3{β:Type}{o:Option (List an)}{g:List an->Option β}{d:β}(h:(match o with|some a=>g a|none=>ac)=aa d):∃a,o=aa a/\g a=aa d:=by
 cases o with
 |none=>exact dP h
 |some a=>exact⟨a,rfl,h⟩
theorem m5{β:Type}{o:Option Nat}{g:Nat->Option β}{d:β}(h:(match o with|some a=>g a|none=>ac)=aa d):∃a,o=aa a/\g a=aa d:=by
 cases o with
 |none=>exact dP h
 |some a=>exact⟨a,rfl,h⟩
theorem Bp{β:Type}{o p:Option an}{g:an->an->Option β}{d:β}(h:(match o with|some a=>(match p with|some b=>g a b|none=>ac)|none=>ac)=aa d):∃a b,o=aa a/\p=aa b/\g a b=aa d:=ai (m2 h) λa h1 h=>ai (m2 h) λb h2 h=>gO a b h1 h2 h
theorem m4{β:Type}{o:Option Bool}{x y:Option β}{d:β}(h:(match o with|some ae=>x|some af=>y|none=>ac)=aa d):∃c,o=aa c/\(if c then x else y)=aa d:=by
 cases o with
 |none=>exact dP h
 |some a=>exact⟨a,rfl,by cases a<;>exact h⟩
theorem NY{α:Type}{o:Option an}{g:Int->Option α}{r:α}(h:(match o with|some (.int i)=>g i|_=>ac)=aa r):∃i,o=aa (.int i)/\g i=aa r:=by
 cases o with
 |none=>exact dP h
 |some x=>revert h;cases x using mE<;>first|exact λh=>dP h|exact λh=>⟨_,rfl,h⟩
theorem NZ{α:Type}{o:Option an}{g:List an->Option α}{r:α}(h:(match o with|some (.list i)=>g i|_=>ac)=aa r):∃i,o=aa (.list i)/\g i=aa r:=by
 cases o with
 |none=>exact dP h
 |some x=>revert h;cases x using mE<;>first|exact λh=>dP h|exact λh=>⟨_,rfl,h⟩
theorem XS{α:Type}{o:Option an}{g:List an->Option α}{r:α}(h:(match o with|some (.tuple i)=>g i|_=>ac)=aa r):∃i,o=aa (.tuple i)/\g i=aa r:=by
 cases o with
 |none=>exact dP h
 |some x=>revert h;cases x using mE<;>first|exact λh=>dP h|exact λh=>⟨_,rfl,h⟩
theorem XT{α:Type}{o p:Option an}{g:Int->Int->Option α}{r:α}(h:(match o,p with|some (.int a),aa (.int b)=>g a b|_,_=>ac)=aa r):∃a b,o=aa (.int a)/\p=aa (.int b)/\g a b=aa r:=by
 cases o with
 |none=>exact dP h
 |some x=>
  revert h
  cases x using mE with
  |int a=>
   cases p with
   |none=>exact λh=>dP h
   |some y=>cases y using mE<;>first|exact λh=>dP h|exact λh=>gO a _ rfl rfl h
  |_=>exact λh=>dP h
theorem N7{α:Type}{o:Option FV}{g:List an->Option α}{r:α}(h:(match o with|some (.own i)=>g i|_=>ac)=aa r):∃i,o=aa (.own i)/\g i=aa r:=by
 cases o with
 |none=>exact dP h
 |some x=>revert h;cases x using FV.casesOn<;>first|exact λh=>dP h|exact λh=>⟨_,rfl,h⟩
theorem XU{α:Type}{o:Option FV}{p:Option an}{g:List an->an->Option α}{r:α}(h:(match o,p with|some (.own xs),aa d=>g xs d|_,_=>ac)=aa r):∃xs d,o=aa (.own xs)/\p=aa d/\g xs d=aa r:=by
 cases o with
 |none=>exact dP h
 |some x=>
  revert h
  cases p with
  |none=>cases x using FV.casesOn<;>exact λh=>dP h
  |some y=>cases x using FV.casesOn<;>first|exact λh=>dP h|exact λh=>gO _ y rfl rfl h
theorem XV{α:Type}{o:Option FV}{p:Option an}{g:List an->List an->Option α}{r:α}(h:(match o,p with|some (.own xs),aa (.list d)=>g xs d|_,_=>ac)=aa r):∃xs d,o=aa (.own xs)/\p=aa (.list d)/\g xs d=aa r:=by
 cases o with
 |none=>exact dP h
 |some x=>
  revert h
  cases p with
  |none=>cases x using FV.casesOn<;>exact λh=>dP h
  |some y=>
   cases x using FV.casesOn with
   |own xs=>cases y using mE<;>first|exact λh=>dP h|exact λh=>gO xs _ rfl rfl h
   |_=>exact λh=>dP h
theorem Bq[Decidable p](h:(if p then aa a else ac)=aa r):p/\r=a:=aF (pS.mp h) λh1 h2=>⟨h1,(aB h2).symm⟩
theorem N8(h:aj T O fu (.v i) f=aa d):f.get i=aa d:=aD (uE h) λ_ h=>h
theorem XW(h:aj T O fu (.bin op l r) f=aa d):∃n a b,aj T O n l f=aa a/\aj T O n r f=aa b/\bM op a b=aa d:=aD (uE h) λn h=>⟨n,Bp (fQ.symm.trans h)⟩
theorem XX{e:ME}(h:aj T O fu (.neg e) f=aa d):∃n i,aj T O n e f=aa (.int i)/\d=.int (-i):=aD (uE h) λn h=>ai (NY (vh.symm.trans h)) λi h1 h=>hU n i h1 (aB h).symm
theorem XY{e:ME}(h:aj T O fu (.inv e) f=aa d):∃n i,aj T O n e f=aa (.int i)/\d=.int (-i-1):=aD (uE h) λn h=>ai (NY (A7.symm.trans h)) λi h1 h=>hU n i h1 (aB h).symm
theorem N9(h:aj T O fu (.cmp op l r) f=aa d):∃n a b c,aj T O n l f=aa a/\eZ T O n r f=aa b/\dt op a b=aa c/\d=.bool c:=aD (uE h) λn h=>cY (Bp (iC.symm.trans h)) λa b h1 h2 h=>ai (qM h) λc h3 h4=>EE n a b c h1 h2 h3 h4
theorem XZ{t a b:ME}(h:aj T O fu (.ite t a b) f=aa d):∃n c,aK T O n t f=aa c/\aj T O n (if c then a else b) f=aa d:=aD (uE h) λn h=>ai (m4 (A9.symm.trans h)) λc h1 h=>hU n c h1 (by clear h1;cases c<;>exact h)
theorem X4(h:aj T O fu (.tup es) f=aa d):∃n ds,aV (λe=>aj T O n e f) es=aa ds/\d=.tuple ds:=aD (uE h) λn h=>⟨n,qM h⟩
theorem X5(h:aj T O fu (.lst es) f=aa d):∃n ds,aV (λe=>aj T O n e f) es=aa ds/\d=.list ds:=aD (uE h) λn h=>⟨n,qM h⟩
theorem Oa(h:aj T O fu (.call g es) f=aa d):∃n ds,aV (λe=>aj T O n e f) es=aa ds/\O g ds=aa d:=aD (uE h) λn h=>⟨n,m3 (jF.symm.trans h)⟩
theorem X6(h:aj T O fu (.bi b es) f=aa d):∃n ds,aV (λe=>eZ T O n e f) es=aa ds/\gR b ds=aa d:=aD (uE h) λn h=>⟨n,m3 (oB.symm.trans h)⟩
theorem X7{es:List ME}(h:aj T O fu (.meth m o es) f=aa d):∃n a ds,aj T O n o f=aa a/\aV (λe=>aj T O n e f) es=aa ds/\gS m a ds=aa d:=aD (uE h) λn h=>ai (m2 (jG.symm.trans h)) λa h1 h=>ai (m3 h) λds h2 h=>xm n a ds h1 h2 h
theorem X8(h:aj T O fu (.idx o i) f=aa d):∃n a k,eZ T O n o f=aa a/\aj T O n i f=aa k/\hZ a k=aa d:=aD (uE h) λn h=>⟨n,Bp (A8.symm.trans h)⟩
theorem X9{o l u:ME}(h:aj T O fu (.sl o l u) f=aa d):∃n a b c,aj T O n o f=aa a/\aj T O n l f=aa b/\aj T O n u f=aa c/\gF a b c=aa d:=aD (uE h) λn h=>ai (m2 (MN.symm.trans h)) λa h1 h=>cY (Bp h) λb c h2 h3 h=>EE n a b c h1 h2 h3 h
theorem Yb(h:aj T O fu (.rv o) f=aa d):∃n a,aj T O n o f=aa a/\A3 a=aa d:=aD (uE h) λn h=>⟨n,m2 (MQ.symm.trans h)⟩
theorem Ob{cJ:List (Option Nat)}{cs:List ME}(h:aj T O fu (.comp cJ t cK it cs) f=aa d):∃n xs ds,gm T O n it f=aa xs/\lc (λg=>aj T O n cK g) (λg=>gf (λc=>aK T O n c g) cs) (iB f cJ) t xs=aa ds/\d=.list ds:=aD (uE h) λn h=>ai (m3 (FL.symm.trans h)) λxs h1 h=>ai (qM h) λds h2 h3=>xm n xs ds h1 h2 h3
theorem Oc(h:aj T O fu (.gIn t neg e) f=aa d):∃n a b,aj T O n e f=aa a/\A4 T t a=aa b/\d=.bool (b !=neg):=aD (uE h) λn h=>ai (m2 (FJ.symm.trans h)) λa h1 h=>ai (qM h) λb h2 h3=>xm n a b h1 h2 h3
theorem Yc(h:aj T O fu (.gGet t e) f=aa d):∃n a,aj T O n e f=aa a/\A5 T t a=aa d:=aD (uE h) λn h=>⟨n,m2 (MT.symm.trans h)⟩
theorem Yd(h:aj T O fu (.gget t e) f=aa d):∃n a,aj T O n e f=aa a/\A6 T t a=aa d:=aD (uE h) λn h=>⟨n,m2 (MU.symm.trans h)⟩
theorem Ye{e:ME}{b:Bool}(h:aK T O fu (.nt e) f=aa b):∃n c,aK T O n e f=aa c/\b= !c:=aD (uT h) λn h=>⟨n,qM h⟩
noncomputable def Br:ME->Bool
 | .v _=>af
 |_=>ae
noncomputable def Bt:ME->Bool
 | .nt _| .bop .. | .ite .. =>af
 |_=>ae
noncomputable def yb:ME->Bool
 | .rng _| .rvd _=>af
 |_=>ae
def tO(o:Option an):Option Bool:=match o with|some d=>dO d|none=>ac
def iO(o:Option an):Option (List an):=match o with|some d=>vg d|none=>ac
theorem Yg:Br m=ae->eZ T O (n+1) m f=aj T O n m f:=by cases m using ME.casesOn<;>first|exact λ_=>rfl|exact λh=>iS h
theorem vr:Bt m=ae->aK T O (n+1) m f=tO (aj T O n m f):=by cases m using ME.casesOn<;>first|exact λ_=>rfl|exact λh=>iS h
theorem Od:yb m=ae->gm T O (n+1) m f=iO (aj T O n m f):=by cases m using ME.casesOn<;>first|exact λ_=>rfl|exact λh=>iS h
theorem Yh{m:ME}(hm:Br m=ae)(h:eZ T O fu m f=aa d):∃n,aj T O n m f=aa d:=by
 cases fu with
 |zero=>exact dP h
 |succ n=>exact⟨n,(Yg hm).symm.trans h⟩
theorem F2(hm:Bt m=ae)(h:aK T O fu m f=aa b):∃n d,aj T O n m f=aa d/\dO d=aa b:=aD (uT h) λn h=>⟨n,m2 ((vr hm).symm.trans h)⟩
theorem Yi(hm:yb m=ae)(h:gm T O fu m f=aa xs):∃n d,aj T O n m f=aa d/\vg d=aa xs:=aD (uI h) λn h=>⟨n,m2 ((Od hm).symm.trans h)⟩
theorem Yj{e:ME}{xs:List an}(h:gm T O fu (.rvd e) f=aa xs):∃n ds,aj T O n e f=aa (.list ds)/\xs=ds.reverse:=aD (uI h) λn h=>ai (NZ (MW.symm.trans h)) λds h1 h=>hU n ds h1 (aB h).symm
theorem Yk{es:List ME}{xs:List an}(h:gm T O fu (.rng es) f=aa xs):∃n ds,aV (λe=>aj T O n e f) es=aa ds/\(fB ds).bind xU=aa xs:=aD (uI h) λn h=>⟨n,b1 h⟩
theorem Yl{is:List Int}{xs:List an}(h:xU is=aa xs):(∃b:Int,is=[b]/\(b<=100000&& -2^60<b)=ae/\xs=(m8 0 b).map .int)\/
  ∃a b:Int,is=[a,b]/\(b-a<=100000&& -2^60<a&&a<2^60&& -2^60<b&&b<2^60)=ae/\xs=(m8 a b).map .int :=by
 revert h
 cases is with
 |nil=>exact λh=>dP h
 |cons x r=>
  cases r with
  |nil=>exact λh=>aF (Bq h) λh1 h2=>.inl (kc x rfl h1 h2)
  |cons y r=>cases r with
   |nil=>exact λh=>aF (Bq h) λh1 h2=>.inr (gO x y rfl h1 h2)
   |cons z r=>exact λh=>dP h
theorem Oe(h:bJ T O W fu (.asg i e) f=aa (fl,f')):∃d,aj T O 40 e f=aa d/\fl=.next /\f'=f.put i (.val d):=aD (uS h) λn h=>ai (m2 (ja.symm.trans h)) λd h1 h=>⟨d,h1,lf h⟩
theorem Ym(h:bJ T O W fu (.own i (.lst [])) f=aa (fl,f')):fl=.next /\f'=f.put i (.own []):=aD (uS h) λn h=>lf h
theorem Yn{i:Nat}{es:List ME}(h:bJ T O W fu (.own i (.meth .split o es)) f=aa (fl,f')):∃xs a ds,aj T O 39 o f=aa a/\aV (λe=>aj T O 39 e f) es=aa ds/\gS .split a ds=aa (.list xs)/\fl=.next /\f'=f.put i (.own xs):=aD (uS h) λn h=>ai (NZ (MX.symm.trans h)) λxs h1 h=>aF (lf h) λh2 h3=>ai (m2 (jG.symm.trans h1)) λa g1 h=>ai (m3 h) λds g2 g3=>uQ xs a ds g1 g2 g3 h2 h3
theorem Yo{is:List Nat}{e:ME}(h:bJ T O W fu (.unp is e) f=aa (fl,f')):∃ds,aj T O 40 e f=aa (.tuple ds)/\eC f is ds=aa f'/\fl=.next :=aD (uS h) λn h=>ai (XS (m9.symm.trans h)) λds h1 h=>ai (qM h) λg h2 h3=>aF (dx h3) λh3 h4=>kc ds h1 (h2.trans (congrArg aa h4.symm)) h3
theorem Yp{i:Nat}{op:BO}(h:bJ T O W fu (.aug i op e) f=aa (fl,f')):∃a b d,f.get i=aa (.int a)/\aj T O 40 e f=aa (.int b)/\oA op a b=aa d/\fl=.next /\f'=f.put i (.val (.int d)):=aD (uS h) λn h=>cY (XT (xW.symm.trans h)) λa b h1 h2 h=>ai (qM h) λd h3 h=>aF (dx h) λh4 h5=>uQ a b d h1 h2 h3 h4 h5
theorem Yq{t:ME}{a b:List MS}(h:bJ T O W fu (.ife t a b) f=aa (fl,f')):∃n c,aK T O 40 t f=aa c/\bc T O W n (if c then a else b) f=aa (fl,f'):=aD (uS h) λn h=>ai (m4 (iD.symm.trans h)) λc h1 h=>hU n c h1 (by clear h1;cases c<;>exact h)
theorem Yr(h:bJ T O W fu (.whl t b) f=aa (fl,f')):∃n,ek (λf=>aK T O 40 t f) (λf=>bc T O W n b f) W f=aa (fl,f'):=aD (uS h) λn h=>⟨n,h⟩
theorem Ys{is:List Nat}{one:Bool}{b:List MS}(h:bJ T O W fu (.forr is one it b) f=aa (fl,f')):∃n xs,gm T O 40 it f=aa xs/\eJ (λf=>bc T O W n b f) (e9 is one) xs f=aa (fl,f'):=aD (uS h) λn h=>⟨n,m3 (Ba.symm.trans h)⟩
theorem Yu{e:ME}(h:bJ T O W fu (.ret e) f=aa (fl,f')):∃d,aj T O 40 e f=aa d/\fl=.ret d/\f'=f:=aD (uS h) λn h=>ai (m2 (l9.symm.trans h)) λd h1 h=>⟨d,h1,lf h⟩
theorem Yv{i:Nat}(h:bJ T O W fu (.app i e) f=aa (fl,f')):∃xs d,f[i]?=aa (.own xs)/\aj T O 40 e f=aa d/\xs.length<100000/\fl=.next /\f'=f.put i (.own (xs++[d])):=aD (uS h) λn h=>cY (XU (FK.symm.trans h)) λxs d h1 h2 h=>aF (Bq h) λh3 h=>aF (dx h) λh4 h5=>Kq xs d h1 h2 h3 h4 h5
theorem Yw{i:Nat}(h:bJ T O W fu (.ext i e) f=aa (fl,f')):∃xs ds,f[i]?=aa (.own xs)/\aj T O 40 e f=aa (.list ds)/\xs.length+ds.length<=100000/\fl=.next /\f'=f.put i (.own (xs++ds)):=aD (uS h) λn h=>cY (XV (FM.symm.trans h)) λxs d h1 h2 h=>aF (Bq h) λh3 h=>aF (dx h) λh4 h5=>Kq xs d h1 h2 h3 h4 h5
theorem Yx{i:Nat}(h:bJ T O W fu (.rev i) f=aa (fl,f')):∃xs,f[i]?=aa (.own xs)/\fl=.next /\f'=f.put i (.own xs.reverse):=aD (uS h) λn h=>ai (N7 (WD.symm.trans h)) λxs h1 h=>⟨xs,h1,lf h⟩
theorem Yy{i:Nat}{k:Int}(h:bJ T O W fu (.del i k) f=aa (fl,f')):∃xs j,f[i]?=aa (.own xs)/\place k xs.length=aa j/\fl=.next /\f'=f.put i (.own (xs.eraseIdx j)):=aD (uS h) λn h=>ai (N7 (FN.symm.trans h)) λxs h1 h=>ai (m5 h) λj h2 h=>⟨xs,j,h1,h2,lf h⟩
theorem Yz{t:ME}(h:bJ T O W fu (.asrt t) f=aa (fl,f')):aK T O 40 t f=aa ae/\fl=.next /\f'=f:=aD (uS h) λn h=>by
 generalize q:aK T O 40 t f=o;replace h:=MO.symm.trans h;rw[q]at h;cases o with
 |none=>exact dP h
 |some c=>cases c with
  |true=>exact⟨rfl,lf h⟩
  |false=>exact dP h
theorem YA(h:bJ T O W fu .brk f=aa (fl,f')):fl=.brk /\f'=f:=aD (uS h) λn h=>lf h
theorem YB(h:bJ T O W fu .rais f=aa (fl,f')):False:=aD (uS h) λn h=>dP h
theorem YC(h:bJ T O W fu (.frz i) f=aa (fl,f')):fl=.next /\((∃xs,f[i]?=aa (.own xs)/\f'=f.put i (.val (.list xs)))\/f'=f):=aD (uS h) λn h=>by
 generalize q:f[i]?=o;replace h:=WF.symm.trans h;rw[q]at h;cases o with
 |none=>exact aF (lf h) λh1 h2=>⟨h1,.inr h2⟩
 |some v=>cases v with
  |own xs=>exact aF (lf h) λh1 h2=>⟨h1,.inl ⟨xs,rfl,h2⟩⟩
  |un=>exact aF (lf h) λh1 h2=>⟨h1,.inr h2⟩
  |val d=>exact aF (lf h) λh1 h2=>⟨h1,.inr h2⟩
theorem YD(h:bc T O W fu [] f=aa (fl,f')):fl=.next /\f'=f:=aD (NX h) λn h=>lf h
theorem Of{s:MS}{r:List MS}(h:bc T O W fu (s::r) f=aa (fl,f')):∃n x g,bJ T O W n s f=aa (x,g)/\((x=.next /\bc T O W n r g=aa (fl,f'))\/(x≠.next /\x=fl/\g=f')):=aD (NX h) λn h=>by
 generalize q:bJ T O W n s f=o;replace h:=iE.symm.trans h;rw[q]at h;cases o with
 |none=>exact dP h
 |some p=>
  obtain⟨x,g⟩:=p
  cases x with
  |next=>exact⟨n,_,g,q,.inl ⟨rfl,h⟩⟩
  |brk=>exact aF (dx (aB h)) λh1 h2=>⟨n,_,g,q,.inr ⟨λq=>(nomatch q),h1,h2⟩⟩
  |ret d=>exact aF (dx (aB h)) λh1 h2=>⟨n,_,g,q,.inr ⟨λq=>(nomatch q),h1,h2⟩⟩
end
end
section
noncomputable def lh:TB->ar
 | .b1 =>"b1_set"| .b3 =>"b3_exceptions"| .tok =>"EXACT_TOKEN_TYPES"
def Bu(W:Wd)(O:bn)(N:Nat):Prop:=∀(g:Nat)(x:ar)(args:List an)(d:an),uZ[g]?=aa x->O g args=aa d->
 ∃(a:au)(o:be)(fd:o5),W.mg x=aa (.ref a)/\(∀h,W.Bs h->h.get? a=aa o)/\o.data=.func fd/\
  ∀(A:dK)(X:List au)(s:aE)(vs:List ao)(Q:ao->aE->Prop),AOk A N->W.Bs s.heap->W.Tb s.heap->(∀a∈W.T,a∈X)->(∀a∈X,∃o,s.heap.get? a=aa o)->
   RepL (aJ X s.heap) vs args->jH W X s d Q->aI (aP W.prog W.w) A (call (.ref a) vs) Q bg s
structure TabOk(W:Wd)(T:Tabs):Prop where
 tab:∀t,∃v,W.mg (lh t)=aa v/\
  (∀(neg:Bool)(A:dK)(n:Nat)(X:List au)(s:aE)(u:ao)(d:an)(b:Bool)(Q:ao->aE->Prop),AOk A n->W.Bs s.heap->A4 T t d=aa b->Rep (aJ X s.heap) u d->(∀s',Ext W s s'->Q (.bool (b !=neg)) s')->
   aI (aP W.prog W.w) A (tY (if neg then .NotIn else .In) u v) Q bg s)/\
  (∀(A:dK)(n:Nat)(X:List au)(s:aE)(u:ao)(d r:an)(Q:ao->aE->Prop),AOk A n->W.Bs s.heap->A5 T t d=aa r->Rep (aJ X s.heap) u d->jH W X s r Q->
   (∃T,pz T/\s.TypeIs v T)/\aI (aP W.prog W.w) A (rK v u) Q bg s)/\
  (∀(d r:an),A6 T t d=aa r->(∀s:aE,W.Bs s.heap->s.TypeIs v "dict"/\∀a,v=.ref a->∃ob,s.heap.get? a=aa ob/\ob.dict=ac)/\
   ∀(A:dK)(n:Nat)(X:List au)(s:aE)(u:ao)(Q:ao->aE->Prop),AOk A n->W.Bs s.heap->Rep (aJ X s.heap) u d->jH W X s r Q->aI (aP W.prog W.w) A (call (.builtin "dict.get") [v,u]) Q bg s)
structure Lib(W:Wd)(T:Tabs)(O:bn)(N:Nat):Prop where
 ok:W.Ok
 fns:Bu W O N
 consts:∀x m,sL x=aa m->∃v,W.mg x=aa v/\((∃i t,m=.ki i/\v=.int i t)\/∃y t,m=.ks y/\v=.str (bk y) t/\y.length<=1000)
 bis:∀x b,sK x=aa b->W.mg x=ac
 rng:W.mg "range"=ac
 rvd:W.mg "reversed"=ac
 tabs:TabOk W T
 bi:∀b,pv W b
 mm:∀m,py W m
section
variable {W:Wd} {T:Tabs} {O:bn} {N:Nat} {env:bP}
abbrev SE(W:Wd)(T:Tabs)(O:bn)(N:Nat)(env:bP)(e:ax)(m:ME):Prop:=
 ∀(fu:Nat)(A:dK)(X0:List au)(oa:Nat->au)(X:List au)(f:Frm)(s:aE)(d:an)(Q:ao->aE->Prop),AOk A N->SR W X0 env oa X s.heap f->
  aj T O fu m f=aa d->jH W X s d Q->aI (aP W.prog W.w) A (eval e env) Q bg s
abbrev SB(W:Wd)(T:Tabs)(O:bn)(N:Nat)(env:bP)(e:ax)(m:ME):Prop:=
 ∀(fu:Nat)(A:dK)(X0:List au)(oa:Nat->au)(X:List au)(f:Frm)(s:aE)(d:an)(Q:ao->aE->Prop),AOk A N->SR W X0 env oa X s.heap f->
  eZ T O fu m f=aa d->(∀v s',Ext W s s'->RepB X s'.heap v d->Q v s')->aI (aP W.prog W.w) A (eval e env) Q bg s
abbrev jb(W:Wd)(T:Tabs)(O:bn)(N:Nat)(env:bP)(e:ax)(m:ME):Prop:=
 ∀(fu:Nat)(A:dK)(X0:List au)(oa:Nat->au)(X:List au)(f:Frm)(s:aE)(b:Bool)(Q:Bool->aE->Prop),AOk A N->SR W X0 env oa X s.heap f->
  aK T O fu m f=aa b->(∀s',Ext W s s'->Q b s')->aI (aP W.prog W.w) A (isTrue e env (eval e env)) Q bg s
def er(c:Cx)(env:bP):Prop:=∀(i:Nat)(x:ar)(k:dR),c.names[i]?=aa (x,k)->∃k',env.scope.names[i]?=aa (x,k')/\(k=k'\/(k=tZ/\k'=TO))
theorem Og(x:ar):∀(l:List (ar×dR))(j i:Nat)(k:dR),Cx.find.go x j l=aa (i,k)->j<=i/\l[i-j]?=aa (x,k)
 |[],j,i,k,h=>by injection h
 |(y,q)::r,j,i,k,h=>by
  unfold Cx.find.go at h;split at h
  ·rename_i e;obtain⟨rfl,rfl⟩:=dx (aB h);have:=bV.mp e;clear e;subst this;exact⟨dj _,by simp⟩
  ·refine aF (Og x r (j+1) i k h) λa b=>?_;refine⟨oq a,?_⟩;have:i-j=(i-(j+1))+1:=aQ 0x54324021500814228208225d04528228224528a08a08225500814228208225d04528228914a28208958324b0c90082c0206203240 Yt a;simp only[this,cU];exact b
theorem Cx.find_at{c:Cx}{x:ar}{i:Nat}{k:dR}(h:c.find x=aa (i,k)):c.names[i]?=aa (x,k):=by have:=(Og x c.names 0 i k h).2;simpa using this
theorem SR.val(r:SR W X0 env oa X h f)(hi:env.scope.names[i]?=aa (x,kd))(hf:f.get i=aa d):
  ∃m v,h.Ns env.locals m/\oE env h m x kd v/\Rep (aJ X h) v d:=by
 refine ay λcG=>?_
 refine ai r.vars λm hn hv=>?_
 have q:=hv i x kd hi
 unfold Frm.get at hf
 apply cG;clear cG
 split at hf<;>try contradiction
 refine ay λcG=>?_
 rename_i e;obtain rfl:=aB hf
 simp only[e]at q
 obtain⟨v,a,b⟩:=q
 apply cG;clear cG
 exact(gO m v hn a b)
theorem qN{M:Model}{E:ao->aE->Prop}(eo:EnvOk env){i:Nat}{x:ar}{kd:dR}{v:ao}{m:ar->Option ao}{Q:ao->aE->Prop}(hx:(x==("__debug__":ar))=af/\(x==("__classdict__":ar))=af)(hi:env.scope.names[i]?=aa (x,kd))(hn:s.heap.Ns env.locals m)
  (hv:oE env s.heap m x kd v) (h:Q v s):aI M A (eval (.Name x pos) env) Q E s:=by
 refine ua ?_ hx.1
 have hk:=eo.kindAt hi
 unfold oE at hv
 clear hi;cases kd<;>try exact hv.elim
 ·exact QgE eo.kind hk hn hv h
 ·obtain⟨c,e,i⟩:=hv;exact II eo.kind hk e i h
 ·obtain⟨c,e,i⟩:=hv;exact IJ eo.kind hk e i h hx.2
theorem SR.rep_ext(r:SR W X0 env oa X s.heap f)(x:Ext W s s')(q:Rep (aJ X s.heap) v d):Rep (aJ X s'.heap) v d:=x.rep (λa ha=>r.sub a (r.tX a ha)) q
theorem RepB.ext(k:W.Ok)(r:SR W X0 env oa X s.heap f)(x:Ext W s s')(q:RepB X s.heap v d):RepB X s'.heap v d:=by
 refine bX q (λq=>?_) λfq=>?_
 ·exact .inl (r.rep_ext x q)
 ·obtain⟨a,n,vs,xs,e1,e2,e3,e4,e5⟩:=fq;exact .inr (xn a n vs xs e1 e2 (x.keep _ _ (qG k r.tb e3 rfl) e3) e4 (x.repL (λa ha=>r.sub a (r.tX a ha)) e5))
theorem F3(eo:EnvOk env){i:Nat}{x:ar}{kd:dR}(hx:fO x=ae)(hi:env.scope.names[i]?=aa (x,kd)):SE W T O N env (.Name x pos) (.v i):=by
 intro fu A X0 oa X f s d Q aq r he hQ;unfold fO at hx;simp only[bo,bV]at hx;cases fu with
 |zero=>injection he
 |succ fu=>
  refine ay λcG=>?_
  refine cY (r.val hi he) λm v hn hv q=>?_
  apply cG;clear cG
  exact qN eo hx hi hn hv (hQ _ _ (Ext.refl _ _) q)
theorem YE{f:Frm}{i:Nat}{d:an}(h:f.peek i=aa d):f[i]?=aa (.val d)\/∃xs,f[i]?=aa (.own xs)/\d=.list xs:=by
 revert h;unfold Frm.peek;refine oc f[i]? (λe h=>?_) λv e h=>?_
 ·exact vf h
 ·cases v with
  |un=>exact vf h
  |val d'=>obtain rfl:=aB h;exact .inl rfl
  |own xs=>obtain rfl:=aB h;exact .inr ⟨xs,rfl,rfl⟩
set_option tactic.hygienic true in
theorem YF(eo:EnvOk env){i:Nat}{x:ar}{kd:dR}{pos:aR}(hx:fO x=ae)(hi:env.scope.names[i]?=aa (x,kd)):SB W T O N env (.Name x pos) (.v i):=by
 intro fu A X0 oa X f s d Q aq r he hQ;unfold fO at hx;simp only[bo,bV]at hx;cases fu with
 |zero=>injection he
 |succ fu=>
  refine ay λcG=>?_
  have n4:f.peek i=aa d:=he
  refine ai r.vars λm hn hv=>?_
  have q:=hv i x kd hi
  apply cG;clear cG
  refine(YE n4).elim (λe=>?_) λ⟨xs,e,e0⟩=>?_
  ·refine ay λcG=>?_;simp only[e]at q;obtain⟨v,a,b⟩:=q;apply cG;clear cG;exact qN eo hx hi hn a (hQ _ _ (Ext.refl _ _) (.inl b))
  ·refine ay λcG=>?_;clear n4;subst e0;simp only[e]at q;obtain⟨rfl,a,b,c,n,vs,e1,e2,e3⟩:=q;apply cG;clear cG;exact qN eo hx hi hn (show oE env s.heap m x .local _ from a) (hQ _ _ (Ext.refl _ _) (.inr (xn _ n vs xs rfl rfl e1 e2 e3)))
theorem qO(hm:Br m=ae)(h:SE W T O N env e m):SB W T O N env e m:=by intro fu A X0 oa X f s d Q aq r he hQ;refine aD (Yh hm he) λn he=>?_;exact h n A X0 oa X f s d Q aq r he λv s' x q=>hQ v s' x (.inl q)
theorem YG:SE W T O N env (.Constant .none k pos) .kn :=by
 intro fu A X0 oa X f s d Q aq r he hQ;cases fu with
 |zero=>injection he
 |succ fu=>obtain rfl:=aB he;exact wpAny_Constant_none (hQ _ _ (Ext.refl _ _) .none)
theorem YH:SE W T O N env (.Constant (.bool b) k pos) (.kb b):=by
 intro fu A X0 oa X f s d Q aq r he hQ;cases fu with
 |zero=>injection he
 |succ fu=>obtain rfl:=aB he;exact wpAny_Constant_bool (hQ _ _ (Ext.refl _ _) (.bool b))
theorem Oh:SE W T O N env (.Constant (.int i) k pos) (.ki i):=by
 intro fu A X0 oa X f s d Q aq r he hQ;cases fu with
 |zero=>injection he
 |succ fu=>obtain rfl:=aB he;exact zk (hQ _ _ (Ext.tok _) (.int _ _))
theorem YI(hx:x.length<=1000):SE W T O N env (.Constant (.str x) k pos) (.ks (AQ x)):=by
 intro fu A X0 oa X f s d Q aq r he hQ;cases fu with
 |zero=>injection he
 |succ fu=>
  obtain rfl:=aB he;rw[show bk (AQ x)=x from vm x]at hQ
  exact wpAny_Constant_str (hQ _ _ (Ext.tok _) (.str _ _ (by simp only[dy];exact KW hx)))
theorem sX(k:W.Ok)(b0:W.Bs s.heap)(eo:EnvOk env)(hx:(x==("__debug__":ar))=af)(hk:env.kindOf x=aa .globalImplicit)(hv:W.mg x=aa v)(h:Q v s):
  aI M A (eval (.Name x pos) env) Q E s:=
 ua (ks_loadName_global eo.kind hk (Calls.loadGlobal_global (by refine ag eo.glob ?_;exact k.bsG _ b0) hv h)) hx
theorem F4(k:W.Ok)(b0:W.Bs s.heap)(eo:EnvOk env)(hx:(x==("__debug__":ar))=af)(hn:x≠"__name__")(hk:env.kindOf x=aa .globalImplicit)(hm:W.mg x=ac)(hv:zb x=aa v)(h:Q v s):
  aI M A (eval (.Name x pos) env) Q E s:=
 ua (ks_loadName_global eo.kind hk (Calls.loadGlobal_builtin (by refine ag eo.glob ?_;exact k.bsG _ b0) hm (by refine ag eo.blt ?_;exact k.bsB _ b0) (by refine ag (k.builtins x hm hn) ?_;exact hv) h)) hx
theorem YJ(L:Lib W T O N)(eo:EnvOk env)(hx:fO x=ae)(hk:env.kindOf x=aa .globalImplicit)(hc:sL x=aa m):SE W T O N env (.Name x pos) m:=by
 intro fu A X0 oa X f s d Q aq r he hQ;unfold fO at hx;simp only[bo,bV]at hx;cases fu with
 |zero=>injection he
 |succ fu=>
  refine ai (L.consts x m hc) λv hv q=>?_
  clear hc;rcases q with⟨i,t,rfl,rfl⟩|⟨y,t,rfl,rfl,hy⟩
  ·obtain rfl:=aB he;exact sX L.ok r.bs eo hx.1 hk hv (hQ _ _ (Ext.refl _ _) (.int _ _))
  ·obtain rfl:=aB he;exact sX L.ok r.bs eo hx.1 hk hv (hQ _ _ (Ext.refl _ _) (.str _ _ (by simp only[mf,dy];exact KW hy)))
theorem F5(L:Lib W T O N)(hl:SE W T O N env l ml)(hr:SE W T O N env r mr):SE W T O N env (.BinOp l (sU op) r pos) (.bin op ml mr):=by intro fu A X0 oa X f s d Q aq sr he hQ;refine k7 (XW he) λfu a b ha hb he=>?_;refine wpAny_BinOp (hl fu A X0 oa X f s a _ aq sr ha λv1 s1 x1 r1=>hr fu A X0 oa X f s1 b _ aq (sr.ext L.ok x1) hb λv2 s2 x2 r2=>?_);have bU:=(sr.ext L.ok x1).ext L.ok x2;exact WU L.ok aq bU.bs bU.tXX bU.ltX he ((sr.ext L.ok x1).rep_ext x2 r1) r2 λv3 s3 x3 r3=>hQ _ _ (x1.trans (x2.trans x3)) r3
theorem YK(hx:SE W T O N env x m):SE W T O N env (.UnaryOp .USub x pos) (.neg m):=by intro fu A X0 oa X f s d Q aq sr he hQ;refine d7 (XX he) λfu i ha e_=>?_;clear he;subst e_;refine IK (hx fu A X0 oa X f s _ _ aq sr ha λv1 s1 x1 r1=>?_);refine aD r1.int_inv λt am=>?_;clear r1;subst am;exact TP (hQ _ _ (x1.trans (Ext.tok _)) (.int _ _))
theorem YL(hx:SE W T O N env x m):SE W T O N env (.UnaryOp .Invert x pos) (.inv m):=by
 intro fu A X0 oa X f s d Q aq sr he hQ;refine d7 (XY he) λfu i ha e_=>?_;clear he;subst e_;refine IK (hx fu A X0 oa X f s _ _ aq sr ha λv1 s1 x1 r1=>?_);refine aD r1.int_inv λt am=>?_;clear r1;subst am;refine PyProof.Rows.invert_int ?_;have e:wz i= -i-1:=by unfold wz;exact gP 0x1d0452452572c9f002c9f00 Yt
 refine ag e ?_;exact hQ _ _ (x1.trans (Ext.tok _)) (.int _ _)
theorem YM(L:Lib W T O N)(hm:TQ (qK op) r=af)(hl:SE W T O N env l ml)(hr:SB W T O N env r mr):SE W T O N env (.Compare l [qK op] [r] pos) (.cmp op ml mr):=by intro fu A X0 oa X f s d Q aq sr he hQ;refine ED (N9 he) λfu a b c ha hb hc e_=>?_;clear he;subst e_;refine wpAny_Compare1 (hl fu A X0 oa X f s a _ aq sr ha λv1 s1 x1 r1=>hr fu A X0 oa X f s1 b _ aq (sr.ext L.ok x1) hb λv2 s2 x2 r2=>?_) hm;exact NJ aq hc ((sr.ext L.ok x1).rep_ext x2 r1) r2 (hQ _ _ (x1.trans x2) (.bool _))
theorem YN(L:Lib W T O N)(hm:TQ (qK op) r=af)(hl:SE W T O N env l ml)(hr:SB W T O N env r mr):jb W T O N env (.Compare l [qK op] [r] pos) (.cmp op ml mr):=by intro fu A X0 oa X f s d Q aq sr he hQ;refine d7 (F2 rfl he) λfu z hz he=>?_;refine ED (N9 hz) λfu a b c ha hb hc e_=>?_;clear hz;subst e_;obtain rfl:=aB he;refine QgF (hl fu A X0 oa X f s a _ aq sr ha λv1 s1 x1 r1=>hr fu A X0 oa X f s1 b _ aq (sr.ext L.ok x1) hb λv2 s2 x2 r2=>?_) hm;exact NJ aq hc ((sr.ext L.ok x1).rep_ext x2 r1) r2 (IF (hQ _ (x1.trans x2)))
theorem YO(L:Lib W T O N){t a b:ax}{mt ma mb:ME}{pos:aR}(ht:jb W T O N env t mt)(ha:SE W T O N env a ma)(hb:SE W T O N env b mb):SE W T O N env (.IfExp t a b pos) (.ite mt ma mb):=by
 intro fu A X0 oa X f s d Q aq sr he hQ;refine d7 (XZ he) λfu c h1 he=>?_;cases c with
 |true=>
  refine TR (ht fu A X0 oa X f s ae _ aq sr h1 λs1 x1=>?_)
  exact ha fu A X0 oa X f s1 d _ aq (sr.ext L.ok x1) he λv s2 x2 q=>hQ _ _ (x1.trans x2) q
 |false=>
  refine TR (ht fu A X0 oa X f s af _ aq sr h1 λs1 x1=>?_)
  exact hb fu A X0 oa X f s1 d _ aq (sr.ext L.ok x1) he λv s2 x2 q=>hQ _ _ (x1.trans x2) q
theorem YQ(hx:jb W T O N env x m):jb W T O N env (.UnaryOp .Not x pos) (.nt m):=by intro fu A X0 oa X f s d Q aq sr he hQ;refine d7 (Ye he) λfu c hc e_=>?_;clear he;subst e_;exact wpAny_isTrue_Not (hx fu A X0 oa X f s c _ aq sr hc λs1 x1=>hQ _ x1)
set_option tactic.hygienic true in
theorem Oi(L:Lib W T O N)(aq:AOk A N):∀(es:List ax)(ms:List ME)(s:aE)(b:Bool)(Q:Bool->aE->Prop),ct tr es=aa ms->SR W X0 env oa X s.heap f->
  (∀e∈es,∀m,tr e=aa m->jb W T O N env e m)->gf (λe=>aK T O fu e f) ms=aa b->(∀s',Ext W s s'->Q b s')->aI (aP W.prog W.w) A (allTrue .And es env) Q bg s
 |[],ms,s,b,Q,ht,sr,h,he,hQ=>by obtain rfl:=aB ht;obtain rfl:=aB he;exact dW (hQ _ (Ext.refl _ _))
 |e::es,ms,s,b,Q,ht,sr,h,he,hQ=>by
  simp only[ct]at ht;split at ht<;>try contradiction
  refine ay λcG=>?_;rename_i m hm;refine ai (bO.mp ht) λuv qk av=>?_;clear ht;subst av;simp only[gf]at he;apply cG;clear cG;dsimp only[arm_allTrue_cons];split at he<;>try contradiction
  ·rename_i h1;refine bH (h e fD m hm fu A X0 oa X f s ae _ aq sr h1 λs1 x1=>?_);exact Oi L aq es uv s1 b Q qk (sr.ext L.ok x1) (λe he=>h e (eh _ he)) he λs2 x2=>hQ _ (x1.trans x2)
  ·rename_i h1;obtain rfl:=aB he;exact bH (h e fD m hm fu A X0 oa X f s af _ aq sr h1 λs1 x1=>dW (hQ _ x1))
set_option tactic.hygienic true in
theorem Oj(L:Lib W T O N)(aq:AOk A N):∀(es:List ax)(ms:List ME)(s:aE)(b:Bool)(Q:Bool->aE->Prop),ct tr es=aa ms->SR W X0 env oa X s.heap f->
  (∀e∈es,∀m,tr e=aa m->jb W T O N env e m)->qC (λe=>aK T O fu e f) ms=aa b->(∀s',Ext W s s'->Q b s')->aI (aP W.prog W.w) A (allTrue .Or es env) Q bg s
 |[],ms,s,b,Q,ht,sr,h,he,hQ=>by obtain rfl:=aB ht;obtain rfl:=aB he;exact dW (hQ _ (Ext.refl _ _))
 |e::es,ms,s,b,Q,ht,sr,h,he,hQ=>by
  simp only[ct]at ht;split at ht<;>try contradiction
  refine ay λcG=>?_;rename_i m hm;refine ai (bO.mp ht) λuv qk av=>?_;clear ht;subst av;simp only[qC]at he;apply cG;clear cG;dsimp only[arm_allTrue_cons];split at he<;>try contradiction
  ·rename_i h1;obtain rfl:=aB he;exact bH (h e fD m hm fu A X0 oa X f s ae _ aq sr h1 λs1 x1=>dW (hQ _ x1))
  ·rename_i h1;refine bH (h e fD m hm fu A X0 oa X f s af _ aq sr h1 λs1 x1=>?_);exact Oj L aq es uv s1 b Q qk (sr.ext L.ok x1) (λe he=>h e (eh _ he)) he λs2 x2=>hQ _ (x1.trans x2)
theorem YR(L:Lib W T O N)(ht:ct tr es=aa ms)(h:∀e∈es,∀m,tr e=aa m->jb W T O N env e m):jb W T O N env (.BoolOp .And es pos) (.bop ae ms):=by
 intro fu A X0 oa X f s d Q aq sr he hQ;cases fu with
 |zero=>injection he
 |succ fu=>exact Oi L aq es ms s d Q ht sr h he hQ
theorem YS(L:Lib W T O N)(ht:ct tr es=aa ms)(h:∀e∈es,∀m,tr e=aa m->jb W T O N env e m):jb W T O N env (.BoolOp .Or es pos) (.bop af ms):=by
 intro fu A X0 oa X f s d Q aq sr he hQ;cases fu with
 |zero=>injection he
 |succ fu=>exact Oj L aq es ms s d Q ht sr h he hQ
set_option tactic.hygienic true in
theorem YT(h:dO d=aa b)(r:Rep (aJ X s.heap) v d)(hQ:∀s',Ext W s s'->Q b s'):aI (aP W.prog W.w) A (truthy v) Q bg s:=by
 cases d using mE with
 |bool x=>obtain rfl:=aB h;cases r.bool_inv;exact IF (hQ _ (Ext.refl _ _))
 |int x=>obtain rfl:=aB h;refine aD r.int_inv λt am=>?_;subst am;exact P.truthy_int (hQ _ (Ext.refl _ _))
 |str x=>
  obtain rfl:=aB h;refine ai r.str_inv λt am hx=>?_;subst am
  have e:((x.length:Int)!=0)=(x.length !=0):=by rw[gA];simp
  refine P.truthy_str (by simp only[dy]at hx;exact aH 0x7ec002082082082082082082082082082082246082082082082240 Yt hx) ?_
  simp only[e]
  exact hQ _ (Ext.tok _)
 |_=>exact vf h
noncomputable def F6:ax->Bool
 | .UnaryOp .Not .. | .BoolOp .. | .IfExp .. | .Compare .. =>af
 |_=>ae
set_option tactic.hygienic true in
theorem Ol(h:F6 e=ae)(env:bP)(zJ:cg ao):isTrue e env zJ=(do let v<-zJ;pX e.pos;holding [v] (truthy v)):=by
 cases e<;>first|rfl|(injection h)|skip
 rename_i op _ _;cases op<;>first|rfl|injection h
theorem Bv(hp:F6 e=ae)(hm:Bt m=ae)(h:SE W T O N env e m):jb W T O N env e m:=by intro fu A X0 oa X f s b Q aq sr he hQ;refine d7 (F2 hm he) λn d h1 h2=>?_;exact wpAny_isTrue_value (h n A X0 oa X f s d _ aq sr h1 λv s1 x1 r1=>YT h2 r1 λs2 x2=>hQ _ (x1.trans x2)) (Ol hp _ _)
end
end
section
theorem gn{α:Type}{P:α->Prop}{x y:ar}{a:α}{o:Option α}(h1:x=y->P a)(h2:Says o P):Says (if(x==y)=ae then aa a else o) P:=by
 cases h:x==y with
 |true=>exact h1 (eq_of_beq h)
 |false=>exact h2
noncomputable def Om:BI->ar
 | .len =>"len"
 | .sum =>"sum"
 | .ord =>"ord"
 | .chr =>"chr"
 | .sorted =>"sorted"
 | .all =>"all"
 | .max =>"max"
 | .list =>"list"
 | .divmod =>"divmod"
theorem On{x:ar}{b:BI}(h:sK x=aa b):x=Om b:=(show Says (sK x) (λb=>x=Om b)from gn id (gn id (gn id (gn id (gn id (gn id (gn id (gn id (gn id trivial))))))))).get h
noncomputable def Oo:MM->ar
 | .bitlen =>"bit_length"
 | .split =>"split"
 | .startswith =>"startswith"
 | .endswith =>"endswith"
 | .find =>"find"
 | .join =>"join"
 | .lower =>"lower"
 | .count =>"count"
theorem YU{x:ar}{m:MM}(h:xL x=aa m):x=Oo m:=(show Says (xL x) (λb=>x=Oo b)from gn id (gn id (gn id (gn id (gn id (gn id (gn id (gn id trivial)))))))).get h
theorem YV:∀x b,sK x=aa b->zb x=aa (FX b)/\x≠"__name__"/\(x==("__debug__":ar))=af:=by intro x b h;refine ag (On h) ?_;clear h;cases b<;>exact⟨by decide+kernel,by decide+kernel,by decide+kernel⟩
theorem YW:zb "range"=aa (.type "range"):=by decide+kernel
theorem YX:zb "reversed"=aa (.type "reversed"):=by decide+kernel
section
variable {W:Wd} {T:Tabs} {O:bn} {N:Nat} {env:bP}
noncomputable def fb:ax->Bool
 | .Starred .. =>af
 |_=>ae
theorem Op(h:fb e=ae):jt (e::r) env=(af,eval e env)::jt r env:=by cases e<;>first|rfl|injection h
set_option tactic.hygienic true in
theorem jc{tr:ax->Option ME}(hs:∀e m,tr e=aa m->fb e=ae){env:bP}{pos:aR}:∀{es:List ax}{ms:List ME},ct tr es=aa ms->((lL pos (jt es env)).all (λx=> !x.1))=ae/\(lL pos (jt es env)).any (·.1)=af
 |[],ms,_=>⟨rfl,rfl⟩
 |e::es,ms,h=>by
  simp only[ct]at h;split at h<;>try contradiction
  refine ay λcG=>?_;rename_i m hm;refine ai (bO.mp h) λuv qk av=>?_;clear h;subst av;apply cG;clear cG;rw[Op (hs e m hm)];refine ay λcG=>?_;refine aF (jc hs (env:=env) (pos:=pos) qk) λa b=>?_;apply cG;clear cG;exact⟨by show((!af)&&_)=ae;exact a,by show(af||_)=af;exact b⟩
set_option tactic.hygienic true in
theorem F9(k:W.Ok){R:List au->cC->ao->an->Prop}{X0:List au}{oa:Nat->au}{X:List au}
  (UB:∀(s s':aE) v d,SR W X0 env oa X s.heap f->Ext W s s'->R X s.heap v d->R X s'.heap v d) {tr:ax->Option ME} (hs:∀e m,tr e=aa m->fb e=ae) {ev:ME->Option an}:
  ∀(es:List ax)(ms:List ME)(ds:List an)(s:aE)(Q:List ao->aE->Prop),ct tr es=aa ms->aV ev ms=aa ds->SR W X0 env oa X s.heap f->
   (∀e∈es,∀m,tr e=aa m->∀(s:aE)(d:an)(Q:ao->aE->Prop),SR W X0 env oa X s.heap f->ev m=aa d->(∀v s',Ext W s s'->R X s'.heap v d->Q v s')->aI (aP W.prog W.w) A (eval e env) Q bg s)->
   (∀vs s',Ext W s s'->dN vs=ds.length->(∀(i:Nat)(v:ao)(d:an),vs[i]?=aa v->ds[i]?=aa d->R X s'.heap v d)->Q vs s')->
   aI (aP W.prog W.w) A (wM (lL pos (jt es env))) Q bg s
 |[],ms,ds,s,Q,ht,hd,sr,h,hQ=>by refine ay λcG=>?_;obtain rfl:=aB ht;obtain rfl:=aB hd;apply cG;clear cG;exact QgG (hQ [] s (Ext.refl _ _) rfl (by intro i v d e;injection e))
 |e::es,ms,ds,s,Q,ht,hd,sr,h,hQ=>by
  simp only[ct]at ht;split at ht<;>try contradiction
  refine ay λcG=>?_;rename_i m hm;refine ai (bO.mp ht) λuv qk av=>?_;clear ht;subst av;simp only[aV]at hd;apply cG;clear cG;split at hd<;>try contradiction
  refine ay λcG=>?_;rename_i d to;refine ai (bO.mp hd) λuw cV av=>?_;clear hd;subst av;apply cG;clear cG;rw[Op (hs e m hm)];refine Calls.spliced_cons (x:=eval e env) (h e fD m hm s d _ sr to λv s1 x1 r1=>?_);refine F9 k UB hs es uv uw s1 _ qk cV (sr.ext k x1) (λe he=>h e (eh _ he)) λvs s2 x2 hl hr=>?_;refine hQ (v::vs) s2 (x1.trans x2) (by simp[hl]) λi v' d' hv hd=>?_;cases i with
  |zero=>
   simp at hv hd;subst hv;subst hd
   exact UB s1 s2 v d (sr.ext k x1) x2 r1
  |succ i=>simp at hv hd;exact hr i v' d' hv hd
theorem mj(k:W.Ok){X0:List au}{oa:Nat->au}{X:List au}(aq:AOk A N){tr:ax->Option ME}(hs:∀e m,tr e=aa m->fb e=ae){es:List ax}{ms:List ME}{ds:List an}{Q:List ao->aE->Prop}(ht:ct tr es=aa ms)
  (hd:aV (λe=>aj T O fu e f) ms=aa ds) (sr:SR W X0 env oa X s.heap f) (h:∀e∈es,∀m,tr e=aa m->SE W T O N env e m) (hQ:∀vs s',Ext W s s'->RepL (aJ X s'.heap) vs ds->Q vs s'):
  aI (aP W.prog W.w) A (wM (lL pos (jt es env))) Q bg s:=
 F9 k (R:=λX h v d=>Rep (aJ X h) v d) (λs s' v d r x q=>r.rep_ext x q) hs es ms ds s Q ht hd sr (λe he m hm s d Q sr bG hQ=>h e he m hm fu A X0 oa X f s d Q aq sr bG hQ)
  λvs s' x hl hr=>hQ vs s' x (RepL.of_at hl hr)
theorem YY(k:W.Ok){X0:List au}{oa:Nat->au}{X:List au}(aq:AOk A N){tr:ax->Option ME}(hs:∀e m,tr e=aa m->fb e=ae){es:List ax}{ms:List ME}{ds:List an}{Q:List ao->aE->Prop}(ht:ct tr es=aa ms)
  (hd:aV (λe=>eZ T O fu e f) ms=aa ds) (sr:SR W X0 env oa X s.heap f) (h:∀e∈es,∀m,tr e=aa m->SB W T O N env e m)
  (hQ:∀vs s',Ext W s s'->dN vs=ds.length->(∀(i:Nat)(v:ao)(d:an),vs[i]?=aa v->ds[i]?=aa d->RepB X s'.heap v d)->Q vs s'):
  aI (aP W.prog W.w) A (wM (lL pos (jt es env))) Q bg s:=
 F9 k (R:=RepB) (λs s' v d r x q=>RepB.ext k r x q) hs es ms ds s Q ht hd sr (λe he m hm s d Q sr bG hQ=>h e he m hm fu A X0 oa X f s d Q aq sr bG hQ) hQ
theorem Ga:∀{ms:List ME}{ds:List an},aV ev ms=aa ds->ds.length=ms.length
 |[],ds,h=>by obtain rfl:=aB h;rfl
 |m::ms,ds,h=>by
  simp only[aV]at h;split at h<;>try contradiction
  refine ai (bO.mp h) λuw cV av=>?_;clear h;subst av;simp[Ga cV]
theorem Gb:∀{es:List ax}{ms:List ME},ct tr es=aa ms->ms.length=es.length
 |[],ms,h=>by obtain rfl:=aB h;rfl
 |e::es,ms,h=>by
  simp only[ct]at h;split at h<;>try contradiction
  refine ai (bO.mp h) λuv qk av=>?_;clear h;subst av;simp[Gb qk]
theorem YZ(L:Lib W T O N)(hs:∀e m,tr e=aa m->fb e=ae)(ht:ct tr es=aa ms)(bh:es.length<1000)(h:∀e∈es,∀m,tr e=aa m->SE W T O N env e m):SE W T O N env (.Tuple es k pos) (.tup ms):=by intro fu A X0 oa X f s d Q aq sr he hQ;refine d7 (X4 he) λfu ds cV e_=>?_;clear he;subst e_;refine wpAny_Tuple (mj L.ok aq hs ht cV sr h λvs s' x r=>?_);refine(?_:(dN vs<=cz)->_) (by simp only[r.length,Ga cV,Gb ht,dy];exact KX bh);intro hl;exact⟨hl,hQ _ _ (x.trans (Ext.push L.ok _ _)) (Nt (sr.ext L.ok x).ltX rfl hl r)⟩
theorem Oq(L:Lib W T O N)(hs:∀e m,tr e=aa m->fb e=ae)(ht:ct tr es=aa ms)(bh:es.length<1000)(h:∀e∈es,∀m,tr e=aa m->SE W T O N env e m):SE W T O N env (.List es pos) (.lst ms):=by intro fu A X0 oa X f s d Q aq sr he hQ;refine d7 (X5 he) λfu ds cV e_=>?_;clear he;subst e_;refine wpAny_List (mj L.ok aq hs ht cV sr h λvs s' x r=>?_);refine(?_:(dN vs<=cz)->_) (by simp only[r.length,Ga cV,Gb ht,dy];exact KX bh);intro hl;exact⟨hl,hQ _ _ (x.trans (Ext.push L.ok _ _)) (Bj (sr.ext L.ok x).ltX rfl hl r)⟩
theorem Y0:jt (e::es) env≠[]:=by cases e using wL<;>exact List.cons_ne_nil _ _
theorem pA(hp:(lL pos (jt es env)).all (λx=> !x.1)=ae)(bT:es≠[])
  (h:aI M A (wM (lL pos (jt es env))) (λvs s'=>Q ⟨vs,[]⟩ s') E s):aI M A (evalArgs fv ae (lL pos (jt es env)) []) Q E s:=by
 cases hb:lL pos (jt es env)with
 |nil=>
  cases es with
  |nil=>exact absurd rfl bT
  |cons e es=>exact absurd (List.map_eq_nil_iff.mp hb) Y0
 |cons x fH=>
  obtain⟨c,t⟩:=x
  rw[hb]at hp h
  simp only[ID,bo,rI]at hp
  have:c=af:=hp.1
  clear hp;subst this
  exact Calls.evalArgs_plain h
theorem Y1(L:Lib W T O N)(eo:EnvOk env)(hs:∀e m,tr e=aa m->fb e=ae)(hg:uZ[g]?=aa x)(hx:fO x=ae)(hk:env.kindOf x=aa .globalImplicit)(bT:es≠[])
  (ht:ct tr es=aa ms) (h:∀e∈es,∀m,tr e=aa m->SE W T O N env e m):SE W T O N env (.Call (.Name x np) es [] pos) (.call g ms):=by
 intro fu A X0 oa X f s d Q aq sr he hQ
 refine d7 (Oa he) λfu ds cV he=>?_
 refine ay λcG=>?_
 refine dc (L.fns g x ds d hg he) λa o fd hm ho ux uy=>?_
 unfold fO at hx
 simp only[bo,bV]at hx
 apply cG;clear cG
 refine wN (sX L.ok sr.bs eo hx.1 hk hm ?_)
 refine IL (o:=o) (fd:=fd) (pA (jc hs ht).1 bT (mj L.ok aq hs ht cV sr h λvs s' x1 r=>?_))
 have aY:=sr.ext L.ok x1
 refine⟨⟨ho _ aY.bs,ux⟩,?_⟩
 exact uy A X s' vs Q aq aY.bs aY.tb aY.tXX aY.alX r λv s2 x2 r2=>hQ _ _ (x1.trans x2) r2
theorem Y2(L:Lib W T O N)(eo:EnvOk env)(hs:∀e m,tr e=aa m->fb e=ae)(hb:sK x=aa b)(hk:env.kindOf x=aa .globalImplicit)(bT:es≠[])
  (ht:ct tr es=aa ms) (h:∀e∈es,∀m,tr e=aa m->SB W T O N env e m):SE W T O N env (.Call (.Name x np) es [] pos) (.bi b ms):=by
 intro fu A X0 oa X f s d Q aq sr he hQ
 refine d7 (X6 he) λfu ds cV he=>?_
 refine ay λcG=>?_
 refine eQ (YV x b hb) λq1 q2 q3=>?_
 apply cG;clear cG
 refine wN (F4 L.ok sr.bs eo q3 q2 hk (L.bis x b hb) q1 ?_)
 have key:aI (aP W.prog W.w) A (wM (lL pos (jt es env))) (λvs s1=>aI (aP W.prog W.w) A (call (FX b) vs) Q bg s1) bg s:=YY L.ok aq hs ht cV sr h λvs s' x1 hl r=>by have aY:=sr.ext L.ok x1;exact L.bi b A N X s' vs ds d Q aq aY.bs aY.ltX aY.tXX he hl r λv s2 x2 r2=>hQ _ _ (x1.trans x2) r2
 cases b<;>first
  |exact TS (jc hs ht).2 (pA (jc hs ht).1 bT key)
  |exact TT (jc hs ht).2 (pA (jc hs ht).1 bT key)
theorem Bw(h:u8 o=ae)(env:bP)(zJ:cg ao):attributeBase o name env zJ=zJ:=by
 cases o with
 |Call f as ks p=>
  cases f with
  |Name x q=>cases as with
   |cons a as=>rfl
   |nil=>cases ks with
    |cons k ks=>rfl
    |nil=>exact iS h
  |_=>rfl
 |_=>rfl
noncomputable def yc:MM->String
 | .bitlen =>"int"| .count =>"list"|_=>"str"
theorem Os(m:MM):∀name,xL name=aa m->PlainAttrs (yc m)/\Slot (yc m) name (sV m .none)/\typeOf (.builtin (sV m .none))=pure (.type "method_descriptor"):=by
 intro name h;refine ag (YU h) ?_;cases m with
 |bitlen=>exact⟨F.plainAttrs_int,F.slot_int_bit_length,F.type_int_bit_length⟩
 |split=>exact⟨F.plainAttrs_str,F.slot_str_split,F.type_str_split⟩
 |startswith=>exact⟨F.plainAttrs_str,F.slot_str_startswith,F.type_str_startswith⟩
 |endswith=>exact⟨F.plainAttrs_str,F.slot_str_endswith,F.type_str_endswith⟩
 |find=>exact⟨F.plainAttrs_str,F.slot_str_find,F.type_str_find⟩
 |join=>exact⟨F.plainAttrs_str,F.slot_str_join,F.type_str_join⟩
 |lower=>exact⟨F.plainAttrs_str,F.slot_str_lower,F.type_str_lower⟩
 |count=>exact⟨F.plainAttrs_list,F.slot_list_count,F.type_list_count⟩
theorem Ot{X:List au}{s:aE}{m:MM}{o d:an}{ds:List an}{v:ao}(h:gS m o ds=aa d)(r:Rep (aJ X s.heap) v o):s.TypeIs v (yc m)/\∀a,v=.ref a->∃ob,s.heap.get? a=aa ob/\ob.dict=ac:=by
 have st:∀{x},fP o=aa x->s.TypeIs v "str"/\∀a,v=.ref a->∃ob,s.heap.get? a=aa ob/\ob.dict=ac:=λ{x} e=>by have:=gc e;clear e;subst this;refine ai r.str_inv λt am _=>?_;clear r;subst am;exact⟨wK _ _ _,λ_ e=>nomatch e⟩
 cases m with
 |bitlen=>
  refine ai (bx.mp h) λi h0 h=>?_
  have:=hY h0;clear st;subst this
  refine aD r.int_inv λt am=>?_;subst am
  exact⟨IA _ _ _,λ_ e=>nomatch e⟩
 |split=>refine ai (bx.mp h) λaM h0 h=>?_;obtain⟨x,y⟩:=aM;exact st (cX h0).1
 |startswith=>refine ai (bO.mp h) λaM h0 h=>?_;obtain⟨x,y⟩:=aM;exact st (cX h0).1
 |endswith=>refine ai (bO.mp h) λaM h0 h=>?_;obtain⟨x,y⟩:=aM;exact st (cX h0).1
 |find=>refine ai (bx.mp h) λaM h0 h=>?_;obtain⟨x,y⟩:=aM;exact st (cX h0).1
 |join=>refine ai (bx.mp h) λaM h0 h=>?_;obtain⟨x,y⟩:=aM;exact st (cX h0).1
 |lower=>refine ai (bx.mp h) λx h0 h=>?_;exact st h0
 |count=>injection h
theorem Bx(hs:∀e m,tr e=aa m->fb e=ae)(bh:es.length<20)(ht:ct tr es=aa ms):
  ((lL pos (jt es env)).all (λx=> !x.1)&&(backToKw pos (keywordEach [] env)).all (λx=>x.1.isSome)&&decide (es.length+([]:List wu).length +(if([]:List wu).isEmpty then 0 else 1)<30))=ae:=by
 rw[(jc hs ht).1]
 have:es.length+0+0<30:=aH 0x3b26430430403a2440 Yt bh
 show(ae&&ae&&decide (es.length+0+0<30))=ae
 simp;exact aH 0x3b26403a2440 Yt bh
theorem By{M:Model}{E:ao->aE->Prop}{id:String}{first:List ao}{tr:ax->Option ME}(hs:∀e m,tr e=aa m->fb e=ae){es:List ax}{ms:List ME}{Q:ao->aE->Prop}(ht:ct tr es=aa ms)
  (h:aI M A (wM (lL pos (jt es env))) (λvs s1=>aI M A (call (.builtin id) (first++vs)) Q E s1) E s):aI M A (callWith pos (.builtin id) first (lL pos (jt es env)) []) Q E s:=by
 cases es with
 |nil=>
  refine TS rfl ?_
  unfold evalArgs
  show aI _ _ (wM []>>=_) _ _ _
  refine bH (nQ h (λvs s' h'=>?_) λ_ _ x=>x)
  refine zi ?_
  exact bH (dW (bH (dW (dW h'))))
 |cons e es=>exact TS (jc hs ht).2 (pA (jc hs ht).1 (by simp) h)
theorem Y3(L:Lib W T O N){tr:ax->Option ME}(hs:∀e m,tr e=aa m->fb e=ae){o:ax}{mo:ME}{name:ar}{m:MM}{es:List ax}{ms:List ME}{iq pos:aR}(hm:xL name=aa m)(lT:(iq.endLine==pos.line)=ae)(hb:u8 o=ae)(bh:es.length<20)
  (ho:SE W T O N env o mo) (ht:ct tr es=aa ms) (h:∀e∈es,∀m,tr e=aa m->SE W T O N env e m):SE W T O N env (.Call (.Attribute o name iq) es [] pos) (.meth m mo ms):=by
 intro fu A X0 oa X f s d Q aq sr he hQ
 refine k7 (X7 he) λfu od ds pd cV he=>?_
 refine IM (Bw hb env _) (Bx hs bh ht) lT (ho fu A X0 oa X f s od _ aq sr pd λov s1 x1 r1=>?_)
 refine ay λcG=>?_
 refine eQ (Os m name hm) λf1 f2 f3=>?_
 refine aF (Ot he r1) λt1 t2=>?_
 have aY:=sr.ext L.ok x1
 apply cG;clear cG
 refine⟨yc m,sV m .none,f1,f2,f3,t1,t2,?_⟩
 refine By hs ht (mj L.ok aq hs ht cV aY h λvs s2 x2 r2=>?_)
 have bU:=aY.ext L.ok x2
 have e:sV m .none =sV m od:=by cases m<;>rfl
 refine ag e ?_
 exact L.mm m A N X s2 ov od vs ds d Q aq bU.bs bU.ltX bU.tXX he (aY.rep_ext x2 r1) r2 λv s3 x3 r3=>hQ _ _ (x1.trans (x2.trans x3)) r3
theorem Y4(L:Lib W T O N)(dY:∀a b p,i≠.Slice a b ac p)(ho:SB W T O N env o mo)(hi:SE W T O N env i mi):SE W T O N env (.Subscript o i pos) (.idx mo mi):=by intro fu A X0 oa X f s d Q aq sr he hQ;refine k7 (X8 he) λfu od k pd hk he=>?_;refine Bm dY (ho fu A X0 oa X f s od _ aq sr pd λv1 s1 x1 r1=>hi fu A X0 oa X f s1 k _ aq (sr.ext L.ok x1) hk λv2 s2 x2 r2=>?_);have r6:=RepB.ext L.ok (sr.ext L.ok x1) x2 r1;exact⟨r6.takes he,XQ he r6 r2 λv s3 x3 r3=>hQ _ _ (x1.trans (x2.trans x3)) r3⟩
def Gc(W:Wd)(T:Tabs)(O:bn)(N:Nat)(env:bP)(o:Option ax)(m:ME):Prop:=(o=ac/\m=.kn)\/∃e,o=aa e/\SE W T O N env e m
theorem Ou(h:Gc W T O N env o m)(aq:AOk A N)(sr:SR W X0 env oa X s.heap f)(he:aj T O fu m f=aa d)(hQ:jH W X s d Q):
  aI (aP W.prog W.w) A (evalPart o env) Q bg s:=by
 rcases h with⟨rfl,rfl⟩|⟨e,rfl,h⟩
 ·cases fu with
  |zero=>injection he
  |succ fu=>obtain rfl:=aB he;exact dW (hQ _ _ (Ext.refl _ _) .none)
 ·exact h fu A X0 oa X f s d Q aq sr he hQ
theorem Y5(L:Lib W T O N){o:ax}{lo hi:Option ax}(ho:SE W T O N env o mo)(hl:Gc W T O N env lo ml)(hh:Gc W T O N env hi mh):SE W T O N env (.Subscript o (.Slice lo hi ac p) pos) (.sl mo ml mh):=by intro fu A X0 oa X f s d Q aq sr he hQ;refine ED (X9 he) λfu od a b pd ha hb he=>?_;refine XN (ho fu A X0 oa X f s od _ aq sr pd λv1 s1 x1 r1=>wpAny_Slice (Ou hl aq (sr.ext L.ok x1) ha λv2 s2 x2 r2=>Ou hh aq ((sr.ext L.ok x1).ext L.ok x2) hb λv3 s3 x3 r3=>dW ?_));refine ay λcG=>?_;have aY:=sr.ext L.ok x1;have bU:=aY.ext L.ok x2;have dG:=bU.ext L.ok x3;have r6:=bU.rep_ext x3 (aY.rep_ext x2 r1);have r2':=bU.rep_ext x3 r2;refine ai (NV he r6) λTy t1 t2=>?_;have xp:Ext W s3 {s3 with heap:=s3.heap.push {cls:=.type "slice",data:=.fields #[v2,v3,.none]}}:=Ext.push L.ok _ _;refine ai (NV he (dG.rep_ext xp r6)) λTy t1 t2=>?_;apply cG;clear cG;exact⟨(aO Ty t1 t2),XR L.ok dG.ltX dG.tXX he r6 r2' r3 λv s4 x4 r4=>hQ _ _ (x1.trans (x2.trans (x3.trans x4))) r4⟩
theorem Y6(L:Lib W T O N)(ho:SE W T O N env o mo):SE W T O N env (.Subscript o (.Slice ac ac (aa (.UnaryOp .USub (.Constant (.int 1) kk p'') p')) p) pos) (.rv mo):=by
 intro fu A X0 oa X f s d Q aq sr he hQ;refine d7 (Yb he) λfu od pd he=>?_;unfold A3 at he;split at he<;>try contradiction
 refine ay λcG=>?_;obtain rfl:=aB he;rename_i xs;apply cG;clear cG;refine Bm (by intro a b p q;cases q) (ho fu A X0 oa X f s _ _ aq sr pd λv1 s1 x1 r1=>wpAny_Slice (dW (dW ?_)));dsimp only[evalPart_some];refine IK (zk (TP ?_));refine ay λcG=>?_;have aY:=sr.ext L.ok x1;refine dc r1.list_inv λa n vs bB h1 h2 h3=>?_;clear r1;subst bB;have gb:s1.heap.IsList a vs.toArray:=⟨_,ed h1,rfl,_,rfl⟩;apply cG;clear cG;refine⟨(aO _ F1 ((gb.push _).typeIs)),QgB (gb.push _) (QgC ..) .none .none (.int (-1) _) (by decide) ?_ (by simpa using h2)⟩;rw[XJ];have x2:Ext W s1 {s1 with heap:=(s1.heap.push {cls:=.type "slice",data:=.fields #[.none,.none,.int (-1) (s1.toks+1)]}).push {cls:=.type "list",data:=.seq vs.reverse.toArray},toks:=s1.toks+1+1}:=(Ext.push L.ok _ (s1.toks+1+1)).trans (Ext.push L.ok _ _);refine hQ _ _ (x1.trans x2) (Rep.mkList (vs:=vs.reverse) (n:=0) (cb.mpr ⟨λm=>?_,g5 _ rfl⟩) (by simpa using h2) (x2.repL aY.tXX h3.reverse));have q:=aY.ltX _ m;rw[TM]at q;exact QgD _ (Dv q)
theorem Y7(L:Lib W T O N)(eo:EnvOk env)(hk:env.kindOf (lh t)=aa .globalImplicit)(hl:SE W T O N env l ml):
  SE W T O N env (.Compare l [if neg then .NotIn else .In] [.Name (lh t) np] pos) (.gIn t neg ml):=by
 intro fu A X0 oa X f s d Q aq sr he hQ
 refine k7 (Oc he) λfu a b ha hb e_=>?_;clear he;subst e_
 refine ay λcG=>?_
 refine fy (L.tabs.tab t) λv hv h1 _ _=>?_
 apply cG;clear cG
 refine wpAny_Compare1 (hl fu A X0 oa X f s a _ aq sr ha λv1 s1 x1 r1=>sX L.ok (sr.ext L.ok x1).bs eo (by cases t<;>decide) hk hv ?_) (by cases neg<;>rfl)
 exact h1 neg A N X s1 v1 a b _ aq (sr.ext L.ok x1).bs hb r1 λs2 x2=>hQ _ _ (x1.trans x2) (.bool _)
theorem Y8(L:Lib W T O N)(eo:EnvOk env)(dY:∀a b p,i≠.Slice a b ac p)(hk:env.kindOf (lh t)=aa .globalImplicit)(hi:SE W T O N env i mi):
  SE W T O N env (.Subscript (.Name (lh t) np) i pos) (.gGet t mi):=by
 intro fu A X0 oa X f s d Q aq sr he hQ
 refine d7 (Yc he) λfu a ha he=>?_
 refine ay λcG=>?_
 refine fy (L.tabs.tab t) λv hv _ h1 _=>?_
 apply cG;clear cG
 refine Bm dY (sX L.ok sr.bs eo (by cases t<;>decide) hk hv (hi fu A X0 oa X f s a _ aq sr ha λv1 s1 x1 r1=>?_))
 exact h1 A N X s1 v1 a d _ aq (sr.ext L.ok x1).bs he r1 λv s2 x2 r2=>hQ _ _ (x1.trans x2) r2
theorem Y9(L:Lib W T O N)(eo:EnvOk env){tr:ax->Option ME}(hs:∀e m,tr e=aa m->fb e=ae){i:ax}{t:TB}(lT:(iq.endLine==pos.line)=ae)(hk:env.kindOf (lh t)=aa .globalImplicit)(wV:tr i=aa mi)(hi:SE W T O N env i mi):
  SE W T O N env (.Call (.Attribute (.Name (lh t) np) "get" iq) [i] [] pos) (.gget t mi):=by
 intro fu A X0 oa X f s d Q aq sr he hQ
 refine d7 (Yd he) λfu a ha he=>?_
 refine ay λcG=>?_
 refine fy (L.tabs.tab t) λv hv _ _ h1=>?_
 have ht:ct tr [i]=aa [mi]:=by simp[ct,wV]
 apply cG;clear cG
 refine IM (Bw rfl env _) (Bx hs (by simp) ht) lT (sX L.ok sr.bs eo (by cases t<;>decide) hk hv ?_)
 refine aF (h1 a d he) λty hc=>?_
 refine aF (ty s sr.bs) λt1 t2=>?_
 refine⟨"dict","dict.get",F.plainAttrs_dict,F.slot_dict_get,F.type_dict_get,t1,t2,?_⟩
 refine By hs ht (mj (fu:=fu) L.ok aq hs ht (ds:=[a]) (by show(match aj T O fu mi f with|some d=>(aV _ []).map (d::·)|none=>ac)=aa [a];refine ag ha ?_;rfl) sr (λe he m hm=>?_) λvs s2 x2 r2=>?_)
 ·simp only[o0]at he;clear ht;subst he;rw[wV]at hm;obtain rfl:=aB hm;exact hi
 ·refine ai r2.one λu am ru=>?_;clear r2;subst am;exact hc A N X s2 u Q aq (sr.ext L.ok x2).bs ru λv s3 x3 r3=>hQ _ _ (x2.trans x3) r3
end
end
section
noncomputable def vt(T:String):Bool:=T !="code"&& !["enumerate","zip","dict_itemiterator","dict_reverseitemiterator","odict_iterator","itertools.zip_longest","itertools.pairwise"].contains T
theorem Bz(h:vt T=ae):T≠"code":=by rintro rfl;revert h;decide
def sY(W:Wd)(X:List au)(aS s:aE)(it:ao)(xs:List an):Prop:=
 ∃(I:au)(fp:List au)(P:Nat->ao->Prop)(St:Nat->cC->Prop),it=.ref I/\aS.heap.get? I=ac/\(∀A:dK,A.handled=ac->Walks W.prog W.w A I fp [I] xs.length P St)/\St 0 s.heap/\
  (∀i h,St i h->∃o T fs,h.get? I=aa o/\o.cls=.type T/\vt T=ae/\o.data=.fields fs)/\
  (∀b∈fp,b=I\/(b∉X/\∃o,aS.heap.get? b=aa o))/\(∀i v,P i v->i<xs.length->∃d,xs[i]?=aa d/\Rep (aJ X aS.heap) v d)/\xs.length<=cz
section
variable {W:Wd} {T:Tabs} {O:bn} {N:Nat} {env:bP}
abbrev SI(W:Wd)(T:Tabs)(O:bn)(N:Nat)(env:bP)(e:ax)(m:ME):Prop:=
 ∀(fu:Nat)(A:dK)(X0:List au)(oa:Nat->au)(X:List au)(f:Frm)(s:aE)(xs:List an)(Q:ao->aE->Prop),AOk A N->SR W X0 env oa X s.heap f->
  gm T O fu m f=aa xs->(∀it aS s₂,Ext W s aS->Ext W aS s₂->sY W X aS s₂ it xs->Q it s₂)->aI (aP W.prog W.w) A (eval e env) (λv aS=>aI (aP W.prog W.w) A (zm v) Q bg aS) bg s
theorem vu(h:cC):h.get? h.objs.size=ac:=by
 cases e:h.get? h.objs.size with
 |none=>rfl
 |some o=>exact absurd (fK e) (mI _)
theorem Za(k:W.Ok)(h1:aJ X s.heap a=aa {cls:=.type "list",data:=.seq vs.toArray n})(h2:dN vs<=cz)(h3:RepL (aJ X s.heap) vs ds)
  (hQ:∀it s₂,Ext W s s₂->sY W X s s₂ it ds->Q it s₂):aI (aP W.prog W.w) A (zm (.ref a)) Q bg s:=by
 have gb:s.heap.IsList a vs.toArray:=⟨_,ed h1,rfl,_,rfl⟩
 have bT:a≠s.heap.objs.size:=lK (fK (ed h1))
 refine wpAny_pyIter_list gb (hQ _ _ (Ext.push k _ _) ⟨s.heap.objs.size,[s.heap.objs.size,a],λi v=>vs.toArray[i]?=aa v,λi h=>h.IsListIter s.heap.objs.size a i/\h.IsList a vs.toArray,rfl,vu _,λA hA=>?_,⟨⟨_,g5 _ rfl,rfl,rfl⟩,gb.push _⟩,λi h st=>?_,λb hb=>?_,λi v hp hi=>?_,by refine a8 h3.length ?_;exact h2⟩)
 ·have e:ds.length=vs.toArray.size:=by simp[h3.length]
  refine ag e ?_;exact Walks.list hA _ a bT vs.toArray
 ·refine aF st λaM _=>?_;obtain⟨o,e,c,d⟩:=aM;exact(jE o _ _ e c (by decide) d)
 ·simp at hb;clear gb bT;rcases hb with rfl|rfl
  ·exact .inl rfl
  ·exact .inr ⟨(cb.mp h1).1,_,ed h1⟩
 ·have e:vs[i]?=aa v:=by simpa using hp
  exact⟨ds[i],by simp[hi],h3.at i v _ e (by simp[hi])⟩
theorem Zb(k:W.Ok)(h1:aJ X s.heap a=aa {cls:=.type "tuple",data:=.seq vs.toArray n})(h2:dN vs<=cz)(h3:RepL (aJ X s.heap) vs ds)
  (hQ:∀it s₂,Ext W s s₂->sY W X s s₂ it ds->Q it s₂):aI (aP W.prog W.w) A (zm (.ref a)) Q bg s:=by
 have gb:s.heap.IsTuple a vs.toArray:=⟨_,ed h1,rfl,_,rfl⟩
 have bT:a≠s.heap.objs.size:=lK (fK (ed h1))
 refine wpAny_pyIter_tuple gb (hQ _ _ (Ext.push k _ _) ⟨s.heap.objs.size,[s.heap.objs.size,a],λi v=>vs.toArray[i]?=aa v,λi h=>h.IsTupleIter s.heap.objs.size a i/\h.IsTuple a vs.toArray,rfl,vu _,λA hA=>?_,⟨⟨_,g5 _ rfl,rfl,rfl⟩,gb.at λo e=>jr _ e⟩,λi h st=>?_,λb hb=>?_,λi v hp hi=>?_,by refine a8 h3.length ?_;exact h2⟩)
 ·have e:ds.length=vs.toArray.size:=by simp[h3.length]
  refine ag e ?_;exact Walks.tuple hA _ a bT vs.toArray
 ·refine aF st λaM _=>?_;obtain⟨o,e,c,d⟩:=aM;exact(jE o _ _ e c (by decide) d)
 ·simp at hb;clear gb bT;rcases hb with rfl|rfl
  ·exact .inl rfl
  ·exact .inr ⟨(cb.mp h1).1,_,ed h1⟩
 ·have e:vs[i]?=aa v:=by simpa using hp
  exact⟨ds[i],by simp[hi],h3.at i v _ e (by simp[hi])⟩
theorem Zc(k:W.Ok)(hx:x.length<=cz)
  (hQ:∀it s₂,Ext W s s₂->sY W X s s₂ it (x.cps.toList.map λc=>.str (bk [c]))->Q it s₂):aI (aP W.prog W.w) A (zm (.str x t)) Q bg s:=by
 have fin:∀(ty:String)(DU:vt ty=ae)(w:∀A':dK,A'.handled=ac->Walks W.prog W.w A' s.heap.objs.size [s.heap.objs.size] [s.heap.objs.size] x.cps.size (SignAt x) (λi h=>h.IsStrIter s.heap.objs.size ty x t i)),
   Q (.ref s.heap.objs.size) {s with heap:=s.heap.push {cls:=.type ty,data:=.fields #[.str x t,.int 0 0]}}:=λty DU w=>by
  refine hQ _ _ (Ext.push k _ _) ⟨s.heap.objs.size,[s.heap.objs.size],SignAt x,λi h=>h.IsStrIter s.heap.objs.size ty x t i,rfl,vu _,λA hA=>?_,⟨_,g5 _ rfl,rfl,rfl⟩,λi h st=>?_,λb hb=>?_,λi v hp hi=>?_,by rw[bq,dM];exact hx⟩
  ·have e:(x.cps.toList.map λc=>wO (bk [c])).length =x.cps.size:=by simp
   refine ag e ?_;exact w A hA
  ·obtain⟨o,e,c,d⟩:=st;exact(jE o _ _ e c DU d)
  ·simp at hb;exact .inl hb
  ·obtain⟨c,u,e,rfl⟩:=hp;refine(aO (.str (bk [c])) ?_ (.str _ _ (by refine ag dy ?_;simp[wA])));rw[dS,TU];refine ag e ?_;rfl
 cases ha:x.cps.all (· <128)
 ·exact wpAny_pyIter_wide ha (fin "str_iterator" (by decide) λA' hA=>Walks.strWide hA _ x t)
 ·exact wpAny_pyIter_ascii ha (fin "str_ascii_iterator" (by decide) λA' hA=>Walks.strAscii hA _ x t)
theorem Zd(k:W.Ok)(h:vg d=aa xs)(r:Rep (aJ X s.heap) v d)(hQ:∀it s₂,Ext W s s₂->sY W X s s₂ it xs->Q it s₂):
  aI (aP W.prog W.w) A (zm v) Q bg s:=by
 unfold vg at h
 split at h<;>cases h
 ·refine dc r.list_inv λa n vs bB h1 h2 h3=>?_;subst bB;exact Za k h1 h2 h3 hQ
 ·refine dc r.tuple_inv λa n vs bB h1 h2 h3=>?_;subst bB;exact Zb k h1 h2 h3 hQ
 ·refine ai r.str_inv λt am hx=>?_;subst am;exact Zc k hx hQ
theorem sZ(L:Lib W T O N)(hm:yb m=ae)(h:SE W T O N env e m):SI W T O N env e m:=by intro fu A X0 oa X f s xs Q aq sr he hQ;refine d7 (Yi hm he) λn d h1 h2=>?_;exact h n A X0 oa X f s d _ aq sr h1 λv s1 x1 r1=>Zd L.ok h2 r1 λit s2 x2 i=>hQ it s1 s2 x1 x2 i
theorem Ze(h:i<(b-a).toNat):((m8 a b).map bQ)[i]?=aa (.int (a+i)):=by unfold m8;rw[dS,dS];refine ag (DB h) ?_;rfl
theorem Gd(a b:Int):((m8 a b).map bQ).length =(b-a).toNat :=by simp[m8]
theorem Ov(k:W.Ok)(hr:IsRange s.heap r a b 1 t u v)(ha: -2^60<a)(UC:a<2^60)(hb: -2^60<b)(hb':b<2^60)(hn:b-a<=100000)
  (hQ:∀it s₂,Ext W s s₂->sY W X s s₂ it ((m8 a b).map .int)->Q it s₂):aI (aP W.prog W.w) A (zm (.ref r)) Q bg s:=by
 have sm:Builtin.Range.small a b 1=ae:=small_one (KY ha) (eY 0x3c20820820820820820820820820820a100f082082082082082082082082082082240 Yt UC) (KY hb) (ot 0x3c20820820820820820820820820820a100f0820820820820820820820820820822481c289268264b200 Yt UC hn)
 have sz:Builtin.Range.rangeSize a b 1=((b-a).toNat :Int):=by rw[rangeSize_one];split<;>lia
 refine wpAny_pyIter_range hr sm ?_
 refine ag sz ?_
 refine hQ _ _ (Ext.push k _ _) ⟨s.heap.objs.size,[s.heap.objs.size],λi v=>∃t,v=.int (a+i*1) t,λi h=>IsRangeIter h s.heap.objs.size (a+(i:Nat)*1) (((b-a).toNat :Int)-(i:Nat)) 1,rfl,vu _,λA hA=>?_,?_,λi h st=>?_,λb hb=>?_,λi v hp hi=>?_,?_⟩
 ·rw[Gd];exact Walks.range hA s.heap.objs.size a 1 _
 ·have:IsRangeIter (s.heap.push {cls:=.type "range_iterator",data:=.fields #[pU a,pU ((b-a).toNat :Int),pU 1]}) s.heap.objs.size a ((b-a).toNat :Int) 1:=g5 _ rfl;simpa using this
 ·exact(jE _ _ _ st rfl (by decide) rfl)
 ·simp at hb;exact .inl hb
 ·obtain⟨t,rfl⟩:=hp;rw[Gd]at hi;rw[Ti];exact(aO _ (Ze hi) (.int _ _))
 ·rw[Gd];refine ag dy ?_;exact Z1 0xd4b20014a08914a082289182082082082089b0b2001c289268264b200 [_,_] Yt hn
theorem Zf(L:Lib W T O N)(eo:EnvOk env)(hs:∀e m,tr e=aa m->fb e=ae)(hk:env.kindOf "range"=aa .globalImplicit)(bT:es≠[])
  (ht:ct tr es=aa ms) (h:∀e∈es,∀m,tr e=aa m->SE W T O N env e m):SI W T O N env (.Call (.Name "range" np) es [] pos) (.rng ms):=by
 intro fu A X0 oa X f s xs Q aq sr he hQ
 refine d7 (Yk he) λfu ds cV he=>?_
 refine ai (b1 he) λis h1 hr=>?_
 clear he;obtain rfl:=AX (g:=bQ) (λ_ _=>hY) h1
 refine wN (F4 L.ok sr.bs eo (by decide) (by decide) hk L.rng YW ?_)
 refine TT (jc hs ht).2 (pA (jc hs ht).1 bT (mj L.ok aq hs ht cV sr h λvs s1 x1 r1=>?_))
 show aI _ _ (call (.type "range") vs) _ _ _
 have x2:∀(o:be)(t:Nat),Ext W s {s1 with heap:=s1.heap.push o,toks:=t}:=λo t=>x1.trans (Ext.push L.ok _ _)
 refine bX (Yl hr) (λg9=>?_) λfq=>?_
 ·obtain⟨b,rfl,q,rfl⟩:=g9;simp only[bo,bl]at q;refine ai r1.one λv am rv=>?_;clear r1;subst am;refine aD rv.int_inv λt am=>?_;subst am;refine call_range_1 (Ov L.ok (IsRange.new ..) (by decide) (by decide) (EQ q.2) (eY 0xf0820820820820820820820820820822401c2892682640 Yt q.1) (eY 0x1c289268264b0401c2892682640 Yt q.1) λit s2 x3 i=>hQ it _ s2 (x2 _ _) x3 i)
 ·obtain⟨a,b,rfl,q,rfl⟩:=fq;simp only[bo,bl]at q;refine cY r1.two λv u av rv ru=>?_;clear r1;subst av;refine aD rv.int_inv λt am=>?_;subst am;refine aD ru.int_inv λt' am=>?_;subst am;refine call_range_2 (Ov L.ok (IsRange.new ..) (EQ q.1.1.1.2) (KZ q.1.1.2) (EQ q.1.2) (KZ q.2) (Z1 0x1c289268264b2001c289268264b200 [_,_] Yt q.1.1.1.1) λit s2 x3 i=>hQ it _ s2 (x2 _ _) x3 i)
theorem Zg(L:Lib W T O N)(eo:EnvOk env){tr:ax->Option ME}(hs:∀e m,tr e=aa m->fb e=ae)(hk:env.kindOf "reversed"=aa .globalImplicit)
  (ht:tr e=aa m) (h:SE W T O N env e m):SI W T O N env (.Call (.Name "reversed" np) [e] [] pos) (.rvd m):=by
 intro fu A X0 oa X f s xs Q aq sr he hQ
 refine d7 (Yj he) λfu ds hd e_=>?_;clear he;subst e_
 have DV:ct tr [e]=aa [m]:=by simp[ct,ht]
 refine wN (F4 L.ok sr.bs eo (by decide) (by decide) hk L.rvd YX ?_)
 refine TT (jc hs DV).2 (pA (jc hs DV).1 (by simp) ?_)
 refine mj (fu:=fu) L.ok aq hs DV (ds:=[.list ds]) (by show(match aj T O fu m f with|some d=>(aV _ []).map (d::·)|none=>ac)=aa [_];refine ag hd ?_;rfl) sr (λe' n4 m' r7=>?_) λvs s1 x1 r1=>?_
 ·simp only[o0]at n4;clear DV;subst n4;rw[ht]at r7;obtain rfl:=aB r7;exact h
 show aI _ _ (call (.type "reversed") vs) _ _ _
 refine ai r1.one λv am rv=>?_;clear r1;subst am
 refine dc rv.list_inv λa n ws bB h1 h2 h3=>?_;subst bB
 have gb:s1.heap.IsList a ws.toArray:=⟨_,ed h1,rfl,_,rfl⟩
 have bT:a≠s1.heap.objs.size:=lK (fK (ed h1))
 refine call_reversed_list gb (wpAny_pyIter_revIter (l:=a) (i:=(ws.toArray.size:Int)-1) ⟨_,g5 _ rfl,rfl,rfl⟩ ?_)
 refine hQ _ s1 _ x1 (Ext.push L.ok _ _) ⟨s1.heap.objs.size,[s1.heap.objs.size,a],λi v=>ws.toArray[ws.toArray.size-1-i]?=aa v,λi h=>i<=ws.toArray.size/\h.IsRevIter s1.heap.objs.size a ((ws.toArray.size:Int)-1-(i:Int))/\h.IsList a ws.toArray,rfl,vu _,λA hA=>?_,⟨tW _,⟨_,g5 _ rfl,rfl,by simp[revObj]⟩,gb.push _⟩,λi h st=>?_,λb hb=>?_,λi v hp hi=>?_,by rw[IN];refine a8 h3.length ?_;exact h2⟩
 ·have e:ds.reverse.length=ws.toArray.size:=by simp[h3.length]
  refine ag e ?_;exact Walks.listRev hA _ a bT ws.toArray
 ·refine eQ st λ_ am _=>?_;obtain⟨o,e,c,d⟩:=am;exact(jE o _ _ e c (by decide) d)
 ·simp at hb;rcases hb with rfl|rfl
  ·exact .inl rfl
  ·exact .inr ⟨(cb.mp h1).1,_,ed h1⟩
 ·have hl:=h3.length;rw[IN]at hi;have e:ws[ds.length-1-i]?=aa v:=by simpa[hl]using hp
  refine⟨ds[ds.length-1-i],?_,h3.at _ v _ e (by simp)⟩;refine ag (Qgy hi) ?_;simp
end
end
section
section
variable {W:Wd} {T:Tabs} {O:bn} {N:Nat} {env:bP}
theorem Ext.mutNew(k:W.Ok)(x:Ext W s s')(b0:W.Bs s.heap){Wr:List au}(t:Nat)(hC:∀a∈Wr,s.heap.get? a=ac/\∀o,s'.heap.get? a=aa o->¬na o)
  (hk:∀b o,b∉Wr->s'.heap.get? b=aa o->h'.get? b=aa o):Ext W s {s' with heap:=h',toks:=t}:=by
 have n5:∀b o,s.heap.get? b=aa o->b∉Wr:=λb o e q=>by rw[(hC b q).1]at e;injection e
 obtain⟨⟨h,tk,e0⟩,kk,bb,tt⟩:=x
 subst e0
 exact⟨(eR h' t rfl),λb o n e=>hk b o (n5 b o e) (kk b o n e),
  λb=>k.bsKeep _ _ (bb b) λc o base e=>hk c o (λq=>k.fresh b0 (hC c q).1 base) e,
  λb=>k.tbKeep _ _ (tt b) λc o e st=>hk c o (λq=>(hC c q).2 o e st) e⟩
noncomputable def gg(env:bP)(names:List (ar×dR)):List (ar×au):=names.filterMap λp=>if p.2==tZ then(env.cells.lookup p.1).map (p.1,·)else ac
theorem Ow:∀(names:List (ar×dR))(cs:List (ar×au)),(∀p∈names,p.2=.free ->∃c,env.cells.lookup p.1=aa c)->
  (forIn names cs λ(x:ar×dR)(r:List (ar×au))=>(if(x.2==tZ)=ae then do let a<-cellOf env x.1;pure (QgH ((x.1,a)::r))else pure (QgH r):cg (ForInStep (List (ar×au)))))=pure ((gg env names).reverse ++cs)
 |[],cs,_=>by simp[gg]
 |(n,kd)::r,cs,h=>by
  rw[Dy];have ih:=λcs=>Ow r cs λp hp=>h p (eh _ hp);by_cases hk:kd=tZ
  ·subst hk;obtain⟨c,e⟩:=h (n,.free) fD rfl;simp only at e;have ec:cellOf env n=pure c:=by unfold cellOf;exact ag e rfl
   have e2:gg env ((n,tZ)::r)=(n,c)::gg env r:=by simp[gg,e]
   simp only[beq_self_eq_true,if_true,ec,pure_bind];rw[ih];refine ag e2 ?_;simp
  ·have hb:(kd==tZ)=af:=by simpa using hk
   have e2:gg env ((n,kd)::r)=gg env r:=by simp[gg,hk]
   simp only[hb,wB,if_false,pure_bind];rw[ih];exact ag e2 rfl
theorem Ox(h:∀p∈sc.names,p.2=.free ->∃c,env.cells.lookup p.1=aa c):uc sc env=pure (gg env sc.names).reverse :=by have:=Ow sc.names [] h;simp only[kO]at this;refine a8 this ?_;simp only[uc];rw[bind_pure]
theorem Oy(h:(n,c)∈(gg env names).reverse):env.cells.lookup n=aa c:=by
 rw[DC]at h;unfold gg at h;refine ai (o6.mp h) λp _ e=>?_;split at e
 ·refine ai (bO.mp e) λc' e' q=>?_;clear h e;obtain⟨rfl,rfl⟩:=dx q;exact e'
 ·injection e
theorem vw:∀{l:List (ar×α)},(n,c)∈l->∃c',l.lookup n=aa c'
 |[],h=>by cases h
 |(m,d)::l,h=>by
  cases q:n==m with
  |true=>exact(bC d (by rw[pT];exact ag q rfl))
  |false=>
   refine bX (cB.mp h) (λh=>?_) λh=>?_
   ·obtain⟨rfl,rfl⟩:=dx h;simp at q
   ·refine aD (vw h) λc' e=>?_;exact(bC c' (by rw[pT];refine ag q ?_;exact e))
theorem Oz(hn:(n,tZ)∈names)(hc:env.cells.lookup n=aa c):(gg env names).reverse.lookup n=aa c:=by
 have:(n,c)∈(gg env names).reverse :=by rw[DC];exact o6.mpr ⟨(n,.free),hn,by simp[hc]⟩
 obtain⟨c',e⟩:=vw this;refine ag e ?_;have:=Oy (mem_of_lookup e);rw[hc]at this;exact this.symm
theorem OA{sc:mD}{i:Nat}{x:ar}{kd:dR}(h:(nU sc env).names[i]?=aa (x,kd)):∃k0,sc.names[i]?=aa (x,k0)/\(k0=kd\/(k0=.free /\kd=.cell)):=by
 unfold nU at h;simp only[dS]at h;refine ai (bO.mp h) λaM e q=>?_;obtain⟨n,k0⟩:=aM;simp only at q;split at q
 ·rename_i c;refine aF (dx q) λaM am=>?_;subst aM;subst am;simp only[bo,bV]at c;exact(aO _ e (.inr ⟨c.1.1,rfl⟩))
 ·refine aF (dx q) λaM am=>?_;subst aM;subst am;exact(aO _ e (.inl rfl))
theorem Ge{sc:mD}{i:Nat}{x:ar}{k0:dR}(h:sc.names[i]?=aa (x,k0)):∃kd,(nU sc env).names[i]?=aa (x,kd)/\(k0=kd\/(k0=.free /\kd=.cell)):=by
 unfold nU;simp only[dS,h,bF];by_cases c:(k0==tZ&&env.scope.kind==QgI&&env.kindOf x==aa TO)=ae
 ·rw[aw c];simp only[bo,bV]at c;exact(aO _ rfl (.inr ⟨c.1.1,rfl⟩))
 ·rw[az c];exact(aO _ rfl (.inl rfl))
theorem Zh:(nU sc env).names.map (·.1)=sc.names.map (·.1):=by unfold nU;simp only[g6];apply zh;intro p _;simp only[Function.comp];split<;>rfl
theorem Gf(eo:EnvOk env){sc:mD}{C:au}(fE:mZ sc=ae)(zK:∀p∈sc.names,p.2=.free ->∃c,env.cells.lookup p.1=aa c):EnvOk (kP sc (gg env sc.names).reverse C env):=by
 unfold mZ at fE;simp only[bo,bV,bl]at fE;refine⟨fE.1.1,eo.glob,eo.blt,by show((nU sc env).names.map (·.1)).Nodup;rw[Zh];exact fE.1.2,λi x kd h hk=>?_⟩;refine ai (OA h) λk0 e q=>?_;have mem:=mG e;have:k0=.free :=by
  clear h;rcases q with rfl|⟨q,_⟩
  ·rcases hk with rfl|rfl
   ·have:=eA.mp fE.2 _ mem;injection this
   ·rfl
  ·exact q
 clear e q;subst this;refine aD (zK _ mem rfl) λc hc=>?_;exact⟨c,Oz mem hc⟩
theorem Zi(h:Mn c n kk=aa o):(kk=.free ->∃j k0,o=aa j/\c.names[j]?=aa (n,k0)/\(k0=.cell \/k0=.free))/\(kk≠.free ->o=ac):=by
 cases kk with
 |free=>
  refine ai (bx.mp (show((c.find n).bind λp=>if p.2==.cell ||p.2==.free then aa (aa p.1)else ac)=aa o from h)) λaM e h=>?_;obtain⟨j,k0⟩:=aM
  refine aF (pS.mp h) λhk e2=>?_
  exact⟨λ_=>(gO j k0 ((aB e2).symm) (Cx.find_at e) ((QgJ.mp hk).imp eq_of_beq eq_of_beq)),λq=>absurd rfl q⟩
 |_=>exact⟨λq=>(nomatch q),λ_=>(aB h).symm⟩
theorem yd:∀{cJ:List (Option Nat)},pq c names=aa cJ->cJ.length=names.length/\∀(i:Nat)(x:ar)(kd:dR),names[i]?=aa (x,kd)->
  (kd=.free ->∃j k0,cJ[i]?=aa (aa j)/\c.names[j]?=aa (x,k0)/\(k0=.cell \/k0=.free))/\(kd≠.free ->cJ[i]?=aa ac):=by
 induction names with
 |nil=>intro cJ h;obtain rfl:=aB h;exact⟨rfl,λi x kd e=>nomatch e⟩
 |cons p r ih=>
  intro cJ h
  refine ai (bx.mp h) λs0 hs h=>?_
  refine ai (bO.mp h) λo ho av=>?_;subst av
  refine aF (ih hs) λl0 ih=>?_
  have hh:=Zi ho
  refine⟨congrArg kN l0,λi x kd e=>?_⟩
  cases i with
  |zero=>
   clear ho;obtain rfl:p=(x,kd):=aB e
   refine⟨λq=>?_,λq=>congrArg aa (hh.2 q)⟩
   refine d7 (hh.1 q) λj k0 av a=>?_;subst av
   exact(hU j k0 rfl a)
  |succ i=>exact ih i x kd e
end
end
section
section
variable {W:Wd} {T:Tabs} {O:bn} {N:Nat} {env:bP}
def Zj(W:Wd)(X:List au)(aS:aE)(ds:List an)(RR:ao->au->Result->aE->Prop):Prop:=
 ∀(D C:au)(Xc:List au)(s':aE),Ext W aS s'->aS.heap.get? D=ac->aS.heap.get? C=ac->C≠D->(∃m,s'.heap.Ns C m)->(∀a∈X,a∈Xc)->C∈Xc->
  (∃(n:Nat)(vs:List ao),s'.heap.get? D=aa {cls:=.type "list",data:=.seq vs.toArray n}/\vs.length<=cz/\RepL (aJ Xc s'.heap) vs ds)->RR (.ref D) C (.ok .next) s'
theorem Zk(eo:EnvOk env)(aX:er c env)(gN:pq c sc.names=aa cJ)(fE:mZ sc=ae)
  {X0:List au} {oa:Nat->au} {X:List au} {f:Frm} {h:cC} (sr:SR W X0 env oa X h f) {C:au} {Y:List au} {h':cC} {m:ar->Option ao} (bs:W.Bs h') (tb:W.Tb h')
  (hk:∀a o,aJ X h a=aa o->aJ (C::(Y++X)) h' a=aa o) (hc:∀c v,h.IsCell c v->h'.IsCell c v) (al:∀a∈C::(Y++X),∃o,h'.get? a=aa o) (hn:h'.Ns C m) (hC:C∉Y++X/\¬W.Base C):
  SR W (Y++X) (kP sc (gg env sc.names).reverse C env) oa (C::(Y++X)) h' (iB f cJ):=by
 refine ai sr.vars λm0 hn0 hv0=>?_
 refine aF (yd gN) λhl hs=>?_
 refine⟨bs,tb,λa ha=>nM _ (sr.sub a (sr.tX a ha)),λa ha=>eh _ ha,al,⟨fD,hC⟩,λx c e=>?_,(aO m hn (λi x kd e=>?_)),λi j xs ys hi hj=>?_,?_⟩
 ·have e':=Oy (mem_of_lookup e);obtain⟨a,v,b⟩:=sr.cellI x c e';exact⟨eh _ (nM _ a),v,hc c v b⟩
 ·refine ai (OA e) λk0 e0 q=>?_;refine aF (hs i x k0 e0) λs1 s2=>?_;have Jk:(iB f cJ)[i]?=(cJ[i]?).map λo=>match o with|some i=>(match f[i]? with|some (.val d)=>FV.val d|_=>.un)|none=>.un :=by
   unfold iB;rw[dS]<;>rfl
  refine ag Jk ?_;by_cases hf:k0=.free
  ·clear s2;subst hf;refine cY (s1 rfl) λj k1 hj rW qi=>?_;refine ag hj ?_;simp only[bF];refine ai (aX j x k1 rW) λk2 mP q3=>?_;have wW:k2=.cell \/k2=.free :=by
    clear mP;rcases q3 with rfl|⟨_,rfl⟩
    ·exact qi
    ·exact .inl rfl
   have vo:=hv0 j x k2 mP;revert vo;cases Jl:f[j]? with
   |none=>intro _;trivial
   |some fv=>
    cases fv with
    |un=>intro _;trivial
    |own xs=>intro _;trivial
    |val d=>
     rintro⟨v,hv,hr⟩
     obtain⟨c1,wX,iY⟩:∃c,env.cells.lookup x=aa c/\h.IsCell c (aa v):=by clear mP q3;rcases wW with rfl|rfl<;>exact hv
     have iu:kd=.free \/kd=.cell :=by
      clear e;rcases q with rfl|⟨_,rfl⟩
      ·exact .inl rfl
      ·exact .inr rfl
     refine⟨v,?_,hr.mono hk⟩
     have:∃c,(kP sc (gg env sc.names).reverse C env).cells.lookup x=aa c/\h'.IsCell c (aa v):=(aO c1 (Oz (mG e0) wX) (hc _ _ iY))
     clear e q;rcases iu with rfl|rfl<;>exact this
  ·refine ag (s2 hf) ?_;trivial
 ·exfalso;have Jk:∀(i:Nat)(xs:List an),(iB f cJ)[i]?≠aa (FV.own xs):=λi xs e=>by
   unfold iB at e;rw[dS]at e;refine ai (bO.mp e) λo _ q=>?_;cases o with
   |none=>injection q
   |some j=>simp only at q;split at q<;>injection q
  exact Jk i xs hi
 ·show(iB f cJ).length =(nU sc env).names.length;unfold iB nU;rw[bq,bq];exact hl
set_option tactic.hygienic true in
theorem Zl(h:lc cK (λ_=>aa ae) f t (x::r)=aa ds):∃d uw,cK (f.put t (.val x))=aa d/\lc cK (λ_=>aa ae) f t r=aa uw/\ds=d::uw:=by
 simp only[lc]at h;split at h<;>try contradiction
 rename_i d hd;refine ai (bO.mp h) λuw h1 av=>?_;clear h;subst av;exact(gO d uw hd h1 rfl)
theorem OB{h:cC}{a:au}{o:be}{vs:Array ao}{n:Nat}(e:h.get? a=aa o)(d:o.data=.seq vs n):∀o',h.get? a=aa o'->¬na o'/\∀v,o'.data≠.cell v:=λo' e'=>by rw[e]at e';obtain rfl:=aB e';refine⟨λ⟨_,vs,q⟩=>?_,λv q=>?_⟩<;>(rw[d]at q;injection q)
theorem BA{h:cC}{a:au}{o:be}{T:String}{fs:Array ao}(e:h.get? a=aa o)(c:o.cls=.type T)(hT:T≠"code")(d:o.data=.fields fs):∀o',h.get? a=aa o'->¬na o'/\(∀v,o'.data≠.cell v)/\∀vs n,o'.data≠.seq vs n:=λo' e'=>by
 rw[e]at e';obtain rfl:=aB e';refine⟨λ⟨q,_⟩=>?_,λv q=>?_,λvs n q=>?_⟩
 ·refine bX q (λq=>?_) λq=>?_
  ·rw[c]at q;injection q
  ·rw[c]at q;clear c;obtain rfl:=PySem.Value.type.inj q;exact hT rfl
 ·rw[d]at q;injection q
 ·rw[d]at q;injection q
theorem BB{h:cC}{a:au}{m:ar->Option ao}(x:h.Ns a m):∀o,h.get? a=aa o->¬na o:=λo e=>by obtain⟨o',es,n,e',d,_⟩:=x;rw[e]at e';obtain rfl:=aB e';rintro⟨_,vs,q⟩;rw[d]at q;injection q
inductive CompInv(W:Wd)(T:Tabs)(O:bn)(env:bP)(Y X0:List au)(D:au)(oa:Nat->au)(j7:ME)(ti fu:Nat)(fc:Frm)(xs ds:List an)(aS:aE)(St:Nat->cC->Prop)(n:Nat)(st:aE):Prop
 |mk (i:Nat) (vs:List ao) (nD:Nat) (wY DW:List an):i+n=xs.length->Ext W aS st->St i st.heap->st.heap.get? D=aa {cls:=.type "list",data:=.seq vs.toArray nD}->vs.length=i->RepL (aJ Y st.heap) vs wY->
   lc (λg=>aj T O fu j7 g) (λ_=>aa ae) fc ti (xs.drop i)=aa DW->ds=wY++DW->SR W X0 env oa Y st.heap fc->CompInv W T O env Y X0 D oa j7 ti fu fc xs ds aS St n st
theorem Zm(L:Lib W T O N){A:dK}(aq:AOk A N){sc:mD}{cl:List (ar×au)}{cK iter:ax}{t:ar}{px pos:aR}{j7:ME}{ti fu:Nat}{X:List au}{aS:aE}{RR:Result->aE->Prop}
  {I D C:au} {fp:List au} {P:Nat->ao->Prop} {St:Nat->cC->Prop} {xs ds:List an} {fc:Frm} {oa:Nat->au}
  (zL:EnvOk (kP sc cl C env)) (jx:(nU sc env).names[ti]?=aa (t,.local)) (Jm:fc.put ti .un =fc)
  (r8:SE W T O N (kP sc cl C env) cK j7) (b1:W.Bs aS.heap) (t1:W.Tb aS.heap) (tX:∀a∈W.T,a∈X)
  (hI:aS.heap.get? I=ac) (hD:aS.heap.get? D=ac) (hC:aS.heap.get? C=ac) (uz:I≠C) (wZ:D≠C) (uA:I≠D)
  (Wk:Walks W.prog W.w A I fp [I] xs.length P St) (kS:∀i h,St i h->∃o T fs,h.get? I=aa o/\o.cls=.type T/\vt T=ae/\o.data=.fields fs)
  (qm:∀b∈fp,b=I\/(b∉X/\∃o,aS.heap.get? b=aa o)) (hP:∀i v,P i v->i<xs.length->∃d,xs[i]?=aa d/\Rep (aJ X aS.heap) v d) (iW:xs.length<=cz)
  (hR:∀(s':aE)(n:Nat)(vs:List ao),Ext W aS s'->(∃m,s'.heap.Ns C m)->s'.heap.get? D=aa {cls:=.type "list",data:=.seq vs.toArray n}->vs.length<=cz->RepL (aJ (C::([D,I]++X)) s'.heap) vs ds->RR (.ok .next) s')
  (kT:lc (λg=>aj T O fu j7 g) (λ_=>aa ae) fc ti xs=aa ds)
  {s:aE} (x1:Ext W aS s) (cv:St 0 s.heap) (uB:s.heap.get? D=aa {cls:=.type "list",data:=.seq ([]:List ao).toArray})
  (sr:SR W ([D,I]++X) (kP sc cl C env) oa (C::([D,I]++X)) s.heap fc):
  codeAny (aP W.prog W.w) A (.compLoop (.ListComp cK [⟨.Name t px,iter,[],0⟩] sc pos) 0 (.ref I) (.ref D) (kP sc cl C env)) RR s:=by
 have nT:∀a,aS.heap.get? a=ac->a∉W.T:=λa e q=>by refine ai (L.ok.tStill _ t1 a q) λo e' _=>?_;rw[e]at e';injection e'
 have zM:∀{a b o},aS.heap.get? a=ac->aS.heap.get? b=aa o->b≠a:=λe e' q=>by rw[q,e]at e';injection e'
 refine codeAny_compLoop_list (CompInv W T O (kP sc cl C env) (C::([D,I]++X)) ([D,I]++X) D oa j7 ti fu fc xs ds aS St) (λn st Jn=>?_) xs.length ⟨0,[],0,[],ds,gB _,x1,cv,uB,rfl,.nil,kT,rfl,sr⟩
 obtain⟨i,vs,nD,wY,DW,jy,xt,cv,uB,j8,UD,w0,cV,sr⟩:=Jn
 have Jo:I∈[D,I]++X:=by simp
 have UE:D∈[D,I]++X:=by simp
 have DX:∀(h':cC)(tk:Nat),(∃o,h'.get? I=aa o)->(∀b o,b∉[I]->st.heap.get? b=aa o->h'.get? b=aa o)->
   Ext W aS {st with heap:=h',toks:=tk}/\SR W ([D,I]++X) (kP sc cl C env) oa (C::([D,I]++X)) h' fc/\RepL (aJ (C::([D,I]++X)) h') vs wY/\h'.get? D=aa {cls:=.type "list",data:=.seq vs.toArray nD}:=λh' tk pf hk=>by
  refine dc (kS i _ cv) λo Ty fs f1 f2 f3 f4=>?_
  have nf:=BA f1 f2 (Bz f3) f4
  refine⟨xt.mutNew L.ok b1 (Wr:=[I]) tk (λa ha=>?_) hk,sr.other L.ok (Wr:=[I]) hk λa ha=>?_,UD.mono λa o e=>?_,hk D _ (by simp[ju uA]) uB⟩
  ·simp at ha;obtain rfl:=ha.symm;exact⟨hI,λo e=>(nf o e).1⟩
  ·simp at ha;obtain rfl:=ha.symm;exact⟨Jo,L.ok.fresh b1 hI,nT _ hI,pf,λo e=>⟨(nf o e).1,(nf o e).2.1⟩⟩
  ·refine aF (cb.mp e) λn1 e1=>?_;exact cb.mpr ⟨n1,hk a o (by simp;intro e_;clear e e1;obtain rfl:=e_.symm;exact n1 (eh _ Jo)) e1⟩
 by_cases bK:i<xs.length
 ·refine Wk.item i st _ _ bK cv λv h' tk Jp zN hk=>?_;refine xk (kS _ _ zN) λo' _ _ al' _=>?_;refine og (DX h' tk ⟨o',al'⟩ hk) λUF lU QhI hD'=>?_;refine ai (hP i v Jp bK) λd Jq rv=>?_;refine ai lU.vars λm hn hvv=>?_;have Jr:xs.drop i=d::xs.drop (i+1):=by
   refine ag (IP bK) ?_;have:=mH.mp Jq;exact ag this.2 rfl
  rw[Jr]at w0;refine cY (Zl w0) λd' ds3 he QhM fM=>?_;clear w0;subst fM;have hkt:(kP sc cl C env).kindOf t=aa .local :=zL.kindAt jx;refine DD (TV hkt hn (λh2 uC lV=>?_) (by refine ag zL.kind ?_;rfl));have Js:Rep (aJ (C::([D,I]++X)) h') v d:=by
   refine rv.mono λa o e=>?_;refine aF (cb.mp e) λn1 e1=>?_;refine cb.mpr ⟨λq=>?_,UF.keep a o (λq=>n1 (tX a q)) e1⟩;simp at q;refine bX q (λq=>?_) λr_=>r_.elim (λq=>?_) λr_=>r_.elim (λq=>?_) λq=>?_
   ·exact zM hC e1 q
   ·exact zM hD e1 q
   ·exact zM hI e1 q
   ·exact n1 q
  have bU:=SR.storeLocal L.ok zL lU hn hvv jx uC lV Js;have xt2:Ext W aS {st with heap:=h2,toks:=tk+1}:=UF.mutNew L.ok b1 (Wr:=[C]) (tk+1) (λa ha=>by simp at ha;obtain rfl:=ha.symm;exact⟨hC,BB hn⟩) λb o hb e=>lV.extBut b o (show b≠C by simpa using hb) e;refine nQ (r8 fu A _ oa _ _ _ d' _ aq bU he λu s3 x3 ru=>?_) (λ_ _ h=>h) λ_ _ f=>f.elim;have xt3:=xt2.trans x3;have dG:=bU.ext L.ok x3;have hD2:h2.get? D=aa {cls:=.type "list",data:=.seq vs.toArray nD}:=(lV.2 D wZ).trans hD';have UG:=x3.keep D _ (nT D hD) hD2;have QhR:St (i+1) s3.heap:=Wk.frame _ _ _ zN λb hb o e=>by
   have:b≠C/\b∉W.T:=by
    refine bX (qm b hb) (λe_=>?_) λfq=>?_
    ·clear hb e;obtain rfl:=e_.symm;exact⟨uz,nT _ hI⟩
    ·obtain⟨n1,o1,e1⟩:=fq;exact⟨zM hC e1,λq=>n1 (tX b q)⟩
   exact x3.keep b o this.2 ((lV.2 b this.1).trans e)
  have QhS:RepL (aJ (C::([D,I]++X)) s3.heap) vs wY:=x3.repL bU.tXX (QhI.mono (qH lV fD));refine QgK (items:=vs.toArray) ⟨nD,UG⟩ (λh4 DY DZ=>?_) (by simp;exact f7 0x19840660858040e200 Yt iW j8 bK);have UH:=OB UG rfl;obtain⟨nD4,DY⟩:=DY;refine⟨n-1,K0 jy bK,⟨i+1,vs++[u],nD4,wY++[d'],ds3,K3 jy jy bK,xt3.mutNew L.ok b1 (Wr:=[D]) _ (λa ha=>by simp at ha;obtain rfl:=ha.symm;exact⟨hD,λo e=>(UH o e).1⟩) (λb o hb e=>DZ.extBut b o (by simpa using hb) e),?_,by simpa using DY,by simp[j8],?_,QhM,by simp[cV],?_⟩⟩
  ·refine Wk.frame _ _ _ QhR λb hb o e=>(DZ.2 b ?_).trans e;refine bX (qm b hb) (λe_=>?_) λfq=>?_
   ·clear hb e;obtain rfl:=e_.symm;exact uA
   ·obtain⟨_,o1,e1⟩:=fq;exact zM hD e1
  ·have mk:=qH DZ (X:=C::([D,I]++X)) (eh _ UE);exact(QhS.mono mk).append (.cons (ru.mono mk) .nil)
  ·have:=(dG.other L.ok (Wr:=[D]) (λb o hb e=>DZ.extBut b o (by simpa using hb) e) λa ha=>by
    simp at ha;obtain rfl:=ha.symm;exact⟨UE,L.ok.fresh b1 hD,nT _ hD,⟨_,DY⟩,UH⟩).forget ti
   have e:(fc.put ti (.val d)).put ti .un =fc:=by
    conv=>rhs;rw[<-Jm]
    unfold Frm.put;rw[List.set_set]
   rwa[e]at this
 ·have hi:i=xs.length:=bu 0x74114a08914a0822562005880d0026200 Yt jy bK;clear jy bK;obtain rfl:=hi.symm;have vR:DW=[]:=by
   rw[QgL]at w0;obtain rfl:=aB w0;rfl
  clear w0;subst vR;refine Wk.done st _ _ cv λh' tk hk=>?_;have jw:∀b o,b∉[I]->st.heap.get? b=aa o->h'.get? b=aa o:=hk;refine dc (kS _ _ cv) λo Ty fs f1 f2 f3 f4=>?_;have nf:=BA f1 f2 (Bz f3) f4;refine ai sr.vars λm hn _=>?_;refine hR _ nD vs (xt.mutNew L.ok b1 (Wr:=[I]) tk (λa ha=>by simp at ha;obtain rfl:=ha.symm;exact⟨hI,λo e=>(nf o e).1⟩) jw) ⟨m,?_⟩ (jw D _ (by simp[ju uA]) uB) (EP iW j8) ?_
  ·obtain⟨o,es,n,a,b,c⟩:=hn;exact⟨o,es,n,jw _ _ (by simp;exact ju uz) a,b,c⟩
  ·refine ag cV ?_;rw[kO];refine UD.mono λa o e=>?_;refine aF (cb.mp e) λn1 e1=>?_;exact cb.mpr ⟨n1,jw a o (by simp;intro e_;clear e e1;obtain rfl:=e_.symm;exact n1 (eh _ Jo)) e1⟩
end
end
section
section
variable {W:Wd} {T:Tabs} {O:bn} {N:Nat} {env:bP}
theorem OC(L:Lib W T O N)(eo:EnvOk env)(aq:AOk A N)(aX:er c env)(gN:pq c sc.names=aa cJ)(fE:mZ sc=ae)
  {cK iter:ax} {t:ar} {px pos:aR} {j7:ME} {ti fu:Nat} (jx:sc.names[ti]?=aa (t,.local)) {X0:List au} {oa:Nat->au} {X:List au} {f:Frm} {aS s₂:aE} {zO:ao} {xs ds:List an} {RR:ao->au->Result->aE->Prop}
  (sr:SR W X0 env oa X aS.heap f) (Jt:Ext W aS s₂) (n6:sY W X aS s₂ zO xs) (r8:∀C,SE W T O N (kP sc (gg env sc.names).reverse C env) cK j7)
  (kT:lc (λg=>aj T O fu j7 g) (λ_=>aa ae) (iB f cJ) ti xs=aa ds) (QhU:Zj W X aS ds RR):
  aI (aP W.prog W.w) A (newList []) (λacc uu=>aI (aP W.prog W.w) A (newFunctionEnv sc env.globals (gg env sc.names).reverse [] env.qual ac .none (aa env)) (λUI QhV=>codeAny (aP W.prog W.w) A (.compStart (.ListComp cK [⟨.Name t px,iter,[],0⟩] sc pos) 0 zO acc {UI with scope:=nU sc env}) (RR acc UI.locals) QhV) bg uu) bg s₂:=by
 obtain⟨I,fp,P,St,rfl,hI,hW,cv,kS,qm,hP,iW⟩:=n6
 have kU:=fE
 unfold mZ at kU
 simp only[bo,bV,bl]at kU
 have mQ:∀y∈sc.names,y.2≠.cell :=λy hy=>by have:=eA.mp kU.2 y hy;simpa using this
 have bU:=sr.ext L.ok Jt
 refine TW (wpAny_newFunctionEnv mQ (by intro y hy;simp at hy) (λn0 D0 D1=>?_) kU.1.1)
 dsimp only at D0 D1⊢
 generalize Ju:s₂.heap.push {cls:=.type "list",dict:=ac,data:=.seq ([]:List ao).toArray}=H2 at D0 D1⊢
 have hC:H2.objs.size=s₂.heap.objs.size+1:=by refine a8 Ju ?_;rw[TM]
 have Jv:∀{b o},s₂.heap.get? b=aa o->b≠H2.objs.size/\b≠s₂.heap.objs.size:=λe=>⟨by refine ag hC ?_;exact lK (DE (fK e)),lK (fK e)⟩
 have n5:∀b o,s₂.heap.get? b=aa o->n0.get? b=aa o:=λb o e=>D1.extBut b o (Jv e).1 (jr _ (Ju▸jr _ e))
 have back:∀a,s₂.heap.get? a=ac->a∉W.T->aS.heap.get? a=ac:=λa e nT=>by
  cases q:aS.heap.get? a with
  |none=>rfl
  |some o=>rw[Jt.keep a o nT q]at e;injection e
 have UJ:∀a,s₂.heap.objs.size<=a->a∉W.T:=λa h q=>by refine ai (L.ok.tStill _ bU.tb a q) λo e _=>?_;exact mI _ (nK (fK e) h)
 have UK:∀a,s₂.heap.objs.size<=a->s₂.heap.get? a=ac:=λa ha=>by
  cases e:s₂.heap.get? a with
  |none=>rfl
  |some o'=>exact absurd (fK e) (Du.mpr ha)
 have Jw:aS.heap.get? s₂.heap.objs.size=ac:=back _ (UK _ (dj _)) (UJ _ (dj _))
 have UL:s₂.heap.objs.size<=H2.objs.size:=by refine ag hC ?_;exact Nat.le_succ _
 have zP:aS.heap.get? H2.objs.size=ac:=back _ (UK _ UL) (UJ _ UL)
 have wZ:s₂.heap.objs.size≠H2.objs.size:=by refine ag hC ?_;exact lK (TX _)
 refine xk (kS 0 _ cv) λoI _ _ eI _=>?_
 have uz:I≠H2.objs.size:=(Jv eI).1
 have uA:I≠s₂.heap.objs.size:=(Jv eI).2
 have uB:n0.get? s₂.heap.objs.size=aa {cls:=.type "list",data:=.seq ([]:List ao).toArray}:=D1.extBut _ _ wZ (jr _ (Ju▸g5 _ rfl))
 have w5:∀tk,Ext W aS {s₂ with heap:=n0,toks:=tk}:=λtk=>Jt.trans (Ext.grow L.ok tk n5)
 have UM:St 0 n0:=(hW A aq.handled).frame _ _ _ cv λb _ o e=>n5 b o e
 have UN:∀a o,aS.heap.get? a=aa o->a∉W.T->n0.get? a=aa o:=λa o e n=>(w5 0).keep a o n e
 have QhW:SR W ([s₂.heap.objs.size,I]++X) (kP sc (gg env sc.names).reverse H2.objs.size env) oa (H2.objs.size::([s₂.heap.objs.size,I]++X)) n0 (iB f cJ):=by
  refine Zk (Y:=[s₂.heap.objs.size,I]) eo aX gN fE sr ((w5 0).bs sr.bs) ((w5 0).tb sr.tb) (λa o e=>?_) (λc v i=>sT (w5 0).keep (oH L.ok sr.tb i) i) (λa ha=>?_) D0 ⟨λq=>?_,L.ok.fresh sr.bs zP⟩
  ·refine aF (cb.mp e) λn1 e1=>?_;refine cb.mpr ⟨λq=>?_,UN a o e1 λq=>n1 (sr.tXX a q)⟩;simp at q;rcases q with q|q|q|q
   ·clear n1;subst q;rw[zP]at e1;injection e1
   ·clear n1;subst q;rw[Jw]at e1;injection e1
   ·clear hW kS qm uz uA;subst q;rw[hI]at e1;injection e1
   ·exact n1 q
  ·simp at ha;clear hW kS qm uz uA;rcases ha with rfl|rfl|rfl|ha
   ·obtain⟨o,_,_,e,_⟩:=D0;exact(bC o e)
   ·exact(bC _ uB)
   ·exact(bC _ (n5 _ _ eI))
   ·by_cases q:a∈W.T
    ·refine ai (L.ok.tStill _ ((w5 0).tb sr.tb) a q) λo e _=>?_;exact(bC o e)
    ·refine aD (sr.alX a ha) λo e=>?_;exact(bC o (UN a o e q))
  ·simp at q;rcases q with q|q|q
   ·exact wZ q.symm
   ·exact uz q.symm
   ·exact sr.ltX' _ zP q
 have zK:∀p∈sc.names,p.2=.free ->∃c,env.cells.lookup p.1=aa c:=λp hp hf=>by
  obtain⟨i,hi,e⟩:=pV hp;have e':sc.names[i]?=aa (p.1,p.2):=by exact ag (cf hi) (ag e rfl)
  refine cY (((yd gN).2 i p.1 p.2 e').1 hf) λj k0 hj rW qi=>?_;refine ai (aX j _ _ rW) λk2 mP q3=>?_;refine eo.cellsAll j _ k2 mP ?_;clear mP;rcases q3 with rfl|⟨_,rfl⟩
  ·exact qi
  ·exact .inl rfl
 have zL:=Gf (C:=H2.objs.size) eo fE zK
 have QhX:(nU sc env).names[ti]?=aa (t,.local):=by
  refine ai (Ge (env:=env) jx) λkd e q=>?_;rcases q with rfl|⟨q,_⟩
  ·exact e
  ·injection q
 have Jm:(iB f cJ).put ti .un =iB f cJ:=by
  have h1:cJ[ti]?=aa ac:=((yd gN).2 ti t .local jx).2 (by decide);have h2:(iB f cJ)[ti]?=aa .un :=by unfold iB;rw[dS];refine ag h1 ?_;rfl
  refine aD (mH.mp h2) λh3 h4=>?_;unfold Frm.put;refine a8 h4 ?_;rw[List.set_getElem_self]
 have loop:∀tk,codeAny (aP W.prog W.w) A (.compLoop (.ListComp cK [⟨.Name t px,iter,[],0⟩] sc pos) 0 (.ref I) (.ref s₂.heap.objs.size) (kP sc (gg env sc.names).reverse H2.objs.size env))
    (RR (.ref s₂.heap.objs.size) H2.objs.size) {s₂ with heap:=n0,toks:=tk}:=λtk=>by
  refine Zm L aq zL QhX Jm (r8 _) sr.bs sr.tb sr.tXX hI Jw zP uz wZ uA (hW A aq.handled) kS qm hP iW (λs' n vs x' hn hd hl hr=>?_) kT (w5 tk) UM uB QhW
  exact QhU _ _ _ s' x' Jw zP (ju wZ) hn (λa ha=>by simp[ha]) fD (gO n vs hd hl hr)
 refine codeAny_compStart_list (loop _) ((hW A aq.handled).self 0 _ _ _ UM (loop _))
theorem OD(k:W.Ok)(b1:W.Bs aS.heap)(x:Ext W aS s')(hC:aS.heap.get? C=ac)(_hD:aS.heap.get? D=ac)(qn:C≠D)(hn:∃m,s'.heap.Ns C m)(pg:∀a∈X,a∈Xc)(jz:C∈Xc)(hDX:D∉X)
  (h:∃(n:Nat)(vs:List ao),s'.heap.get? D=aa {cls:=.type "list",data:=.seq vs.toArray n}/\vs.length<=cz/\RepL (aJ Xc s'.heap) vs ds) {h':cC} (hs:mF C s'.heap h') (t:Nat):
  Ext W aS {s' with heap:=h',toks:=t}/\Rep (aJ X h') (.ref D) (.list ds):=by
 refine aD hn λm hn=>?_
 refine cY h λn vs e1 e2 e3=>?_
 refine⟨x.mutNew k b1 (Wr:=[C]) t (λa ha=>by simp at ha;clear qn jz hs;subst ha;exact⟨hC,BB hn⟩) λb o hb e=>hs.extBut b o (by simpa using hb) e,?_⟩
 refine Rep.mkList (cb.mpr ⟨λq=>?_,(hs.2 D (ju qn)).trans e1⟩) e2 ((e3.mono (qH hs jz)).mono (FR pg))
 exact hDX q
noncomputable def s7:ax->Bool
 | .Set .. =>af
 |_=>ae
theorem Gg(h:s7 e=ae)(env:bP)(x:ao):foldedSetIterable e env x=pure x:=by cases e<;>first|rfl|injection h
theorem OE(L:Lib W T O N)(eo:EnvOk env)(aX:er c env)(gN:pq c sc.names=aa cJ)(fE:mZ sc=ae)
  {cK iter:ax} {t:ar} {px pos:aR} {j7 zQ:ME} {ti:Nat} (jx:sc.names[ti]?=aa (t,.local)) (w8:s7 iter=ae) (r8:∀C,SE W T O N (kP sc (gg env sc.names).reverse C env) cK j7) (n6:SI W T O N env iter zQ):
  SE W T O N env (.ListComp cK [⟨.Name t px,iter,[],0⟩] sc pos) (.comp cJ ti j7 zQ []):=by
 intro fu A X0 oa X f s d Q aq sr he hQ
 refine k7 (Ob he) λfu xs ds sd cV e_=>?_;clear he;subst e_
 have zK:∀p∈sc.names,p.2=.free ->∃c,env.cells.lookup p.1=aa c:=λp hp hf=>by
  obtain⟨i,hi,e⟩:=pV hp;have e':sc.names[i]?=aa (p.1,p.2):=by exact ag (cf hi) (ag e rfl)
  refine cY (((yd gN).2 i p.1 p.2 e').1 hf) λj k0 hj rW qi=>?_;refine ai (aX j _ _ rW) λk2 mP q3=>?_;refine eo.cellsAll j _ k2 mP ?_;clear mP;rcases q3 with rfl|⟨_,rfl⟩
  ·exact qi
  ·exact .inl rfl
 have kU:=fE
 unfold mZ at kU
 simp only[bo,bV,bl]at kU
 rw[eval_ListComp]
 refine QgM (use:=ac) rfl (Gg w8 env) (Ox zK) kU.1.1 (λy hy hl=>?_) (n6 fu A X0 oa X f s xs _ aq sr sd λzO s1 s2 x1 x2 i=>?_)
 ·obtain⟨j,hj,e⟩:=pV hy;have e':sc.names[j]?=aa (y.1,y.2):=by exact ag (cf hj) (ag e rfl)
  rw[hl]at e';exact sR kU.1.2 e'
 ·have aY:=sr.ext L.ok x1;refine OC L eo aq aX gN fE jx (RR:=λacc C=>compPost (aP W.prog W.w) A bg ac Q acc C) aY x2 i r8 cV λD C Xc s' x' hD hC qn hn pg jz hl=>?_;refine aD (id hn) λm hm=>?_;exact⟨m,hm,λh' lW=>by refine aF (OD L.ok aY.bs x' hC hD qn hn pg jz (aY.ltX' D hD) hl lW s'.toks) λa b=>?_;exact hQ _ _ (x1.trans a) b⟩
end
end
section
section
variable {W:Wd} {T:Tabs} {O:bn} {N:Nat} {env:bP}
noncomputable def BC(env:bP)(pos:aR):List (Option ax)->List ax->List (cg ao×cg ao)
 |some k::ks,v::vs=>(eval k env,do let x<-eval v env;pX pos;pure x)::BC env pos ks vs
 |_,_=>[]
theorem BD(h:sN ks vs=aa ps):(ks=[]/\vs=[]/\ps=[])\/∃k a b zR x c d iw sf,ks=aa (.Constant (.int k) a b)::zR/\vs=.Constant (.int x) c d::iw/\ps=(k,x)::sf/\sN zR iw=aa sf:=by
 cases ks with
 |nil=>cases vs with
  |nil=>obtain rfl:=aB h;exact .inl ⟨rfl,rfl,rfl⟩
  |cons v vs=>injection h
 |cons k ks=>cases vs with
  |nil=>cases k<;>injection h
  |cons v vs=>cases k with
   |none=>injection h
   |some a=>
    refine ai (bx.mp h) λaM h1 h=>?_;obtain⟨p,p1,p2⟩:=aM
    refine ai (bx.mp h) λaM h2 h=>?_;obtain⟨q,q1,q2⟩:=aM
    refine ai (bO.mp h) λsf h3 h4=>?_
    refine ag (AT h1) (ag (AT h2) ?_)
    exact .inr ⟨_,_,_,_,_,_,_,_,sf,rfl,rfl,h4.symm,h3⟩
theorem Zn(env:bP)(pos:aR):∀{vs:List ax}{ps:List (Int×Int)},sN ks vs=aa ps->
  (evalEachOpt ks env).zip ((evalEach vs env).map λv=>(do let x<-v;pX pos;pure x:cg ao))=(BC env pos ks vs).map (λp=>(aa p.1,p.2))/\(BC env pos ks vs).length =ps.length:=by
 induction ks with
 |nil=>
  intro vs ps h
  rcases BD h with⟨_,rfl,rfl⟩|⟨_,_,_,_,_,_,_,_,_,q,_⟩
  ·exact⟨rfl,rfl⟩
  ·injection q
 |cons k0 ks ih=>
  intro vs ps h
  rcases BD h with⟨q,_⟩|⟨k,a,b,zR,x,c,d,iw,sf,q,rfl,rfl,h1⟩
  ·injection q
  ·clear h;obtain⟨rfl,rfl⟩:=DF q;obtain⟨a1,b1⟩:=ih h1;exact⟨congrArg (λz=>((aa (eval (.Constant (.int k) _ _) env),(do let x<-eval (.Constant (.int x) c d) env;pX pos;pure x:cg ao)):Option (cg ao)×cg ao)::z) a1,congrArg (· +1) b1⟩
noncomputable def oJ:List (Int×Int)->List Nat->List (Int×ao)
 |(k,x)::r,t::ts=>(k,.int x t)::oJ r ts
 |_,_=>[]
theorem Zo
  (h:aI (aP W.prog W.w) A (evalPairs fH) (λl s'=>Q ((.int k s.toks,.int x (s.toks+1))::l) s') bg {s with toks:=s.toks+1+1}):
  aI (aP W.prog W.w) A (evalPairs ((eval (.Constant (.int k) a b) env,do let x<-eval (.Constant (.int x) c d) env;pX pos;pure x)::fH)) Q bg s:=
 evalPairs_cons (zk (bH (zk (bH (zj (dW h))))))
theorem Zp:∀(ps:List (Int×Int))(ks:List (Option ax))(vs:List ax)(s:aE)(Q:List (ao×ao)->aE->Prop),sN ks vs=aa ps->
  (∀(l:List (ao×ao))(ts:List Nat)(t:Nat),ts.length=ps.length->l.length=ps.length->Carries (pY W.prog W.w) l (oJ ps ts)->Q l {s with toks:=t})->aI (aP W.prog W.w) A (evalPairs (BC env pos ks vs)) Q bg s:=by
 intro ps
 induction ps with
 |nil=>
  intro ks vs s Q h hQ
  rcases BD h with⟨rfl,rfl,_⟩|⟨_,_,_,_,_,_,_,_,_,_,_,q,_⟩
  ·exact evalPairs_nil (hQ [] [] s.toks rfl rfl trivial)
  ·injection q
 |cons p ps ih=>
  intro ks vs s Q h hQ
  rcases BD h with⟨_,_,q⟩|⟨k,a,b,zR,x,c,d,iw,sf,rfl,rfl,q,h1⟩
  ·injection q
  ·clear h;obtain⟨rfl,rfl⟩:=DF q;refine Zo (ih zR iw _ _ h1 λl ts t w9 hl hc=>hQ _ ((s.toks+1)::ts) t (by simp[w9]) (by simp[hl]) ?_);exact⟨by simp[pY,o7],rfl,hc⟩
theorem OF:∀{ps:List (Int×Int)}{ts:List Nat},ts.length=ps.length->(oJ ps ts).map (·.1)=ps.map (·.1)
 |[],[],_=>rfl
 |(k,x)::r,t::ts,h=>congrArg (k::·) (OF (ps:=r) (ts:=ts) (Dq h))
theorem OG:∀(more ph:List (Int×ao)),(ph.map (·.1)++more.map (·.1)).Nodup ->merged ph more=ph++more
 |[],ph,_=>by simp[merged]
 |(k,v)::r,ph,h=>by
  have hk:ph.any (λkv=>decide (kv.1=k))=af:=by rw[List.any_eq_false];intro p hp q;simp only[bl]at q;have:=IQ.mp h;exact this.2.2 p.1 (gi.mpr ⟨p,hp,rfl⟩) k (by simp) q
  have e:stored ph k v=ph++[(k,v)]:=by unfold stored;refine ag hk ?_;rfl
  have:=OG r (ph++[(k,v)]) (by simpa using h);unfold merged at this⊢;rw[tT];show List.foldl _ (stored ph k v) r=_;refine ag e (ag this ?_);simp
theorem OH:∀{ps:List (Int×Int)}{ts:List Nat}{i y:Int},ts.length=ps.length->ps.lookup i=aa y->∃t,valueAt (oJ ps ts) i=aa (.int y t)
 |[],[],i,y,_,h=>by injection h
 |(k,x)::r,t::ts,i,y,hl,h=>by
  rw[pT]at h;by_cases q:i=k
  ·clear hl;subst q;simp only[beq_self_eq_true]at h;obtain rfl:=aB h;exact(bC t (by unfold valueAt;show Iw _ (List.find? _ ((i,.int x t)::oJ r ts))=_;simp))
  ·have:(i==k)=af:=by simpa using q
   rw[this]at h;obtain⟨t',e⟩:=OH (ts:=ts) (by simpa using hl) h;refine⟨t',?_⟩;unfold valueAt at e⊢;show Iw _ (List.find? _ ((k,.int x t)::oJ r ts))=_;rw[TY];have:decide (k=i)=af:=by simpa using λh=>q h.symm
   refine ag this ?_;exact e
set_option tactic.hygienic true in
theorem Zq(L:Lib W T O N)(D4:sN ks vs=aa ps)(h15:ps.length<=15)(h0:0<ps.length)(Jx:(ps.map (·.1)).Nodup)(dY:∀a b p,i≠.Slice a b ac p)(hi:SE W T O N env i mi):
  SE W T O N env (.Subscript (.Dict ks vs dp) i pos) (.dget ps mi):=by
 intro fu A X0 oa X f s d Q aq sr he hQ
 cases fu with
 |zero=>injection he
 |succ fu=>
  simp only[MR]at he
  split at he<;>try contradiction
  rename_i k hk
  refine ai (bO.mp he) λy hy av=>?_;subst av
  refine aF (Zn env dp D4) λsh sl=>?_
  refine Bm dY (wpAny_Dict_pairs (knd:=pY W.prog W.w) sh (by intro q;rw[q]at sl;simp at sl;exact l6 0x2e041380076001 Yt h0 sl) (bp 0x6e89006e89216200 Yt h15 sl) (Zp _ _ _ _ _ D4 λl ts t w9 hl hc=>(kc _ hc ?_ (λh' hd hs=>?_))))
  ·exact⟨_,#[],0,g5 _ rfl,⟨rfl,rfl,rfl⟩,rfl,λe he=>by simp at he,.nil,List.nodup_nil⟩
  ·have hm:merged [] (oJ ps ts)=oJ ps ts:=by
    have:=OG (oJ ps ts) [] (by simpa[OF w9]using Jx);simpa using this
   rw[hm]at hd;have x1:Ext W s {s with heap:=h',toks:=t+l.length}:=Ext.grow L.ok _ λb o e=>(hs.2 b (lK (fK e))).trans (jr _ e);have aY:=sr.ext L.ok x1;refine hi fu A X0 oa X f _ (.int k) _ aq aY hk λv s2 x2 r2=>?_;refine aD r2.int_inv λtk am=>?_;clear r2;subst am;have nT:s.heap.objs.size∉W.T:=λq=>by refine ai (L.ok.tStill _ sr.tb _ q) λo e _=>?_;exact mI _ (fK e)
   have vR:s2.heap.DictOf (pY W.prog W.w) s.heap.objs.size (oJ ps ts):=by obtain⟨o,es,ep,a,b⟩:=hd;exact⟨o,es,ep,x2.keep _ _ nT a,b⟩
   refine aD (OH w9 hy) λty hv=>?_;exact⟨(aO _ NT vR.typeIs),wpAny_getItem_of (k:=k) (by simp[pY,o7]) vR.mapOf hv (hQ _ _ (x1.trans (x2.trans (Ext.tok _))) (.int _ _))⟩
end
end
section
section
variable {W:Wd} {T:Tabs} {O:bn} {N:Nat}
structure Snd(W:Wd)(T:Tabs)(O:bn)(N:Nat)(env:bP)(e:ax)(m:ME):Prop where
 se:SE W T O N env e m
 sb:SB W T O N env e m
 st:jb W T O N env e m
 si:SI W T O N env e m
def OI(m:ME):Bool:=Br m&&(Bt m&&yb m)
theorem Snd.of_se(L:Lib W T O N)(hp:F6 e=ae)(hm:OI m=ae)(h:SE W T O N env e m):Snd W T O N env e m:=aF (eg.mp hm) λa b=>aF (eg.mp b) λb c=>⟨h,qO a h,Bv hp b h,sZ L c h⟩
theorem Zr(L:Lib W T O N)(eo:EnvOk env)(hk:env.kindOf (lh t)=aa .globalImplicit)(hl:SE W T O N env l ml):
  jb W T O N env (.Compare l [if neg then .NotIn else .In] [.Name (lh t) np] pos) (.gIn t neg ml):=by
 intro fu A X0 oa X f s d Q aq sr he hQ
 refine d7 (F2 rfl he) λfu z hz he=>?_;refine k7 (Oc hz) λfu a b ha hb e_=>?_;clear hz;subst e_;obtain rfl:=aB he
 refine ay λcG=>?_
 refine fy (L.tabs.tab t) λv hv h1 _ _=>?_
 apply cG;clear cG
 refine QgF (hl fu A X0 oa X f s a _ aq sr ha λv1 s1 x1 r1=>sX L.ok (sr.ext L.ok x1).bs eo (by cases t<;>decide) hk hv ?_) (by cases neg<;>rfl)
 exact h1 neg A N X s1 v1 a b _ aq (sr.ext L.ok x1).bs hb r1 λs2 x2=>IF (hQ _ (x1.trans x2))
def Zs(e:ax):Prop:=fb e=ae/\s7 e=ae/\∀a b p,e≠.Slice a b ac p
theorem iG(h:br n c e=aa m):fb e=ae/\s7 e=ae/\∀a b p,e≠.Slice a b ac p:=by
 cases n with
 |zero=>injection h
 |succ n=>exact(show Says (br (n+1) c e) (λ_=>Zs e)from by clear h;cases e using wL<;>first|exact io|exact .of λ_ _=>⟨rfl,rfl,λ_ _ _ q=>Expr.noConfusion q⟩).get h
theorem ye(aX:er c env)(eo:EnvOk env)(h:c.glob x=ae):env.kindOf x=aa .globalImplicit :=by
 cases e:c.find x with
 |none=>rw[Cx.glob,e]at h;exact iS h
 |some q=>
  refine ay λcG=>?_
  obtain⟨i,k⟩:=q
  rw[Cx.glob,e]at h
  obtain rfl:k=.globalImplicit :=eq_of_beq h
  refine ai (aX _ _ _ (Cx.find_at e)) λk' h1 h2=>?_
  apply cG;clear cG
  refine bX h2 (λg9=>?_) λfq=>?_
  ·clear h2;subst g9;exact eo.kindAt h1
  ·obtain⟨q,_⟩:=fq;injection q
theorem Gh(aX:er c env)(h:c.find x=aa (i,k)):∃k',env.scope.names[i]?=aa (x,k')/\(k=k'\/(k=.free /\k'=.cell)):=aX _ _ _ (Cx.find_at h)
theorem Gi(eo:EnvOk env){c:Cx}(aX:er c env){sc:mD}{cJ:List (Option Nat)}(gN:pq c sc.names=aa cJ):∀p∈sc.names,p.2=.free ->∃c,env.cells.lookup p.1=aa c:=λp hp hf=>by
 refine ay λcG=>?_;obtain⟨i,hi,e⟩:=pV hp;have e':sc.names[i]?=aa (p.1,p.2):=by simp only[cf hi,e]
 refine cY (((yd gN).2 i p.1 p.2 e').1 hf) λj k0 hj rW qi=>?_;refine ai (aX j _ _ rW) λk2 mP q3=>?_;apply cG;clear cG;refine eo.cellsAll j _ k2 mP ?_;clear mP;rcases q3 with rfl|⟨_,rfl⟩
 ·exact qi
 ·exact .inl rfl
theorem Zt(h:Fj x=aa t):x=lh t:=by
 unfold Fj at h;repeat' split at h
 all_goals first
  |contradiction
  |(obtain rfl:=aB h;rename_i q;exact eq_of_beq q)
theorem OJ(h:AR op=aa b):op=sU b:=by cases op<;>first|contradiction|(obtain rfl:=aB h;rfl)
theorem Zu(h:Mm op=aa b):op=qK b:=by cases op<;>first|contradiction|(obtain rfl:=aB h;rfl)
theorem Zv(h:Mw o a=aa m):(o=.USub /\m=.neg a)\/(o=.Invert /\m=.inv a)\/(o=.Not /\m=.nt a):=by
 cases o<;>cases h
 ·exact .inr (.inl ⟨rfl,rfl⟩)
 ·exact .inr (.inr ⟨rfl,rfl⟩)
 ·exact .inl ⟨rfl,rfl⟩
theorem Zw(h:Mx op=aa b):op=if b then .NotIn else .In :=by cases op<;>first|(cases h;rfl)|injection h
theorem Zx(h:sL x=aa m):OI m=ae:=by
 unfold sL at h;repeat' split at h
 all_goals first
  |contradiction
  |(obtain rfl:=aB h;rfl)
theorem Zy(h:s7 e=ae):TQ op e=af:=by cases e<;>first|rfl|injection h
theorem Gj{f:α->β->γ}(h:(do let x<-a;let y<-b;pure (f x y))=aa c):∃x y,a=aa x/\b=aa y/\c=f x y:=by
 cases a with
 |none=>injection h
 |some x=>cases b with
  |none=>injection h
  |some y=>obtain rfl:=aB h;exact(gO x y rfl rfl rfl)
theorem vx{f:α->β->δ->γ}(h:(do let x<-a;let y<-b;let z<-d;pure (f x y z))=aa c):∃x y z,a=aa x/\b=aa y/\d=aa z/\c=f x y z:=by
 cases a with
 |none=>injection h
 |some x=>cases b with
  |none=>injection h
  |some y=>cases d with
   |none=>injection h
   |some z=>obtain rfl:=aB h;exact(jE x y z rfl rfl rfl rfl)
theorem Zz(h:Fi x=aa g):uZ[g]?=aa x:=by unfold Fi at h;refine ai (List.findIdx?_eq_some_iff_getElem.mp h) λh1 h2 _=>?_;simp only[cf h1,eq_of_beq h2]
theorem Gk(h:AU c e=aa t):∃p,e=.Name (lh t) p/\c.glob (lh t)=ae:=by refine ay λcG=>?_;refine ai (bx.mp h) λaM hv h=>?_;obtain⟨x,p⟩:=aM;refine aF (mY h) λhg h=>?_;obtain rfl:=Zt h;apply cG;clear cG;exact(aO p (sM hv) hg)
section
variable {n:Nat} {c:Cx} {env:bP}
theorem ZA(hx:fO x=ae)(eo:EnvOk env)(L:Lib W T O N)(hi:env.scope.names[i]?=aa (x,k'))(pos:aR):Snd W T O N env (.Name x pos) (.v i):=⟨F3 eo hx hi,YF eo hx hi,Bv rfl rfl (F3 eo hx hi),sZ L rfl (F3 eo hx hi)⟩
set_option tactic.hygienic true in
theorem ZB(L:Lib W T O N)(aX:er c env)(eo:EnvOk env)(h:Fp c x=aa m):Snd W T O N env (.Name x pos) m:=by
 unfold Fp at h;split at h
 ·injection h
 ·rename_i hx;have hx:fO x=ae:=by simpa using hx
  split at h
  ·injection h
  ·rename_i i k q;have lv:m=.v i->Snd W T O N env (.Name x pos) m:=λe=>by
    refine ai (Gh aX q) λk' h1 _=>?_;subst e;exact ZA hx eo L h1 pos
   cases k<;>first
    |exact lv (aB h).symm
    |exact .of_se L rfl (Zx h) (YJ L eo hx (ye aX eo (by unfold Cx.glob;refine ag q ?_;rfl)) h)
    |injection h
theorem ZC(L:Lib W T O N)(aX:er c env)(eo:EnvOk env)(ih:∀e m,br n c e=aa m->Snd W T O N env e m)(h:My c (br n c) l op r=aa m):Snd W T O N env (.Compare l [op] [r] pos) m:=by
 replace h:=po h;rcases h with⟨_,h⟩|⟨t,ht,h⟩;case inr=>
  refine ai (bx.mp h) λneg hn h=>?_
  refine ai (bO.mp h) λml hl av=>?_;subst av
  refine ai (Gk ht) λp am hg=>?_;clear ht;subst am
  refine ag (Zw hn) ?_
  refine(?_:_->_) (ye aX eo hg);intro hk
  refine(?_:_->_) (Y7 L eo (neg:=neg) (np:=p) (pos:=pos) hk (ih _ _ hl).se);intro z
  exact⟨z,qO rfl z,Zr L eo hk (ih _ _ hl).se,sZ L rfl z⟩
 case inl=>
  refine dc (vx h) λco ml mr h1 h2 h3 lX=>?_;clear h;subst lX
  have:=Zu h1;subst this
  have hm:=Zy (op:=qK co) (iG h3).2.1
  refine(?_:_->_) (YM L (pos:=pos) hm (ih _ _ h2).se (ih _ _ h3).sb);intro z
  exact⟨z,qO rfl z,YN L hm (ih _ _ h2).se (ih _ _ h3).sb,sZ L rfl z⟩
theorem ZD(L:Lib W T O N)(aX:er c env)(eo:EnvOk env)(ih:∀e m,br n c e=aa m->Snd W T O N env e m)(h:Mz c (br n c) x args=aa m):Snd W T O N env (.Call (.Name x p) args [] pos) m:=by
 have cv:∀e m,br n c e=aa m->fb e=ae:=λe m h=>(iG h).1;replace h:=mY h;obtain⟨q,h⟩:=h;refine(?_:_->_) (eg.mp q);intro q0;have q1:=eg.mp q0.1;have q:(c.glob x=ae/\fO x=ae)/\args≠[]:=⟨q1,by intro z;rw[z]at q0;exact iS q0.2⟩;have hk:=ye aX eo q.1.1;replace h:=po h;rcases h with⟨_,h⟩|⟨g,hg,h⟩;case inr=>
  obtain⟨a,h1,rfl⟩:=bO.mp h
  exact .of_se L rfl rfl (Y1 L eo cv (Zz hg) q.1.2 hk q.2 h1 λe _ m hm=>(ih e m hm).se)
 replace h:=po h;rcases h with⟨_,h⟩|⟨b,hb,h⟩;case inr=>
  obtain⟨a,h1,rfl⟩:=bO.mp h
  exact .of_se L rfl rfl (Y2 L eo cv hb hk q.2 h1 λe _ m hm=>(ih e m hm).sb)
 by_cases q2:(x=="range")=ae
 ·rw[aw q2]at h;clear q0 q1 left left_1;obtain rfl:=eq_of_beq q2;obtain⟨a,h1,rfl⟩:=bO.mp h;have z:SE W T O N env (.Call (.Name "range" p) args [] pos) (.rng a):=λfu A X0 oa X f s d Q aq sr he hQ=>by cases fu<;>injection he
  exact⟨z,qO rfl z,Bv rfl rfl z,Zf L eo cv hk q.2 h1 λe _ m hm=>(ih e m hm).se⟩
 ·rw[az q2]at h;replace h:=mY h;obtain⟨q2,h⟩:=h;clear q0 q1 left left_1;obtain rfl:=eq_of_beq q2;obtain⟨y,hy,h⟩:=bx.mp h;obtain rfl:=k9 hy;refine ai (bO.mp h) λa h1 av=>?_;subst av;have z:∀args,SE W T O N env (.Call (.Name "reversed" p) args [] pos) (.rvd a):=λ_ fu A X0 oa X f s d Q aq sr he hQ=>by cases fu<;>injection he
  exact⟨z _,qO rfl (z _),Bv rfl rfl (z _),Zg L eo cv hk h1 (ih _ _ h1).se⟩
theorem ZE(L:Lib W T O N)(aX:er c env)(eo:EnvOk env)(ih:∀e m,br n c e=aa m->Snd W T O N env e m){args:List ax}(q1:(ap.endLine==pos.line)=ae)(q2:u8 o=ae)(q3:args.length<20)(h:MA c (br n c) o x args=aa m):Snd W T O N env (.Call (.Attribute o x ap) args [] pos) m:=by
 have cv:∀e m,br n c e=aa m->fb e=ae:=λe m h=>(iG h).1;replace h:=po h;rcases h with⟨_,h⟩|⟨t,ht,h⟩
 ·refine dc (vx h) λo a b h1 h2 h3 lX=>?_;clear h;subst lX;exact .of_se L rfl rfl (Y3 L cv h1 q1 q2 q3 (ih _ _ h2).se h3 λe _ m hm=>(ih e m hm).se)
 ·refine aF (mY ht) λhx ht=>?_;obtain rfl:=eq_of_beq hx;refine ai (bx.mp h) λy hy h=>?_;clear q3;obtain rfl:=k9 hy;refine ai (bO.mp h) λa h2 av=>?_;subst av;refine ai (Gk ht) λp am hg=>?_;subst am;exact .of_se L rfl rfl (Y9 L eo cv q1 (ye aX eo hg) h2 (ih _ _ h2).se)
theorem ZF(L:Lib W T O N)(aX:er c env)(eo:EnvOk env)(ih:∀e m,br n c e=aa m->Snd W T O N env e m)(h:MC c (br n c) o i=aa m):Snd W T O N env (.Subscript o i pos) m:=by
 replace h:=po h;rcases h with⟨_,h⟩|⟨⟨ks,vs,p⟩,hv,h⟩;case inr=>
  refine ag (Wl hv) ?_
  refine ai (bx.mp h) λps D4 h=>?_
  replace h:=mY h
  refine aF h λq h=>?_
  refine(?_:_->_) (eg.mp q);intro q
  have q1:=eg.mp q.1
  refine ai (bO.mp h) λmi hi av=>?_;subst av
  exact .of_se L rfl rfl (Zq L D4 (of_decide_eq_true q1.1) (of_decide_eq_true q1.2) (of_decide_eq_true q.2) (iG hi).2.2 (ih _ _ hi).se)
 replace h:=po h;rcases h with⟨_,h⟩|⟨⟨lo,hi,st,p⟩,hv,h⟩;case inr=>
  refine ag (Wm hv) ?_
  replace h:=po h
  rcases h with⟨cv,h⟩|⟨e,cv,h⟩
  ·refine dc (vx h) λa b d h1 h2 h3 lX=>?_;subst lX;have z:∀{x:Option ax}{y:ME},Fq (br n c) x=aa y->(x=ac/\y=.kn)\/∃e,x=aa e/\SE W T O N env e y:=λ{x y} q=>by
    cases x with
    |none=>exact .inl ⟨rfl,(aB q).symm⟩
    |some e=>exact .inr (aO e rfl ((ih _ _ q).se))
   refine ag (show st=ac from cv) ?_;exact .of_se L rfl rfl (Y5 L (ih _ _ h1).se (z h2) (z h3))
  ·refine ay λcG=>?_;refine aF (mY h) λq h=>?_;have q:=eg.mp q;have q1:=eg.mp q.1;refine ai (bO.mp (eq_of_beq q.2)) λaM h3 h4=>?_;obtain⟨k,a,p,p'⟩:=aM;refine ai (bO.mp h) λa h1 av=>?_;subst av;have h4:k=1:=h4;apply cG;clear cG;refine ag (show st=aa e from cv) (ag (show lo=ac from QgN.mp q1.1) (ag (show hi=ac from QgN.mp q1.2) (ag (Mv h3) (ag h4 ?_))));exact .of_se L rfl rfl (Y6 L (ih _ _ h1).se)
 replace h:=po h;rcases h with⟨_,h⟩|⟨t,ht,h⟩
 ·refine cY (Gj h) λa b h1 h2 fM=>?_;subst fM;exact .of_se L rfl rfl (Y4 L (iG h2).2.2 (ih _ _ h1).sb (ih _ _ h2).se)
 ·refine ai (bO.mp h) λa h2 av=>?_;subst av;refine ai (Gk ht) λp am hg=>?_;clear left ht;subst am;exact .of_se L rfl rfl (Y8 L eo (iG h2).2.2 (ye aX eo hg) (ih _ _ h2).se)
end
theorem OK{tr:Cx->ax->Option ME}(h:MD tr c cK g sc=aa m):
  ∃t px cJ ti me mi,g=⟨.Name t px,g.iter,[],0⟩/\mZ sc=ae/\pq c sc.names=aa cJ/\sc.names[ti]?=aa (t,.local)/\tr {names:=sc.names,own:=[],comp:=ae} cK=aa me/\tr c g.iter=aa mi/\m=.comp cJ ti me mi []:=by
 refine ay λcG=>?_
 refine aF (pS.mp h) λq h=>?_
 refine ai (bx.mp h) λaM ht h=>?_;obtain⟨t,px⟩:=aM
 refine ai (bx.mp h) λcJ hs h=>?_
 refine ai (bx.mp h) λaM jx h=>?_;obtain⟨ti,kd⟩:=aM
 refine aF (pS.mp h) λhk h=>?_
 refine cY (Gj h) λme mi h1 h2 fM=>?_;subst fM
 refine(?_:_->_) (eg.mp q);intro q
 refine(?_:_->_) (eg.mp q.1);intro q1
 apply cG;clear cG
 refine⟨t,px,cJ,ti,me,mi,?_,q.2,hs,(show kd=.local from eq_of_beq hk)▸Cx.find_at jx,h1,h2,rfl⟩
 obtain⟨t',it,ifs,as⟩:=g
 have e1:ifs=[]:=nO.mp q1.1
 have e2:as=0:=eq_of_beq q1.2
 have e3:t'=.Name t px:=sM ht
 exact ag e1 (ag e2 (ag e3 rfl))
theorem li(L:Lib W T O N):∀(n:Nat)(c:Cx)(env:bP)(e:ax)(m:ME),er c env->EnvOk env->br n c e=aa m->Snd W T O N env e m
 |0,_,_,_,_,_,_,h=>by injection h
 |n+1,c,env,e,m,aX,eo,h=>by
  have ih:=λe m(h:br n c e=aa m)=>li L n c env e m aX eo h;have cv:∀e m,br n c e=aa m->fb e=ae:=λe m h=>(iG h).1;refine(show Says (br (n+1) c e) (λm=>Snd W T O N env e m)from ?_).get h;clear h m;cases e with
  |Constant k a p=>
   cases k with
   |none=>exact(.of_se L rfl rfl YG:Snd W T O N env _ _)
   |bool b=>exact(.of_se L rfl rfl YH:Snd W T O N env _ _)
   |int i=>exact(.of_se L rfl rfl Oh:Snd W T O N env _ _)
   |str x=>
    refine .of λm(h:(if x.length<=1000 then aa (.ks (AQ x))else ac)=aa m)=>?_
    split at h
    ·obtain rfl:=aB h;exact .of_se L rfl rfl (YI (by assumption))
    ·injection h
   |_=>exact io
  |Name x p=>exact .of λm h=>ZB L aX eo h
  |BinOp l op r p=>
   refine .of λm h=>?_
   refine dc (vx h) λo a b h1 h2 h3 lX=>?_;subst lX
   have:=OJ h1;clear h1;subst this
   exact .of_se L rfl rfl (F5 L (ih _ _ h2).se (ih _ _ h3).se)
  |UnaryOp o x p=>
   refine .of λm h=>?_
   refine ai (bx.mp h) λa h1 h2=>?_
   rcases Zv h2 with⟨rfl,rfl⟩|⟨rfl,rfl⟩|⟨rfl,rfl⟩
   ·exact .of_se L rfl rfl (YK (ih _ _ h1).se)
   ·exact .of_se L rfl rfl (YL (ih _ _ h1).se)
   ·have z:SE W T O N env (.UnaryOp .Not x p) (.nt a):=λfu A X0 oa X f s d Q aq sr he hQ=>by(cases fu<;>injection he)
    exact⟨z,qO rfl z,YQ (ih _ _ h1).st,sZ L rfl z⟩
  |IfExp t x y p=>
   refine .of λm h=>?_
   refine dc (vx h) λa b d h1 h2 h3 lX=>?_;subst lX
   have z:=YO L (ih _ _ h1).st (ih _ _ h2).se (ih _ _ h3).se (pos:=p)
   exact⟨z,qO rfl z,λfu A X0 oa X f s d Q aq sr he hQ=>by(cases fu<;>injection he),sZ L rfl z⟩
  |BoolOp o es p=>
   refine .of λm h=>?_
   refine ai (bO.mp h) λa h1 av=>?_;subst av
   have z:SE W T O N env (.BoolOp o es p) (.bop (Fs o) a):=λfu A X0 oa X f s d Q aq sr he hQ=>by(cases fu<;>injection he)
   refine⟨z,qO rfl z,?_,sZ L rfl z⟩
   cases o with
   |And=>exact YR L h1 λe _ m hm=>(ih e m hm).st
   |Or=>exact YS L h1 λe _ m hm=>(ih e m hm).st
  |Tuple es k p=>
   refine .of λm(h:(if es.length<1000 then(ct (br n c) es).map .tup else ac)=aa m)=>?_
   split at h
   ·refine ai (bO.mp h) λa h1 av=>?_;subst av;exact .of_se L rfl rfl (YZ L cv h1 (by assumption) λe _ m hm=>(ih e m hm).se)
   ·injection h
  |List es p=>
   refine .of λm(h:(if es.length<1000 then(ct (br n c) es).map .lst else ac)=aa m)=>?_
   split at h
   ·refine ay λcG=>?_;refine ai (bO.mp h) λa h1 av=>?_;subst av;apply cG;clear cG;exact .of_se L rfl rfl (Oq L cv h1 (by assumption) λe _ m hm=>(ih e m hm).se)
   ·injection h
  |Compare l ops rs p=>
   refine .of λm h=>?_
   refine ay λcG=>?_
   refine ai (bx.mp h) λop h1 h=>?_
   refine ai (bx.mp h) λr h2 h=>?_
   apply cG;clear cG
   simp only[k9 h1,k9 h2]
   exact ZC L aX eo ih h
  |Call f args uk p=>
   refine .of λm(h:(if uk.isEmpty then MB c (br n c) f args p else ac)=aa m)=>?_
   refine aF (mY h) λhk h=>?_
   refine ag (nO.mp hk) ?_
   replace h:=po h
   rcases h with⟨_,h⟩|⟨⟨x,px⟩,hv,h⟩
   ·refine ay λcG=>?_;refine ai (bx.mp h) λaM hv h=>?_;obtain⟨o,x,ap⟩:=aM;apply cG;clear cG;refine ag (Fn hv) ?_;replace h:=mY h;refine aF h λq h=>?_;have q:=eg.mp q;have q1:=eg.mp q.1;exact ZE L aX eo ih q1.1 q1.2 (of_decide_eq_true q.2) h
   ·refine ag (sM hv) ?_;exact ZD L aX eo ih h
  |Subscript o i p=>exact .of λm h=>ZF L aX eo ih h
  |ListComp cK gens sc p=>
   refine .of λm h=>?_
   refine ay λcG=>?_
   refine ai (bx.mp h) λg h0 h=>?_
   refine Kv (OK h) λt px cJ ti me mi hg fE gN jx h1 h2 Jy=>?_;subst Jy
   apply cG;clear cG
   refine ag (k9 h0) (ag hg ?_)
   exact .of_se L rfl rfl (OE L eo aX gN fE jx (iG h2).2.1 (λC=>(li L n _ _ _ _ (λi x k hk=>Ge hk) (Gf eo fE (Gi eo aX gN)) h1).se) (ih _ _ h2).si)
  |_=>exact io
end
end
section
section
variable {W:Wd} {T:Tabs} {O:bn} {N:Nat} {env:bP} {X0:List au} {oa:Nat->au} {X:List au} {f:Frm}
theorem ZG(eo:EnvOk env){i j:Nat}{x y:ar}{k k':dR}(h:env.scope.names[i]?=aa (x,k))(h':env.scope.names[j]?=aa (y,k'))(n:i≠j):y≠x:=λq=>n (Be eo.nodup h (q▸h'))
theorem SR.ownNew(k:W.Ok)(eo:EnvOk env)(r:SR W X0 env oa X s.heap f)(x:Ext W s aS){a:au}(ha:s.heap.get? a=ac){i:Nat}{nm:ar}(hi:env.scope.names[i]?=aa (nm,.local))
  (g7:∀m,aS.heap.Ns env.locals m->h'.Ns env.locals λy=>if y=nm then aa (.ref a)else m y) (hs:mF env.locals aS.heap h') {n:Nat} {vs:List ao} {xs:List an}
  (hl:aS.heap.get? a=aa {cls:=.type "list",data:=.seq vs.toArray n}) (hz:vs.length<=cz) (hr:∀g,RepL g vs xs):SR W X0 env (λj=>if j=i then a else oa j) (a::X) h' (f.put i (.own xs)):=by
 refine(?_:_->_) (r.ext k x);intro r1
 refine ai r.vars λm hn hv=>?_
 have dY:aS.heap.Ns env.locals m:=by have:=Bf k r.tb hn;obtain⟨o,es,n,a,b,c⟩:=hn;exact⟨o,es,n,x.keep _ _ this a,b,c⟩
 refine(?_:_->_) (g7 m dY);intro uC
 have M:MutOk W X0 X env.locals aS.heap h':=⟨hs,r.loc.1,r.loc.2,BB dY,by obtain⟨o,_,_,e,_⟩:=uC;exact(bC o e)⟩
 have zS:∀{b o},s.heap.get? b=aa o->b≠a:=λe q=>by rw[q,ha]at e;injection e
 have UO:env.locals≠a:=by obtain⟨o,_,_,e,_⟩:=hn;exact zS e
 have hm:∀b o,aJ X s.heap b=aa o->aJ (a::X) h' b=aa o:=λb o e=>by
  refine aF (cb.mp e) λn1 e1=>?_;refine cb.mpr ⟨λq=>?_,(hs.2 b λq=>n1 (q▸r.loc.1)).trans (x.keep b o (λq=>n1 (r.tXX b q)) e1)⟩;refine bX (cB.mp q) (λq=>?_) λq=>?_
  ·exact zS e1 q
  ·exact n1 q
 have mQ:∀c v,s.heap.IsCell c v->h'.IsCell c v:=λc v i=>by refine(?_:_->_) (sT x.keep (oH k r.tb i) i);intro i1;exact i1.sameBut hs (x0 dY i1)
 refine⟨M.bs k r1.bs,M.tb k r1.tb,r.tX,λb hb=>eh _ (r.sub b hb),λb hb=>?_,⟨eh _ r.loc.1,r.loc.2⟩,λy c e=>?_,(aO _ uC (λj y kd e=>?_)),λp q lS ys hp hq n7=>?_,(tS ..).trans r.len⟩
 ·refine bX (cB.mp hb) (λg9=>?_) λhb=>?_
  ·clear ha g7 uC zS hm hb;subst g9;exact(bC _ ((hs.2 _ (ju UO)).trans hl))
  ·exact M.alive r1 b hb
 ·refine ay λcG=>?_;obtain⟨p,v,q⟩:=r.cellI y c e;apply cG;clear cG;exact⟨eh _ p,v,mQ c v q⟩
 ·simp only[km];by_cases ch:i=j
  ·subst ch;rw[hi]at e;obtain⟨rfl,rfl⟩:=dx (aB e);rw[aw rfl];by_cases bK:i<f.length
   ·rw[aw bK];refine(?_:((λj=>if j=i then a else oa j) i=a)->_) (by simp);intro ei;unfold VarOk;refine ag ei ?_;exact⟨rfl,by simp,fD,⟨λq=>r.ltX' _ ha (r.sub _ q),k.fresh r.bs ha⟩,n,vs,(hs.2 _ (ju UO)).trans hl,hz,hr _⟩
   ·rw[az bK];trivial
  ·simp only[az ch];have rX:=ZG eo hi e ch;have v:=hv j y kd e;revert v;generalize Jl:f[j]?=fv;intro v;cases fv with
   |none=>trivial
   |some fv=>cases fv with
    |un=>trivial
    |val d=>
     refine ay λcG=>?_;obtain⟨v,b,q⟩:=v;apply cG;clear cG;refine⟨v,?_,q.mono hm⟩;unfold oE at b⊢;cases kd with
     |«local»=>simp only[rX,if_false];exact b
     |cell=>obtain⟨c,e,i⟩:=b;exact⟨c,e,mQ c _ i⟩
     |free=>obtain⟨c,e,i⟩:=b;exact⟨c,e,mQ c _ i⟩
     |_=>exact b
    |own ys=>
     refine ay λcG=>?_;obtain⟨b1,b2,b3,b4,n',iw,e1,e5,e6⟩:=v;have hji:j≠i:=ju ch;have oj:oa j≠a:=zS e1;have ei:(λj=>if j=i then a else oa j) j=oa j:=by simp[hji]
     apply cG;clear cG;unfold VarOk;refine ag ei ?_;have e2:=x.keep _ _ (qG k r.tb e1 rfl) e1;exact⟨b1,by simp only[rX,if_false];exact b2,eh _ b3,b4,n',iw,(hs.2 _ (Bg dY e2 rfl)).trans e2,e5,e6.mono hm⟩
 ·have n5:∀j ys,f[j]?=aa (.own ys)->oa j≠a:=λj ys e q=>by
   have zT:j<env.scope.names.length:=by refine a8 r.len ?_;exact(mH.mp e).1
   have v:=hv j _ _ (cf zT);rw[e]at v;obtain⟨_,_,_,_,_,_,e1,_⟩:=v;exact zS e1 q
  rw[km]at hp hq;by_cases h1:i=p
  ·clear hp;subst h1;rw[az n7]at hq;show(if i=i then a else oa i)≠(if q=i then a else oa q);rw[aw rfl,az (ju n7)];exact(n5 q ys hq).symm
  ·rw[az h1]at hp;by_cases h2:i=q
   ·clear hq n7;subst h2;show(if p=i then a else oa p)≠(if i=i then a else oa i);rw[az (ju h1),aw rfl];exact n5 p lS hp
   ·rw[az h2]at hq;show(if p=i then a else oa p)≠(if q=i then a else oa q);rw[az (ju h1),az (ju h2)];exact r.ownA p q lS ys hp hq n7
end
end
section
section
variable {W:Wd} {T:Tabs} {O:bn} {N:Nat} {env:bP} {X0:List au} {oa:Nat->au} {X:List au} {f:Frm}
theorem SR.inRange(r:SR W X0 env oa X h f){i:Nat}{v:FV}(e:f[i]?=aa v):∃x kd,env.scope.names[i]?=aa (x,kd):=by
 have hj:i<env.scope.names.length:=by simp only[<-r.len];exact(mH.mp e).1
 exact⟨_,_,cf hj⟩
theorem SR.ownAt(r:SR W X0 env oa X h f){i:Nat}{xs:List an}(e:f[i]?=aa (.own xs)):∃x m,env.scope.names[i]?=aa (x,.local)/\h.Ns env.locals m/\m x=aa (.ref (oa i))/\oa i∈X/\(oa i∉X0/\¬W.Base (oa i))/\
  ∃(n:Nat)(vs:List ao),h.get? (oa i)=aa {cls:=.type "list",data:=.seq vs.toArray n}/\vs.length<=cz/\RepL (aJ X h) vs xs:=by
 refine ay λcG=>?_
 refine fi (r.inRange e) λx kd hi=>?_
 refine ai r.vars λm hn hv=>?_
 have v:=hv i x kd hi
 simp only[e]at v
 obtain⟨rfl,a,b,c,n,vs,d⟩:=v
 apply cG;clear cG
 exact⟨x,m,hi,hn,a,b,c,n,vs,d⟩
theorem SR.freeze(r:SR W X0 env oa X h f)(e:f[i]?=aa (.own xs)):SR W X0 env oa (X.filter (· ≠oa i)) h (f.put i (.val (.list xs))):=by
 refine ay λcG=>?_;obtain⟨x,m,hi,hn,hmx,hX,⟨h0,hb⟩,n,vs,hl,hz,hr⟩:=r.ownAt e;refine ai r.vars λm' g7 hv=>?_;have Jz:m' x=aa (.ref (oa i)):=by have v:=hv i x .local hi;simp only[e]at v;obtain⟨_,a,_⟩:=v;exact a
 have mem:∀a,a∈X->a≠oa i->a∈X.filter (· ≠oa i):=λa q n=>oZ.mpr ⟨q,by simpa using n⟩;have less:=FR (h:=h) (X:=X.filter (· ≠oa i)) (X':=X) λa q=>(oZ.mp q).1;have JA:env.locals≠oa i:=λq=>Bg g7 hl rfl q.symm;apply cG;clear cG;refine⟨r.bs,r.tb,r.tX,λa ha=>mem a (r.sub a ha) λq=>h0 (q▸ha),λa ha=>r.alX a (oZ.mp ha).1,⟨mem _ r.loc.1 JA,r.loc.2⟩,λy c ec=>?_,(aO m' g7 (λj y kd ej=>?_)),λp q lS ys hp hq n7=>?_,(tS ..).trans r.len⟩
 ·obtain⟨p,v,q⟩:=r.cellI y c ec;exact⟨mem c p λz=>by clear ec p;subst z;exact vk q hl rfl rfl,v,q⟩
 ·simp only[km];by_cases ch:i=j
  ·subst ch;rw[hi]at ej;obtain⟨rfl,rfl⟩:=dx (aB ej);rw[aw rfl];split
   ·exact⟨_,Jz,Rep.mkList (cb.mpr ⟨λq=>by simp at q,hl⟩) hz (hr.mono less)⟩
   ·trivial
  ·rw[az ch];have v:=hv j y kd ej;revert v;generalize Jl:f[j]?=fv;intro v;cases fv with
   |none=>trivial
   |some fv=>cases fv with
    |un=>trivial
    |val d=>obtain⟨v,b,q⟩:=v;exact⟨v,b,q.mono less⟩
    |own ys=>refine ay λcG=>?_;obtain⟨b1,b2,b3,b4,n',iw,e1,e5,e6⟩:=v;apply cG;clear cG;exact⟨b1,b2,mem _ b3 (r.ownA j i ys xs Jl e (ju ch)),b4,n',iw,e1,e5,e6.mono less⟩
 ·rw[km]at hp hq;by_cases h1:i=p
  ·rw[aw h1]at hp;split at hp<;>cases hp
  ·by_cases h2:i=q
   ·rw[aw h2]at hq;split at hq<;>cases hq
   ·rw[az h1]at hp;rw[az h2]at hq;exact r.ownA p q lS ys hp hq n7
theorem SR.mutOwn(k:W.Ok)(r:SR W X0 env oa X h f)(e:f[i]?=aa (.own xs))(hs:mF (oa i) h h')
  (mR:h'.get? (oa i)=aa {cls:=.type "list",data:=.seq iw.toArray n'}) (qj:iw.length<=cz) (qo:RepL (aJ X h) iw lS):SR W X0 env oa X h' (f.put i (.own lS)):=by
 refine ay λcG=>?_
 obtain⟨x,m,hi,hn,hmx,hX,hb,n,vs,hl,hz,hr⟩:=r.ownAt e
 refine ai r.vars λm' g7 hv=>?_
 have Jz:m' x=aa (.ref (oa i)):=by have v:=hv i x .local hi;simp only[e]at v;obtain⟨_,a,_⟩:=v;exact a
 have JA:env.locals≠oa i:=λq=>Bg g7 hl rfl q.symm
 have M:MutOk W X0 X (oa i) h h':=⟨hs,hX,hb,λo eo=>(OB hl rfl o eo).1,(bC _ mR)⟩
 have dY:=g7.sameBut hs JA
 apply cG;clear cG
 refine⟨M.bs k r.bs,M.tb k r.tb,r.tX,r.sub,M.alive r,r.loc,λy c ec=>?_,(aO m' dY (λj y kd ej=>?_)),λp q xa ys hp hq n7=>?_,(tS ..).trans r.len⟩
 ·refine ay λcG=>?_;obtain⟨p,v,q⟩:=r.cellI y c ec;apply cG;clear cG;exact⟨p,v,q.sameBut hs λz=>by clear ec p;subst z;exact vk q hl rfl rfl⟩
 ·simp only[km];by_cases ch:i=j
  ·subst ch;rw[hi]at ej;obtain⟨rfl,rfl⟩:=dx (aB ej);rw[aw rfl];split
   ·exact⟨rfl,Jz,hX,hb,n',iw,mR,qj,qo.mono (qH hs hX)⟩
   ·trivial
  ·rw[az ch];exact(hv j y kd ej).mut hs hX (λc v _ q z=>by subst z;exact vk q hl rfl rfl) λys q=>r.ownA j i ys xs q e (ju ch)
 ·rw[km]at hp hq;by_cases h1:i=p
  ·clear hp;subst h1;rw[az n7]at hq;exact r.ownA i q xs ys e hq n7
  ·rw[az h1]at hp;by_cases h2:i=q
   ·clear hq;subst h2;exact r.ownA p i xa xs hp e n7
   ·rw[az h2]at hq;exact r.ownA p q xa ys hp hq n7
theorem yf(k:W.Ok)(eo:EnvOk env)(cm:CellsMine W X0 env)(hi:env.scope.names[i]?=aa (x,kd))(iu:kd=.local \/kd=.cell)(sr:SR W X0 env oa X s.heap f)
  (rp:Rep (aJ X s.heap) v d) (hQ:∀s',Stp W X0 X X s s'->SR W X0 env oa X s'.heap (f.put i (.val d))->Q () s'):aI (aP W.prog W.w) A (DG env x v) Q E s:=by
 refine ay λcG=>?_
 refine ai sr.vars λm hn hv=>?_
 have hk:=eo.kindAt hi
 apply cG;clear cG
 rcases iu with rfl|rfl
 ·exact TV hk hn (λh' g7 lW=>hQ _ (Stp.mut _ lW sr.loc.1 sr.loc.2.1) (sr.storeLocal k eo hn hv hi g7 lW rp)) (by refine ag eo.kind ?_;rfl)
 ·refine ay λcG=>?_;refine aD (eo.cellsAll i x _ hi (.inl rfl)) λc hc=>?_;obtain⟨lQ,v0,iV⟩:=sr.cellI x c hc;apply cG;clear cG;exact TZ eo.kind hk hc iV λh' rY lW=>hQ _ (Stp.mut _ lW lQ (cm.mine x c hk hc).1) (sr.storeCell k eo cm hn hv hi hc iV rY lW rp)
theorem Stp.maskK(x:Stp W X0 X X s s'):∀a o,aJ X s.heap a=aa o->aJ X s'.heap a=aa o:=λa o e=>by obtain⟨n,e⟩:=cb.mp e;exact cb.mpr ⟨n,x.keep a o n e⟩
inductive Tgts(W:Wd)(A:dK)(E:ao->aE->Prop)(env:bP):List (ao->cg Unit)->List Nat->Prop
 |nil:Tgts W A E env [] []
 |cons {st x i kd xb is}:env.scope.names[i]?=aa (x,kd)->kd=.local \/kd=.cell ->(∀(v:ao)(s:aE)(Q:Unit->aE->Prop),aI (aP W.prog W.w) A (DG env x v) Q E s->aI (aP W.prog W.w) A (st v) Q E s)->
   Tgts W A E env xb is->Tgts W A E env (st::xb) (i::is)
theorem Gl(k:W.Ok)(eo:EnvOk env)(cm:CellsMine W X0 env):
  ∀{xb:List (ao->cg Unit)}{is:List Nat}(_:Tgts W A E env xb is)(vs:List ao)(ds:List an)(f:Frm)(s:aE)(Q:Unit->aE->Prop)(f':Frm),RepL (aJ X s.heap) vs ds->eC f is ds=aa f'->SR W X0 env oa X s.heap f->
   (∀s',Stp W X0 X X s s'->SR W X0 env oa X s'.heap f'->Q () s')->aI (aP W.prog W.w) A (assignInOrder xb vs) Q E s:=by
 intro xb is ht
 induction ht with
 |nil=>
  intro vs ds f s Q f' hr hp sr hQ
  cases hr with
  |nil=>obtain rfl:=aB hp;exact dW (hQ s (Stp.refl ..) sr)
  |cons _ _=>injection hp
 |cons hi iu cv _ ih=>
  intro vs ds f s Q f' hr hp sr hQ
  cases hr with
  |nil=>injection hp
  |cons hv hr=>
   refine wpAny_assignInOrder_more (cv _ _ _ (yf k eo cm hi iu sr hv λs1 x1 aY=>?_))
   exact ih _ _ _ s1 Q f' (hr.mono x1.maskK) hp aY λs2 x2 bU=>hQ s2 (x1.trans x2) bU
theorem Tgts.rev(t:Tgts W A E env xs is):Tgts W A E env xs.reverse is.reverse:=by
 have app:∀{a b:List (ao->cg Unit)}{c d:List Nat},Tgts W A E env a c->Tgts W A E env b d->Tgts W A E env (a++b) (c++d):=λh1 h2=>by
  induction h1 with
  |nil=>exact h2
  |cons a b c _ ih=>exact .cons a b c ih
 induction t with
 |nil=>exact .nil
 |cons a b c _ ih=>simp only[wx,wx];exact app ih (.cons a b c .nil)
theorem Gm:∀{is:List Nat}{ds:List an}{f f':Frm},eC f is ds=aa f'->is.length=ds.length
 |[],[],_,_,_=>rfl
 |[],_::_,_,_,h=>by injection h
 |_::_,[],_,_,h=>by injection h
 |_::is,_::ds,f,f',h=>congrArg kN (Gm (is:=is) (ds:=ds) h)
theorem OL:∀{is:List Nat}{ds:List an}{i:Nat}{d:an}{f:Frm},is.length=ds.length->eC f (is++[i]) (ds++[d])=(eC f is ds).map λg=>g.put i (.val d)
 |[],[],i,d,f,_=>rfl
 |[],_::_,_,_,_,h=>by injection h
 |_::_,[],_,_,_,h=>by injection h
 |j::is,e::ds,i,d,f,h=>OL (f:=f.put j (.val e)) (Dq h)
theorem OM:∀{is:List Nat}{ds:List an}{i:Nat}{d:an}{f:Frm},i∉is->eC (f.put i (.val d)) is ds=(eC f is ds).map λg=>g.put i (.val d)
 |[],[],i,d,f,_=>rfl
 |[],_::_,_,_,_,_=>rfl
 |_::_,[],_,_,_,_=>rfl
 |j::is,e::ds,i,d,f,h=>by
  simp only[cB,not_or]at h;show eC ((f.put i (.val d)).put j (.val e)) is ds=(eC (f.put j (.val e)) is ds).map _;have:(f.put i (.val d)).put j (.val e)=(f.put j (.val e)).put i (.val d):=by unfold Frm.put;exact List.set_comm _ _ h.1
  refine ag this ?_;exact OM h.2
theorem ON:∀{is:List Nat}{ds:List an}{f:Frm},is.Nodup->is.length=ds.length->eC f is.reverse ds.reverse=eC f is ds
 |[],[],f,_,_=>rfl
 |[],_::_,_,_,h=>by injection h
 |_::_,[],_,_,h=>by injection h
 |i::is,d::ds,f,hn,hl=>by have g7:=rC.mp hn;rw[wx,wx,OL (by simpa using hl),ON g7.2 (by simpa using hl)];exact(OM g7.1).symm
end
end
section
section
variable {W:Wd} {T:Tabs} {O:bn} {N Wf:Nat} {env:bP}
inductive FlOk(X:List au)(h:cC):Fl->kQ->Prop
 |next:FlOk X h .next .next
 |brk:FlOk X h .brk .brk
 |ret {v d}:Rep (aJ X h) v d->FlOk X h (.ret d) (.ret v)
abbrev CS(W:Wd)(T:Tabs)(O:bn)(N Wf:Nat)(env:bP)(st:dF)(ms:MS):Prop:=
 ∀(fu:Nat)(A:dK)(X0:List au)(oa:Nat->au)(X:List au)(f:Frm)(s:aE)(fl:Fl)(f':Frm)(Q:kQ->aE->Prop),AOk A N->CellsMine W X0 env->SR W X0 env oa X s.heap f->
  bJ T O Wf fu ms f=aa (fl,f')->(∀eN X' s' dT,Stp W X0 X X' s s'->SR W X0 env eN X' s'.heap f'->FlOk X' s'.heap fl dT->Q dT s')->aI (aP W.prog W.w) A (exec st env) Q bg s
noncomputable def Gn:ax->Bool
 | .ListComp .. | .SetComp .. | .DictComp .. =>af
 |_=>ae
theorem vy(h:Gn e=ae)(t:Option ax)(l:Nat)(env:bP):zn e t l env=pure af:=by cases e<;>first|rfl|injection h
theorem OO(L:Lib W T O N)(eo:EnvOk env)(hs:zn e (aa (.Name x tp)) pos.line env=pure af)(hi:env.scope.names[i]?=aa (x,kd))(iu:kd=.local \/kd=.cell)(he:SE W T O N env e m):
  CS W T O N Wf env (.Assign [.Name x tp] e pos) (.asg i m):=by
 intro fu A X0 oa X f s fl f' Q aq cm sr bG hQ
 refine ay λcG=>?_
 refine l4 (Oe bG) λd hd am av=>?_;subst am;subst av
 apply cG;clear cG
 refine T0 (he 40 A X0 oa X f s d _ aq sr hd λv s1 x1 r1=>?_) hs
 exact yf L.ok eo cm hi iu (sr.ext L.ok x1) r1 λs2 x2 bU=>hQ oa X s2 .next ((x1.stp sr.tXX).trans x2) bU .next
theorem CellsMine.hide(cm:CellsMine W X0 env)(h:∀x c,env.cells.lookup x=aa c->c≠I):CellsMine W (I::X0) env:=
 ⟨λx c hk hc=>⟨λq=>by
  rcases cB.mp q with q|q
  ·exact h x c hc q
  ·exact(cm.mine x c hk hc).1 q,(cm.mine x c hk hc).2⟩,cm.apart⟩
theorem SR.cellNe(r:SR W X0 env oa X h f)(hI:h.get? I=ac):∀x c,env.cells.lookup x=aa c->c≠I:=λx c e q=>by obtain⟨_,v,o,e1,_⟩:=r.cellI x c e;simp only[q,hI]at e1;injection e1
theorem Stp.unhide(x1:Stp W X0 X X s s1)(hI:s.heap.get? I=ac)(x2:Stp W (I::X0) (I::X) X' s1 s2)(x3:∃h tk,s3={s2 with heap:=h,toks:=tk}/\∀b o,b≠I->s2.heap.get? b=aa o->h.get? b=aa o):
  Stp W X0 X (X'.filter (· ≠I)) s s3:=by
 refine ay λcG=>?_
 obtain⟨⟨h1,t1,rfl⟩,k1,z1,n1⟩:=x1
 obtain⟨⟨h2,t2,rfl⟩,k2,z2,n2⟩:=x2
 refine d7 x3 λh3 t3 av k3=>?_;subst av
 have ne:∀{b o},s.heap.get? b=aa o->b≠I:=λe q=>by rw[q,hI]at e;injection e
 apply cG;clear cG
 refine⟨(eR h3 t3 rfl),λb o n e=>?_,λb o i n e=>?_,λa ha=>?_⟩
 ·exact k3 b o (ne e) (k2 b o (λq=>by rcases cB.mp q with q|q;exact ne e q;exact n q) (k1 b o n e))
 ·exact k3 b o (ne e) (z2 b o (eh _ i) n (z1 b o i n e))
 ·refine aF (oZ.mp ha) λp q=>?_;refine(?_:(a≠I)->_) (by simpa using q);intro q;rcases n2 a p with r|r
  ·rcases cB.mp r with r|r
   ·exact absurd r q
   ·exact .inl r
  ·by_cases qX:a∈X
   ·exact .inl qX
   ·refine .inr ?_;cases e:s.heap.get? a with
    |none=>rfl
    |some o=>rw[k1 a o qX e]at r;injection r
theorem ZH{h:cC}{a:au}{m:ar->Option ao}(x:h.Ns a m):∀o,h.get? a=aa o->¬na o/\(∀v,o.data≠.cell v)/\∀vs n,o.data≠.seq vs n:=λo e=>by
 refine⟨BB x o e,λv q=>?_,λvs n q=>?_⟩
 ·obtain⟨o',_,_,e',d',_⟩:=x;rw[e]at e';obtain rfl:=aB e';rw[q]at d';injection d'
 ·obtain⟨o',_,_,e',d',_⟩:=x;rw[e]at e';obtain rfl:=aB e';rw[q]at d';injection d'
theorem ZI(L:Lib W T O N)(eo:EnvOk env)(aX:er c env)(gN:pq c sc.names=aa cJ)(fE:mZ sc=ae)
  {cK iter:ax} {t x:ar} {px tp pos UP:aR} {j7 zQ:ME} {ti i:Nat} {kd:dR} (hi:env.scope.names[i]?=aa (x,kd)) (iu:kd=.local \/kd=.cell)
  (jx:sc.names[ti]?=aa (t,.local)) (w8:s7 iter=ae) (r8:∀C,SE W T O N (kP sc (gg env sc.names).reverse C env) cK j7) (n6:SI W T O N env iter zQ):
  CS W T O N Wf env (.Assign [.Name x tp] (.ListComp cK [⟨.Name t px,iter,[],0⟩] sc pos) UP) (.asg i (.comp cJ ti j7 zQ [])):=by
 refine(?_:(zn (.ListComp cK [⟨.Name t px,iter,[],0⟩] sc pos) (aa (.Name x tp)) UP.line env=pure (env.blockKind==.function &&env.kindOf x==aa .local &&tp.line==(Expr.ListComp cK [⟨.Name t px,iter,[],0⟩] sc pos).pos.line && !(sc.names.any λp=>p.1==x&&(p.2==.local ||p.2==.cell))))->_) (rfl);intro xc
 revert xc
 generalize (env.blockKind==QgI&&env.kindOf x==aa NameKind.local&&tp.line==(Expr.ListComp cK [⟨.Name t px,iter,[],0⟩] sc pos).pos.line && !(sc.names.any λp=>p.1==x&&(p.2==.local ||p.2==.cell)))=b
 intro xc
 cases b with
 |false=>exact OO L eo xc hi iu (OE L eo aX gN fE jx w8 r8 n6)
 |true=>
  intro fu A X0 oa X f s fl f' Q aq cm sr bG hQ
  refine ay λcG=>?_
  refine l4 (Oe bG) λd hd am av=>?_;subst am;subst av
  apply cG;clear cG
  refine k7 (Ob hd) λfu xs ds sd cV e_=>?_;clear hd bG;subst e_
  have kU:=fE
  unfold mZ at kU
  simp only[bo,bV,bl]at kU
  refine ag (exec_Assign_Name_used _ _ _ _ xc) ?_
  refine bH (zj (bH ?_))
  show aI _ A (do let _<-comprehension (.ListComp cK [⟨.Name t px,iter,[],0⟩] sc pos) sc env _ (newList []) af (eval iter env) (aa (o8 (.Name x tp) env))) _ _ s
  refine bH (nQ (QgM (use:=aa (o8 (.Name x tp) env)) (Q:=λ_ s'=>Q .next s') rfl (Gg w8 env) (Ox (Gi eo aX gN)) kU.1.1 (λy hy hl=>?_)
   (n6 fu A X0 oa X f s xs _ aq sr sd λzO s1 s2 x1 x2 it=>?_)) (λ_ s' hq=>dW (dW hq)) λ_ _ e=>e)
  ·obtain⟨j,hj,e⟩:=pV hy;have e':sc.names[j]?=aa (y.1,y.2):=by exact ag (cf hj) (ag e rfl)
   rw[hl]at e';exact sR kU.1.2 e'
  ·have aY:=sr.ext L.ok x1;refine OC L eo aq aX gN fE jx (RR:=λacc C=>compPost (aP W.prog W.w) A bg (aa (o8 (.Name x tp) env)) (λ_ s'=>Q .next s') acc C) aY x2 it r8 cV λD C Xc s' x' hD hC qn hn pg jz hl=>?_;refine(?_:(∃o,s'.heap.get? C=aa o)->_) (by obtain⟨m,o,_,_,e,_⟩:=hn;exact(bC o e));intro Qh2;have zU:=aY.hide L.ok (I:=[C]) x' λa ha=>by simp at ha;clear qn hn jz;obtain rfl:=ha.symm;exact⟨hC,Qh2⟩
   refine(?_:(Rep (aJ ([C]++X) s'.heap) (.ref D) (.list ds))->_) (by
    refine(OD (X:=[C]++X) L.ok aY.bs x' hC hD qn hn (λa ha=>?_) jz (λq=>?_) hl (Heap.SameBut.refl _ _) s'.toks).2
    ·simp at ha;clear qn hn zU;rcases ha with e_|ha
     ·obtain rfl:=e_.symm;exact jz
     ·exact pg a ha
    ·simp at q;rcases q with q|q
     ·exact qn q.symm
     ·exact aY.ltX' D hD q)
   intro rD;show aI _ A (o8 (.Name x tp) env (.ref D)) _ _ _;refine DD (yf L.ok eo (cm.hide (aY.cellNe hC)) hi iu zU rD λs2 x2 bU=>?_);refine aD hn λm hm=>?_;have UQ:s2.heap.Ns C m:=by obtain⟨o,es,n,e,z⟩:=hm;exact⟨o,es,n,x2.keep0 C o (by simp) (λq=>by refine ai (L.ok.tStill _ aY.tb C q) λo e' _=>?_;rw[hC]at e';injection e') e,z⟩
   refine⟨m,UQ,λh' lW=>?_⟩;refine(?_:_->_) (bU.drop (X0:=X0) (I:=C) L.ok aY.tX (λq=>aY.ltX' C hC (aY.sub C q)) (λb o hb e=>lW.extBut b o hb e) (L.ok.fresh aY.bs hC) (ZH UQ));intro dG;refine(?_:(s.heap.get? C=ac)->_) (by
    cases q:s.heap.get? C with
    |none=>rfl
    |some o=>
     by_cases qT:C∈W.T
     ·refine ai (L.ok.tStill _ aY.tb C qT) λo e' _=>?_;rw[hC]at e';injection e'
     ·have:=x1.keep C o qT q;rw[hC]at this;injection this)
   intro hCs;refine(?_:(Stp W X0 X X s s')->_) ((x1.trans x').stp sr.tXX);intro st1;exact hQ oa _ _ .next (st1.unhide hCs x2 (hU h' s2.toks rfl (λb o hb e=>lW.extBut b o hb e))) dG .next
end
end
section
section
variable {W:Wd} {T:Tabs} {O:bn} {N Wf:Nat} {env:bP}
noncomputable def gh(p:ar×aR):ax:=.Name p.1 p.2
set_option tactic.hygienic true in
theorem Go:∀{ts:List ax}{is:List Nat},sO c ts=aa is->∃l:List (ar×aR),ts=l.map gh/\∀(A:dK)(E:ao->aE->Prop)(env:bP)(_:er c env)(W:Wd)(mk:ar×aR->ao->cg Unit),
  (∀(p:ar×aR)(v:ao)(s:aE)(Q:Unit->aE->Prop),aI (aP W.prog W.w) A (DG env p.1 v) Q E s->aI (aP W.prog W.w) A (mk p v) Q E s)->Tgts W A E env (l.map mk) is
 |[],is,h=>by obtain rfl:=aB h;exact(aO ([]) rfl (λ_ _ _ _ _ _ _=>.nil))
 |t::ts,is,h=>by refine ai (xM h) λv e0 h=>ai (xM h) λr e2 h=>ai (xM h) λw e1 h=>aF (mY h) λhk h=>?_;obtain rfl:=aB h;refine ai (Go e2) λl am hl=>?_;clear e2 h;subst am;refine(aO (v::l) (by refine ag (sM (x:=v.1) (p:=v.2) e0) ?_;rfl) (λA E env aX W mk cv=>?_));clear e0;refine ai (aX _ _ _ (Cx.find_at e1)) λk' h1 h2=>?_;rw[mK,bV,bV]at hk;refine .cons h1 ?_ (cv v) (hl A E env aX W mk cv);exact h2.elim (λe=>e▸hk) λq=>.inr q.2
theorem OP(hg:∀p,g (gh p)=aa p.1\/g (gh p)=ac):∀{l:List (ar×aR)},((l.map gh).filterMap g).length =l.length->(l.map gh).filterMap g=l.map (·.1)
 |[],_=>rfl
 |p::l,h=>by
  simp only[cA,List.filterMap_cons]at h⊢;have le:=List.length_filterMap_le g (l.map gh);simp only[bq]at le;refine bX (hg p) (λq=>?_) λq=>?_
  ·rw[q]at h⊢;simp only[ce,T1]at h;simp only[];exact ag (OP hg h) rfl
  ·rw[q]at h;simp only[ce]at h;exact fZ (bp 0x2e041d83248006200 Yt h le)
theorem BE[Decidable c](h1:c->a=x\/a=y)(h2:¬c->b=x\/b=y):(if c then a else b)=x\/(if c then a else b)=y:=by
 by_cases q:c
 ·rw[aw q];exact h1 q
 ·rw[az q];exact h2 q
theorem ZJ{l:List (ar×aR)}(h:Ft e=ae):T2 [.Tuple (l.map gh) k p] e env=pure ac\/T2 [.Tuple (l.map gh) k p] e env=pure (aa (l.map (·.1))):=by
 cases e using wL with
 |Tuple vs k2 p2=>
  have h:(vs.all (foldedForSure 8)|| !vs.all (constantsAlone 8))=ae:=h
  rw[mK,rI]at h
  refine BE (λ_=>.inl rfl) λ_=>BE (λ_=>.inl rfl) λ_=>BE (λ_=>.inl rfl) λhn=>BE (λ_=>.inl rfl) λhf=>?_
  refine h.elim (λh=>absurd h hf) λh=>.inr ((az (by rw[h];decide)).trans ?_)
  clear hf h
  have this:=ay λc=>hn (QgJ.mpr (.inl (bne_iff_ne.mpr c)))
  clear hn
  rw[bq]at this
  rw[OP (λp=>?_) this]
  exact(Classical.em _).elim (λq=>.inl (aw q)) λq=>.inr (az q)
 |_=>exact .inl rfl
theorem Gp{env:bP}:∀(l:List (ar×aR)),(zo (l.map gh) env).map (·.2)=l.map (λp=>o8 (gh p) env)/\(zo (l.map gh) env).length =l.length/\(zo (l.map gh) env).findIdx? (·.1)=ac
 |[]=>⟨rfl,rfl,rfl⟩
 |p::l=>by
  refine ay λcG=>?_;refine eQ (Gp (env:=env) l) λa b c=>?_;apply cG;clear cG;refine⟨?_,?_,?_⟩
  ·show o8 (gh p) env::_=_;refine ag a ?_;rfl
  ·show(zo (l.map gh) env).length +1=_;refine ag b ?_;rfl
  ·show(List.findIdx? _ ((af,o8 (gh p) env)::zo (l.map gh) env))=ac;rw[List.findIdx?_cons];refine ag c ?_;rfl
theorem ZK:zn e (aa (.Tuple ts k tp)) n env=pure af:=by cases e using wL<;>rfl
theorem ZL(L:Lib W T O N)(eo:EnvOk env)(aX:er c env){ts:List ax}{is:List Nat}(ht:sO c ts=aa is)(Jx:is.Nodup)(xc:Ft e=ae)(he:SE W T O N env e m):
  CS W T O N Wf env (.Assign [.Tuple ts k tp] e pos) (.unp is m):=by
 intro fu A X0 oa X f s fl f' Q aq cm sr bG hQ
 refine l4 (Yo bG) λds hd hp e_=>?_;clear bG;subst e_
 refine ai (Go ht) λl am hl=>?_;clear ht;subst am
 rw[arm_exec_Assign]
 have e0:swapsWithSole [.Tuple (l.map gh) k tp] e pos.line env=pure af:=by have e1:swapsWithSole [.Tuple (l.map gh) k tp] e pos.line env=zn e (aa (.Tuple (l.map gh) k tp)) pos.line env:=rfl;refine ag e1 ?_;exact ZK
 refine bH (zj ?_)
 refine ag e0 ?_
 refine bH (dW ?_)
 simp only[wB,if_false]
 refine bH (he 40 A X0 oa X f s _ _ aq sr hd λv s1 x1 r1=>?_)
 refine ay λcG=>?_
 refine dc r1.tuple_inv λa n vs bB h1 h2 h3=>?_;clear r1;subst bB
 have aY:=sr.ext L.ok x1
 have bh:=Gm hp
 have D5:s1.heap.IsTuple a vs.toArray:=⟨_,ed h1,rfl,_,rfl⟩
 have up:∀{h':cC},Heap.ExtBut s1.heap.objs.size s1.heap h'->∀tk,Ext W s1 {s1 with heap:=h',toks:=tk}:=λhx tk=>Ext.grow L.ok tk λb o e=>hx b o (lK (fK e)) e
 have fin:∀s2,Ext W s s2->∀s3,Stp W X0 X X s2 s3->SR W X0 env oa X s3.heap f'->Q .next s3:=λs2 x2 s3 x3 dG=>hQ oa X s3 .next ((x2.stp sr.tXX).trans x3) dG .next
 have tg:∀(mk:ar×aR->ao->cg Unit),(∀(p:ar×aR)(v:ao)(s:aE)(Q:Unit->aE->Prop),aI (aP W.prog W.w) A (DG env p.1 v) Q bg s->aI (aP W.prog W.w) A (mk p v) Q bg s)->Tgts W A bg env (l.map mk) is:=λmk h=>hl A bg env aX W mk h
 have ll:l.length=is.length:=by
  have:=tg (λp v=>DG env p.1 v) λp v s Q h=>h;have key:∀{a:List (ao->cg Unit)}{b:List Nat},Tgts W A bg env a b->a.length=b.length:=λt=>by
   induction t with
   |nil=>rfl
   |cons _ _ _ _ ih=>simp[ih]
  simpa using key this
 apply cG;clear cG
 refine bX (ZJ (l:=l) (k:=k) (p:=tp) (env:=env) xc) (λq=>?_) λq=>?_
 ·refine ag q ?_;refine bH (dW ?_);show aI _ _ (assignAll (.ref a) [o8 (.Tuple (l.map gh) k tp) env]>>=λ_=>pure Flow.next) _ _ _;refine ay λcG=>?_;refine eQ (Gp (env:=env) l) λa1 a2 a3=>?_;apply cG;clear cG;refine bH (wpAny_assign_Tuple aq.handled D5 (by refine ag a2 (ag ll (ag bh ?_));rw[mL];exact ag h3.length rfl) a3 λh' hx=>?_);refine ag a1 ?_;refine Gl L.ok eo cm (tg (λp=>o8 (gh p) env) λp v s Q h=>DD h) vs ds f _ _ f' ((up hx s1.toks).repL aY.tXX h3) hp (aY.ext L.ok (up hx s1.toks)) λs3 x3 dG=>dW (fin _ (x1.trans (up hx s1.toks)) s3 x3 dG)
 ·refine ag q ?_;refine bH (dW ?_);unfold assignStores;dsimp only;refine bH (wpAny_rule (bH ?_));have el:(l.map (·.1)).length =vs.toArray.size:=by rw[bq];refine ag ll (ag bh ?_);rw[mL];exact ag h3.length rfl
  refine ag el ?_;refine wpAny_unpackItems_tuple aq.handled D5 λh' hx=>bH ?_;have et:((l.map (·.1)).reverse.map λn=>bindName env n)=(l.map λp=>bindName env p.1).reverse :=by rw[zp,g6];rfl
  refine ag et ?_;have hp':eC f is.reverse ds.reverse=aa f':=by rw[ON Jx bh];exact hp
  have tg':=(tg (λp=>bindName env p.1) λp v s Q h=>wpAny_bindName h).rev;have qo:=(up hx s1.toks).repL aY.tXX h3.reverse;have lU:=aY.ext L.ok (up hx s1.toks);exact Gl L.ok eo cm tg' vs.reverse ds.reverse f {s1 with heap:=h'} _ f' qo hp' lU λs3 x3 dG=>dW (fin _ (x1.trans (up hx s1.toks)) s3 x3 dG)
theorem OQ(L:Lib W T O N)(he:SE W T O N env e m):CS W T O N Wf env (.Return (aa e) pos) (.ret m):=by intro fu A X0 oa X f s fl f' Q aq cm sr bG hQ;refine l4 (Yu bG) λd hd am av=>?_;subst am;obtain rfl:=av.symm;exact T3 (he 40 A X0 oa X f s d _ aq sr hd λv s1 x1 r1=>hQ oa X s1 (.ret v) (x1.stp sr.tXX) (sr.ext L.ok x1) (.ret r1))
theorem ZM:CS W T O N Wf env (.Break pos) .brk :=by intro fu A X0 oa X f s fl f' Q aq cm sr bG hQ;refine aF (YA bG) λam av=>?_;subst am;obtain rfl:=av.symm;exact wpAny_Break (hQ oa X s .brk (Stp.refl ..) sr .brk)
theorem ZN{st:dF}:CS W T O N Wf env st .rais :=by intro fu A X0 oa X f s fl f' Q aq cm sr bG hQ;exact(YB bG).elim
theorem ZO(L:Lib W T O N)(ht:jb W T O N env t m):CS W T O N Wf env (.Assert t ac pos) (.asrt m):=by intro fu A X0 oa X f s fl f' Q aq cm sr bG hQ;refine eQ (Yz bG) λhd am av=>?_;subst am;obtain rfl:=av.symm;exact wpAny_Assert_holds (ht 40 A X0 oa X f s ae _ aq sr hd λs1 x1=>⟨rfl,hQ oa X s1 .next (x1.stp sr.tXX) (sr.ext L.ok x1) .next⟩)
theorem ZP(h:oA op a b=aa d)(hQ:∀t k,Q (.int d t) {s with toks:=k}):aI (aP W.prog W.w) A (inplaceOp (sU op) (.int a t) (.int b u)) Q bg s:=by
 cases op using BO.casesOn with
 |add=>obtain rfl:=aB h;exact P.iadd_int (hQ _ _)
 |sub=>obtain rfl:=aB h;exact P.isub_int (hQ _ _)
 |shl=>
  refine aF (mY h) λq e=>?_
  obtain rfl:=aB e
  simp only[bo,bl]at q
  have:=Bi q.2
  exact ilshift_int q.1.1 (KL q.1.2 this) (hQ _ _)
 |shr=>
  refine aF (pS.mp h) λq e=>?_
  obtain rfl:=aB e
  refine irshift_int q ?_
  rw[Bh (No _)];exact hQ _ _
 |_=>exact dP h
theorem ZQ(L:Lib W T O N)(eo:EnvOk env)(hi:env.scope.names[i]?=aa (x,.local))(he:SE W T O N env e m):CS W T O N Wf env (.AugAssign (.Name x tp) (sU op) e pos) (.aug i op m):=by intro fu A X0 oa X f s fl f' Q aq cm sr bG hQ;refine Kr (Yp bG) λa b d ha hb hd am av=>?_;subst am;subst av;refine ay λcG=>?_;refine cY (sr.val hi ha) λm0 v hn hv q=>?_;refine aD q.int_inv λt am=>?_;clear q;subst am;apply cG;clear cG;refine wpAny_AugAssign_Name (QgE eo.kind (eo.kindAt hi) hn hv (he 40 A X0 oa X f s _ _ aq sr hb λv1 s1 x1 r1=>?_));refine aD r1.int_inv λu am=>?_;clear r1;subst am;refine ZP hd λt k=>?_;have x2:Ext W s {s1 with toks:=k}:=x1.trans (Ext.tok _);exact yf L.ok eo cm hi (.inl rfl) (sr.ext L.ok x2) (.int _ _) λs2 x3 bU=>hQ oa X s2 .next ((x2.stp sr.tXX).trans x3) bU .next
end
end
section
section
variable {W:Wd} {T:Tabs} {O:bn} {N Wf:Nat} {env:bP}
theorem ZR{h:cC}{a:au}{m m':ar->Option ao}(x:h.Ns a m)(y:h.Ns a m'):m=m':=by refine ay λcG=>?_;obtain⟨o,es,n,e,d,_,f⟩:=x;obtain⟨o',es',n',e',d',_,f'⟩:=y;rw[e]at e';obtain rfl:=aB e';rw[d]at d';clear left_1;obtain⟨rfl,rfl⟩:=QgO d';apply cG;clear cG;funext y;simp only[<-f y,f' y]
theorem OR(L:Lib W T O N)(eo:EnvOk env){e:ax}{i:Nat}{x:ar}{tp pos:aR}(hs:zn e (aa (.Name x tp)) pos.line env=pure af)(hi:env.scope.names[i]?=aa (x,.local)){A:dK}{X0:List au}{oa:Nat->au}{X:List au}{f:Frm}{s:aE}{xs:List an}{Q:kQ->aE->Prop}(sr:SR W X0 env oa X s.heap f)
  (he:∀Q':ao->aE->Prop,(∀(a:au)(s1:aE)(n:Nat)(vs:List ao),Ext W s s1->s.heap.get? a=ac->s1.heap.get? a=aa {cls:=.type "list",data:=.seq vs.toArray n}->vs.length<=cz->(∀g,RepL g vs xs)->Q' (.ref a) s1)->aI (aP W.prog W.w) A (eval e env) Q' bg s)
  (hQ:∀eN X' s' dT,Stp W X0 X X' s s'->SR W X0 env eN X' s'.heap (f.put i (.own xs))->FlOk X' s'.heap .next dT->Q dT s'):aI (aP W.prog W.w) A (exec (.Assign [.Name x tp] e pos) env) Q bg s:=by
 refine T0 (he _ λa s1 n vs x1 ha h1 h2 h3=>?_) hs
 refine ay λcG=>?_
 have aY:=sr.ext L.ok x1
 refine ai aY.vars λm hn hv=>?_
 apply cG;clear cG
 refine TV (eo.kindAt hi) hn (λh' g7 lW=>?_) (by refine ag eo.kind ?_;rfl)
 refine hQ _ (a::X) _ .next ?_ (sr.ownNew L.ok eo x1 ha hi (λm' q=>by refine a8 (ZR hn q) ?_;exact g7) lW h1 h2 h3) .next
 have st:Stp W X0 X X s {s1 with heap:=h',toks:=s1.toks+1}:=(x1.stp sr.tXX).trans (Stp.mut _ lW sr.loc.1 sr.loc.2.1)
 exact⟨st.same,st.keep,st.keep0,λb q=>by
  rcases cB.mp q with e_|q
  ·clear q;obtain rfl:=e_.symm;exact .inr ha
  ·exact .inl q⟩
theorem ZS(L:Lib W T O N)(eo:EnvOk env)(hi:env.scope.names[i]?=aa (x,.local)):CS W T O N Wf env (.Assign [.Name x tp] (.List [] lp) pos) (.own i (.lst [])):=by intro fu A X0 oa X f s fl f' Q aq cm sr bG hQ;refine aF (Ym bG) λam av=>?_;subst am;subst av;refine OR L eo (vy rfl _ _ _) hi sr (λQ' h=>?_) hQ;refine wpAny_List (QgG ⟨by simp only[dy];simp,?_⟩);exact h _ _ 0 [] (Ext.push L.ok _ _) (vu _) (g5 _ rfl) (by simp) λg=>.nil
theorem ZT(L:Lib W T O N)(eo:EnvOk env)(cv:∀e m,tr e=aa m->fb e=ae)(hi:env.scope.names[i]?=aa (x,.local))
  (lT:(iq.endLine==mS.line)=ae) (hb:u8 o=ae) (bh:es.length<20) (ho:SE W T O N env o mo) (ht:ct tr es=aa ms) (h:∀e∈es,∀m,tr e=aa m->SE W T O N env e m):
  CS W T O N Wf env (.Assign [.Name x tp] (.Call (.Attribute o "split" iq) es [] mS) pos) (.own i (.meth .split mo ms)):=by
 intro fu A X0 oa X f s fl f' Q aq cm sr bG hQ
 refine Kr (Yn bG) λxs od ds pd cV hx am av=>?_;subst am;subst av
 refine OR L eo (vy rfl _ _ _) hi sr (λQ' hQ'=>?_) hQ
 refine IM (Bw hb env _) (Bx cv bh ht) lT (ho 39 A X0 oa X f s od _ aq sr pd λov s1 x1 r1=>?_)
 refine ay λcG=>?_
 refine eQ (Os .split "split" rfl) λf1 f2 f3=>?_
 refine aF (Ot hx r1) λt1 t2=>?_
 have aY:=sr.ext L.ok x1
 apply cG;clear cG
 refine⟨yc .split,sV .split .none,f1,f2,f3,t1,t2,?_⟩
 refine By cv ht (mj L.ok aq cv ht cV aY h λvs s2 x2 r2=>?_)
 refine ay λcG=>?_
 have r6:=aY.rep_ext x2 r1
 refine ai (bx.mp hx) λaM h0 sj=>?_;obtain⟨x,y⟩:=aM
 clear hx
 have:=gc (cX h0).1;clear pd r1;subst this
 refine cY (r2.of1 (cX h0).2) λu e av he ru=>?_;clear r2;subst av
 have:=gc he;clear he;subst this
 apply cG;clear cG
 split at sj<;>(clear bG;cases sj)
 rename_i q
 simp only[mK,bV,bl,not_or]at q
 refine ai r6.str_inv λt am _=>?_;subst am
 refine ai ru.str_inv λt' am _=>?_;subst am
 refine NP L.ok q.1 (KS q.2) λa s3 x3 ha ⟨n,l,e1,e2,e3,e4⟩=>hQ' a s3 n (wI l) (x1.trans (x2.trans x3)) ?_ e1 (by simpa[wI]using e2) λg=>FY l _ e3 e4
 cases q':s.heap.get? a with
 |none=>rfl
 |some o=>
  exfalso
  by_cases nT:a∈W.T
  ·refine ai (L.ok.tStill _ (aY.ext L.ok x2).tb a nT) λo' e' _=>?_;exact mI _ (nK (fK e') ha)
  ·exact mI _ (nK (fK ((x1.trans x2).keep a o nT q')) ha)
theorem Gq(L:Lib W T O N)(eo:EnvOk env){tr:ax->Option ME}(cv:∀e m,tr e=aa m->fb e=ae){i:Nat}{x name:ar}{id:String}(jA:fO x=ae)(Qh8:Slot "list" name id)(DU:typeOf (.builtin id)=pure (.type "method_descriptor"))
  (lT:(iq.endLine==mS.line)=ae) {es:List ax} {ms:List ME} (bh:es.length<20) (ht:ct tr es=aa ms) (h:∀e∈es,∀m,tr e=aa m->SE W T O N env e m)
  {A:dK} (aq:AOk A N) {X0:List au} {oa:Nat->au} {X:List au} {f:Frm} {s:aE} {xs lS:List an} {ds:List an} {Q:kQ->aE->Prop} (sr:SR W X0 env oa X s.heap f) (hi:env.scope.names[i]?=aa (x,.local)) (hf:f[i]?=aa (.own xs)) (cV:aV (λe=>aj T O 40 e f) ms=aa ds)
  (hc:∀(s2:aE)(n:Nat)(lst vs:List ao)(Q':ao->aE->Prop),s2.heap.get? (oa i)=aa {cls:=.type "list",data:=.seq lst.toArray n}->lst.length<=cz->RepL (aJ X s2.heap) lst xs->RepL (aJ X s2.heap) vs ds->
   (∀h' n' D6,h'.get? (oa i)=aa {cls:=.type "list",data:=.seq (wE D6) n'}->dN D6<=cz->RepL (aJ X s2.heap) D6 lS->mF (oa i) s2.heap h'->Q' .none {s2 with heap:=h'})->aI (aP W.prog W.w) A (call (.builtin id) (.ref (oa i)::vs)) Q' bg s2)
  (hQ:∀eN X' s' dT,Stp W X0 X X' s s'->SR W X0 env eN X' s'.heap (f.put i (.own lS))->FlOk X' s'.heap .next dT->Q dT s'):
  aI (aP W.prog W.w) A (exec (.Expr (.Call (.Attribute (.Name x np) name iq) es [] mS) pos) env) Q bg s:=by
 refine ay λcG=>?_
 unfold fO at jA
 simp only[bo,bV]at jA
 have jy:zq env=af:=by unfold zq;refine ag eo.kind ?_;rfl
 obtain⟨x',m,iX,hn,hm,hX,hb,n,zV,hl,hz,hr⟩:=sr.ownAt hf
 rw[hi]at iX;obtain⟨rfl,_⟩:=dx (aB iX)
 apply cG;clear cG
 refine T4 ?_ jy (vy rfl _ _ _)
 refine IM (Bw rfl env _) (Bx cv bh ht) lT (qN eo jA hi hn (show oE env s.heap m x .local _ from hm) ?_)
 refine⟨"list",id,F.plainAttrs_list,Qh8,DU,⟨_,hl,rfl⟩,λa e=>by obtain rfl:=zr e;exact(aO _ hl rfl),?_⟩
 refine By cv ht (mj L.ok aq cv ht cV sr h λvs s2 x2 r2=>?_)
 have bU:=sr.ext L.ok x2
 refine hc s2 n zV vs _ (x2.keep _ _ (qG L.ok sr.tb hl rfl) hl) hz (x2.repL sr.tXX hr) r2 λh' n' D6 e1 e2 e3 e4=>?_
 exact hQ oa X _ .next ((x2.stp sr.tXX).trans (Stp.mut s2.toks e4 hX hb.1)) (bU.mutOwn L.ok hf e4 e1 e2 e3) .next
theorem ZU(L:Lib W T O N)(eo:EnvOk env){tr:ax->Option ME}(cv:∀e m,tr e=aa m->fb e=ae)(jA:fO x=ae)(lT:(iq.endLine==mS.line)=ae)(hi:env.scope.names[i]?=aa (x,.local))(ht:tr e=aa m)(h:SE W T O N env e m):
  CS W T O N Wf env (.Expr (.Call (.Attribute (.Name x np) "append" iq) [e] [] mS) pos) (.app i m):=by
 intro fu A X0 oa X f s fl f' Q aq cm sr bG hQ
 refine EB (Yv bG) λxs d hf hd bK am av=>?_;subst am;subst av
 refine Gq (tr:=tr) (ds:=[d]) (es:=[e]) (ms:=[m]) L eo cv jA F.slot_list_append F.type_list_append lT (by simp) (by simp[ct,ht]) (λe' n4 m' r7=>by simp at n4;subst n4;rw[ht]at r7;obtain rfl:=aB r7;exact h) aq sr hi hf
  (by show(match aj T O 40 m f with|some d=>(aV _ []).map (d::·)|none=>ac)=aa [d];refine ag hd ?_;rfl) (λs2 n lst vs Q' e1 e2 e3 e4 hq=>?_) hQ
 refine ai e4.one λv am rv=>?_;clear e4;subst am
 have hl:=e3.length
 refine QgK (items:=lst.toArray) ⟨n,e1⟩ (λh' hp hs=>?_) (by exact e2)
 obtain⟨n',hp⟩:=hp
 exact hq h' n' (lst++[v]) (by simpa using hp) (by simp only[dn,hl,dy];simp;exact aH 0x1baebaebaebae40382892682640 Yt bK) (e3.append (.cons rv .nil)) hs
theorem ZV(L:Lib W T O N)(eo:EnvOk env){tr:ax->Option ME}(cv:∀e m,tr e=aa m->fb e=ae)(jA:fO x=ae)(lT:(iq.endLine==mS.line)=ae)(hi:env.scope.names[i]?=aa (x,.local))(ht:tr e=aa m)(h:SE W T O N env e m):
  CS W T O N Wf env (.Expr (.Call (.Attribute (.Name x np) "extend" iq) [e] [] mS) pos) (.ext i m):=by
 intro fu A X0 oa X f s fl f' Q aq cm sr bG hQ
 refine EB (Yw bG) λxs d hf hd bK am av=>?_;subst am;subst av
 refine Gq (tr:=tr) (ds:=[.list d]) (es:=[e]) (ms:=[m]) L eo cv jA F.slot_list_extend F.type_list_extend lT (by simp) (by simp[ct,ht]) (λe' n4 m' r7=>by simp at n4;subst n4;rw[ht]at r7;obtain rfl:=aB r7;exact h) aq sr hi hf
  (by show(match aj T O 40 m f with|some d=>(aV _ []).map (d::·)|none=>ac)=aa [.list d];refine ag hd ?_;rfl) (λs2 n lst vs Q' e1 e2 e3 e4 hq=>?_) hQ
 refine ay λcG=>?_
 refine ai e4.one λv am rv=>?_;clear e4;subst am
 refine dc rv.list_inv λb n2 ws bB h1 h2 h3=>?_;subst bB
 have hl:=e3.length
 have qp:=h3.length
 have iW:lst.toArray.size+ws.toArray.size<=cz:=by simp only[mL,mL,dy];exact K4 bK hl qp
 have JB:lst.toArray.size<=cz:=by exact e2
 apply cG;clear cG
 refine wC PySem.F.slot_list_extend ⟨_,e1,rfl⟩ PySem.F.entry_list_extend (PySem.F.args_list_extend_2 _ _) (AutoSeq1.list_extend_list_list_0 (oa i) lst.toArray n b ws.toArray n2 (extend_door iW) JB (bR 0x1832500c8006403200 Yt iW)) ⟨e1,ed h1,?_⟩
 have ea:lst.toArray++ws.toArray=(lst++ws).toArray :=by simp
 have iU:(s2.heap.update (oa i) (ud λx=>x++ws.toArray)).get? (oa i)=aa {cls:=.type "list",data:=.seq (lst++ws).toArray (if(lst.toArray++ws.toArray).size ==lst.toArray.size then n else n+1)}:=by rw[QgP _ e1 (by rw[mapSeq_app];rfl),mapSeq_app];exact ag ea rfl
 exact hq _ _ (lst++ws) iU (by rw[dn];refine ag dy ?_;exact K4 bK hl qp) (e3.append h3) (T5 ..)
theorem ZW(L:Lib W T O N)(eo:EnvOk env)(jA:fO x=ae)(lT:(iq.endLine==mS.line)=ae)(hi:env.scope.names[i]?=aa (x,.local)):
  CS W T O N Wf env (.Expr (.Call (.Attribute (.Name x np) "reverse" iq) [] [] mS) pos) (.rev i):=by
 intro fu A X0 oa X f s fl f' Q aq cm sr bG hQ
 refine l4 (Yx bG) λxs hf am av=>?_;subst am;subst av
 refine Gq (tr:=λ_=>ac) (ds:=[]) (es:=[]) (ms:=[]) L eo (by intro e m h;injection h) jA F.slot_list_reverse F.type_list_reverse lT (by simp) rfl (by intro e he;simp at he) aq sr hi hf rfl (λs2 n lst vs Q' e1 e2 e3 e4 hq=>?_) hQ
 cases e4.none
 have JB:lst.toArray.size<=cz:=by exact e2
 refine wC PySem.F.slot_list_reverse ⟨_,e1,rfl⟩ PySem.F.entry_list_reverse (PySem.F.args_list_reverse_1 _) (AutoSeq1.list_reverse_list_0 (oa i) lst.toArray n JB) ⟨e1,?_⟩
 have iU:∃n',(s2.heap.update (oa i) (ud λx=>x.reverse)).get? (oa i)=aa {cls:=.type "list",data:=.seq lst.reverse.toArray n'}:=by refine(bC n ?_);rw[QgP _ e1 (by rw[mapSeq_reverse];rfl),mapSeq_reverse]
 refine aD iU λn' iU=>?_
 exact hq _ _ lst.reverse iU (by simpa using e2) e3.reverse (T5 ..)
theorem OS(L:Lib W T O N)(eo:EnvOk env)(jA:fO x=ae)(hi:env.scope.names[i]?=aa (x,.local))(hie:SE W T O N env ie (.ki k)):
  CS W T O N Wf env (.Delete [.Subscript (.Name x np) ie sp] pos) (.del i k):=by
 intro fu A X0 oa X f s fl f' Q aq cm sr bG hQ
 refine Kp (Yy bG) λxs j hf hj am av=>?_;subst am;subst av
 refine ay λcG=>?_
 unfold fO at jA
 simp only[bo,bV]at jA
 obtain⟨x',m,iX,hn,hm,hX,hb,n,zV,hl,hz,hr⟩:=sr.ownAt hf
 rw[hi]at iX;obtain⟨rfl,_⟩:=dx (aB iX)
 apply cG;clear cG
 refine wpAny_Delete (wpAny_deleteEach_cons (wpAny_delete_Subscript (qN eo jA hi hn (show oE env s.heap m x .local _ from hm) ?_)))
 refine hie 1 A X0 oa X f s (.int k) _ aq sr rfl λv s1 x1 r1=>?_
 refine ay λcG=>?_
 refine aD r1.int_inv λt am=>?_;clear r1;subst am
 refine og (Bo hj) λq1 q2 q3 q4=>?_
 have D7:=x1.keep _ _ (qG L.ok sr.tb hl rfl) hl
 have JC:=x1.repL sr.tXX hr
 have bh:=hr.length
 apply cG;clear cG
 refine wpAny_delItem_plain (items:=zV.toArray) (k:=j) ⟨n,D7⟩ ?_ (by rw[mL];refine ag bh ?_;exact q1) (λh' hp hs=>wpAny_deleteEach_nil ?_) (by exact hz)
 ·have sz:(cz:Int)<2^63:=by refine ag dy ?_;decide
  by_cases q0:0<=k
  ·exact fitsIndex_of q0 (W4 0xf0820820820820820820820820820820890060083ec400d9020f082082082082082082082082082082089b00 [_,_,_] [_] Yt hz q3 bh sz)
  ·exact fitsIndex_neg (uX q0) (W4 0x703c08208208208208208208208208208208918020703cb10d9020f082082082082082082082082082082089b00 [_,_,_] [_] Yt hz q2 bh sz)
 ·refine ay λcG=>?_;obtain⟨n',hp⟩:=hp;have e:zV.toArray.eraseIdxIfInBounds j=(zV.eraseIdx j).toArray :=by simp
  rw[e]at hp;apply cG;clear cG;exact hQ oa X _ .next ((x1.stp sr.tXX).trans (Stp.mut _ hs hX hb.1)) ((sr.ext L.ok x1).mutOwn L.ok hf hs hp (nR (List.length_eraseIdx_le ..) hz) (JC.eraseIdx j)) .next
end
end
section
section
variable {W:Wd} {T:Tabs} {O:bn} {N Wf:Nat} {env:bP}
abbrev BS(W:Wd)(T:Tabs)(O:bn)(N Wf:Nat)(env:bP)(ss:List dF)(ms:List MS):Prop:=
 ∀(fu:Nat)(A:dK)(X0:List au)(oa:Nat->au)(X:List au)(f:Frm)(s:aE)(fl:Fl)(f':Frm)(Q:kQ->aE->Prop),AOk A N->CellsMine W X0 env->SR W X0 env oa X s.heap f->
  bc T O Wf fu ms f=aa (fl,f')->(∀eN X' s' dT,Stp W X0 X X' s s'->SR W X0 env eN X' s'.heap f'->FlOk X' s'.heap fl dT->Q dT s')->aI (aP W.prog W.w) A (mN ss env) Q bg s
theorem qP(h:aI M A m Q bg s):aI M A m Q E s:=nQ h (λ_ _ h=>h) λ_ _ f=>f.elim
theorem ZX(L:Lib W T O N){t:ax}{mt:ME}{a b:List dF}{ma mb:List MS}{pos:aR}(ht:jb W T O N env t mt)(ha:BS W T O N Wf env a ma)(hb:BS W T O N Wf env b mb):CS W T O N Wf env (.If t a b pos) (.ife mt ma mb):=by
 intro fu A X0 oa X f s fl f' Q aq cm sr bG hQ;refine d7 (Yq bG) λfu c hd bG=>?_;cases c with
 |true=>
  refine IR (ht 40 A X0 oa X f s ae _ aq sr hd λs1 x1=>?_)
  exact ha fu A X0 oa X f s1 fl f' Q aq cm (sr.ext L.ok x1) bG λeN X' s' dT x2 bU ho=>hQ eN X' s' dT ((x1.stp sr.tXX).trans x2) bU ho
 |false=>
  refine IR (ht 40 A X0 oa X f s af _ aq sr hd λs1 x1=>?_)
  exact hb fu A X0 oa X f s1 fl f' Q aq cm (sr.ext L.ok x1) bG λeN X' s' dT x2 bU ho=>hQ eN X' s' dT ((x1.stp sr.tXX).trans x2) bU ho
inductive WhlInv(W:Wd)(T:Tabs)(O:bn)(Wf fu:Nat)(env:bP)(X0 X:List au)(mt:ME)(mb:List MS)(r:Fl×Frm)(s:aE)(n:Nat)(st:aE):Prop
 |mk (j9:Nat->au) (X1:List au) (f1:Frm):Stp W X0 X X1 s st->SR W X0 env j9 X1 st.heap f1->ek (λf=>aK T O 40 mt f) (λf=>bc T O Wf fu mb f) n f1=aa r->WhlInv W T O Wf fu env X0 X mt mb r s n st
set_option tactic.hygienic true in
theorem ZY(L:Lib W T O N){t:ax}{mt:ME}{b:List dF}{mb:List MS}{pos:aR}(ht:jb W T O N env t mt)(hb:BS W T O N Wf env b mb):CS W T O N Wf env (.While t b [] pos) (.whl mt mb):=by
 intro fu A X0 oa X f s fl f' Q aq cm sr bG hQ;refine aD (Yr bG) λfu bG=>?_;refine wpAny_While (codeAny_whileLoop (WhlInv W T O Wf fu env X0 X mt mb (fl,f') s) (λn st hI=>?_) Wf ⟨oa,X,f,Stp.refl ..,sr,bG⟩);obtain⟨j9,X1,f1,xs,aY,hw⟩:=hI;cases n with
 |zero=>injection hw
 |succ n=>
  simp only[ek]at hw
  split at hw<;>try contradiction
  ·rename_i h1;refine qP (ht 40 A X0 j9 X1 f1 st ae _ aq aY h1 λs1 x1=>?_);refine qP ?_;have bU:=aY.ext L.ok x1;have xa:=xs.trans (x1.stp aY.tXX);split at hw
   ·rename_i f2 h2;refine hb fu A X0 j9 X1 f1 s1 .next f2 _ aq cm bU h2 λeN X' s' dT x2 dG ho=>?_;cases ho;exact⟨n,TX n,⟨eN,X',f2,xa.trans x2,dG,hw⟩⟩
   ·rename_i f2 h2;cases hw;refine hb fu A X0 j9 X1 f1 s1 .brk f' _ aq cm bU h2 λeN X' s' dT x2 dG ho=>?_;cases ho;exact hQ eN X' s' .next (xa.trans x2) dG .next
   ·rename_i d f2 h2;cases hw;refine hb fu A X0 j9 X1 f1 s1 (.ret d) f' _ aq cm bU h2 λeN X' s' dT x2 dG ho=>?_;cases ho;rename_i r;exact hQ eN X' s' _ (xa.trans x2) dG (.ret r)
   ·injection hw
  ·rename_i h1;obtain⟨rfl,rfl⟩:=dx (aB hw);refine qP (ht 40 A X0 j9 X1 _ st af _ aq aY h1 λs1 x1=>?_);exact wP (hQ j9 X1 s1 .next (xs.trans (x1.stp aY.tXX)) (aY.ext L.ok x1) .next)
theorem Stp.unhide0(x1:Stp W X0 X X s s1)(hI:s.heap.get? I=ac)(x2:Stp W X0 (I::X) X' s1 s2):Stp W X0 X X' s s2:=by
 obtain⟨⟨h1,t1,rfl⟩,k1,z1,n1⟩:=x1;obtain⟨⟨h2,t2,rfl⟩,k2,z2,n2⟩:=x2;have ne:∀{b o},s.heap.get? b=aa o->b≠I:=λe q=>by rw[q,hI]at e;injection e
 refine⟨(eR h2 t2 rfl),λb o n e=>k2 b o (λq=>by rcases cB.mp q with q|q;exact ne e q;exact n q) (k1 b o n e),λb o i n e=>z2 b o i n (z1 b o i n e),λa ha=>?_⟩;refine bX (n2 a ha) (λr=>?_) λr=>?_
 ·refine bX (cB.mp r) (λr=>?_) λr=>?_
  ·exact .inr (r▸hI)
  ·exact .inl r
 ·by_cases qX:a∈X
  ·exact .inl qX
  ·refine .inr ?_;cases e:s.heap.get? a with
   |none=>rfl
   |some o=>rw[k1 a o qX e]at r;injection r
theorem Stp.weak(x:Stp W (I::X0) X X' s s'):Stp W X0 X X' s s':=⟨x.same,x.keep,λb o i n e=>x.keep0 b o (eh _ i) n e,x.new⟩
def Gr(W:Wd)(env:bP)(target:ax)(is:List Nat)(one:Bool):Prop:=
 ∀(A:dK)(n:Nat)(X0:List au)(oa:Nat->au)(X:List au)(f f':Frm)(s:aE)(v:ao)(d:an)(Q:Unit->aE->Prop)(E:ao->aE->Prop),AOk A n->CellsMine W X0 env->SR W X0 env oa X s.heap f->Rep (aJ X s.heap) v d->e9 is one d f=aa f'->
  (∀s',Stp W X0 X X s s'->SR W X0 env oa X s'.heap f'->Q () s')->aI (aP W.prog W.w) A (o8 target env v) Q E s
theorem ZZ(k:W.Ok)(eo:EnvOk env)(hi:env.scope.names[i]?=aa (x,.local)):Gr W env (.Name x p) [i] ae:=by intro A n X0 oa X f f' s v d Q E aq cm sr r hb hQ;simp only[e9,if_true,eC]at hb;obtain rfl:=aB hb;exact DD (yf k eo cm hi (.inl rfl) sr r hQ)
set_option tactic.hygienic true in
theorem Z5(k:W.Ok)(eo:EnvOk env)(aX:er c env)(ht:sO c ts=aa is):Gr W env (.Tuple ts kk p) is af:=by
 intro A n X0 oa X f f' s v d Q E aq cm sr r hb hQ;simp only[e9,wB,if_false]at hb;split at hb<;>try contradiction
 rename_i ds;refine ai (Go ht) λl am hl=>?_;clear ht;subst am;refine dc r.tuple_inv λa n vs bB h1 h2 h3=>?_;clear r;subst bB;have bh:=Gm hb;have D5:s.heap.IsTuple a vs.toArray:=⟨_,ed h1,rfl,_,rfl⟩;refine eQ (Gp (env:=env) l) λa1 a2 a3=>?_;have tg:=hl A E env aX W (λp=>o8 (gh p) env) λp v s Q h=>DD h;have ll:l.length=is.length:=by
  have key:∀{a:List (ao->cg Unit)}{b:List Nat},Tgts W A E env a b->a.length=b.length:=λt=>by
   induction t with
   |nil=>rfl
   |cons _ _ _ _ ih=>simp[ih]
  simpa using key tg
 refine wpAny_assign_Tuple aq.handled D5 (by refine ag a2 (ag ll (ag bh ?_));rw[mL];exact ag h3.length rfl) a3 λh' hx=>?_;refine ag a1 ?_;have x1:Ext W s {s with heap:=h'}:=Ext.grow k s.toks λb o e=>hx b o (lK (fK e)) e;exact Gl k eo cm tg vs ds f {s with heap:=h'} _ f' (x1.repL sr.tXX h3) hb (sr.ext k x1) λs3 x3 dG=>hQ s3 ((x1.stp sr.tXX).trans x3) dG
set_option backward.match.sparseCases true in
theorem Z6{E:ao->aE->Prop}{target:ax}{I:au}{v:ao}{o:be}{Ty:String}{fs:Array ao}{Q:Unit->aE->Prop}(h1:s.heap.get? I=aa o)(h2:o.cls=.type Ty)(h3:vt Ty=ae)(h4:o.data=.fields fs)(hQ:Q () s):
  aI (aP W.prog W.w) A (letOwnedTupleGo target (.ref I) v) Q E s:=by
 have body:aI (aP W.prog W.w) A (do
   let(.ref r,.ref a):=(Value.ref I,v)|return
   let o<-load r
   match o.cls,o.data with
   | .type n,.fields vs=>
    if["enumerate","zip","dict_itemiterator","dict_reverseitemiterator","odict_iterator","itertools.zip_longest","itertools.pairwise"].contains n&&vs[0]?==aa (pU a)then
     rule "for.unpacks-the-owned-tuple"
     updateField r 0 .none
   |_,_=>pure ()) Q E s:=by
  cases v with
  |ref a=>
   refine bH (wpAny_load h1 ?_)
   refine ag h2 (ag h4 ?_)
   unfold vt at h3
   simp only[bo,rI]at h3
   dsimp only
   refine ag h3.2 ?_
   exact dW hQ
  |_=>exact dW hQ
 cases target<;>first|exact body|exact dW hQ
inductive ForInv(W:Wd)(T:Tabs)(O:bn)(Wf fu:Nat)(env:bP)(X0 X:List au)(I:au)(mb:List MS)(is:List Nat)(one:Bool)(r:Fl×Frm)(xs:List an)(s2:aE)(St:Nat->cC->Prop)(n:Nat)(st:aE):Prop
 |mk (i:Nat) (j9:Nat->au) (X1:List au) (f1:Frm):i+n=xs.length->Stp W X0 (I::X) X1 s2 st->SR W (I::X0) env j9 X1 st.heap f1->St i st.heap->eJ (λf=>bc T O Wf fu mb f) (e9 is one) (xs.drop i) f1=aa r->ForInv W T O Wf fu env X0 X I mb is one r xs s2 St n st
def OT(Inv:Nat->aE->Prop)(n:Nat)(Q:kQ->aE->Prop)(dT:kQ)(s':aE):Prop:=match dT with
 | .next | .cont =>∃m,m<n/\Inv m s'
 | .brk =>Q .next s'
 | .ret v=>Q (.ret v) s'
set_option tactic.hygienic true in
theorem OU(L:Lib W T O N){target it:ax}{is:List Nat}{one:Bool}{b:List dF}{mb:List MS}(w8:s7 it=ae)(n6:SI W T O N env it mi)(ht:Gr W env target is one)(hb:BS W T O N Wf env b mb):
  CS W T O N Wf env (.For target it b [] pos) (.forr is one mi mb):=by
 intro fu A X0 oa X f s fl f' Q aq cm sr bG hQ
 refine d7 (Ys bG) λfu xs sd bG=>?_
 refine wpAny_For (n6 40 A X0 oa X f s xs _ aq sr sd λzO s1 s2 x1 x2 hi=>?_) (Gg w8 env)
 obtain⟨I,fp,P,St,rfl,hI,hW,cv,kS,qm,hP,iW⟩:=hi
 have Wk:=hW A aq.handled
 have aY:=sr.ext L.ok x1
 have nT:∀a,s1.heap.get? a=ac->a∉W.T:=λa e q=>by refine ai (L.ok.tStill _ aY.tb a q) λo e' _=>?_;rw[e]at e';injection e'
 have D8:s.heap.get? I=ac:=by
  cases q:s.heap.get? I with
  |none=>rfl
  |some o=>have:=x1.keep I o (nT I hI) q;rw[hI]at this;injection this
 refine xk (kS 0 _ cv) λoI _ _ eI _=>?_
 have zU:=aY.hide L.ok (I:=[I]) x2 λa ha=>by simp at ha;obtain rfl:=ha.symm;exact⟨hI,oI,eI⟩
 have JD:=cm.hide (aY.cellNe hI)
 have D9:I∉X0:=λq=>aY.ltX' I hI (aY.sub I q)
 have base:Stp W X0 X X s s2:=(x1.trans x2).stp sr.tXX
 refine codeAny_forLoop_any (ForInv W T O Wf fu env X0 X I mb is one (fl,f') xs s2 St) (λn st Jn=>?_) xs.length
  ⟨0,oa,I::X,f,gB _,Stp.refl ..,zU,cv,bG⟩
 obtain⟨i,j9,X1,f1,jy,zW,Ea,Eb,kT⟩:=Jn
 have I1:I∈X1:=Ea.sub I fD
 have n5:∀a o,s1.heap.get? a=aa o->a∉X->a∉X1/\st.heap.get? a=aa o:=λa o e n=>by
  have e2:=x2.keep a o (λq=>n (sr.tXX a q)) e;have nI:a∉I::X:=λq=>by
   refine bX (cB.mp q) (λq=>?_) λq=>?_
   ·rw[q,hI]at e;injection e
   ·exact n q
  refine⟨λq=>?_,zW.keep a o nI e2⟩;refine bX (zW.new a q) (λq=>?_) λq=>?_
  ·exact nI q
  ·rw[e2]at q;injection q
 have DX:∀(h':cC)(tk:Nat),(∃o,h'.get? I=aa o)->(∀b o,b∉[I]->st.heap.get? b=aa o->h'.get? b=aa o)->
   Stp W X0 (I::X) X1 s2 {st with heap:=h',toks:=tk}/\SR W (I::X0) env j9 X1 h' f1:=λh' tk pf hk=>by
  refine dc (kS i _ Eb) λo Ty fs q1 q2 q3 q4=>?_
  have nf:=BA q1 q2 (Bz q3) q4
  refine⟨zW.trans ⟨(eR h' tk rfl),λb o n e=>hk b o (by simp;intro e_;clear e;obtain rfl:=e_.symm;exact n I1) e,λb o m n e=>hk b o (by simp;intro e_;clear e;obtain rfl:=e_.symm;exact D9 m) e,λa q=>.inl q⟩,Ea.other L.ok (Wr:=[I]) hk λa ha=>?_⟩
  simp at ha;obtain rfl:=ha.symm
  exact⟨fD,L.ok.fresh aY.bs hI,nT _ hI,pf,λo e=>⟨(nf o e).1,(nf o e).2.1⟩⟩
 by_cases bK:i<xs.length
 ·refine Wk.item i st _ _ bK Eb λv h' tk Jp zN hk=>?_;refine dc (kS _ _ zN) λo' Ty' fs' JE al2 al3 al4=>?_;obtain⟨lS,lU⟩:=DX h' tk (bC o' JE) hk;refine ai (hP i v Jp bK) λd Jq rv=>?_;have Jr:xs.drop i=d::xs.drop (i+1):=by
   refine ag (IP bK) ?_;have:=mH.mp Jq;exact ag this.2 rfl
  rw[Jr]at kT;simp only[eJ]at kT;split at kT<;>try contradiction
  rename_i f2 hbd;refine Z6 (s:={st with heap:=h',toks:=tk}) JE al2 al3 al4 ?_;have Js:Rep (aJ X1 h') v d:=rv.mono λa o e=>by refine aF (cb.mp e) λn1 e1=>?_;refine aF (n5 a o e1 n1) λn2 e2=>?_;exact cb.mpr ⟨n2,hk a o (by simp;intro e_;clear e n1 e1 e2;obtain rfl:=e_.symm;exact n2 I1) e2⟩
  refine ht A N (I::X0) j9 X1 f1 f2 {st with heap:=h',toks:=tk} v d _ _ aq JD lU Js hbd λs3 x3 dG=>?_;refine qP ?_;have key:∀Ec f3,bc T O Wf fu mb f2=aa (Ec,f3)->(∀eN X' s' dT,Stp W X0 (I::X) X' s2 s'->SR W (I::X0) env eN X' s'.heap f3->FlOk X' s'.heap Ec dT->St (i+1) s'.heap->OT (ForInv W T O Wf fu env X0 X I mb is one (fl,f') xs s2 St) n Q dT s')->aI (aP W.prog W.w) A (mN b env) (OT (ForInv W T O Wf fu env X0 X I mb is one (fl,f') xs s2 St) n Q) bg s3:=λEc f3 h2 wW=>by
   refine hb fu A (I::X0) j9 X1 f2 s3 Ec f3 _ aq JD dG h2 λeN X' s' dT x4 jB ho=>?_;refine wW eN X' s' dT ((lS.trans x3.weak).trans x4.weak) jB ho ?_;have UR:=x3.trans x4;refine Wk.frame _ _ _ zN λb hbm o e=>?_;refine bX (qm b hbm) (λg9=>?_) λfq=>?_
   ·clear hW kS qm Wk D8 eI zU JD D9 zW Ea I1 DX hk JE lS lU x3 dG wW x4 jB;subst g9;exact UR.keep0 b o fD (nT _ hI) e
   ·obtain⟨n1,o1,e1⟩:=fq;exact UR.keep b o (n5 b o1 e1 n1).1 e
  split at kT
  ·rename_i f3 h2;refine key .next f3 h2 λeN X' s' dT x4 jB ho JF=>?_;cases ho;exact⟨n-1,K0 jy bK,⟨i+1,eN,X',f3,K3 jy jy bK,x4,jB,JF,kT⟩⟩
  ·rename_i f3 h2;cases kT;refine key .brk f' h2 λeN X' s' dT x4 jB ho JF=>?_;cases ho;exact hQ eN X' s' .next (base.unhide0 D8 x4) (SR.less (I:=[I]) jB sr.tX) .next
  ·rename_i d3 f3 h2;cases kT;refine key (.ret d3) f' h2 λeN X' s' dT x4 jB ho JF=>?_;cases ho;rename_i r;exact hQ eN X' s' _ (base.unhide0 D8 x4) (SR.less (I:=[I]) jB sr.tX) (.ret r)
  ·injection kT
 ·have hil:i=xs.length:=by omega
  clear jy bK;obtain rfl:=hil.symm;rw[QgL]at kT;obtain⟨rfl,rfl⟩:=dx (aB kT);refine Wk.done st _ _ Eb λh' tk hk=>wP ?_;refine dc (kS _ _ Eb) λo Ty fs q1 q2 q3 q4=>?_;have jw:∀b o,b≠I->st.heap.get? b=aa o->h'.get? b=aa o:=λb o n e=>hk b o (by simpa using n) e;have stx:Stp W X0 (I::X) X1 s2 {st with heap:=h',toks:=tk}:=zW.trans ⟨(eR h' tk rfl),λb o n e=>jw b o (by intro e_;clear e;obtain rfl:=e_.symm;exact n I1) e,λb o m n e=>jw b o (by intro e_;clear e;obtain rfl:=e_.symm;exact D9 m) e,λa q=>.inl q⟩;exact hQ j9 _ _ .next ((base.unhide0 D8 stx).sub λa q=>(oZ.mp q).1) (Ea.drop L.ok sr.tX D9 jw (L.ok.fresh aY.bs hI) (BA q1 q2 (Bz q3) q4)) .next
end
end
section
section
variable {W:Wd} {T:Tabs} {O:bn} {N Wf:Nat}
theorem Z7:SE W T O N env (.UnaryOp .USub (.Constant (.int k) kk p) p') (.ki (-k)):=by
 intro fu A X0 oa X f s d Q aq r he hQ;cases fu with
 |zero=>injection he
 |succ fu=>
  obtain rfl:=aB he
  exact IK (zk (TP (hQ _ _ ((Ext.tok _).trans (Ext.tok _)) (.int _ _))))
def Z8(e:ax):Prop:=Gn e=ae\/∃cK gens sc pos,e=.ListComp cK gens sc pos
theorem Z9(h:br n c e=aa m):Gn e=ae\/∃cK gens sc pos,e=.ListComp cK gens sc pos:=by
 cases n with
 |zero=>injection h
 |succ n=>exact(show Says (br (n+1) c e) (λ_=>Z8 e)from by clear h;cases e using wL<;>first|exact io|exact .of λ_ _=>.inl rfl|exact .of λ_ _=>.inr (EC _ _ _ _ rfl)).get h
def BF(fr:List MS):Prop:=∀x∈fr,∃i,x=.frz i
theorem yg(c:Cx)(e:ME):BF (frz c e):=λx hx=>by unfold frz at hx;refine ai (gi.mp hx) λi _ av=>?_;clear hx;subst av;exact⟨i,rfl⟩
def lj(W:Wd)(T:Tabs)(O:bn)(N Wf:Nat)(env:bP)(st:dF)(a:List MS):Prop:=∃fr ms,a=fr++[ms]/\BF fr/\CS W T O N Wf env st ms
theorem Qaa{env:bP}{X0:List au}{oa:Nat->au}{s:aE}(fr:List MS):∀(fH:List MS)(fu:Nat)(f:Frm)(X:List au)(r:Fl×Frm),BF fr->SR W X0 env oa X s.heap f->bc T O Wf fu (fr++fH) f=aa r->
  ∃f1 X1 Ed,(∀a∈X1,a∈X)/\SR W X0 env oa X1 s.heap f1/\bc T O Wf Ed fH f1=aa r:=by
 induction fr with
 |nil=>exact λfH fu f X r _ sr h=>xm f X fu (λ_ h=>h) sr h
 |cons x fr ih=>
  intro fH fu f X r Ee sr h
  refine aD (Ee x fD) λi am=>?_;subst am
  obtain⟨fl,f'⟩:=r
  refine xk (Of h) λn x g h1 h2=>?_
  refine aF (YC h1) λe h3=>?_;clear h1;subst e
  have h4:bc T O Wf n (fr++fH) g=aa (fl,f'):=h2.elim (·.2) λq=>absurd rfl q.1
  have US:BF fr:=λy hy=>Ee y (eh _ hy)
  refine bX h3 (λq=>?_) λq=>?_
  ·refine ai q λxs hf e=>?_;subst e;refine k7 (ih fH n _ _ _ US (sr.freeze hf) h4) λf1 X1 Ed a b c=>?_;exact xm f1 X1 Ed (λz hz=>(oZ.mp (a z hz)).1) b c
  ·obtain rfl:=q.symm;exact ih fH n _ X _ US sr h4
theorem Stp.less(x:Stp W X0 X1 X' s s')(h:∀a∈X1,a∈X):Stp W X0 X X' s s':=⟨x.same,λb o n e=>x.keep b o (λq=>n (h b q)) e,x.keep0,λa q=>(x.new a q).imp (h a) id⟩
set_option tactic.hygienic true in
theorem pB(h:∀st a,tr st=aa a->lj W T O N Wf env st a):∀{ss:List dF}{Ef:List MS},kf tr ss=aa Ef->BS W T O N Wf env ss Ef
 |[],Ef,ht=>by obtain rfl:=aB ht;intro fu A X0 oa X f s fl f' Q aq cm sr bG hQ;refine aF (YD bG) λam av=>?_;subst am;obtain rfl:=av.symm;exact wP (hQ oa X s .next (Stp.refl ..) sr .next)
 |st::ss,Ef,ht=>by
  refine ai (xM ht) λa ha ht=>ai (xM ht) λb hb ht=>?_;obtain rfl:=aB ht;obtain⟨fr,ms,rfl,Ee,UT⟩:=h st a ha;have ih:=pB h hb;intro fu A X0 oa X f s fl f' Q aq cm sr bG hQ;refine ay λcG=>?_;rw[lM]at bG;refine k7 (Qaa fr _ fu f X _ Ee sr bG) λf1 X1 Ed pg aY JG=>?_;apply cG;clear cG;refine xk (Of JG) λn x g h1 h2=>?_;refine bX h2 (λq=>?_) λq=>?_
  ·refine aF q λe1 JG=>?_;clear h2 q;subst e1;refine lN (UT n A X0 oa X1 f1 s .next g _ aq cm aY h1 λJH X2 s2 dT x2 bU ho=>?_);cases ho;exact ih n A X0 JH X2 g s2 fl f' Q aq cm bU JG λoa3 X3 s3 dT x3 dG ho=>hQ oa3 X3 s3 dT ((x2.less pg).trans x3) dG ho
  ·refine eQ q λbT e1 e2=>?_;obtain rfl:=e1.symm;obtain rfl:=e2.symm;refine lN (UT n A X0 oa X1 f1 s fl f' _ aq cm aY h1 λJH X2 s2 dT x2 bU ho=>?_);have:=hQ JH X2 s2 dT (x2.less pg) bU ho;cases ho with
   |next=>exact absurd rfl bT
   |brk=>exact this
   |ret r=>exact this
theorem Qab(h:m0 c o k=aa a):∃m,o=aa m/\a=frz c m++[k m]:=by refine ay λcG=>?_;unfold m0 at h;refine ai (bO.mp h) λm h1 h2=>?_;apply cG;clear cG;exact(aO m h1 h2.symm)
section
variable {c:Cx} {env:bP}
theorem ta(L:Lib W T O N)(aX:er c env)(eo:EnvOk env)(e:ax)(m:ME)(h:br 40 c e=aa m):Snd W T O N env e m:=li L 40 c env e m aX eo h
theorem Gs(e:ax)(m:ME)(h:br 40 c e=aa m):fb e=ae:=(iG h).1
theorem Gu(aX:er c env)(hi:c.find x=aa (i,.local)):env.scope.names[i]?=aa (x,.local):=by
 refine ai (Gh aX hi) λk' h1 h2=>?_;rcases h2 with rfl|⟨q,_⟩
 ·exact h1
 ·injection q
theorem BG(aX:er c env)(h:qy c e=aa (i,x,p)):e=.Name x p/\env.scope.names[i]?=aa (x,.local):=by
 unfold qy at h;split at h
 ·rename_i hv;split at h
  ·rename_i hi;split at h
   ·rename_i hk;obtain⟨rfl,qh⟩:=dx (aB h);clear h;obtain⟨rfl,rfl⟩:=dx qh;have:=eq_of_beq hk;clear hk;subst this;exact⟨sM hv,Gu aX hi⟩
   ·injection h
  ·injection h
 ·injection h
theorem tc(L:Lib W T O N)(aX:er c env)(eo:EnvOk env){e:ax}{st:dF}{k:ME->MS}{a:List MS}(h:m0 c (br 40 c e) k=aa a)(H:∀m,br 40 c e=aa m->CS W T O N Wf env st (k m)):lj W T O N Wf env st a:=by refine ai (Qab h) λm hm av=>?_;clear h;subst av;exact⟨_,_,rfl,yg _ _,H m hm⟩
theorem td{st:dF}{ms:MS}(h:CS W T O N Wf env st ms):lj W T O N Wf env st [ms]:=⟨[],_,rfl,λ_ q=>absurd q j0,h⟩
theorem Qac(L:Lib W T O N)(aX:er c env)(eo:EnvOk env)(hi:c.find x=aa (i,kd))(iu:kd=.local \/kd=.cell)(hm:br 40 c e=aa m):CS W T O N Wf env (.Assign [.Name x tp] e pos) (.asg i m):=by
 refine ay λcG=>?_;refine ai (Gh aX hi) λk' h1 h2=>?_;have jw:k'=.local \/k'=.cell :=by
  clear h1;rcases h2 with rfl|⟨_,rfl⟩
  ·exact iu
  ·exact .inr rfl
 apply cG;clear cG;rcases Z9 hm with hc|⟨cK,gens,sc,mS,rfl⟩
 ·exact OO L eo (vy hc _ _ _) h1 jw (ta L aX eo e m hm).se
 ·refine ay λcG=>?_;refine ai (bx.mp hm) λg h0 h=>?_;refine Kv (OK h) λt px cJ ti me mi hg fE gN jx he n6 Jy=>?_;clear h;subst Jy;apply cG;clear cG;refine ag (k9 h0) (ag hg ?_);exact ZI L eo aX gN fE h1 jw jx (iG n6).2.1 (λC=>(li L 39 _ _ cK me (λi x k hk=>Ge hk) (Gf eo fE (Gi eo aX gN)) he).se) (li L 39 c env g.iter mi aX eo n6).si
theorem Qad(L:Lib W T O N)(aX:er c env)(eo:EnvOk env)(hi:c.find x=aa (i,.local))(h:Fu c i e=aa a):lj W T O N Wf env (.Assign [.Name x tp] e pos) a:=by
 unfold Fu at h;split at h
 ·rename_i hv;split at h
  ·rename_i q;obtain rfl:=aB h;simp only[Wo hv,nO.mp q];exact td (ZS L eo (Gu aX hi))
  ·injection h
 ·split at h
  ·rename_i hv;split at h
   ·rename_i hw;split at h
    ·refine ay λcG=>?_;rename_i q;simp only[bo,bl,nO]at q;obtain⟨⟨⟨⟨q1,q2⟩,q3⟩,q4⟩,q5⟩:=q;obtain⟨mo,ms,h1,h2,rfl⟩:=Gj h;have:=eq_of_beq q1;clear q1;subst this;apply cG;clear cG;simp only[Fo hv,Fn hw,q5];exact⟨_,_,rfl,yg _ _,ZT L eo Gs (Gu aX hi) q2 q3 q4 (ta L aX eo _ _ h1).se h2 λe _ m hm=>(ta L aX eo e m hm).se⟩
    ·injection h
   ·injection h
  ·injection h
set_option tactic.hygienic true in
theorem Qae(L:Lib W T O N)(aX:er c env)(eo:EnvOk env)(h:Fv c t e=aa a):lj W T O N Wf env (.Assign [t] e pos) a:=by
 unfold Fv at h;split at h
 ·rename_i hv;refine ag (sM hv) ?_;split at h
  ·rename_i i k hi;split at h
   ·rename_i hk;simp only[mK,bV]at hk;split at h
    ·split at h
     ·rename_i q;have:=eq_of_beq q;clear hk q;subst this;exact Qad L aX eo hi h
     ·injection h
    ·exact tc L aX eo h λm hm=>Qac L aX eo hi hk hm
   ·injection h
  ·injection h
 ·split at h
  ·rename_i hv;refine ag (Mu hv) ?_;split at h
   ·rename_i w9;split at h
    ·rename_i q;simp only[bo,bl]at q;exact tc L aX eo h λm hm=>ZL L eo aX w9 q.1 q.2 (ta L aX eo _ _ hm).se
    ·injection h
   ·injection h
  ·injection h
theorem Qaf(L:Lib W T O N)(aX:er c env)(eo:EnvOk env)(h:Fw c e=aa a):lj W T O N Wf env (.Expr e pos) a:=by
 unfold Fw at h;split at h
 ·rename_i hv;split at h
  ·rename_i hw;split at h
   ·rename_i hl;refine aF (BG aX hl) λe1 hi=>?_;split at h
    ·refine ay λcG=>?_;rename_i q;simp only[bo,nO]at q;refine aF q λaM q3=>?_;obtain⟨q1,q2⟩:=aM;apply cG;clear cG;simp only[Fo hv,Fn hw,e1,q3];split at h
     ·rename_i ha;refine ag (k9 ha) ?_;split at h
      ·rename_i q4;have:=eq_of_beq q4;clear hw;subst this;exact tc L aX eo h λm hm=>ZU L eo Gs q1 q2 hi hm (ta L aX eo _ _ hm).se
      ·split at h
       ·rename_i q4;have:=eq_of_beq q4;clear hw;subst this;exact tc L aX eo h λm hm=>ZV L eo Gs q1 q2 hi hm (ta L aX eo _ _ hm).se
       ·injection h
     ·split at h
      ·rename_i q4;simp only[bo,nO]at q4;have:=eq_of_beq q4.1;clear hw;subst this;obtain rfl:=aB h;refine ag q4.2 ?_;exact td (ZW L eo q1 q2 hi)
      ·injection h
    ·injection h
   ·injection h
  ·injection h
 ·injection h
theorem Qag(L:Lib W T O N)(aX:er c env)(eo:EnvOk env)(h:Fx c e=aa a):lj W T O N Wf env (.Delete [e] pos) a:=by
 unfold Fx at h;split at h
 ·rename_i hv;split at h
  ·rename_i hl;refine aF (BG aX hl) λe1 hi=>?_;split at h
   ·rename_i q;refine ag (Wq hv) (ag e1 ?_);split at h
    ·rename_i hk;obtain rfl:=aB h;refine ag (AT hk) ?_;exact td (OS L eo q hi Oh)
    ·split at h
     ·rename_i hk;obtain rfl:=aB h;refine ag (Mv hk) ?_;exact td (OS L eo q hi Z7)
     ·injection h
   ·injection h
  ·injection h
 ·injection h
end
theorem BH(L:Lib W T O N):∀(n:Nat)(c:Cx)(env:bP)(st:dF)(a:List MS),er c env->EnvOk env->i6 n c st=aa a->lj W T O N Wf env st a
 |0,_,_,_,_,_,_,h=>by injection h
 |n+1,c,env,st,a,aX,eo,h=>by
  have ex:=λe m(h:br 40 c e=aa m)=>ta L aX eo e m h;have ih:=λst a(h:i6 n c st=aa a)=>BH L n c env st a aX eo h;refine(show Says (i6 (n+1) c st) (λa=>lj W T O N Wf env st a)from ?_).get h;clear h a;cases st with
  |Assign ts e p=>
   refine .of λa h=>?_
   refine ai (bx.mp h) λt h0 h=>?_
   refine ag (k9 h0) ?_
   exact Qae L aX eo h
  |AugAssign t op e p=>
   refine .of λa(h:(match qy c t,AR op with|some (i,_),aa o=>m0 c (br 40 c e) (.aug i o)|_,_=>ac)=aa a)=>?_
   split at h
   ·rename_i hl ho;refine aF (BG aX hl) λe1 hi=>?_;have:=OJ ho;clear ho;subst this;refine ag e1 ?_;exact tc L aX eo h λm hm=>ZQ L eo hi (ex _ _ hm).se
   ·injection h
  |If t x y p=>
   refine .of λa h=>?_
   refine ay λcG=>?_
   refine dc (vx h) λm ma mb h1 h2 h3 lX=>?_;subst lX
   apply cG;clear cG
   exact⟨_,_,rfl,yg _ _,ZX L (ex _ _ h1).st (pB ih h2) (pB ih h3)⟩
  |While t b uo p=>
   refine .of λa(h:(match br 40 c t,kf (i6 n c) b with|some m,aa mb=>if(frz c m).isEmpty &&uo.isEmpty then aa [.whl m mb]else ac|_,_=>ac)=aa a)=>?_
   split at h
   ·rename_i h1 h2;split at h
    ·rename_i q;simp only[bo,nO]at q;obtain rfl:=aB h;refine ag q.2 ?_;exact td (ZY L (ex _ _ h1).st (pB ih h2))
    ·injection h
   ·injection h
  |For t it b uo p=>
   refine .of λa (h:(match br 40 c it,kf (i6 n c) b with
    |some m,aa mb=>if uo.isEmpty then(match qy c t with
      |some (i,_)=>aa (frz c m++[.forr [i] ae m mb])
      |none=>(match xO t with
       |some (ts,_)=>(sO c ts).map λis=>frz c m++[.forr is af m mb]
       |none=>ac))else ac
    |_,_=>ac)=aa a)=>?_
   split at h
   ·rename_i h1 h2;split at h
    ·rename_i q;refine ag (nO.mp q) ?_;split at h
     ·refine ay λcG=>?_;rename_i hl;refine aF (BG aX hl) λe1 hi=>?_;apply cG;clear cG;obtain rfl:=aB h;refine ag e1 ?_;exact⟨_,_,rfl,yg _ _,OU L (iG h1).2.1 (ex _ _ h1).si (ZZ L.ok eo hi) (pB ih h2)⟩
     ·split at h
      ·rename_i hv;refine ai (bO.mp h) λis h0 av=>?_;subst av;refine ag (Mu hv) ?_;exact⟨_,_,rfl,yg _ _,OU L (iG h1).2.1 (ex _ _ h1).si (Z5 L.ok eo aX h0) (pB ih h2)⟩
      ·injection h
    ·injection h
   ·injection h
  |Return oe p=>
   cases oe with
   |none=>exact io
   |some e=>exact .of λa h=>tc L aX eo h λm hm=>OQ L (ex _ _ hm).se
  |Expr e p=>exact .of λa h=>Qaf L aX eo h
  |Delete es p=>
   refine .of λa h=>?_
   refine ay λcG=>?_
   refine ai (bx.mp h) λe h0 h=>?_
   apply cG;clear cG
   refine ag (k9 h0) ?_
   exact Qag L aX eo h
  |Assert t m p=>
   cases m with
   |none=>exact .of λa h=>tc L aX eo h λm hm=>ZO L (ex _ _ hm).st
   |some e=>exact io
  |Break p=>exact(td ZM:lj W T O N Wf env _ _)
  |Raise a b p=>exact(td ZN:lj W T O N Wf env _ _)
  |_=>exact io
end
end
section
section
variable {W:Wd} {T:Tabs} {O:bn} {N Wf:Nat}
theorem Gv:∀(names:List (ar×dR))(n:Nat)(acc:List (ar×au)),∀p∈acc,p∈o9 n names acc
 |[],_,_,_,h=>h
 |(nm,k)::r,n,acc,p,h=>by
  unfold o9;split
  ·exact Gv r _ _ p (eh _ h)
  ·exact Gv r _ _ p h
theorem vz:∀(names:List (ar×dR))(n:Nat)(acc:List (ar×au))(x:ar),(x,TO)∈names->∃c,(x,c)∈o9 n names acc
 |[],_,_,_,h=>by cases h
 |(nm,k)::r,n,acc,x,h=>by
  unfold o9;refine bX (cB.mp h) (λh=>?_) λh=>?_
  ·obtain⟨rfl,rfl⟩:=dx h;rw[aw (by decide)];exact⟨n,Gv r _ _ _ fD⟩
  ·split
   ·exact vz r _ _ x h
   ·exact vz r _ _ x h
theorem OV:∀(b:List (ar×ao))(m:ar->Option ao),x∉b.map (·.1)->bindL ko b m x=m x
 |[],_,_=>rfl
 |(n,v)::r,m,h=>by
  simp only[cA,cB,not_or]at h;unfold bindL;rw[OV r _ h.2];split
  ·simp[h.1]
  ·rfl
theorem OW:∀(b:List (ar×ao))(m:ar->Option ao),x∉b.map (·.1)->bindC ko b m x=m x
 |[],_,_=>rfl
 |(n,v)::r,m,h=>by
  simp only[cA,cB,not_or]at h;unfold bindC;rw[OW r _ h.2];split
  ·rfl
  ·simp[h.1]
theorem Gw(hk:ko x=aa .local):∀(b:List (ar×ao))(m:ar->Option ao)(i:Nat),(b.map (·.1)).Nodup ->b[i]?=aa (x,v)->bindL ko b m x=aa v
 |[],_,i,_,h=>by injection h
 |(n,u)::r,m,i,hn,h=>by
  simp only[cA,rC]at hn;unfold bindL;cases i with
  |zero=>
   simp at h;obtain⟨rfl,rfl⟩:=h
   rw[OV r _ hn.1,aw hk];simp
  |succ i=>exact Gw hk r _ i hn.2 (by simpa using h)
theorem Gx(hk:ko x≠aa .local):∀(b:List (ar×ao))(m:ar->Option ao)(i:Nat),(b.map (·.1)).Nodup ->b[i]?=aa (x,v)->bindC ko b m x=aa v
 |[],_,i,_,h=>by injection h
 |(n,u)::r,m,i,hn,h=>by
  simp only[cA,rC]at hn;unfold bindC;cases i with
  |zero=>
   simp at h;obtain⟨rfl,rfl⟩:=h
   rw[OW r _ hn.1,az hk];simp
  |succ i=>exact Gx hk r _ i hn.2 (by simpa using h)
structure FnForm(fd:o5)(body:List dF)(ps:List ar):Prop where
 body:fd.body=.stmts body
 clo:fd.closure=[]
 glob:fd.globals=ew
 blt:fd.builtins=za
 co:fd.scope.isCoroutine=af
 gen:fd.scope.isGenerator=af
 kind:fd.scope.kind=.function
 nodup:(fd.scope.names.map (·.1)).Nodup
 free:∀x∈fd.scope.names,x.2≠.free
 pars:∀(i:Nat)(x:ar),ps[i]?=aa x->∃kd,fd.scope.names[i]?=aa (x,kd)/\(kd=.local \/kd=.cell)
 bind:∀vs:List ao,vs.length=ps.length->bindArgs fd ⟨vs,[]⟩=pure (ps.zip vs)
set_option tactic.hygienic true in
theorem OX(L:Lib W T O N)(F:FnForm fd body ps)(ho:∀h,W.Bs h->h.get? a=aa o)(hd:o.data=.func fd)(kW:∀h,W.Bs h->W.Tb h->h.CodeRec fd.code fd.qualname)
  {c:Cx} (aX:c.names=fd.scope.names) {mb:List MS} {n:Nat} (wV:kf (i6 n c) body=aa mb) {args:List an} {d:an} {ff:Frm} {fu:Nat}
  (bh:args.length=ps.length) (bG:bc T O Wf fu mb (args.map .val ++bz (fd.scope.names.length-ps.length) .un)=aa (.ret d,ff))
  {A:dK} {X:List au} {s:aE} {vs:List ao} {Q:ao->aE->Prop} (aq:AOk A (N+1)) (bs:W.Bs s.heap) (tb:W.Tb s.heap) (tX:∀a∈W.T,a∈X) (alX:∀a∈X,∃o,s.heap.get? a=aa o) (hr:RepL (aJ X s.heap) vs args) (hQ:jH W X s d Q):
  aI (aP W.prog W.w) A (call (.ref a) vs) Q bg s:=by
 have j8:vs.length=ps.length:=hr.length.trans bh
 have pn:ps=(fd.scope.names.map (·.1)).take ps.length:=by
  apply rE;intro i;rw[ue];by_cases hi:i<ps.length
  ·rw[aw hi];refine ai (F.pars i ps[i] (by simp[hi])) λkd h1 _=>?_;rw[dS];refine ag h1 ?_;simp[hi]
  ·rw[az hi];simp[hi]
 have uD:ps.Nodup:=by refine ag pn ?_;exact F.nodup.sublist (T6 ..)
 have JI:ps.length<=fd.scope.names.length:=by have:=congrArg dN pn;rw[eV,bq]at this;exact K5 this
 have zf:(ps.zip vs).map (·.1)=ps:=by rw[IE (Aq j8)]
 have dk:A.depth<1000:=by have:=aq.depth;exact aQ 0x382aba240382aba2430c9200 Yt this
 refine wpAny_call (codeAny_call_cells dk (ho _ bs) hd (L.ok.bsLim _ bs) (kW _ bs tb) F.body (F.bind vs j8) F.clo (λx hx=>?_) (λaS ic=>?_) F.co F.gen F.kind)
 ·obtain⟨i,hi,e⟩:=pV hx;have iX:i<ps.length:=by simp at hi;exact K6 hi
  have e1:ps[i]?=aa x.1:=by
   have:((ps.zip vs).map (·.1))[i]?=aa x.1:=by rw[dS];refine ag (cf hi) (ag e ?_);rfl
   rwa[zf]at this
  refine ai (F.pars i x.1 e1) λkd h1 h2=>?_;have h3:=sR F.nodup h1;rcases h2 with rfl|rfl
  ·exact .inl h3
  ·refine aD (vz fd.scope.names (s.heap.objs.size+1) [] x.1 (mG h1)) λcc hc=>?_;refine aD (vw hc) λc' e'=>?_;exact .inr ⟨h3,by refine ag e' ?_;rfl⟩
 ·generalize iz:callEnvC fd s.heap.objs.size a=env at ic;have df:env.scope=fd.scope:=by refine a8 iz ?_;rfl
  have dq:env.cells=o9 (s.heap.objs.size+1) fd.scope.names []:=by refine a8 iz ?_;rfl
  have eo:EnvOk env:=by
   refine⟨by refine ag df ?_;exact F.kind,by refine a8 iz ?_;exact F.glob,by refine a8 iz ?_;exact F.blt,by refine ag df ?_;exact F.nodup,λi x k hi hk=>?_⟩;rw[df]at hi;have mem:=mG hi;clear hi;rcases hk with rfl|rfl
   ·refine ag dq ?_;refine aD (vz fd.scope.names (s.heap.objs.size+1) [] x mem) λcc hc=>?_;exact vw hc
   ·exact absurd rfl (F.free _ mem)
  have cx:er c env:=λi x k h=>(aO k (by refine ag df (a8 aX ?_);exact h) (.inl rfl));obtain⟨⟨hp,tk,e0⟩,dY,ft,zX⟩:=ic.toInCall;have zY:∀b,s.heap.objs.size<=b->s.heap.get? b=ac:=λb hb=>by
   cases e:s.heap.get? b with
   |none=>rfl
   |some o'=>exact absurd (fK e) (Du.mpr hb)
  have Ln:s.heap.get? env.locals=ac:=zY _ zX;have Cn:∀x cc,(x,cc)∈env.cells->s.heap.get? cc=ac:=λx cc hm=>zY _ (nR zX (Dv (ic.above x cc hm)));have x1:Ext W s aS:=by clear ic dY;subst e0;exact Ext.grow L.ok tk ft
  have sn:∀b,s.heap.get? b=ac->b∉X:=λb e q=>by refine aD (alX b q) λo q=>?_;rw[e]at q;injection q
  have sr:SR W X env (λ_=>0) (env.locals::(env.cells.filterMap (λp=>env.cells.lookup p.1)++X)) aS.heap (args.map .val ++bz (fd.scope.names.length-ps.length) .un):=by
   have hm:∀b oo,aJ X s.heap b=aa oo->aJ (env.locals::(env.cells.filterMap (λp=>env.cells.lookup p.1)++X)) aS.heap b=aa oo:=λb oo e=>by
    refine aF (cb.mp e) λn1 e1=>?_;refine cb.mpr ⟨λq=>?_,ft b oo e1⟩;rcases cB.mp q with q|q
    ·rw[q,Ln]at e1;injection e1
    ·rcases gZ.mp q with q|q
     ·refine ai (o6.mp q) λp n8 dZ=>?_;have:=Cn p.1 b (mem_of_lookup dZ);rw[e1]at this;injection this
     ·exact n1 q
   refine⟨x1.bs bs,x1.tb tb,tX,λb hb=>eh _ (nM _ hb),λb hb=>?_,⟨fD,sn _ Ln,L.ok.fresh bs Ln⟩,λx cc hc=>?_,(aO _ dY (λi x kd hi=>?_)),λi j xs ys hi hj=>?_,?_⟩
   ·rcases cB.mp hb with rfl|hb
    ·obtain⟨o',_,_,e,_⟩:=dY;exact(bC o' e)
    ·rcases gZ.mp hb with hb|hb
     ·refine ai (o6.mp hb) λp n8 dZ=>?_;obtain⟨o',e',_⟩:=ic.cell _ _ dZ;exact(bC o' e')
     ·refine aD (alX b hb) λo' e=>?_;exact(bC o' (ft b o' e))
   ·exact⟨eh _ (Iy _ (o6.mpr (aO ((x,cc)) (mem_of_lookup hc) hc))),_,ic.cell x cc hc⟩
   ·rw[df]at hi;by_cases bK:i<args.length
    ·rw[zt (by simpa using bK),dS];refine ag (cf bK) ?_;rw[bF];have so:i<ps.length:=qt bh bK;refine ai (F.pars i ps[i] (by simp[so])) λkd' h1 h2=>?_;rw[hi]at h1;refine aF (dx (aB h1)) λaM am=>?_;subst aM;subst am;have sq:i<vs.length:=ER bh j8 bK;have hz:(ps.zip vs)[i]?=aa (ps[i],vs[i]):=wQ.mpr ⟨cf so,cf sq⟩;have iu:env.kindOf ps[i]=aa kd:=by
      have:env.scope.names[i]?=aa (ps[i],kd):=by refine ag df ?_;exact hi
      exact eo.kindAt this
     refine⟨vs[i],?_,(hr.at i _ _ (by simp[sq]) (by simp[bK])).mono hm⟩;clear h1;rcases h2 with rfl|rfl
     ·exact Gw iu _ _ i (by refine ag zf ?_;exact uD) hz
     ·obtain⟨cc,hc⟩:=eo.cellsAll i ps[i] .cell (by refine ag df ?_;exact hi) (.inl rfl);refine⟨cc,hc,?_⟩;have:=ic.cell _ _ hc;rwa[Gx (by refine ag iu ?_;decide) _ _ i (by refine ag zf ?_;exact uD) hz]at this
    ·rw[zu (by rw[bq];exact mW bK),QgQ];split<;>trivial
   ·exfalso;have no:∀(i:Nat)(xs:List an),(args.map FV.val++bz (fd.scope.names.length-ps.length) FV.un)[i]?≠aa (FV.own xs):=λi xs e=>by
     have:=mG e;rcases gZ.mp this with q|q
     ·refine ai (gi.mp q) λ_ _ q=>?_;injection q
     ·have:=DH q;injection this
    exact no i xs hi
   ·refine ag df ?_;rw[dn,bq,lO];refine ag bh ?_;exact An JI
  have cm:CellsMine W X env:=⟨λx cc _ hc=>⟨sn _ (Cn x cc (mem_of_lookup hc)),L.ok.fresh bs (Cn x cc (mem_of_lookup hc))⟩,ic.apart⟩;have JJ:=pB (λst a h=>BH (Wf:=Wf) L n c env st a cx eo h) wV;refine qP (JJ fu (A.deeper env) X _ _ _ aS (.ret d) ff _ aq.deeper cm sr bG λeN X' s' dT st lU fo=>?_);cases fo;rename_i v rv;have keep:∀b oo,b∉W.T->s.heap.get? b=aa oo->s'.heap.get? b=aa oo:=λb oo nT e=>by
   have e1:=ft b oo e;by_cases q:b∈X
   ·exact st.keep0 b oo q nT e1
   ·refine st.keep b oo (λq2=>?_) e1;rcases cB.mp q2 with q2|q2
    ·rw[q2,Ln]at e;injection e
    ·rcases gZ.mp q2 with q2|q2
     ·refine ai (o6.mp q2) λp n8 dZ=>?_;have:=Cn p.1 b (mem_of_lookup dZ);rw[e]at this;injection this
     ·exact q q2
  have xx:Ext W s s':=by refine⟨?_,keep,λ_=>lU.bs,λ_=>lU.tb⟩;exact qJ (eR _ _ e0) st.same
  exact hQ v s' xx (rv.mono (FR lU.sub))
end
end
section
section
variable {prog:rB} {w:d9} {A:dK} {E:ao->aE->Prop} {s:aE}
noncomputable def lk{α:Type}(n:Nat)(P:α->Prop):kL α->Prop
 | .ret a=>P a
 | .ask i j k=>i<n/\j<n/\∀b,lk n P (k b)
theorem vA{P:α->Prop}{Q:β->Prop}{f:α->kL β}(hf:∀a,P a->lk n Q (f a)):∀(t:kL α),lk n P t->lk n Q (t.bind f)
 | .ret a,h=>hf a h
 | .ask i j k,h=>⟨h.1,h.2.1,λb=>vA hf (k b) (h.2.2 b)⟩
theorem OY(hc:∀i j(C:Bool->aE->Prop),i<n->j<n->C (c i j) s->cmp i j C s):∀(t:kL α),lk n P t->Q (cW c t) s->t.kasWp cmp Q s
 | .ret _,_,h=>h
 | .ask i j k,hi,h=>hc i j _ hi.1 hi.2.1 (OY hc (k (c i j)) (hi.2.2 _) h)
abbrev fR(n:Nat)(p:Array Nat):Prop:=∀x∈p,x<n
theorem oL(h0:0<n)(h:fR n p)(k:Nat):p.getD k 0<n:=by
 by_cases q:k<p.size
 ·have e:p.getD k 0=p[k]:=by simp[Array.getD,q]
  refine ag e ?_;exact h _ (Array.getElem_mem q)
 ·have e:p.getD k 0=0:=by simp[Array.getD,q]
  refine ag e ?_;exact h0
theorem OZ(h:q.Perm p)(l:fR n p):fR n q:=λx hx=>l x (h.mem_iff.mp hx)
theorem yh(l:fR n p)(i j:Nat):fR n (pZ p i j):=OZ (foldl_swaps_perm _ _ _ _) l
theorem Qah(l:fR n p)(k d:Nat):fR n (bubble p k d):=OZ (foldl_swaps_perm _ _ _ _) l
section
variable {n:Nat} (h0:0<n)
include h0
theorem Gy(l:fR n p):∀(f k:Nat),lk n (λ_=>True) (rL p f k)
 |0,_=>trivial
 |f+1,k=>⟨oL h0 l _,oL h0 l _,λb=>by
  cases b with
  |true=>exact trivial
  |false=>exact Gy l f (k+1)⟩
theorem BJ:∀(f:Nat)(p:Array Nat)(k q:Nat),fR n p->lk n (λr:Array Nat×Nat×Nat=>fR n r.1) (uf f p k q)
 |0,p,_,_,l=>l
 |f+1,p,k,q,l=>⟨oL h0 l _,oL h0 l _,λb=>by
  cases b with
  |true=>
   simp only[if_true]
   split
   ·exact BJ f _ _ _ (yh l _ _)
   ·exact BJ f _ _ _ l
  |false=>
   refine⟨oL h0 l _,oL h0 l _,λb=>?_⟩
   cases b with
   |true=>exact l
   |false=>exact BJ f _ _ _ l⟩
theorem O0{p:Array Nat}(l:fR n p):lk n (λr:Nat×Array Nat=>fR n r.2) (kas_tail3 k m p):=by unfold kas_tail3;exact vA (P:=λ_=>True) (Q:=λr:Nat×Array Nat=>fR n r.2) (f:=λm=>kL.ret (m,pZ p 0 k)) (λ_ _=>show fR n _ from yh l _ _) _ (Gy h0 (yh l _ _) _ _)
theorem O1{p:Array Nat}(l:fR n p):lk n (λr:Nat×Array Nat=>fR n r.2) (DI k m p):=by
 unfold DI;exact vA (P:=λr:Array Nat×Nat×Nat=>fR n r.1) (λr hr=>by
  split
  ·exact O0 h0 (yh hr _ _)
  ·exact O0 h0 hr) _ (BJ h0 _ _ _ _ l)
theorem Qai{p:Array Nat}(l:fR n p):lk n (λr:Nat×Array Nat=>fR n r.2) (rM m p):=by
 unfold rM;exact vA (P:=λ_=>True) (λk _=>by
  split
  ·exact l
  ·split
   ·refine⟨oL h0 l _,oL h0 l _,λb=>?_⟩;cases b with
    |true=>exact l
    |false=>exact O1 h0 (yh l _ _)
   ·exact O1 h0 l) _ (Gy h0 l _ _)
theorem Gz(l:fR n p):∀(f a b:Nat),lk n (λ_=>True) (pa p k f a b)
 |0,_,_=>trivial
 |f+1,a,b=>by
  unfold pa;split
  ·exact trivial
  ·refine⟨oL h0 l _,oL h0 l _,λc=>?_⟩;cases c with
   |true=>exact Gz l f _ _
   |false=>exact Gz l f _ _
theorem O2:∀(f:Nat)(p:Array Nat)(k:Nat),fR n p->lk n (fR n) (kas_bin f p k)
 |0,p,_,l=>l
 |f+1,p,k,l=>vA (P:=λ_=>True) (λ_ _=>O2 f _ _ (Qah l _ _)) _ (Gz h0 l _ _ _)
theorem Qaj:lk n (fR n) (oY n):=by
 unfold oY;exact vA (P:=λr:Nat×Array Nat=>fR n r.2) (λr hr=>by
  split
  ·exact O2 h0 _ _ _ hr
  ·exact hr) _ (Qai h0 (λx hx=>by simpa using hx))
end
set_option backward.match.sparseCases true in
theorem Qak(ho:s.heap.get? a=aa (seqObj "list" vs.toArray n))(uF:vs.length<64)
  (hk:∀(A:dK)(h':cC)(Q:SortKind->aE->Prop)(E:ao->aE->Prop),(∀b o,b≠a->s.heap.get? b=aa o->h'.get? b=aa o)->2<=vs.length->Q (tuples' ae) {s with heap:=h'}->aI (aP prog w) A (keyKind' vs.toArray) Q E {s with heap:=h'})
  (hc:∀(A:dK)(h':cC) i j(C:Bool->aE->Prop),i<vs.length->j<vs.length->(∀b o,b≠a->s.heap.get? b=aa o->h'.get? b=aa o)->C (c i j) {s with heap:=h'}->kas_ask prog w A (tuples' ae) vs i j C {s with heap:=h'})
  (h1:vs.length<2->out=vs) (h2:2<=vs.length->out=(cW c (oY vs.length)).toList.map λi=>vs.getD i T7) (hz:out.length<=64)
  (h:P (.done (.ret .none)) {s with heap:=sortedHeap s.heap a vs out.toArray}):aI (aP prog w) A (Dz.«list.sort» ⟨[.ref a],[]⟩) P E s:=by
 have ha:a<s.heap.objs.size:=fK ho
 have e1:∃e1,(s.heap.update a (ud λ_=>#[])).get? a=aa (seqObj "list" #[] e1):=⟨_,get?_update_seq ho (λ_=>#[])⟩
 obtain⟨e1,UU⟩:=e1
 let H:cC:=((s.heap.update a (ud λ_=>#[])).push (seqObj "tuple" vs.toArray 0)).push (seqObj "list" #[] 0)
 have JK:a≠(s.heap.update a (ud λ_=>#[])).objs.size :=by simp only[T8];exact lK ha
 have JL:a≠((s.heap.update a (ud λ_=>#[])).push (seqObj "tuple" vs.toArray 0)).objs.size :=by rw[size_push',T8];exact lK (DE ha)
 have hH:H.get? a=aa (seqObj "list" #[] e1):=(QgR _ _ _ JL).trans ((QgR _ _ _ JK).trans UU)
 have kH:∀b o,b≠a->s.heap.get? b=aa o->H.get? b=aa o:=λb o hb e=>jr _ (jr _ ((QgS _ _ _ _ hb).trans e))
 rw[list_sort_plain]
 refine bH (listItems_at ho rfl ?_)
 refine bH (listUpdate_at ho rfl (bH (seqEpoch_at UU rfl ?_)) (by simp;refine ag dy ?_;exact Au uF) (by simp))
 refine bH (wpAny_newTuple (bH (wpAny_newList (zi ?_) (by simp))) (by simp;refine ag dy ?_;exact Au uF))
 show aI (aP prog w) A _ P E {s with heap:=H}
 dsimp only
 have fin:∀st:SortSt,(arrOf st).map (·.2)=out.toArray->failedOf st=ac->aI (aP prog w) A (do
   let Qij:=(<-seqEpoch a)!=e1
   Builtin.List.listUpdate (.ref a) λ_=>(arrOf st).map (·.2)
   if let aa e:=failedOf st then rule "list.sort.comparison-raised";throw e
   if Qij then rule "list.sort.modified";raiseError "ValueError" "list modified during sort"
   ret .none) P E {s with heap:=H}:=λst h1 h2=>by
  refine bH (seqEpoch_at hH rfl ?_)
  refine ag h1 (ag h2 ?_)
  refine bH (listUpdate_at hH rfl ?_ (by simp) (by simp;refine ag dy ?_;exact aH 0x183242082082082089006082240 Yt hz))
  simp only[bne_self_eq_false,wB,if_false]
  exact dW h
 by_cases q:vs.toArray.size<2
 ·rw[aw q,aw q];refine bH (dW ?_);dsimp only[StateT.run_pure];refine bH (dW (fin _ ?_ rfl));simp only[h1 (by simpa using q)];show(vs.toArray.zip vs.toArray).map (·.2)=_;apply zc.mp;simp[List.map_snd_zip]
 ·rw[az q,az q];have q2:2<=vs.length:=by simp at q;exact aH 0x180446011 Yt q
  refine bH (hk A H _ _ kH q2 ?_);have run:=kat_run (E:=E) (ks:=vs) (Q:=λzZ s'=>s'={s with heap:=H}/\(arrOf zZ).map (·.2)=out.toArray/\failedOf zZ=ac) rfl q2 uF (G:=λp s'=>s'={s with heap:=H}/\p=cW c (oY vs.length)) (λp zZ s' hp har hf hG=>by clear hp;obtain⟨rfl,rfl⟩:=hG;exact⟨rfl,by exact ag (kat_snds rfl har) (ag (h2 q2) rfl),hf⟩) (OY (c:=c) (λi j C hi hj hC=>hc A H i j C hi hj kH hC) _ (Qaj (ES q2)) ⟨rfl,rfl⟩);refine bH (nQ run (λr s' hr=>?_) λ_ _ e=>e);obtain⟨⟨⟩,zZ⟩:=r;obtain⟨rfl,h3,h4⟩:=hr;exact fin zZ h3 h4
theorem Qal(hl:s.heap.IsList l vs.toArray)(uF:vs.length<64)
  (hk:∀(A:dK)(s':aE)(Q:SortKind->aE->Prop)(E:ao->aE->Prop),(∀b o,s.heap.get? b=aa o->s'.heap.get? b=aa o)->2<=vs.length->Q (tuples' ae) s'->aI (aP prog w) A (keyKind' vs.toArray) Q E s')
  (hc:∀(A:dK)(s':aE) i j(C:Bool->aE->Prop),i<vs.length->j<vs.length->(∀b o,s.heap.get? b=aa o->s'.heap.get? b=aa o)->C (c i j) s'->kas_ask prog w A (tuples' ae) vs i j C s')
  (h1:vs.length<2->out=vs) (h2:2<=vs.length->out=(cW c (oY vs.length)).toList.map λi=>vs.getD i T7) (hz:out.length<=64)
  (h:∀h' D n,s.heap.objs.size<=D->(∀b o,s.heap.get? b=aa o->h'.get? b=aa o)->h'.get? D=aa (seqObj "list" out.toArray n)->Q (.ref D) {s with heap:=h'}):aI (aP prog w) A (call (.builtin "sorted") [.ref l]) Q E s:=by
 refine Calls.call_function_entry kind_sorted plain_sorted entry_sorted (args_sorted1 _) ?_
 unfold Dz.«sorted»
 refine bH (m:=checkCount "sorted" 1 1 _) (dW ?_)
 refine bH (collect_list hl (bH (wpAny_newList ?_ (by refine ag dy ?_;exact Au uF))) (by refine ag dy ?_;exact Au uF))
 let G:cC:=(s.heap.push (seqObj "list" #[] 0)).update s.heap.objs.size (ud (· ++vs.toArray))
 have gs:G.objs.size=s.heap.objs.size+1:=(T8 ..).trans (size_push' ..)
 have kG:∀b o,s.heap.get? b=aa o->(G.push (seqObj "list" vs.toArray 0)).get? b=aa o:=λb o e=>jr _ ((QgS _ _ _ _ (lK (fK e))).trans (jr _ e))
 have hD:(G.push (seqObj "list" vs.toArray 0)).get? G.objs.size=aa (seqObj "list" vs.toArray 0):=g5 _ rfl
 have JM:∀b o,s.heap.get? b=aa o->b≠G.objs.size:=λb o e=>by simp only[gs];exact lK (DE (fK e))
 show aI _ _ _ _ _ {s with heap:=G.push (seqObj "list" vs.toArray 0)}
 refine bH (zi (wpAny_call_entry slot_list_sort ⟨_,hD,rfl⟩ entry_list_sort ?_ (args_list_sort _)))
 refine Qak (s:={s with heap:=G.push (seqObj "list" vs.toArray 0)}) (out:=out) hD uF (λA h' Q E k q hq=>hk A _ Q E (λb o e=>k b o (JM b o e) (kG b o e)) q hq) (λA h' i j C hi hj k hC=>hc A _ i j C hi hj (λb o e=>k b o (JM b o e) (kG b o e)) hC) h1 h2 hz ?_
 refine(aO _ rfl (dW (aO _ rfl ?_)))
 refine aD (sortedHeap_at hD:∃n,(sortedHeap (G.push (seqObj "list" vs.toArray 0)) G.objs.size vs out.toArray).get? G.objs.size=aa (seqObj "list" out.toArray n)) λn hn=>?_
 exact h _ _ n (by refine ag gs ?_;exact Nat.le_succ _) (λb o e=>(sortedHeap_old (JM b o e) (by simp only[size_push',gs];exact DE (DE (fK e)))).trans (kG b o e)) hn
end
section
variable {W:Wd} {A:dK} {X:List au} {s:aE} {Q:ao->aE->Prop} {n:Nat}
theorem Qam(h:fB ds=aa xs):ds=xs.map .int :=AX (λ_ _=>hY) h
theorem BK:∀{ds:List an}{xs:List (List Int)}{vs:List ao},xS ds=aa xs->RepL h.get? vs ds->(∀x∈xs,x.length≠0)->
  ∃fs:List ao,KatTups h vs fs/\fs.length=vs.length/\(∀v∈fs,∃i t,v=.int i t)/\xs.length=vs.length/\ds=xs.map λx=>.tuple (x.map .int):=by
 intro ds
 induction ds with
 |nil=>intro xs vs h r _;clear a;obtain rfl:=aB h;obtain rfl:=r.unnil;exact(Ko ([]) .nil rfl (by simp) rfl rfl)
 |cons d ds BK=>
   intro xs vs h r bT
   refine ay λcG=>?_
   refine cY (AW h) λys zs hd hz fM=>?_;clear h;subst fM
   refine cY r.uncons λv us av hv r'=>?_;clear r;subst av
   refine ai (bx.mp hd) λes h1 hx=>?_
   obtain rfl:=AZ h1
   refine dc hv.tuple_inv λa m ws bB h1 h2 h3=>?_;subst bB
   refine Ez (BK hz r' λx hx=>bT x (eh _ hx)) λfs f1 f2 f3 f4 f5=>?_
   refine ai (ya hx h3) λts t1 t2=>?_
   have hn:=bT ys fD
   apply cG;clear cG
   cases ys with
   |nil=>exact absurd rfl hn
   |cons y ys=>cases ts with
   |nil=>cases t1
   |cons t ts=>
    refine(Ko (.int y t::fs) (KatTups.cons (f:=.int y t) h1 rfl rfl ?_ f1) (by simp[f2]) (λv hv=>?_) (by simp[f4]) ?_)
    ·refine ag t2 ?_;rfl
    ·refine bX (cB.mp hv) (λg9=>?_) λhv=>?_
     ·clear hv;subst g9;exact(eR _ _ rfl)
     ·exact f3 v hv
    ·refine ag f5 ?_;have:es=(y::ys).map .int :=Qam hx;refine ag this ?_;rfl
theorem O3:∀(l:List (Int×Int))(vs ws:List ao)(i:Nat)(s:aE),(∀(j:Nat)(p:Int×Int),l[j]?=aa p->∃t u,vs[j]?=aa (.int p.1 t)/\ws[j]?=aa (.int p.2 u))->l.length=(vs.zip ws).length ->
  Qb ((l.findSome? λp=>if p.1=p.2 then ac else aa (decide (p.1<p.2))).getD fin) s->KatLex W.prog W.w A b fin Qb (vs.zip ws) i s
 |[],vs,ws,i,s,hl,hz,h=>by have:vs.zip ws=[]:=TK (by exact hz.symm);refine ag this ?_;exact h
 |p::l,[],ws,i,s,hl,hz,h=>by injection hz
 |p::l,v::vs,[],i,s,hl,hz,h=>by injection hz
 |p::l,v::vs,w'::ws,i,s,hl,hz,h=>by
  refine d7 (hl 0 p rfl) λt u e1 e2=>?_;simp at e1 e2;subst e1;subst e2;dsimp only[QgT];refine kat_cons (wpAny_eqBool_int ?_);by_cases q:p.1=p.2
  ·have:(p.1==p.2)=ae:=by simpa using q
   refine ag this ?_;refine kat_yes (O3 l vs ws (i+1) s (λj p' hj=>by have:=hl (j+1) p' (by exact hj);simpa using this) (by simpa using hz) ?_);simpa[q]using h
  ·have:(p.1==p.2)=af:=by simpa using q
   refine ag this ?_;refine kat_no ?_;rw[QgU,az q]at h;simp only[T9]at h;cases hb:(b&&i==0)with
   |true=>exact oneLt_int h
   |false=>exact kat_one _ _ (P.lt_int h)
theorem O4:∀(x y:List Int),((x.zip y).findSome? λp=>if p.1=p.2 then ac else aa (decide (p.1<p.2))).getD (decide (x.length<y.length))=bI x y
 |[],[]=>rfl
 |[],_::_=>by simp[bI]
 |_::_,[]=>by simp[bI]
 |a::x,b::y=>by
  have ih:=O4 x y;dsimp only[QgT,QgU];by_cases q:a=b
  ·simp only[q,if_true,bI];simp only[<-ih];simp
  ·simp only[q,if_false,bI,T9]
theorem Qan(k:W.Ok):pv W .sorted :=by
 intro A n X s vs ds d Q aq b0 hX hT h hl r hQ;refine ay λcG=>?_;refine ai (bx.mp h) λl g h'=>?_;refine ai (bx.mp h') λxs sd g2=>?_;clear h h';refine cY (vq g hl r) λv d av hd rv=>?_;clear hl r;subst av;have:=kg hd;subst this;refine ai (bO.mp g2) λys JN e0=>?_;clear g2 g hd;subst e0;refine dc rv.list_inv λa m ws bB h1 h2 h3=>?_;subst bB;unfold qz at JN;apply cG;clear cG;split at JN<;>cases JN;refine ay λcG=>?_;rename_i q;simp only[bo,bl,eA,bne_iff_ne]at q;refine aF q λaM q4=>?_;obtain⟨⟨q1,q2⟩,q3⟩:=aM;have JO:RepL s.heap.get? ws l:=h3.mono λa o e=>ed e;refine Ez (BK sd JO q2) λfs f1 f2 f3 f4 f5=>?_;have gb:s.heap.IsList a ws.toArray:=⟨_,h1,rfl,_,rfl⟩;have bh:ws.length<64:=bp 0xe082248382089036200 Yt q1 f4;apply cG;clear cG;have at_:∀i,i<xs.length->∃b o xv mm,ws.getD i .none =.ref b/\s.heap.get? b=aa {cls:=.type "tuple",data:=.seq (wE xv) mm}/\o=()/\∃ts:List fL,ts.length=(xs.getD i []).length /\xv=((xs.getD i []).zip ts).map λp=>TI p.1 p.2:=λi hi=>by
  have iX:i<ws.length:=qt f4 hi;have hd:l[i]?=aa (.tuple ((xs.getD i []).map .int)):=by simp only[f5,dS,cf hi];simp[hi]
  have rr:=JO.at i ws[i] _ (by simp[iX]) hd;refine dc rr.tuple_inv λb mm xv e1 e2 e3 e4=>?_;have hio:fB ((xs.getD i []).map bQ)=aa (xs.getD i []):=by exact Fz (f:=gQ) (g:=bQ) (λ_=>rfl) _
  refine ai (ya hio e4) λts t1 t2=>?_;exact⟨b,(),xv,mm,by simp[iX,e1],e2,rfl,ts,t1,t2⟩
 refine Qal (out:=(l7 xs).map λi=>ws.getD i T7) (c:=λi j=>bI (xs.getD i []) (xs.getD j [])) gb bh (λA s' Q E hk Jj hQ=>?_) (λA s' i j C hi hj hk hC=>?_) (λq=>?_) (λq=>?_) (by rw[bq];exact q4) (λh' D nn hD hk hl=>?_)
 ·refine ay λcG=>?_;refine Ez (BK sd (JO.mono λa o e=>hk a o e) q2) λfs' g1 g2 g3 _ _=>?_;apply cG;clear cG;refine kat_kind (T:=.type "int") g1 (bp 0xe001188476200 Yt Jj g2) (λv hv=>?_) rfl (by exact hQ);refine fi (g3 v hv) λi t av=>?_;clear hv;subst av;exact Looks.of_pure rfl
 ·refine ay λcG=>?_;obtain⟨b,_,xv,mm,e1,e2,_,ts,t1,t2⟩:=at_ i (xB f4 hi);obtain⟨b',_,Eg,mm',JP,e2',_,UV,UW,UX⟩:=at_ j (xB f4 hj);apply cG;clear cG;unfold kas_ask;refine ag e1 (ag JP ?_);refine kat_lt (hk _ _ e2) rfl (hk _ _ e2') rfl ?_;have l1:xv.length=(xs.getD i []).length :=by refine ag t2 ?_;simp[t1]
  have l2:Eg.length=(xs.getD j []).length :=by refine ag UX ?_;simp[UW]
  refine O3 ((xs.getD i []).zip (xs.getD j [])) xv Eg 0 s' (λj' p hp=>?_) (by simp[l1,l2]) ?_
  ·refine aF (wQ.mp hp) λp1 p2=>?_;have a1:=(mH.mp p1).1;have a2:=(mH.mp p2).1;have g1:∀tt,ts[j']?=aa tt->xv[j']?=aa (.int p.1 tt):=λtt h1=>by
    have hz:((xs.getD i []).zip ts)[j']?=aa (p.1,tt):=wQ.mpr ⟨p1,h1⟩;simp only[t2,dS,hz];rfl
   have g2:∀tt,UV[j']?=aa tt->Eg[j']?=aa (.int p.2 tt):=λtt h1=>by have hz:((xs.getD j []).zip UV)[j']?=aa (p.2,tt):=wQ.mpr ⟨p2,h1⟩;refine ag UX ?_;rw[dS];refine ag hz ?_;rfl
   exact⟨_,_,g1 _ (cf (xB t1 a1)),g2 _ (cf (xB UW a2))⟩
  ·have e:decide (xv.toArray.size<Eg.toArray.size)=decide ((xs.getD i []).length <(xs.getD j []).length):=by simp[l1,l2]
   refine ag e ?_;rw[O4];exact hC
 ·have e:l7 xs=f0 xs.length:=by unfold l7;rw[aw (by exact bp 0xe44858020e440 Yt f4 q)]
  refine ag e (ag f4 ?_);apply rE;intro i;rw[dS];by_cases hi:i<ws.length
  ·refine ag (DB hi) ?_;simp[hi]
  ·rw[lJ (by simp;exact mW hi),lJ (by exact mW hi)];rfl
 ·have e:l7 xs=(cW (λi j=>bI (xs.getD i []) (xs.getD j [])) (oY xs.length)).toList :=by unfold l7;rw[az (by exact bp 0x26448d80206011 Yt f4 q)]
  exact ag e (ag f4 rfl)
 ·have x1:Ext W s {s with heap:=h'}:=Ext.grow k s.toks hk;refine hQ _ _ x1 (Rep.mkList (cb.mpr ⟨λm=>?_,hl⟩) (by rw[bq];refine ag dy ?_;exact aH 0x182082082082089006082240 Yt q4) ?_)
  ·exact mI _ (nK (hX D m) hD)
  ·refine RepL.of_at (by simp) λi v d hv hd=>?_;rw[dS]at hv hd;refine ai (bO.mp hv) λj hj av=>?_;clear hv;subst av;simp only[dS,hj]at hd;simp only[bF,IS]at hd;subst hd;have zT:=q3 j (mG hj);have UY:j<ws.length:=qt f4 zT;have hd:l[j]?=aa (.tuple ((xs.getD j []).map .int)):=by
    refine ag f5 ?_;rw[dS];refine ag (cf zT) ?_;simp[zT]
   have:=h3.at j ws[j] _ (by simp[UY]) hd;have e:ws.getD j .none =ws[j]:=by simp[UY]
   refine ag e ?_;exact this.mono (x1.maskK hT)
theorem Qao(k:W.Ok):∀b,pv W b
 | .len =>Xj k| .sum =>Xk k| .ord =>Xn k| .chr =>Xo k| .sorted =>Qan k| .all =>Xl k| .divmod =>Xq k
 | .max =>λA n X s vs ds d Q aq b0 hX hT h=>nomatch (show(ac:Option an)=aa d from h)
 | .list =>λA n X s vs ds d Q aq b0 hX hT h=>nomatch (show(ac:Option an)=aa d from h)
theorem Qap(k:W.Ok):∀m,py W m
 | .bitlen =>Xu| .split =>XE k| .startswith =>Xv| .endswith =>Xw| .find =>Xz| .join =>XB| .lower =>XA
 | .count =>λA n X s v o vs ds d Q aq b0 hX hT h=>nomatch (show(ac:Option an)=aa d from h)
end
end
section
noncomputable def vB(T:Tabs)(Wf:Nat)(defs:Nat->Option MF)(Eh:Nat->List an->Option an)(z3:Nat->Bool):Nat->bn
 |0=>λ_ _=>ac
 |k+1=>λg args=>if z3 g then(if 30<=k then Eh g args else ac)else match defs g with
  |some m=>evF T (vB T Wf defs Eh z3 k) Wf m args
  |none=>ac
structure DefAt(W:Wd)(g:Nat)(m:MF):Prop where
 at_:∀x:ar,uZ[g]?=aa x->∃(a:au)(o:be)(fd:o5)(body:List dF)(ps:List ar)(c:Cx)(n:Nat),W.mg x=aa (.ref a)/\(∀h,W.Bs h->h.get? a=aa o)/\o.data=.func fd/\
  FnForm fd body ps/\(∀h,W.Bs h->W.Tb h->h.CodeRec fd.code fd.qualname)/\c.names=fd.scope.names/\kf (i6 n c) body=aa m.body/\m.nParams=ps.length/\m.nNames=fd.scope.names.length
def GA(W:Wd)(g:Nat)(f:List an->Option an):Prop:=∀(x:ar),uZ[g]?=aa x->∃(a:au)(o:be)(fd:o5),W.mg x=aa (.ref a)/\(∀h,W.Bs h->h.get? a=aa o)/\o.data=.func fd/\
  ∀(args:List an)(d:an)(A:dK)(X:List au)(s:aE)(vs:List ao)(Q:ao->aE->Prop),f args=aa d->AOk A 30->W.Bs s.heap->W.Tb s.heap->(∀a∈W.T,a∈X)->(∀a∈X,∃o,s.heap.get? a=aa o)->
   RepL (aJ X s.heap) vs args->jH W X s d Q->aI (aP W.prog W.w) A (call (.ref a) vs) Q bg s
theorem AOk.less(a:AOk A k)(h:n<=k):AOk A n:=⟨a.handled,by have:=a.depth;exact bu 0xe0aae890d0006210382aba243200 Yt h this,by have:=a.units;lia⟩
structure Lib0(W:Wd)(T:Tabs):Prop where
 ok:W.Ok
 consts:∀x m,sL x=aa m->∃v,W.mg x=aa v/\((∃i t,m=.ki i/\v=.int i t)\/∃y t,m=.ks y/\v=.str (bk y) t/\y.length<=1000)
 bis:∀x b,sK x=aa b->W.mg x=ac
 rng:W.mg "range"=ac
 rvd:W.mg "reversed"=ac
 tabs:TabOk W T
theorem Lib0.lib(L:Lib0 W T)(h:Bu W O N):Lib W T O N:=⟨L.ok,h,L.consts,L.bis,L.rng,L.rvd,L.tabs,Qao L.ok,Qap L.ok⟩
set_option tactic.hygienic true in
theorem O5(L:Lib0 W T)(hd:∀g m,z3 g=af->defs g=aa m->DefAt W g m)(hp:∀g,z3 g=ae->GA W g (Eh g)):
  ∀k,Bu W (vB T Wf defs Eh z3 k) k
 |0=>λg x args d hx h=>by injection h
 |k+1=>λg x args d hx h=>by
  simp only[vB]at h;split at h
  ·rename_i q;split at h
   ·refine ay λcG=>?_;rename_i hk;refine dc (hp g q x hx) λa o fd h1 h2 h3 h4=>?_;apply cG;clear cG;exact(jE a o fd h1 h2 h3 (λA X s vs Q aq bs tb tX alX hr hQ=>h4 args d A X s vs Q h (aq.less (Av hk)) bs tb tX alX hr hQ))
   ·injection h
  ·rename_i q;split at h
   ·refine ay λcG=>?_;rename_i m hm;obtain⟨a,o,fd,body,ps,c,n,h1,h2,h3,h4,h5,h6,h7,h8,h9⟩:=(hd g m (by simpa using q) hm).at_ x hx;apply cG;clear cG;refine(jE a o fd h1 h2 h3 (λA X s vs Q aq bs tb tX alX hr hQ=>?_));unfold evF at h;split at h
    ·rename_i hl;split at h
     ·refine ay λcG=>?_;rename_i d' ff bG;obtain rfl:=aB h;simp only[h8,h9]at bG;apply cG;clear cG;exact OX (L.lib (O5 L hd hp k)) h4 h2 h3 h5 h6 h7 (N4 0x74114a08a08914a082282256400590236408588036200 [_,_,_] Yt h8 h8 hl hl) bG aq bs tb tX alX hr hQ
     ·injection h
    ·injection h
   ·injection h
end
section
open PySem.Calls
set_option backward.match.sparseCases true
noncomputable def Wc(W:Wd)(K:List (au×be)):Wd:={W with Bs:=λh=>W.Bs h/\∀p∈K,h.get? p.1=aa p.2,Base:=λa=>W.Base a\/a∈K.map (·.1)}
theorem yi(k:W.Ok){K:List (au×be)}(hK:∀p∈K,p.1∉W.T):(Wc W K).Ok where
 bsG:=λh b=>k.bsG h b.1
 bsB:=λh b=>k.bsB h b.1
 bsLim:=λh b=>k.bsLim h b.1
 bsKeep:=λh h' b q=>⟨k.bsKeep h h' b.1 λc o n e=>q c o (.inl n) e,λp hp=>q _ _ (.inr (List.mem_map_of_mem hp)) (b.2 p hp)⟩
 base:=λh b a ha=>by
  rcases ha with ha|ha
  ·exact k.base h b.1 a ha
  ·refine ay λcG=>?_;refine ai (gi.mp ha) λp hp av=>?_;clear ha;subst av;apply cG;clear cG;exact⟨hK p hp,p.2,b.2 p hp⟩
 tbKeep:=k.tbKeep
 tStill:=k.tStill
 builtins:=k.builtins
theorem Ext.ofWc{K:List (au×be)}(x:Ext (Wc W K) s s')(b:(Wc W K).Bs s.heap):Ext W s s':=⟨x.same,x.keep,λ_=>(x.bs b).1,x.tb⟩
theorem SR.toWc{X0:List au}{oa:Nat->au}{X:List au}(r:SR W X0 env oa X h f){K:List (au×be)}(hb:∀p∈K,h.get? p.1=aa p.2)(hl:env.locals∉K.map (·.1))(ho:∀(i:Nat)(xs:List an),f[i]?≠aa (.own xs)):
  SR (Wc W K) X0 env oa X h f:=by
 refine ay λcG=>?_
 refine ai r.vars λm hn hv=>?_
 apply cG;clear cG
 refine⟨⟨r.bs,hb⟩,r.tb,r.tX,r.sub,r.alX,⟨r.loc.1,r.loc.2.1,λq=>q.elim r.loc.2.2 hl⟩,r.cellI,(aO m hn (λi x kd e=>?_)),r.ownA,r.len⟩
 have:=hv i x kd e
 cases q:f[i]? with
 |none=>trivial
 |some fv=>cases fv with
  |un=>trivial
  |val d=>simp only[q]at this;exact this
  |own xs=>exact absurd q (ho i xs)
section
variable {W:Wd} {T:Tabs} {O:bn} {N Wf:Nat} {env:bP}
set_option tactic.hygienic true in
theorem O6:∀{ms:List ME}{ds:List an},aV ev (ms++[a,b])=aa ds->∃xd x y,ds=xd++[x,y]/\aV ev ms=aa xd/\ev a=aa x/\ev b=aa y
 |[],ds,h=>by
  dsimp only[IT,aV]at h;split at h<;>try contradiction
  rename_i x hx;refine ai (bO.mp h) λl hl av=>?_;clear h;subst av;split at hl<;>try contradiction
  rename_i y hy;refine ai (bO.mp hl) λl' mR av=>?_;subst av;obtain rfl:=aB mR;exact(jE ([]) x y rfl rfl hx hy)
 |m::ms,ds,h=>by
  dsimp only[rN,aV]at h;split at h<;>try contradiction
  refine ay λcG=>?_;rename_i z hz;refine ai (bO.mp h) λl hl av=>?_;clear h;subst av;refine dc (O6 hl) λxd x y bB h1 h2 h3=>?_;subst bB;apply cG;clear cG;exact(jE (z::xd) x y rfl (by simp only[aV,hz,h1,bF]) h2 h3)
theorem SR.cellVal(r:SR W X0 env oa X h f)(hi:env.scope.names[i]?=aa (x,kd))(hk:kd=.cell \/kd=.free)(hc:env.cells.lookup x=aa c)(hf:f.get i=aa d):
  ∃v,h.IsCell c (aa v)/\Rep (aJ X h) v d:=by
 refine ay λcG=>?_
 refine cY (r.val hi hf) λm v _ hv rp=>?_
 apply cG;clear cG
 clear hi;rcases hk with rfl|rfl
 ·obtain⟨c',e,ic⟩:=hv;rw[hc]at e;obtain rfl:=aB e;exact(aO v ic rp)
 ·obtain⟨c',e,ic⟩:=hv;rw[hc]at e;obtain rfl:=aB e;exact(aO v ic rp)
def GB(W:Wd)(O:bn)(N g:Nat)(f c1 c2:au)(CX:List au):Prop:=
 ∀(args:List an)(d d1 d2:an)(A:dK)(X:List au)(s:aE)(vs:List ao)(v1 v2:ao)(Q:ao->aE->Prop),O g (args++[d1,d2])=aa d->AOk A N->W.Bs s.heap->W.Tb s.heap->(∀a∈W.T,a∈X)->(∀a∈X,∃o,s.heap.get? a=aa o)->
  (∀c∈CX,c∈X/\∃v,s.heap.IsCell c v)->s.heap.IsCell c1 (aa v1)->Rep (aJ X s.heap) v1 d1->s.heap.IsCell c2 (aa v2)->Rep (aJ X s.heap) v2 d2->
  RepL (aJ X s.heap) vs args->jH W X s d Q->aI (aP W.prog W.w) A (call (.ref f) vs) Q bg s
theorem O7(k:W.Ok)(eo:EnvOk env){tr:ax->Option ME}(hs:∀e m,tr e=aa m->fb e=ae){x x1 x2:ar}{g i1 i2:Nat}{k1 k2:dR}{ci c1 c2 f:au}{o:be}{fd:o5}{es:List ax}{ms:List ME}(hx:fO x=ae)
  (hk:env.kindOf x=aa .cell \/env.kindOf x=aa .free) (hc:env.cells.lookup x=aa ci) (mQ:∀h,W.Bs h->h.IsCell ci (aa (.ref f))) (ho:∀h,W.Bs h->h.get? f=aa o) (ux:o.data=.func fd) (bT:es≠[])
  (h1:env.scope.names[i1]?=aa (x1,k1)) (hk1:k1=.cell \/k1=.free) (wX:env.cells.lookup x1=aa c1) (h2:env.scope.names[i2]?=aa (x2,k2)) (wW:k2=.cell \/k2=.free) (iY:env.cells.lookup x2=aa c2)
  {CX:List au} (jz:∀c∈CX,∃y,env.cells.lookup y=aa c) (uy:GB W O N g f c1 c2 CX)
  (ht:ct tr es=aa ms) (h:∀e∈es,∀m,tr e=aa m->SE W T O N env e m):SE W T O N env (.Call (.Name x np) es [] pos) (.call g (ms++[.v i1,.v i2])):=by
 intro fu A X0 oa X fr s d Q aq sr he hQ
 refine d7 (Oa he) λfu ds cV he=>?_
 refine ay λcG=>?_
 refine dc (O6 cV) λxd d1 d2 bB e0 e1 e2=>?_;clear cV;subst bB
 apply cG;clear cG
 replace e1:=N8 e1;replace e2:=N8 e2
 unfold fO at hx
 simp only[bo,bV]at hx
 refine wN (ua ?_ hx.1)
 have body:aI (aP W.prog W.w) A (callWith pos (.ref f) [] (lL pos (jt es env)) []) Q bg s:=by refine IL (o:=o) (fd:=fd) (pA (jc hs ht).1 bT (mj k aq hs ht e0 sr h λvs s' x1 r=>?_));have aY:=sr.ext k x1;refine⟨⟨ho _ aY.bs,ux⟩,?_⟩;refine ai (aY.cellVal h1 hk1 wX e1) λv1 JQ r1=>?_;refine ai (aY.cellVal h2 wW iY e2) λv2 JR r2=>?_;exact uy xd d d1 d2 A X s' vs v1 v2 Q he aq aY.bs aY.tb aY.tXX aY.alX (λc hc=>let⟨y,hy⟩:=jz c hc;aY.cellI y c hy) JQ r1 JR r2 r λv s2 x2 r2=>hQ _ _ (x1.trans x2) r2
 rcases hk with hk|hk
 ·exact II eo.kind hk hc (mQ _ sr.bs) body
 ·exact IJ eo.kind hk hc (mQ _ sr.bs) body hx.2
end
theorem Ext.toWc{K:List (au×be)}(hK:∀p∈K,p.1∉W.T)(x:Ext W s s'):Ext (Wc W K) s s':=⟨x.same,x.keep,λb=>⟨x.bs b.1,λp hp=>x.keep _ _ (hK p hp) (b.2 p hp)⟩,x.tb⟩
theorem BL(L:Lib0 W T){K:List (au×be)}(hK:∀p∈K,p.1∉W.T):Lib0 (Wc W K) T where
 ok:=yi L.ok hK
 consts:=L.consts
 bis:=L.bis
 rng:=L.rng
 rvd:=L.rvd
 tabs:=⟨λt=>by refine ay λcG=>?_;refine fy (L.tabs.tab t) λv h0 h1 h2 h3=>?_;apply cG;clear cG;refine(oh v h0 (λneg A n X s u d b Q aq bs h r hQ=>h1 neg A n X s u d b Q ⟨aq.1,aq.2,aq.3⟩ bs.1 h r λs' x=>hQ s' (x.toWc hK)) (λA n X s u d r Q aq bs h rp hQ=>h2 A n X s u d r Q ⟨aq.1,aq.2,aq.3⟩ bs.1 h rp λv s' x=>hQ v s' (x.toWc hK)) (λd r h=>⟨λs bs=>(h3 d r h).1 s bs.1,λA n X s u Q aq bs rp hQ=>(h3 d r h).2 A n X s u Q ⟨aq.1,aq.2,aq.3⟩ bs.1 rp λv s' x=>hQ v s' (x.toWc hK)⟩))⟩
structure CloForm(fd:o5)(body:List dF)(ps:List ar)(cl:List (ar×au)):Prop where
 body:fd.body=.stmts body
 clo:fd.closure=cl
 glob:fd.globals=ew
 blt:fd.builtins=za
 co:fd.scope.isCoroutine=af
 gen:fd.scope.isGenerator=af
 kind:fd.scope.kind=.function
 nodup:(fd.scope.names.map (·.1)).Nodup
 cell:∀x∈fd.scope.names,x.2≠.cell
 free:∀(i:Nat)(x:ar),fd.scope.names[i]?=aa (x,.free)->∃c,cl.lookup x=aa c
 pars:∀(i:Nat)(x:ar),ps[i]?=aa x->fd.scope.names[i]?=aa (x,.local)
 bind:∀vs:List ao,vs.length=ps.length->bindArgs fd ⟨vs,[]⟩=pure (ps.zip vs)
section
variable {W:Wd}
theorem O8(k:W.Ok)(F:CloForm fd body ps cl)
  (ho:s.heap.get? a=aa o) (hd:o.data=.func fd) (kW:s.heap.CodeRec fd.code fd.qualname) (depth:A.depth<1000) (bs:W.Bs s.heap) (tb:W.Tb s.heap) (tX:∀a∈W.T,a∈X) (alX:∀a∈X,∃o,s.heap.get? a=aa o)
  (hr:RepL (aJ X s.heap) vs args) (bh:args.length=ps.length) (fl:f.length=fd.scope.names.length) (fa:∀i,i<args.length->f[i]?=(args[i]?).map .val)
  (fr:∀(i:Nat)(x:ar)(kd:dR),args.length<=i->fd.scope.names[i]?=aa (x,kd)->f[i]?=aa .un \/∃d c v,f[i]?=aa (.val d)/\kd=.free /\cl.lookup x=aa c/\s.heap.IsCell c (aa v)/\Rep (aJ X s.heap) v d)
  (clX:∀x c,cl.lookup x=aa c->c∈X/\∃v,s.heap.IsCell c v) (apart:cl.Pairwise λx y=>x.2≠y.2)
  (h:∀(env:bP)(aS:aE),env.scope=fd.scope->env.cells=cl->EnvOk env->env.func=aa a->(∃hp tk,aS={s with heap:=hp,toks:=tk})->(∀b o,s.heap.get? b=aa o->aS.heap.get? b=aa o)->s.heap.get? env.locals=ac->CellsMine W X env->
   SR W X env (λ_=>0) (env.locals::X) aS.heap f->aI (aP W.prog W.w) (A.deeper env) (mN body env) (λfl s'=>Q (match fl with| .ret v=>v|_=>.none) s') bg aS):
  aI (aP W.prog W.w) A (call (.ref a) vs) Q bg s:=by
 have j8:vs.length=ps.length:=hr.length.trans bh
 have pn:ps=(fd.scope.names.map (·.1)).take ps.length:=by
  apply rE;intro i;rw[ue];by_cases hi:i<ps.length
  ·rw[aw hi];have h1:=F.pars i ps[i] (by simp[hi]);rw[dS];refine ag h1 ?_;simp[hi]
  ·rw[az hi];simp[hi]
 have uD:ps.Nodup:=by refine ag pn ?_;exact F.nodup.sublist (T6 ..)
 have zf:(ps.zip vs).map (·.1)=ps:=by rw[IE (Aq j8)]
 refine wpAny_call (codeAny_call_def (binds:=ps.zip vs) depth ho hd (k.bsLim _ bs) kW F.body (.of_eq (F.bind vs j8)) F.cell (λx hx=>?_) (λh₀ dY ft=>?_) F.co F.gen F.kind)
 ·obtain⟨i,hi,e⟩:=pV hx;have e1:ps[i]?=aa x.1:=by
   have:((ps.zip vs).map (·.1))[i]?=aa x.1:=by simp only[dS,cf hi,e];rfl
   rwa[zf]at this
  exact sR F.nodup (F.pars i x.1 e1)
 ·generalize iz:callEnv fd s.heap.objs.size a=env;have df:env.scope=fd.scope:=by refine a8 iz ?_;rfl
  have dq:env.cells=cl:=by refine a8 iz ?_;exact F.clo
  have JS:env.locals=s.heap.objs.size:=by refine a8 iz ?_;rfl
  have eo:EnvOk env:=by
   refine⟨by refine ag df ?_;exact F.kind,by refine a8 iz ?_;exact F.glob,by refine a8 iz ?_;exact F.blt,by refine ag df ?_;exact F.nodup,λi x kd hi hk=>?_⟩;rw[df]at hi;rcases hk with rfl|rfl
   ·exact absurd rfl (F.cell _ (mG hi))
   ·refine ag dq ?_;exact F.free i x hi
  have Ln:s.heap.get? env.locals=ac:=by
   refine ag JS ?_;cases e:s.heap.get? s.heap.objs.size with
   |none=>rfl
   |some o'=>exact absurd (fK e) (mI _)
  have sn:∀b,s.heap.get? b=ac->b∉X:=λb e q=>by refine aD (alX b q) λo q=>?_;rw[e]at q;cases q
  have Bn:∀b,s.heap.get? b=ac->¬W.Base b:=λb e q=>by obtain⟨_,o,q⟩:=k.base _ bs b q;rw[e]at q;cases q
  have cm:CellsMine W X env:=⟨λx c hx _=>by
   exfalso;have hx:fd.scope.names.lookup x=aa .cell :=by refine a8 df ?_;exact hx
   exact F.cell _ (mem_of_lookup hx) rfl,by refine ag dq ?_;exact apart⟩
  have hm:∀b oo,aJ X s.heap b=aa oo->aJ (env.locals::X) h₀ b=aa oo:=λb oo e=>by
   refine aF (cb.mp e) λn1 e1=>?_;refine cb.mpr ⟨λq=>?_,ft b oo e1⟩;rcases cB.mp q with q|q
   ·rw[q,Ln]at e1;cases e1
   ·exact n1 q
  have kx:Ext W s {s with heap:=h₀,toks:=s.toks+(ps.zip vs).length}:=Ext.grow k _ ft;refine qP (h env _ df dq eo (by refine a8 iz ?_;rfl) (eR _ _ rfl) ft Ln cm ⟨kx.bs bs,kx.tb tb,tX,λb hb=>eh _ hb,λb hb=>?_,⟨fD,sn _ Ln,Bn _ Ln⟩,λx c hc=>?_,(aO _ (JS▸dY) (λi x kd hi=>?_)),λi j xs ys hi hj=>?_,by exact ag fl (ag df rfl)⟩)
  ·rcases cB.mp hb with rfl|hb
   ·obtain⟨o',_,_,e,_⟩:=dY;exact(bC o' (JS▸e))
   ·refine aD (alX b hb) λo' e=>?_;exact(bC o' (ft b o' e))
  ·refine ay λcG=>?_;rw[dq]at hc;obtain⟨h1,v,oc,h2,h3⟩:=clX x c hc;apply cG;clear cG;exact⟨eh _ h1,v,oc,ft _ _ h2,h3⟩
  ·rw[df]at hi;by_cases bK:i<args.length
   ·refine ag (fa i bK) (ag (cf bK) ?_);rw[bF];have so:i<ps.length:=qt bh bK;have h1:=F.pars i ps[i] (by simp[so]);rw[hi]at h1;refine aF (dx (aB h1)) λaM am=>?_;subst aM;subst am;have sq:i<vs.length:=ER bh j8 bK;refine⟨vs[i],?_,(hr.at i _ _ (by simp[sq]) (by simp[bK])).mono hm⟩;show(ps.zip vs).reverse.lookup ps[i]=aa vs[i];refine ay λcG=>?_;have hz:(ps.zip vs)[i]?=aa (ps[i],vs[i]):=wQ.mpr ⟨cf so,cf sq⟩;have nd:((ps.zip vs).reverse.map (·.1)).Nodup :=by simp only[zp,zf];exact List.pairwise_reverse.mpr (uD.imp λh=>ju h)
    obtain⟨j,hj,e⟩:=pV (DC.mpr (mG hz));have e2:(ps.zip vs).reverse[j]?=aa (ps[i],vs[i]):=by exact ag (cf hj) (ag e rfl)
    clear hr h;apply cG;clear cG;revert e2 nd;generalize (ps.zip vs).reverse =l;clear hj e hz;intro nd e2;induction l generalizing j with
    |nil=>injection e2
    |cons y r ih=>
     simp only[cA,rC]at nd
     cases j with
     |zero=>simp at e2;clear nd;subst e2;simp
     |succ j=>
      have e2:r[j]?=aa (ps[i],vs[i]):=by simpa using e2
      have:ps[i]≠y.1:=λq=>nd.1 (q▸gi.mpr (aO _ (mG e2) rfl))
      obtain⟨y1,y2⟩:=y
      rw[pT,show(ps[i]==y1)=af by simpa using this]
      exact ih j nd.2 e2
   ·rcases fr i x kd (mW bK) hi with e|⟨d,c,v,e,rfl,hc,hcv,rp⟩
    ·refine ag e ?_;trivial
    ·refine ag e ?_;refine ay λcG=>?_;obtain⟨oc,h2,h3⟩:=hcv;apply cG;clear cG;exact⟨v,⟨c,by refine ag dq ?_;exact hc,oc,ft _ _ h2,h3⟩,rp.mono hm⟩
  ·exfalso;by_cases bK:i<args.length
   ·rw[fa i bK,cf bK]at hi;cases hi
   ·have:i<fd.scope.names.length:=by refine a8 fl ?_;exact(mH.mp hi).1
    rcases fr i _ _ (mW bK) (cf this)with e|⟨d,c,v,e,_⟩<;>rw[hi]at e<;>cases e
end
section
variable {W:Wd}
theorem O9(k:W.Ok)(F:FnForm fd body ps)
  (ho:s.heap.get? a=aa o) (hd:o.data=.func fd) (kW:s.heap.CodeRec fd.code fd.qualname) (dk:A.depth<1000) (bs:W.Bs s.heap) (tb:W.Tb s.heap) (tX:∀a∈W.T,a∈X) (alX:∀a∈X,∃o,s.heap.get? a=aa o)
  (hr:RepL (aJ X s.heap) vs args) (bh:args.length=ps.length)
  (h:∀(env:bP)(aS:aE),env.scope=fd.scope->env.cells=o9 (s.heap.objs.size+1) fd.scope.names []->EnvOk env->env.code=fd.code->env.qual=fd.qualname++".<locals>."->(∃hp tk,aS={s with heap:=hp,toks:=tk})->(∀b o,s.heap.get? b=aa o->aS.heap.get? b=aa o)->
   s.heap.get? env.locals=ac->(∀x cc,(x,cc)∈env.cells->s.heap.get? cc=ac)->env.cells.Pairwise (λx y=>x.2≠y.2)->CellsMine W X env->
   SR W X env (λ_=>0) (env.locals::(env.cells.filterMap (λp=>env.cells.lookup p.1)++X)) aS.heap (args.map .val ++bz (fd.scope.names.length-ps.length) .un)->aI (aP W.prog W.w) (A.deeper env) (mN body env) (λfl s'=>Q (match fl with| .ret v=>v|_=>.none) s') bg aS):
  aI (aP W.prog W.w) A (call (.ref a) vs) Q bg s:=by
 have j8:vs.length=ps.length:=hr.length.trans bh
 have pn:ps=(fd.scope.names.map (·.1)).take ps.length:=by
  apply rE;intro i;simp only[ue];by_cases hi:i<ps.length
  ·rw[aw hi];refine ai (F.pars i ps[i] (by simp[hi])) λkd h1 _=>?_;simp only[dS,h1];simp[hi]
  ·rw[az hi];simp[hi]
 have uD:ps.Nodup:=by refine ag pn ?_;exact F.nodup.sublist (T6 ..)
 have JI:ps.length<=fd.scope.names.length:=by have:=congrArg dN pn;simp only[eV,bq]at this;exact K5 this
 have zf:(ps.zip vs).map (·.1)=ps:=by rw[IE (Aq j8)]
 refine wpAny_call (codeAny_call_cells dk ho hd (k.bsLim _ bs) kW F.body (F.bind vs j8) F.clo (λx hx=>?_) (λaS ic=>?_) F.co F.gen F.kind)
 ·refine ay λcG=>?_;obtain⟨i,hi,e⟩:=pV hx;have iX:i<ps.length:=by simp at hi;exact K6 hi
  have e1:ps[i]?=aa x.1:=by
   have:((ps.zip vs).map (·.1))[i]?=aa x.1:=by rw[dS];refine ag (cf hi) (ag e ?_);rfl
   rwa[zf]at this
  refine ai (F.pars i x.1 e1) λkd h1 h2=>?_;have h3:=sR F.nodup h1;apply cG;clear cG;rcases h2 with rfl|rfl
  ·exact .inl h3
  ·refine aD (vz fd.scope.names (s.heap.objs.size+1) [] x.1 (mG h1)) λcc hc=>?_;refine aD (vw hc) λc' e'=>?_;exact .inr ⟨h3,by refine ag e' ?_;rfl⟩
 ·generalize iz:callEnvC fd s.heap.objs.size a=env at ic;have df:env.scope=fd.scope:=by refine a8 iz ?_;rfl
  have dq:env.cells=o9 (s.heap.objs.size+1) fd.scope.names []:=by refine a8 iz ?_;rfl
  have eo:EnvOk env:=by
   refine⟨by refine ag df ?_;exact F.kind,by refine a8 iz ?_;exact F.glob,by refine a8 iz ?_;exact F.blt,by refine ag df ?_;exact F.nodup,λi x k hi hk=>?_⟩;rw[df]at hi;have mem:=mG hi;clear hi;rcases hk with rfl|rfl
   ·refine ag dq ?_;refine aD (vz fd.scope.names (s.heap.objs.size+1) [] x mem) λcc hc=>?_;exact vw hc
   ·exact absurd rfl (F.free _ mem)
  obtain⟨⟨hp,tk,e0⟩,dY,ft,zX⟩:=ic.toInCall;have zY:∀b,s.heap.objs.size<=b->s.heap.get? b=ac:=λb hb=>by
   cases e:s.heap.get? b with
   |none=>rfl
   |some o'=>exact absurd (fK e) (Du.mpr hb)
  have Ln:s.heap.get? env.locals=ac:=zY _ zX;have Cn:∀x cc,(x,cc)∈env.cells->s.heap.get? cc=ac:=λx cc hm=>zY _ (nR zX (Dv (ic.above x cc hm)));have x1:Ext W s aS:=by clear ic dY;subst e0;exact Ext.grow k tk ft
  have sn:∀b,s.heap.get? b=ac->b∉X:=λb e q=>by refine aD (alX b q) λo q=>?_;rw[e]at q;injection q
  have sr:SR W X env (λ_=>0) (env.locals::(env.cells.filterMap (λp=>env.cells.lookup p.1)++X)) aS.heap (args.map .val ++bz (fd.scope.names.length-ps.length) .un):=by
   have hm:∀b oo,aJ X s.heap b=aa oo->aJ (env.locals::(env.cells.filterMap (λp=>env.cells.lookup p.1)++X)) aS.heap b=aa oo:=λb oo e=>by
    refine aF (cb.mp e) λn1 e1=>?_;refine cb.mpr ⟨λq=>?_,ft b oo e1⟩;rcases cB.mp q with q|q
    ·simp only[q,Ln]at e1;injection e1
    ·rcases gZ.mp q with q|q
     ·refine ai (o6.mp q) λp n8 dZ=>?_;have:=Cn p.1 b (mem_of_lookup dZ);rw[e1]at this;injection this
     ·exact n1 q
   refine⟨x1.bs bs,x1.tb tb,tX,λb hb=>eh _ (nM _ hb),λb hb=>?_,⟨fD,sn _ Ln,k.fresh bs Ln⟩,λx cc hc=>?_,(aO _ dY (λi x kd hi=>?_)),λi j xs ys hi hj=>?_,?_⟩
   ·rcases cB.mp hb with rfl|hb
    ·obtain⟨o',_,_,e,_⟩:=dY;exact(bC o' e)
    ·rcases gZ.mp hb with hb|hb
     ·refine ai (o6.mp hb) λp n8 dZ=>?_;obtain⟨o',e',_⟩:=ic.cell _ _ dZ;exact(bC o' e')
     ·refine aD (alX b hb) λo' e=>?_;exact(bC o' (ft b o' e))
   ·exact⟨eh _ (Iy _ (o6.mpr (aO ((x,cc)) (mem_of_lookup hc) hc))),_,ic.cell x cc hc⟩
   ·rw[df]at hi;by_cases bK:i<args.length
    ·rw[zt (by simpa using bK),dS];refine ag (cf bK) ?_;rw[bF];have so:i<ps.length:=qt bh bK;refine ai (F.pars i ps[i] (by simp[so])) λkd' h1 h2=>?_;rw[hi]at h1;refine aF (dx (aB h1)) λaM am=>?_;subst aM;subst am;have sq:i<vs.length:=ER bh j8 bK;have hz:(ps.zip vs)[i]?=aa (ps[i],vs[i]):=wQ.mpr ⟨cf so,cf sq⟩;have iu:env.kindOf ps[i]=aa kd:=by
      have:env.scope.names[i]?=aa (ps[i],kd):=by refine ag df ?_;exact hi
      exact eo.kindAt this
     refine⟨vs[i],?_,(hr.at i _ _ (by simp[sq]) (by simp[bK])).mono hm⟩;clear h1;rcases h2 with rfl|rfl
     ·exact Gw iu _ _ i (by refine ag zf ?_;exact uD) hz
     ·obtain⟨cc,hc⟩:=eo.cellsAll i ps[i] .cell (by refine ag df ?_;exact hi) (.inl rfl);refine⟨cc,hc,?_⟩;have:=ic.cell _ _ hc;rwa[Gx (by refine ag iu ?_;decide) _ _ i (by refine ag zf ?_;exact uD) hz]at this
    ·rw[zu (by rw[bq];exact mW bK),QgQ];split<;>trivial
   ·exfalso;have no:∀(i:Nat)(xs:List an),(args.map FV.val++bz (fd.scope.names.length-ps.length) FV.un)[i]?≠aa (FV.own xs):=λi xs e=>by
     have:=mG e;rcases gZ.mp this with q|q
     ·refine ai (gi.mp q) λ_ _ q=>?_;injection q
     ·have:=DH q;injection this
    exact no i xs hi
   ·simp only[df,dn,bq,lO,bh];exact An JI
  have cm:CellsMine W X env:=⟨λx cc _ hc=>⟨sn _ (Cn x cc (mem_of_lookup hc)),k.fresh bs (Cn x cc (mem_of_lookup hc))⟩,ic.apart⟩;have cm:CellsMine W X env:=⟨λx cc _ hc=>⟨sn _ (Cn x cc (mem_of_lookup hc)),k.fresh bs (Cn x cc (mem_of_lookup hc))⟩,ic.apart⟩;exact qP (h env aS df dq eo (by refine a8 iz ?_;rfl) (by refine a8 iz ?_;rfl) (eR hp tk e0) ft Ln Cn ic.apart cm sr)
end
section
variable {W:Wd} {X0:List au} {env:bP} {oa:Nat->au} {X:List au} {f:Frm}
theorem SR.holdCell(k:W.Ok)(eo:EnvOk env)(cm:CellsMine W X0 env)(r:SR W X0 env oa X h f)
  (hn:h.Ns env.locals m) (hv:∀j y kd,env.scope.names[j]?=aa (y,kd)->VarOk W X0 env oa X h m j y kd f[j]?) (hi:env.scope.names[i]?=aa (x,.cell)) (hc:env.cells.lookup x=aa c)
  {Jb:Option ao} (iV:h.IsCell c Jb) (rY:h'.IsCell c (aa v)) (hs:mF c h h'):SR W X0 env oa X h' (f.put i .un):=by
 have lQ:=(r.cellI x c hc).1
 have M:MutOk W X0 X c h h':=⟨hs,lQ,cm.mine x c (eo.kindAt hi) hc,(λo e st=>by obtain⟨o',ho,hd⟩:=iV;rw[ho]at e;obtain rfl:=aB e;obtain⟨_,vs,q⟩:=st;rw[hd]at q;injection q),(by obtain⟨o,e,_⟩:=rY;exact(bC o e))⟩
 have zG:env.locals≠c:=(x0 hn iV).symm
 refine⟨M.bs k r.bs,M.tb k r.tb,r.tX,r.sub,M.alive r,r.loc,λy c' e=>?_,(aO m (hn.sameBut hs zG) (λj y kd e=>?_)),λa b xs ys ha hb=>?_,(tS ..).trans r.len⟩
 ·obtain⟨q,w,i⟩:=r.cellI y c' e;by_cases g8:c'=c
  ·clear hc iV hs lQ M zG;subst g8;exact⟨q,_,rY⟩
  ·exact⟨q,w,i.sameBut hs g8⟩
 ·simp only[km];by_cases ch:i=j
  ·rw[aw ch];split<;>trivial
  ·rw[az ch];have rX:y≠x:=λq=>ch (Be eo.nodup hi (q▸e));refine(hv j y kd e).mut hs lQ (λc' v e' i q=>?_) λxs q=>?_
   ·exact rX (name_of_addr cm.apart (mem_of_lookup e') (q▸mem_of_lookup hc))
   ·refine ay λcG=>?_;have:=hv j y kd e;rw[q]at this;obtain⟨_,_,_,_,n,vs,e1,_⟩:=this;apply cG;clear cG;exact vk iV e1 rfl
 ·rw[km]at ha hb;by_cases h1:i=a
  ·rw[aw h1]at ha;split at ha<;>cases ha
  ·by_cases h2:i=b
   ·rw[aw h2]at hb;split at hb<;>cases hb
   ·rw[az h1]at ha;rw[az h2]at hb;exact r.ownA a b xs ys ha hb
end
end
section
theorem BM:∀a:List Int,bI a a=af
 |[]=>rfl
 |x::a=>by rw[bI,aw rfl];exact BM a
theorem qQ:bI (x::a) (y::b)=ae↔x<y\/(x=y/\bI a b=ae):=by
 dsimp only[bI];by_cases h:x=y
 ·rw[aw h];constructor
  ·exact λz=>.inr ⟨h,z⟩
  ·rintro(z|z)
   ·exact fZ (ot 0x2e041dc800f200 Yt h z)
   ·exact z.2
 ·rw[az h];constructor
  ·exact λz=>.inl (of_decide_eq_true z)
  ·rintro(z|z)
   ·exact d6 z
   ·exact absurd z.1 h
theorem BN:∀a b c:List Int,bI a b=ae->bI b c=ae->bI a c=ae
 |[],[],_,h,_=>by simp[bI]at h
 |[],_::_,[],_,h=>by simp[bI]at h
 |[],_::_,_::_,_,_=>rfl
 |_::_,[],_,h,_=>by simp[bI]at h
 |_::_,_::_,[],_,h=>by simp[bI]at h
 |x::a,y::b,z::c,h1,h2=>by
  rw[qQ]at*;rcases h1 with h1|⟨h1,h3⟩<;>rcases h2 with h2|⟨h2,h4⟩
  ·left;exact Z2 0xf2103c040f200 [_,_,_] Yt h1 h2
  ·left;exact Z2 0xf2103c0417200 [_,_,_] Yt h1 h2
  ·left;exact Z2 0xf2105c040f200 [_,_,_] Yt h1 h2
  ·right;exact⟨by lia,BN a b c h3 h4⟩
theorem BP:∀a b:List Int,a≠b->bI a b=ae\/bI b a=ae
 |[],[],h=>absurd rfl h
 |[],_::_,_=>.inl rfl
 |_::_,[],_=>.inr rfl
 |x::a,y::b,h=>by
  rw[qQ,qQ];by_cases e:x=y
  ·refine bX (BP a b (λz=>h (by simp only[e,z]))) (λz=>?_) λz=>?_
   ·exact .inl (.inr ⟨e,z⟩)
   ·exact .inr (.inr ⟨e.symm,z⟩)
  ·exact(Qgd e).elim (λh=>.inl (.inl h)) (λh=>.inr (.inl h))
theorem GC(h:bI a b=ae):bI b a=af:=by
 cases q:bI b a
 ·rfl
 ·have:=BN _ _ _ h q;rw[BM]at this;injection this
theorem vC(c:Nat->Nat->Bool)(f:α->kL β):∀t:kL α,cW c (t.bind f)=cW c (f (cW c t))
 | .ret _=>rfl
 | .ask i j k=>vC c f (k (c i j))
section
variable {n:Nat} {c:Nat->Nat->Bool}
structure Ord(n:Nat)(c:Nat->Nat->Bool):Prop where
 as:∀i j,c i j=ae->c j i=af
 tot:∀i j,i<n->j<n->i≠j->c i j=ae\/c j i=ae
 tr:∀i j k,c i j=ae->c j k=ae->c i k=ae
noncomputable def bE(p:Array Nat)(i:Nat):Nat:=p.getD i 0
structure Good(n:Nat)(p:Array Nat):Prop where
 size:p.size=n
 perm:p.Perm (wE (f0 n))
theorem Good.at(g:Good n p)(h:i<n):p[i]?=aa (bE p i):=by have hs:=g.size;unfold bE;rw[rO,Ua (by exact bu 0xe010388436200 Yt h hs)];rfl
theorem Good.lt(g:Good n p)(h:i<n):bE p i<n:=by have m:=Array.mem_of_getElem? (g.at h);have:=(g.perm.mem_iff).mp m;simpa using this
theorem Good.ne(g:Good n p)(hi:i<n)(hj:j<n)(h:i≠j):bE p i≠bE p j:=λe=>by have nd:p.toList.Nodup:=(List.Perm.nodup_iff (QgV.mp g.perm)).mpr (by exact QgW);have a:=g.at hi;have b:=g.at hj;rw[<-TU]at a b;simp only[e]at a;have hs:=g.size;exact h ((QgX (by simpa[hs]using hi) nd).mp (by simp only[a,b]))
def Asc(c:Nat->Nat->Bool)(p:Array Nat)(m:Nat):Prop:=∀i j,i<j->j<m->c (bE p i) (bE p j)=ae
def Desc(c:Nat->Nat->Bool)(p:Array Nat)(m:Nat):Prop:=∀i j,i<j->j<m->c (bE p j) (bE p i)=ae
theorem Asc.succ(O:Ord n c)(h:Asc c p m)(h1:1<=m)(q:c (bE p (m-1)) (bE p m)=ae):Asc c p (m+1):=λi j ch hj=>by
 by_cases z:j<m
 ·exact h i j ch z
 ·have:j=m:=K7 hj z;clear hj z;subst this;by_cases y:i=j-1
  ·refine ag y ?_;exact q
  ·exact O.tr _ _ _ (h i (j-1) (K8 ch y) (Aw h1)) q
theorem Desc.succ(O:Ord n c)(h:Desc c p m)(h1:1<=m)(q:c (bE p m) (bE p (m-1))=ae):Desc c p (m+1):=λi j ch hj=>by
 by_cases z:j<m
 ·exact h i j ch z
 ·have:j=m:=K7 hj z;clear hj z;subst this;by_cases y:i=j-1
  ·refine ag y ?_;exact q
  ·exact O.tr _ _ _ q (h i (j-1) (K8 ch y) (Aw h1))
theorem BQ(O:Ord n c)(g:Good n p):∀(f k:Nat),1<=k->k+f<=n->Asc c p k->k<=cW c (rL p f k)/\cW c (rL p f k)<=k+f/\Asc c p (cW c (rL p f k))
 |0,k,_,_,h=>⟨dj _,dj _,h⟩
 |f+1,k,h1,hk,h=>by
  have e:cW c (rL p (f+1) k)=cW c (if c (bE p k) (bE p (k-1))=ae then .ret k else rL p f (k+1)):=rfl;refine ag e ?_;by_cases q:c (bE p k) (bE p (k-1))=ae
  ·rw[aw q];exact⟨dj _,by show k<=_;exact fN 0x60c3248000 Yt,h⟩
  ·rw[az q];have t:=O.tot _ _ (g.lt (i:=k-1) (Ax hk)) (g.lt (i:=k) (xw hk)) (g.ne (i:=k-1) (j:=k) (Ax hk) (xw hk) (K9 h1));have t:c (bE p (k-1)) (bE p k)=ae:=by rcases t with t|t;exact t;exact absurd t q
   refine eQ (BQ O g f (k+1) (pk) (Ak hk) (h.succ O h1 t)) λa1 a2 a3=>?_;exact⟨oq a1,bR 0x1830c94080060d00c9200 Yt a2,a3⟩
theorem Pa(O:Ord n c)(g:Good n p):∀(f k:Nat),1<=k->k+f<=n->Desc c p k->∃m,cW c (uf f p k 0)=(p,m,0)/\k<=m/\m<=k+f/\Desc c p m
 |0,k,_,_,h=>(oh k rfl (dj _) (dj _) h)
 |f+1,k,h1,hk,h=>by
  have e:cW c (uf (f+1) p k 0)=cW c (if c (bE p k) (bE p (k-1))=ae then(if 0>0 then uf f (pZ p (k-(0+1)) k) (k+1) 0 else uf f p (k+1) 0)else .ask (bE p (k-1)) (bE p k) λd=>if d=ae then .ret (p,k,0)else uf f p (k+1) (0+1)):=rfl;refine ag e ?_;by_cases q:c (bE p k) (bE p (k-1))=ae
  ·rw[aw q,az (by decide)];refine ay λcG=>?_;refine fy (Pa O g f (k+1) (pk) (Ak hk) (h.succ O h1 q)) λm a1 a2 a3 a4=>?_;apply cG;clear cG;exact⟨m,a1,oq a2,bR 0x1830c94080060d00c9200 Yt a3,a4⟩
  ·rw[az q];have t:=O.tot _ _ (g.lt (i:=k-1) (Ax hk)) (g.lt (i:=k) (xw hk)) (g.ne (i:=k-1) (j:=k) (Ax hk) (xw hk) (K9 h1));have t:c (bE p (k-1)) (bE p k)=ae:=by rcases t with t|t;exact t;exact absurd t q
   have e2:cW c (kL.ask (bE p (k-1)) (bE p k) λd=>if d=ae then kL.ret (p,k,0)else uf f p (k+1) (0+1))=cW c (if c (bE p (k-1)) (bE p k)=ae then kL.ret (p,k,0)else uf f p (k+1) (0+1)):=rfl;refine ag e2 ?_;rw[aw t];exact⟨k,rfl,dj _,fN 0x60c3248000 Yt,h⟩
theorem Pb(g:Good n p)(hm:m<=n):bE (pZ p 0 m) k=if k<m then bE p (m-1-k)else bE p k:=by
 delta bE pZ;rw[rO,getElem?_mirror_all (by simp only[g.size];exact hm)];by_cases h:k<m
 ·rw[aw ⟨Ay,h⟩,aw h,rO,gB]
 ·rw[az (by lia),az h,rO]
theorem Qaq(g:Good n p)(m:Nat):Good n (pZ p 0 m):=⟨by simp only[pZ,mirror_size];exact g.size,(mirror_perm _ _ _ _).trans g.perm⟩
theorem Qar(O:Ord n c)(g:Good n p)(h2:2<=n):1<=(cW c (rM n p)).1/\(cW c (rM n p)).1<=n/\Good n (cW c (rM n p)).2/\Asc c (cW c (rM n p)).2 (cW c (rM n p)).1:=by
 refine ay λcG=>?_;refine eQ (BQ O g (n-1) 1 (by lia) (aH 0x54900508a0891422891800cb240246011 Yt h2) (λi j h1 h2=>by exact fZ (bp 0x2e04138020e240 Yt h1 h2))) λa1 a2 a3=>?_;apply cG;clear cG;unfold rM;rw[vC];generalize hm:cW c (rL p (n-1) 1)=m at*;by_cases q:(m==n)=ae
 ·rw[aw q];exact⟨a1,by show m<=n;exact EN (eq_of_beq q),g,a3⟩
 ·rw[az q];by_cases q2:m>1
  ·rw[aw q2];have t:c (p.getD 0 0) (p.getD (m-1) 0)=ae:=a3 0 (m-1) (aH 0x1524014228224528228938b24004e009 Yt q2) (Aw a1);have e:cW c (kL.ask (p.getD 0 0) (p.getD (m-1) 0) λc=>if c=ae then kL.ret (m,p)else DI m n (pZ p 0 m))=cW c (if c (p.getD 0 0) (p.getD (m-1) 0)=ae then kL.ret (m,p)else DI m n (pZ p 0 m)):=rfl;refine ag e ?_;rw[aw t];exact⟨a1,by show m<=n;exact bp 0x1524814228224508a2822462001884460cb248240 Yt h2 a2,g,a3⟩
  ·rw[az q2];have q3:m=1:=l6 0x74114a082245282256240180266009 Yt a1 q2;refine ag q3 ?_;have d1:c (bE p 1) (bE p 0)=ae:=by
    have e:cW c (rL p (n-1) 1)=cW c (if c (bE p 1) (bE p 0)=ae then .ret 1 else rL p (n-2) 2):=by obtain⟨k,hk⟩:∃k,n-1=k+1:=⟨n-2,aH 0x55101524014228208225d04528228224528a08a08225524014228208225d04528228914a28208958324b4402c9006011 Yt h2⟩;refine ag hk ?_;rw[show n-2=k from N3 0x1544054900508a08208974114a08224528228228208225524014228208225d04528a08228208914a08a2820820895882d10060115832482c90360c920b240 [_,_] Yt h2 hk hk];rfl
    rw[hm,q3]at e;by_cases z:c (bE p 1) (bE p 0)=ae
    ·exact z
    ·rw[az z]at e;have t:=O.tot _ _ (g.lt (i:=0) (ES h2)) (g.lt (i:=1) (aH 0x380246011 Yt h2)) (g.ne (i:=0) (j:=1) (ES h2) (aH 0x380246011 Yt h2) (by lia));have t:c (bE p 0) (bE p 1)=ae:=by rcases t with t|t;exact t;exact absurd t z
     have:=(BQ O g (n-2) 2 (EO) (aH 0x5510052822891422891800cb440446011 Yt h2) (λi j h1 h2=>by
      have:i=0/\j=1:=by exact⟨bp 0x74114a08a24525604838020e440 Yt h1 h2,bp 0x74114a08224528225624038020e440 Yt h1 h2⟩
      refine ag this.1 (ag this.2 ?_);exact t)).1
     exact fZ (l6 0x2e041d80246011 Yt e this)
   unfold DI;rw[vC];refine ay λcG=>?_;obtain⟨d,b1,b2,b3,b4⟩:=Pa O g (n-(1+1)) (1+1) (by exact i5 0x60c9249 Yt) (by exact aH 0x5432490052822891422891800cb0c92400c9246011 Yt h2) (λi j h1 h2=>by
    have:i=0/\j=1:=by exact⟨bp 0x74114a08a24525604838020e0c9240 Yt h1 h2,bp 0x74114a08224528225624038020e0c9240 Yt h1 h2⟩
    refine ag this.1 (ag this.2 ?_);exact d1)
   apply cG;clear cG;refine ag b1 ?_;simp only;rw[az (by decide)];unfold kas_tail3;rw[vC];refine ay λcG=>?_;have g':=Qaq g d;have as:Asc c (pZ p 0 d) d:=λi j ch hj=>by rw[Pb g (by exact La h2 b3),Pb g (by exact La h2 b3),aw (by exact bu 0xe21038040e200 Yt ch hj),aw hj];exact b4 _ _ (bu 0x152481422822895502c920508a28208a25500b24814a08a08a08a28914228a08208a24e2d02c920b00b24838040e200 Yt ch hj) (aQ 0x54900508a0895482c90052820822891422822893802c82c9006003249 Yt b2)
   refine eQ (BQ O g' (n-d) d (aH 0x180246003249 Yt b2) (bp 0x1500854324920528228228a24508a28228224508a2462032c02001884460cb0c92480c9240 Yt h2 b3) as) λc1 c2 c3=>?_;apply cG;clear cG;exact⟨by show 1<=cW c _;exact bp 0x62091800c9246200 Yt b2 c1,by show cW c _<=n;exact k8 0x150c925054840528228228a28914228208a08225521014a08228a08a24508a0822820891900064111832c32494032492060cb210200 Yt h2 b3 c2,g',c3⟩
theorem GD(O:Ord n c)(g:Good n p)(hk:k<n)(ha:Asc c p k):∀(f l r:Nat),l<=r->r<=k->r-l<=f->(∀i,i<l->c (bE p i) (bE p k)=ae)->(∀i,r<=i->i<k->c (bE p k) (bE p i)=ae)->
  cW c (pa p k f l r)<=k/\(∀i,i<cW c (pa p k f l r)->c (bE p i) (bE p k)=ae)/\(∀i,cW c (pa p k f l r)<=i->i<k->c (bE p k) (bE p i)=ae)
 |0,l,r,h1,h2,h3,h4,h5=>by have:l=r:=bp 0x1520074114a08208914a08974114a08208914a28208225600818020604b200 Yt h1 h3;clear h1 h3;subst this;exact⟨h2,h4,h5⟩
 |f+1,l,r,h1,h2,h3,h4,h5=>by
  unfold pa;by_cases q:l>=r
  ·have:l=r:=bp 0x74114a08914a082256008180206200 Yt h1 q;clear h1 h3;subst this;rw[aw q];exact⟨h2,h4,h5⟩
  ·rw[az q];have e:cW c (kL.ask (p.getD k 0) (p.getD ((l+r)/2) 0) λc=>if c=ae then pa p k f l ((l+r)/2)else pa p k f ((l+r)/2+1) r)=cW c (if c (bE p k) (bE p ((l+r)/2))=ae then pa p k f l ((l+r)/2)else pa p k f ((l+r)/2+1) r):=rfl;refine ag e ?_;by_cases z:c (bE p k) (bE p ((l+r)/2))=ae
   ·rw[aw z];refine GD O g hk ha f l ((l+r)/2) (aQ 0x9510c020508a28248919b44300821e200 Yt q) (bu 0x9510c020528208249224641b44300819001e200 Yt h2 q) (bu 0x254430085486d10c020528208208225520014228208208208208914a08248a08209224640b21b4430081832502c801e200 Yt h3 q) h4 λi hi hik=>?_;by_cases y:i=(l+r)/2
    ·refine ag y ?_;exact z
    ·exact O.tr _ _ _ z (ha _ _ (by exact bu 0x2544340875114a08208224528208208224e01b4434081806d10d023e6d10d0200 Yt hi y) hik)
   ·rw[az z];have t:=O.tot _ _ (g.lt (i:=(l+r)/2) (by exact Lb hk h2 q)) (g.lt hk) (g.ne (by exact Lb hk h2 q) hk (by exact bu 0x2544300814a08208249227e41b44300819001e200 Yt h2 q));have t:c (bE p ((l+r)/2)) (bE p k)=ae:=by rcases t with t|t;exact t;exact absurd t z
    refine GD O g hk ha f ((l+r)/2+1) r (aQ 0x9510c02052820824891800c96d10c021e200 Yt q) h2 (bR 0x9510c02150c96d10c020014a08208208954800508a09208a24528209208a2822891902c325b4430080060c940b200 Yt h3) (λi hi=>?_) h5;by_cases y:i=(l+r)/2
    ·refine ag y ?_;exact t
    ·exact O.tr _ _ _ (ha _ _ (show i<(l+r)/2 from bu 0x2544340875114a08208208914a08208224e6d10d020038325b44340803e6d10d0200 Yt hi y) (bu 0x9510c020528208249224e41b44300819001e200 Yt h2 q)) t
theorem Pc(g:Good n p)(hk:k<n)(hd:d<=k):bE (bubble p k d) i=if i=k-d then bE p k else if k-d<i/\i<=k then bE p (i-1)else bE p i:=by
 unfold bE;rw[rO,getElem?_bubble (by simp only[g.size];exact hk) d hd];split
 ·simp only[rO]
 ·split<;>simp only[rO]
theorem Pd(O:Ord n c):∀(f:Nat)(p:Array Nat)(k:Nat),Good n p->k+f=n->Asc c p k->Good n (cW c (kas_bin f p k))/\Asc c (cW c (kas_bin f p k)) n
 |0,p,k,g,h,a=>by have:k=n:=bp 0x74114a08914a0822562005880c1036203040 Yt h h;clear O h;subst this;exact⟨g,a⟩
 |f+1,p,k,g,h,a=>by
  unfold kas_bin;rw[vC];refine ay λcG=>?_;refine eQ (GD O g (k:=k) (Az h) a k 0 k (Ay) (dj _) (bL 0x54100528224508a24600b040 Yt) (λi hi=>by exact fZ (AA hi)) (λi h1 h2=>by exact fZ (EK h1 h2))) λb1 b2 b3=>?_;generalize cW c (pa p k k 0 k)=l at*;apply cG;clear cG;refine Pd O f _ (k+1) ⟨by rw[bubble_size];exact g.size,(bubble_perm _ _ _).trans g.perm⟩ (ET h h) λi j ch hj=>?_;rw[Pc g (by exact Az h) (by exact AB),Pc g (by exact Az h) (by exact AB),show k-(k-l)=l by exact aQ 0x5402152c020874114a24528228a08225d04528228224528a08a0822552c020874114a24528228225d04528228914a2820895802cb008206200 Yt b1];by_cases e1:i=l
  ·rw[aw e1,az (by exact bu 0x14a08a27e210390036200 Yt ch e1),aw (by exact⟨bu 0xe408390036200 Yt ch e1,aQ 0x18800e0c9200 Yt hj⟩)];exact b3 _ (bu 0x54940508a28a24528228a2462c9408390036200 Yt ch e1) (Ld ch hj)
  ·rw[az e1];by_cases e2:l<i/\i<=k
   ·rw[aw e2,az (by exact bu 0x14a08a27e01039020e200 Yt ch e2.1),aw (by exact⟨AC ch e2.1,aQ 0x18800e0c9200 Yt hj⟩)];exact a _ _ (bu 0x54940508a08a25524814a08a08a28914228a08a24e2c940b24839020e200 Yt ch e2.1) (f7 0x1525814a08a08a24508a2893882c960e0c9218380406200 Yt hj e2.1 e2.2)
   ·rw[az e2];by_cases e3:j=l
    ·rw[aw e3];exact b2 _ (bu 0xe210380416200 Yt ch e3)
    ·rw[az e3];by_cases e4:l<j/\j<=k
     ·rw[aw e4];exact a _ _ (by have:¬l<i:=λc=>e2 ⟨c,by have:=e4.2;exact bu 0x621038040e0c9200 Yt ch hj⟩;have:=e4.1;lia) (Ld ch hj)
     ·rw[az e4];exact a _ _ ch (by have:¬l<j:=λc=>e4 ⟨c,by lia⟩;lia)
theorem Qas(O:Ord n c)(h2:2<=n):Good n (cW c (oY n))/\Asc c (cW c (oY n)) n:=by
 unfold oY;rw[vC];refine ay λcG=>?_;have g0:Good n (wE (f0 n)):=⟨by simp,Array.Perm.refl _⟩;refine og (Qar O g0 h2) λa1 a2 a3 a4=>?_;generalize cW c (rM n (wE (f0 n)))=r at*;apply cG;clear cG;by_cases q:r.1<n
 ·rw[aw q,show max r.1 1=r.1 from aH 0x34901d04528914a08974114a282082082245282282089580ec9006009 Yt a1];exact Pd O (n-r.1) r.2 r.1 a3 (EU q) a4
 ·rw[az q];have:r.1=n:=bp 0x74114a08914a082256200188026200 Yt a2 q;simp only[this]at a4;exact⟨a3,a4⟩
end
theorem Qat{xs:List (List Int)}(nd:xs.Nodup):Ord xs.length (λi j=>bI (xs.getD i []) (xs.getD j [])):=by refine⟨λi j h=>GC h,λi j hi hj ch=>BP _ _ λe=>ch ?_,λi j k h1 h2=>BN _ _ _ h1 h2⟩;simp only[eW,eW,cf hi,cf hj]at e;exact(QgX hi nd).mp (by simp only[cf hi,cf hj];exact congrArg aa e)
theorem GE(nd:xs.Nodup):(l7 xs).Perm (f0 xs.length)/\((l7 xs).map λi=>xs.getD i []).Pairwise (λa b=>bI a b=ae):=by
 unfold l7;by_cases q:xs.length<2
 ·rw[aw q];refine⟨List.Perm.refl _,?_⟩;match xs,q with
  |[],_=>exact .nil
  |[x],_=>exact List.pairwise_singleton _ _
  |_::_::_,q=>simp at q;exact fZ (aH 0xb8104e443243240 Yt q)
 ·rw[az q];refine aF (Qas (Qat nd) (aH 0x180466440 Yt q)) λg a=>?_;generalize cW _ (oY xs.length)=p at*;refine⟨by simpa using QgV.mp g.perm,?_⟩;rw[List.pairwise_iff_getElem];intro i j hi hj ch;have hs:=g.size;simp only[bq,QgY]at hi hj;have:=a i j ch (bu 0xe210380416200 Yt hj hs);unfold bE at this;simp only[List.getElem_map,Array.getElem_toList];rw[rO,rO,Ua hi,Ua hj]at this;exact this
theorem Pe:∀{a b:List (List Int)},a.Perm b->a.Pairwise (λa b=>bI a b=ae)->b.Pairwise (λa b=>bI a b=ae)->a=b
 |[],b,p,_,_=>(List.nil_perm.mp p).symm ▸rfl
 |x::a,[],p,_,_=>by have:=p.length_eq;injection this
 |x::a,y::b,p,h1,h2=>by
  have e:x=y:=by
   refine bX (cB.mp (p.mem_iff.mp (.head _))) (λe=>?_) λe=>?_
   ·exact e
   ·refine bX (cB.mp (p.symm.mem_iff.mp (.head _))) (λe'=>?_) λe'=>?_
    ·exact e'.symm
    ·have u:=QgZ h2 e;have v:=QgZ h1 e';rw[GC u]at v;injection v
  subst e;exact ag (Pe (List.Perm.cons_inv p) (Qg0 h1) (Qg0 h2)) rfl
theorem Qau(xs:List (List Int)):((f0 xs.length).map λi=>xs.getD i [])=xs:=by
 refine rE λi=>?_;rw[dS];by_cases h:i<xs.length
 ·simp only[DB h,bF,eW,cf h];rfl
 ·simp only[lJ (show xs.length<=i from mW h),lJ (show(f0 xs.length).length <=i by rw[TL];exact mW h)];rfl
theorem Pf(nd:xs.Nodup)(hl:xs.length<64)(hr:∀x∈xs,x.length≠0):qz xs=aa ((l7 xs).map λi=>xs.getD i []):=by refine aF (GE nd) λp _=>?_;unfold qz;rw[aw];simp only[bo,bl,eA,bne_iff_ne];refine⟨⟨⟨hl,hr⟩,λi hi=>by simpa using p.mem_iff.mp hi⟩,by refine ag p.length_eq ?_;simp;exact aH 0x18208900e082240 Yt hl⟩
theorem Qav(nx:xs.Nodup)(ny:ys.Nodup)(hm:∀x,x∈xs↔x∈ys)(hl:xs.length<64)(hr:∀x∈xs,x.length≠0):∃z,qz xs=aa z/\qz ys=aa z/\z.Perm xs:=by refine ay λcG=>?_;have pm:xs.Perm ys:=(Qg1 nx ny).mpr hm;have e1:=Pf nx hl hr;have e2:=Pf ny (by refine a8 pm.length_eq ?_;exact hl) λx hx=>hr x ((hm x).mpr hx);refine aF (GE nx) λp1 s1=>?_;refine aF (GE ny) λp2 s2=>?_;have q1:=p1.map λi=>xs.getD i [];have q2:=p2.map λi=>ys.getD i [];simp only[Qau]at q1 q2;apply cG;clear cG;refine(kc _ e1 ?_ q1);simp only[e2,Pe (q1.trans (pm.trans q2.symm)) s1 s2]
end
section
noncomputable def yj{α:Type}(n:Nat)(k:Nat->α):α:=y9 (k 0) (λm _=>k (kN m)) n
def nS:Nat->Nat->(List Nat->Nat->List dX)->List dX:=y9 (λ_ _=>[]) λ_ ih n k=>y9 (motive:=λ_=>List dX) (yj (n/131072) λn=>k [] n) (λm _=>yj (n/131072) λn=>ih n λl n=>k (kN m::l) n) (n%131072)
def dE:Nat->Nat->Nat->List dX:=y9 (λ_ _=>[]) λ_ ih t n=>yj (n%131072) λi=>yj (n/131072) λn=>nS 20 n λl n=>yj (t+3) λt'=>⟨fe i,.int (fe i) t,.str ⟨bt l⟩ (kN t)⟩::ih t' n
noncomputable abbrev gH:=cg ao×cg ao
noncomputable def gI(run:List gH)(main:Option au):cg (Option au):=do
  if run.isEmpty then return main
  match main with
  |none=>return aa (<-subDict run)
  |some d=>
   let sub<-holding [.ref d] (subDict run)
   (holding [.ref d,.ref sub] (mergeMapping d (.ref sub) af)).onRaise λx=>do let _<-holding [.ref d,x] (runValue (.builtin "proto.let_go" {}))
   return aa d
noncomputable def ia:List gH->Option au->List gH->cg (Option au)
 |[],main,run=>gI run main
 |x::l,main,run=>if(run++[x]).length ==17 then gI (run++[x]) main>>=λm=>ia l m []else ia l main (run++[x])
noncomputable def BR:Option au->cg ao
 |some d=>pure (.ref d)
 |none=>newDict
noncomputable def yk(l:List gH):List (Option (cg ao)×cg ao):=l.map λx=>(aa x.1,x.2)
theorem BU(x:cg α)(f:α->cg β)(g:β->cg γ):(x>>=f)>>=g=x>>=λa=>f a>>=g:=by show(x.bind f).bind g=x.bind λa=>(f a).bind g;simp only[Sem.bind_eq_wrap,Sem.wrap_wrap];rfl
theorem GF{f g:α->cg β}(h:∀a,f a=g a):x>>=f=x>>=g:=by exact ag (funext h) rfl
theorem Pg(a:α)(f:α->cg β):(pure a:cg α)>>=f=f a:=rfl
theorem Qaw(B:Option (cg ao)×cg ao->Option au×List gH->cg (ForInStep (Option au×List gH)))(G:Option au×List gH->cg ao)
  (hB:∀k v r,B (aa k,v) r=if((r.2++[(k,v)]).length ==17)=ae then gI (r.2++[(k,v)]) r.1>>=λm=>pure (.yield (m,[]))else pure (.yield (r.1,r.2++[(k,v)])))
  (hG:∀r,G r=gI r.2 r.1>>=BR):∀(l:List gH)(main:Option au)(run:List gH),(forIn (m:=cg) (yk l) (main,run) B>>=G)=ia l main run>>=BR:=by
 intro l
 induction l with
 |nil=>intro main run;exact hG _
 |cons x l ih=>
  intro main run
  show(forIn (m:=cg) ((aa x.1,x.2)::yk l) _ _)>>=_=(if(run++[x]).length ==17 then gI (run++[x]) main>>=λm=>ia l m []else ia l main (run++[x]))>>=BR
  rw[Dy,hB]
  dsimp only
  cases h:(run++[(x.1,x.2)]).length ==17 with
  |true=>
   simp only[if_true]
   rw[BU,BU,BU]
   exact GF λm=>by dsimp only[Pg];exact ih m []
  |false=>
   simp only[wB,if_false]
   dsimp only[Pg];exact ih main (run++[x])
theorem Qax(l:List gH):IU (yk l)=ia l ac []>>=BR:=by unfold IU;exact Qaw _ _ (λk v r=>rfl) (λr=>GF λm=>by cases m<;>rfl) l ac []
theorem Ph:∀(c l:List gH)(main:Option au)(run:List gH),run.length<17->run.length+c.length=17->ia (c++l) main run=gI (run++c) main>>=λm=>ia l m []
 |[],l,main,run,h,e=>by simp only[js]at e;exact fZ (l6 0x2e04138a440d8a443040 Yt h e)
 |x::c,l,main,run,h,e=>by
  show(if(run++[x]).length ==17 then gI (run++[x]) main>>=λm=>ia (c++l) m []else ia (c++l) main (run++[x]))=_;simp only[ce]at e;have el:(run++[x]).length =run.length+1:=by simp
  by_cases z:run.length+1=17
  ·have:c=[]:=Dw.mp (bp 0x74114a08a24525604858a4430c9200d8a443240 Yt e z);clear e;subst this;rw[aw (by refine ag el (ag z ?_);rfl)];rfl
  ·rw[az (by refine ag el ?_;simpa using z),Ph c l main (run++[x]) (N3 0x75914a08914a28224e29120e2910160c9008f8a443240 [_,_] Yt h el z) (N4 0x1d04528228224528208a08958a44340058a4430c9408d8a4430c94085832480360c9200 [_,_,_] Yt e e el el),lM];rfl
theorem Pi:∀(c:List gH)(main:Option au)(run:List gH),run.length+c.length<17->ia c main run=gI (run++c) main
 |[],main,run,_=>by rw[kO];rfl
 |x::c,main,run,e=>by show(if(run++[x]).length ==17 then gI (run++[x]) main>>=λm=>ia c m []else ia c main (run++[x]))=_;simp only[ce]at e;refine(?_:((run++[x]).length =run.length+1)->_) (by simp);intro el;rw[az (by refine ag el ?_;have:run.length+1≠17:=aQ 0x142289f8a44324038a4430c9200 Yt e;simpa using this),Pi c main (run++[x]) (bu 0xe2910d000e2910c32502160c9200 Yt e el),lM];rfl
theorem BV(x:cg α)(f:α->cg β)(K:β->cg γ)(H:ao->cg γ)(gd:Bool->Bool)(lv:List ao->List ao):(x>>=f).wrap K H gd lv=x.wrap (λa=>(f a).wrap K H gd lv) H gd lv:=by simp only[Sem.bind_eq_wrap',Sem.wrap_wrap];rfl
noncomputable def BW:Option au->kQ
 |some a=>.ret (.ref a)
 |none=>.next
theorem Pj(h:BW m=.ret (.ref a)):m=aa a:=by
 cases m with
 |none=>injection h
 |some b=>obtain rfl:=zr (PySem.Flow.ret.inj h);rfl
section
variable {tb:String->Option Dz} {p:rB} {w:d9} {mT:Nat} {mU:Option ao} {q:aR} {H:ao->cg Fin} {N n:Nat} {s:SharedT} {s':SharedT} {r:aE} {c:Code} {pos p':aR}
abbrev vD(x:cg (Option au))(c:Code)(p:aR)(B:List Frame):Thread:=⟨x.wrap (λa=>.pure (.done (BW a))) wR id id,c,p,B⟩
theorem dH{K:Option au->cg Fin}{L:List gH}(hl:Nat.ble (17*(j+1)) L.length=ae)
  (h:nV tb p w mT mU 1 n s (vD (gI ((L.drop (17*j)).take 17) m) c pos [f6 q])=aa (.ret (.ref d),s',c,p'))
  (k:rP tb p w mT mU N s'.abs ⟨(ia (L.drop (17*(j+1))) (aa d) []).wrap K H id id,c,p',[f6 q]⟩=aa r):
  rP tb p w mT mU (n+N) s.abs ⟨(ia (L.drop (17*j)) m []).wrap K H id id,c,pos,[f6 q]⟩=aa r:=by
 refine(?_:_->_) (Qg2 hl);intro hl
 refine(?_:(L.drop (17*j)=(L.drop (17*j)).take 17++L.drop (17*(j+1)))->_) (by rw[show 17*(j+1)=17*j+17 from bL 0x7411491495832914c02914c3240291 Yt, <-ze,IV])
 intro e
 refine ag e ?_;rw[Ph _ _ _ [] (by decide) (by simp only[eV,dL];simp;exact Tl (by lia)),IT,BV]
 refine ai (seg_top (res:=BW) (K':=λa=>(ia (L.drop (17*(j+1))) a []).wrap K H id id) (H':=H) (B:=[f6 q]) rfl n s.abs (vD (gI ((L.drop (17*j)).take 17) m) c pos [f6 q]) ⟨(gI ((L.drop (17*j)).take 17) m).wrap (λa=>(ia (L.drop (17*(j+1))) a []).wrap K H id id) H id id,c,pos,[f6 q]⟩ _ _ _ _ ⟨rfl,rfl,.inl ⟨rfl,rfl,_,rfl,rfl⟩⟩ (DJ h)) λa ha hN=>?_
 obtain rfl:=Pj ha
 exact hN N r k
theorem Qay{K:Option au->cg Fin}{L:List gH}(hl:Nat.blt L.length (17*j+17)=ae)
  (h:nV tb p w mT mU 1 n s (vD (gI (L.drop (17*j)) m) c pos [f6 q])=aa (.ret (.ref d),s',c,p'))
  (k:rP tb p w mT mU N s'.abs ⟨K (aa d),c,p',[f6 q]⟩=aa r):
  rP tb p w mT mU (n+N) s.abs ⟨(ia (L.drop (17*j)) m []).wrap K H id id,c,pos,[f6 q]⟩=aa r:=by
 refine(?_:(L.length<17*j+17)->_) (Qg2 hl);intro hl
 rw[Pi _ _ [] (by rw[dL];simp;exact aQ 0x154c829100528224508a28938a44b4c829100e0ca45320a440 Yt hl),IT]
 refine ai (seg_top (res:=BW) (K':=K) (H':=H) (B:=[f6 q]) rfl n s.abs (vD (gI (L.drop (17*j)) m) c pos [f6 q]) ⟨(gI (L.drop (17*j)) m).wrap K H id id,c,pos,[f6 q]⟩ _ _ _ _ ⟨rfl,rfl,.inl ⟨rfl,rfl,_,rfl,rfl⟩⟩ (DJ h)) λa ha hN=>?_
 obtain rfl:=Pj ha
 exact hN N r k
theorem Qaz{K:Unit->cg Fin}{x:cg Unit}(h:nV tb p w mT mU 1 n s ⟨x.wrap (λ_=>.pure (.done .next)) wR id id,c,pos,[f6 q]⟩=aa (.next,s',c,p'))
  (k:rP tb p w mT mU N s'.abs ⟨K (),c,p',[f6 q]⟩=aa r):rP tb p w mT mU (n+N) s.abs ⟨x.wrap K H id id,c,pos,[f6 q]⟩=aa r:=by
 refine ai (seg_top (res:=λ_=>Flow.next) (K':=K) (H':=H) (B:=[f6 q]) rfl n s.abs ⟨x.wrap (λ_=>.pure (.done .next)) wR id id,c,pos,[f6 q]⟩ ⟨x.wrap K H id id,c,pos,[f6 q]⟩ _ _ _ _ ⟨rfl,rfl,.inl ⟨rfl,rfl,_,rfl,rfl⟩⟩ (DJ h)) λa ha hN=>?_
 exact hN N r k
theorem QaA{K:kQ->cg Fin}{x:cg kQ}{f:kQ}(h:nV tb p w mT mU 1 n s ⟨x.wrap doneF wR id id,c,pos,[f6 q]⟩=aa (f,s',c,p'))
  (k:rP tb p w mT mU N s'.abs ⟨K f,c,p',[f6 q]⟩=aa r):rP tb p w mT mU (n+N) s.abs ⟨x.wrap K H id id,c,pos,[f6 q]⟩=aa r:=by
 refine ai (seg_top (res:=id) (K':=K) (H':=H) (B:=[f6 q]) rfl n s.abs ⟨x.wrap doneF wR id id,c,pos,[f6 q]⟩ ⟨x.wrap K H id id,c,pos,[f6 q]⟩ _ _ _ _ ⟨rfl,rfl,.inl ⟨rfl,rfl,_,rfl,rfl⟩⟩ (DJ h)) λa ha hN=>?_
 clear h;obtain rfl:a=f:=ha
 exact hN N r k
end
end
section
noncomputable abbrev pw:rB:=PySem.Challenge.pw_uc0059_01
noncomputable abbrev R(a:Nat):ao:=.ref a
noncomputable abbrev S(x:String)(t:Nat):ao:=.str (aG x) t
noncomputable abbrev I(i:Int)(t:Nat):ao:=.int i t
noncomputable abbrev K(P:aN)(x:String)(t:Nat)(v:ao):dX:=⟨PyData.keyHash P (aG x),.str (aG x) t,v⟩
noncomputable abbrev J(i t:Nat)(v:ao):dX:=⟨fe i,.int (fe i) t,v⟩
noncomputable abbrev N:=BT.node
noncomputable abbrev E:=BT.nil
def jd:List dF:=behindTheImports pw
def bW(i:Nat):dF:=jd.getD i (.Pass default)
noncomputable def vE:dF->Dr| .FunctionDef _ a .. =>a|_=>default
noncomputable def cR:dF->List dF| .FunctionDef _ _ b .. =>b|_=>[]
noncomputable def d8:dF->mD| .FunctionDef _ _ _ _ _ _ sc .. =>sc|_=>default
def F(i:Nat)(x:String)(gl:Nat)(pm cd:ao)(bi:Nat):o5:={name:=aG x,qualname:=aG x,params:=vE (bW i),body:=.stmts (cR (bW i)),scope:=d8 (bW i),globals:=gl,closure:=[],defaults:=.none,kwdefaults:=.none,pyModule:=pm,code:=cd,builtins:=bi}
def je:bP:={scope:=pw.main.scope,locals:=mainNs,globals:=mainNs,cells:=[],code:=.ref 13,frame:=aa 14}
def cE:Code:=.body jd je
noncomputable def jI:List Frame:=[f6 ⟨0,0,0,0⟩]
noncomputable def Pk:Life:={}
abbrev iH(T:BT)(n toks:Nat)(os:ug):SharedT:=⟨T,n,Pk,bt [],⟨0,0,0,0⟩,toks,os⟩
abbrev ib(a b:Nat):List dF:=(jd.drop a).take b
abbrev jf(w:d9)(os:ug)(n:Nat)(T:BT)(k toks:Nat)(l:List dF)(p:aR)(T':BT)(k' JT:Nat)(p':aR):Prop:=nV mO pw w 11 (aa (.ref 6)) 1 n (iH T k toks os) (piecesOf l je cE p jI)=aa (.next,iH T' k' JT os,cE,p')
def ns3(P:aN):List dX:=[K P "__doc__" 166 .none,K P "__package__" 167 .none,K P "__loader__" 168 (.builtin "__main__.__loader__#opaque"),K P "__spec__" 169 .none,K P "__annotations__" 170 (R 6),K P "__builtins__" 171 (R 4),K P "__file__" 173 (S "/claim/cut.py" 172),K P "__cached__" 174 .none,K P "_DIV_LIMIT" 190 (I 4000 189),K P "_div2n1n" 207 (R 21),K P "_div3n2n" 221 (R 28),K P "_int2digits" 232 (R 35),K P "_digits2int" 243 (R 42),K P "_divmod_pos" 258 (R 49),K P "int_divmod" 268 (R 56),K P "ELLIPSIS_MARKER" 272 (S "..." 271),K P "_ellipsis_match" 284 (R 63),K P "b1_set" 346 (R 71),K P "in_table_b1" 353 (R 81),K P "b3_exceptions" 2304 (R 82),K P "map_table_b3" 2312 (R 127),K P "ENDMARKER" 2316 (I 0 2315),K P "LPAR" 2318 (I 7 2317),K P "RPAR" 2320 (I 8 2319),K P "LSQB" 2322 (I 9 2321),K P "RSQB" 2324 (I 10 2323),K P "COLON" 2326 (I 11 2325),K P "COMMA" 2328 (I 12 2327),K P "SEMI" 2330 (I 13 2329),K P "PLUS" 2332 (I 14 2331),K P "MINUS" 2334 (I 15 2333),K P "STAR" 2336 (I 16 2335),K P "SLASH" 2338 (I 17 2337),K P "VBAR" 2340 (I 18 2339),K P "AMPER" 2342 (I 19 2341),K P "LESS" 2344 (I 20 2343),K P "GREATER" 2346 (I 21 2345),K P "EQUAL" 2348 (I 22 2347),K P "DOT" 2350 (I 23 2349),K P "PERCENT" 2352 (I 24 2351),K P "LBRACE" 2354 (I 25 2353),K P "RBRACE" 2356 (I 26 2355),K P "EQEQUAL" 2358 (I 27 2357),K P "NOTEQUAL" 2360 (I 28 2359),K P "LESSEQUAL" 2362 (I 29 2361),K P "GREATEREQUAL" 2364 (I 30 2363),K P "TILDE" 2366 (I 31 2365),K P "CIRCUMFLEX" 2368 (I 32 2367),K P "LEFTSHIFT" 2370 (I 33 2369),K P "RIGHTSHIFT" 2372 (I 34 2371),K P "DOUBLESTAR" 2374 (I 35 2373),K P "PLUSEQUAL" 2376 (I 36 2375),K P "MINEQUAL" 2378 (I 37 2377),K P "STAREQUAL" 2380 (I 38 2379),K P "SLASHEQUAL" 2382 (I 39 2381),K P "PERCENTEQUAL" 2384 (I 40 2383),K P "AMPEREQUAL" 2386 (I 41 2385),K P "VBAREQUAL" 2388 (I 42 2387),K P "CIRCUMFLEXEQUAL" 2390 (I 43 2389),K P "LEFTSHIFTEQUAL" 2392 (I 44 2391),K P "RIGHTSHIFTEQUAL" 2394 (I 45 2393),K P "DOUBLESTAREQUAL" 2396 (I 46 2395),K P "DOUBLESLASH" 2398 (I 47 2397),K P "DOUBLESLASHEQUAL" 2400 (I 48 2399),K P "AT" 2402 (I 49 2401),K P "ATEQUAL" 2404 (I 50 2403),K P "RARROW" 2406 (I 51 2405),K P "ELLIPSIS" 2408 (I 52 2407),K P "COLONEQUAL" 2410 (I 53 2409),K P "EXCLAMATION" 2412 (I 54 2411),K P "NT_OFFSET" 2414 (I 256 2413),K P "EXACT_TOKEN_TYPES" 2511 (R 128),K P "ISTERMINAL" 2518 (R 137),K P "ISNONTERMINAL" 2525 (R 144),K P "ISEOF" 2532 (R 151),K P "_law_unseen" 2541 (R 158),K P "_law_spelled" 2549 (R 165),K P "_law_drawn" 2566 (R 172),K P "_law_read" 2572 (R 177),K P "_law_divided" 2583 (R 184),K P "_law_shown" 2589 (R 189),K P "_law_longest" 2595 (R 194),K P "_law_due" 2607 (R 201),K P "law" 2613 (R 206)]
def o3(P:aN)(n e:Nat)(v:ao):be:=⟨.type "dict",ac,.dict (bt (K P "__name__" 165 v::(ns3 P).take (n-1))) e,bt []⟩
def QaC:List ao:=[I 3 0,I 0 0,R 20,I 19 0,I 0 0,R 27,I 29 0,I 0 0,R 34,I 45 0,I 0 0,R 41,I 54 0,I 0 0,R 48,I 65 0,I 0 0,R 55,I 78 0,I 0 0,R 62,I 108 0,I 0 0,R 80,I 111 0,I 0 0,R 126,I 168 0,I 0 0,R 136,I 170 0,I 0 0,R 143,I 172 0,I 0 0,R 150,I 175 0,I 0 0,R 157,I 179 0,I 0 0,R 164,I 185 0,I 0 0,R 171,I 215 0,I 0 0,R 176,I 229 0,I 0 0,R 183,I 242 0,I 0 0,R 188,I 259 0,I 0 0,R 193,I 271 0,I 0 0,R 200,I 284 0,I 0 0,R 205]
def gJ(n:Nat):be:=⟨.none,ac,.fields (bt (QaC.take n)),bt []⟩
noncomputable abbrev oT(l:List ao):be:=⟨.type "tuple",ac,.seq (bt l) 0,bt []⟩
noncomputable abbrev oC(l:List ao):be:=⟨.type "code",ac,.fields (bt l),bt []⟩
abbrev oK(n:String)(a l k:Nat)(e:Int)(r:Nat)(b:Bool)(v1 v2 v3 v4 v5:ao)(m:Nat):be:=oC [S n a,S n (a+1),S "/claim/cut.py" (a+2),I l 0,I k 0,I 0 0,I 0 0,I e 0,R r,.bool b,I 181 0,v1,v2,v3,v4,v5,I m 0,I l 0,S "/claim/cut.py" (m+1)]
noncomputable abbrev oG(l:List ao):be:=⟨.none,ac,.fields (bt l),bt []⟩
noncomputable abbrev oF(d:Data):be:=⟨.type "function",ac,d,bt []⟩
def ah:=oT []
def gp:=oK "<module>" 182 1 0 0 11 af (R 12) .none .none .none .none 185
def fj:be:=⟨(.type "frame"),ac,.plain,bt [aa (R 13),aa (R 3),aa (R 3),ac,aa (S "__main__" 164),ac,aa (R 0)]⟩
def jJ:=oG []
def jK:=oT [S "a" 194,S "b" 195,S "n" 196,S "pad" 197,S "half_n" 198,S "mask" 199,S "b1" 200,S "b2" 201,S "q1" 202,S "r" 203,S "q2" 204]
def jL:be:=⟨.none,ac,(.func (F 2 "_div2n1n" 0 .none .none 0)),bt []⟩
def jM:=oK "_div2n1n" 191 3 3 3 15 ae (R 16) .none (R 17) (R 18) (R 19) 205
def jg:=oF (.func (F 2 "_div2n1n" 3 (S "cpy313._pylong" 187) (R 20) 0))
def iI:=oG []
def jh:=oT [S "a12" 211,S "a3" 212,S "b" 213,S "b1" 214,S "b2" 215,S "n" 216,S "q" 217,S "r" 218]
def lm:be:=⟨.none,ac,(.func (F 3 "_div3n2n" 0 .none .none 0)),bt []⟩
def ji:=oK "_div3n2n" 208 19 6 3 22 ae (R 23) .none (R 24) (R 25) (R 26) 219
def iJ:=oF (.func (F 3 "_div3n2n" 3 (S "cpy313._pylong" 187) (R 27) 0))
def jN:=oG []
def kq:=oT [S "a" 225,S "n" 226]
def kr:=oT [S "n" 227,S "a_digits" 228,S "inner" 229]
def kt:be:=⟨.none,ac,(.func (F 4 "_int2digits" 0 .none .none 0)),bt []⟩
def cu:=oK "_int2digits" 222 29 2 3 29 ae (R 30) .none (R 31) (R 32) (R 33) 230
def jO:=oF (.func (F 4 "_int2digits" 3 (S "cpy313._pylong" 187) (R 34) 0))
def ku:=oG []
def kw:=oT [S "digits" 236,S "n" 237]
def jj:=oT [S "digits" 238,S "n" 239,S "inner" 240]
def jP:be:=⟨.none,ac,(.func (F 5 "_digits2int" 0 .none .none 0)),bt []⟩
def jQ:=oK "_digits2int" 233 45 2 3 36 ae (R 37) .none (R 38) (R 39) (R 40) 241
def lq:=oF (.func (F 5 "_digits2int" 3 (S "cpy313._pylong" 187) (R 41) 0))
def ky:=oG []
def kz:=oT [S "a" 247,S "b" 248,S "n" 249,S "a_digits" 250,S "r" 251,S "q_digits" 252,S "a_digit" 253,S "q_digit" 254,S "q" 255]
def lu:be:=⟨.none,ac,(.func (F 6 "_divmod_pos" 0 .none .none 0)),bt []⟩
def lw:=oK "_divmod_pos" 244 54 2 3 43 ae (R 44) .none (R 45) (R 46) (R 47) 256
def kA:=oF (.func (F 6 "_divmod_pos" 3 (S "cpy313._pylong" 187) (R 48) 0))
def lx:=oG []
def lz:=oT [S "a" 262,S "b" 263,S "q" 264,S "r" 265]
def lB:be:=⟨.none,ac,(.func (F 7 "int_divmod" 0 .none .none 0)),bt []⟩
def jR:=oK "int_divmod" 259 65 2 3 50 ae (R 51) .none (R 52) (R 53) (R 54) 266
def jS:=oF (.func (F 7 "int_divmod" 3 (S "cpy313._pylong" 187) (R 55) 0))
def oM:=oG []
def lC:=oT [S "want" 276,S "got" 277,S "ws" 278,S "startpos" 279,S "endpos" 280,S "w" 281]
def lD:be:=⟨.none,ac,(.func (F 10 "_ellipsis_match" 0 .none .none 0)),bt []⟩
def lE:=oK "_ellipsis_match" 273 78 2 3 57 ae (R 58) .none (R 59) (R 60) (R 61) 282
def lF:=oF (.func (F 10 "_ellipsis_match" 3 (S "cpy313.doctest" 269) (R 62) 0))
def ng:be:=⟨(.type "list"),ac,(.seq (bt [I 173 287,I 847 288,I 6150 289,I 6155 290,I 6156 291,I 6157 292,I 8203 293,I 8204 294,I 8205 295,I 8288 296,I 65279 297]) 0),bt []⟩
def nh:be:=⟨(.type "range"),ac,(.fields (bt [I 65024 298,I 65040 299,I 1 300])),bt []⟩
def cF:be:=⟨(.type "list"),ac,(.seq (bt [I 65024 303,I 65025 304,I 65026 305,I 65027 306,I 65028 307,I 65029 308,I 65030 309,I 65031 310,I 65032 311,I 65033 312,I 65034 313,I 65035 314,I 65036 315,I 65037 316,I 65038 317,I 65039 318]) 18),bt []⟩
def ni:be:=⟨(.type "range_iterator"),ac,(.fields (bt [I 65040 0,I 0 0,I 1 0])),bt []⟩
def nj:be:=⟨(.type "StopIteration"),ac,(.fields (bt [R 68,.none,.none,.none,.bool af,.none])),bt []⟩
def nk:be:=⟨(.type "list"),ac,(.seq (bt [I 173 287,I 847 288,I 6150 289,I 6155 290,I 6156 291,I 6157 292,I 8203 293,I 8204 294,I 8205 295,I 8288 296,I 65279 297,I 65024 303,I 65025 304,I 65026 305,I 65027 306,I 65028 307,I 65029 308,I 65030 309,I 65031 310,I 65032 311,I 65033 312,I 65034 313,I 65035 314,I 65036 315,I 65037 316,I 65038 317,I 65039 318]) 0),bt []⟩
def jk(P:aN):be:=⟨(.type "set"),ac,(.set (bt [(65024,(I 65024 303)),(65025,(I 65025 304)),(65026,(I 65026 305)),(65027,(I 65027 306)),(65028,(I 65028 307)),(65029,(I 65029 308)),(6150,(I 6150 289)),(65030,(I 65030 309)),(65031,(I 65031 310)),(65032,(I 65032 311)),(65033,(I 65033 312)),(6155,(I 6155 290)),(6156,(I 6156 291)),(6157,(I 6157 292)),(8203,(I 8203 293)),(8204,(I 8204 294)),(8205,(I 8205 295)),(65034,(I 65034 313)),(65035,(I 65035 314)),(65036,(I 65036 315)),(65037,(I 65037 316)),(65038,(I 65038 317)),(65039,(I 65039 318)),(173,(I 173 287)),(847,(I 847 288)),(8288,(I 8288 296)),(65279,(I 65279 297))]) 29 ⟨127,bt [0,1,2,3,4,5,6,7,8,9,10,11,12,13,14,15,16,17,18,19,20,21,22,45,79,96,127],bt [],0,(!P.followText "set-order"),2,ae⟩),bt []⟩
def mn:be:=⟨(.type "list_iterator"),ac,(.fields (bt [.none,I 27 0])),bt []⟩
def pC:be:=⟨(.type "StopIteration"),ac,(.fields (bt [R 73,.none,.none,.none,.bool af,.none])),bt []⟩
def nl:=oG []
def nq:=oT [S "code" 350]
def oN:be:=⟨.none,ac,(.func (F 13 "in_table_b1" 0 .none .none 0)),bt []⟩
def oO:=oK "in_table_b1" 347 108 1 3 75 ae (R 76) .none (R 77) (R 78) (R 79) 351
def nr:=oF (.func (F 13 "in_table_b1" 3 (S "cpy313.stringprep" 285) (R 80) 0))
def vF:=oG []
def vG:=oT [S "code" 2308,S "r" 2309]
def vH:be:=⟨.none,ac,(.func (F 15 "map_table_b3" 0 .none .none 0)),bt []⟩
def vI:=oK "map_table_b3" 2305 111 1 3 121 ae (R 122) .none (R 123) (R 124) (R 125) 2310
def te:=oF (.func (F 15 "map_table_b3" 3 (S "cpy313.stringprep" 285) (R 126) 0))
def pD(P:aN):be:=⟨(.type "dict"),ac,(.dict (bt [K P "!" 2415 (I 54 2411),K P "!=" 2417 (I 28 2359),K P "%" 2419 (I 24 2351),K P "%=" 2421 (I 40 2383),K P "&" 2423 (I 19 2341),K P "&=" 2425 (I 41 2385),K P "(" 2427 (I 7 2317),K P ")" 2429 (I 8 2319),K P "*" 2431 (I 16 2335),K P "**" 2433 (I 35 2373),K P "**=" 2435 (I 46 2395),K P "*=" 2437 (I 38 2379),K P "+" 2439 (I 14 2331),K P "+=" 2441 (I 36 2375),K P "," 2443 (I 12 2327),K P "-" 2445 (I 15 2333),K P "-=" 2447 (I 37 2377),K P "->" 2449 (I 51 2405),K P "." 2451 (I 23 2349),K P "..." 2453 (I 52 2407),K P "/" 2455 (I 17 2337),K P "//" 2457 (I 47 2397),K P "//=" 2459 (I 48 2399),K P "/=" 2461 (I 39 2381),K P ":" 2463 (I 11 2325),K P ":=" 2465 (I 53 2409),K P ";" 2467 (I 13 2329),K P "<" 2469 (I 20 2343),K P "<<" 2471 (I 33 2369),K P "<<=" 2473 (I 44 2391),K P "<=" 2475 (I 29 2361),K P "=" 2477 (I 22 2347),K P "==" 2479 (I 27 2357),K P ">" 2481 (I 21 2345),K P ">=" 2483 (I 30 2363),K P ">>" 2484 (I 34 2371),K P ">>=" 2485 (I 45 2393),K P "@" 2486 (I 49 2401),K P "@=" 2487 (I 50 2403),K P "[" 2488 (I 9 2321),K P "]" 2489 (I 10 2323),K P "^" 2490 (I 32 2367),K P "^=" 2491 (I 43 2389),K P "{" 2492 (I 25 2353),K P "|" 2493 (I 18 2339),K P "|=" 2494 (I 42 2387),K P "}" 2495 (I 26 2355),K P "~" 2496 (I 31 2365)]) 48),bt []⟩
def vJ(P:aN):be:=⟨(.type "dict"),ac,(.dict (bt [K P "->" 2449 (I 51 2405),K P "." 2451 (I 23 2349),K P "..." 2453 (I 52 2407),K P "/" 2455 (I 17 2337),K P "//" 2457 (I 47 2397),K P "//=" 2459 (I 48 2399),K P "/=" 2461 (I 39 2381),K P ":" 2463 (I 11 2325),K P ":=" 2465 (I 53 2409),K P ";" 2467 (I 13 2329),K P "<" 2469 (I 20 2343),K P "<<" 2471 (I 33 2369),K P "<<=" 2473 (I 44 2391),K P "<=" 2475 (I 29 2361),K P "=" 2477 (I 22 2347),K P "==" 2479 (I 27 2357),K P ">" 2481 (I 21 2345)]) 17),bt []⟩
def vK(P:aN):be:=⟨(.type "dict"),ac,(.dict (bt [K P ">=" 2483 (I 30 2363),K P ">>" 2484 (I 34 2371),K P ">>=" 2485 (I 45 2393),K P "@" 2486 (I 49 2401),K P "@=" 2487 (I 50 2403),K P "[" 2488 (I 9 2321),K P "]" 2489 (I 10 2323),K P "^" 2490 (I 32 2367),K P "^=" 2491 (I 43 2389),K P "{" 2492 (I 25 2353),K P "|" 2493 (I 18 2339),K P "|=" 2494 (I 42 2387),K P "}" 2495 (I 26 2355),K P "~" 2496 (I 31 2365)]) 14),bt []⟩
def yl:=oG []
def ym:=oT [S "x" 2515]
def yn:be:=⟨.none,ac,(.func (F 68 "ISTERMINAL" 0 .none .none 0)),bt []⟩
def yo:=oK "ISTERMINAL" 2512 168 1 3 131 ae (R 132) .none (R 133) (R 134) (R 135) 2516
def vL:=oF (.func (F 68 "ISTERMINAL" 3 (S "cpy313.token" 2313) (R 136) 0))
def yp:=oG []
def yq:=oT [S "x" 2522]
def yr:be:=⟨.none,ac,(.func (F 69 "ISNONTERMINAL" 0 .none .none 0)),bt []⟩
def yt:=oK "ISNONTERMINAL" 2519 170 1 3 138 ae (R 139) .none (R 140) (R 141) (R 142) 2523
def vM:=oF (.func (F 69 "ISNONTERMINAL" 3 (S "cpy313.token" 2313) (R 143) 0))
def yu:=oG []
def yv:=oT [S "x" 2529]
def yw:be:=⟨.none,ac,(.func (F 70 "ISEOF" 0 .none .none 0)),bt []⟩
def yx:=oK "ISEOF" 2526 172 1 3 145 ae (R 146) .none (R 147) (R 148) (R 149) 2530
def vN:=oF (.func (F 70 "ISEOF" 3 (S "cpy313.token" 2313) (R 150) 0))
def BX:=oG []
def BY:=oT [S "place" 2538]
def BZ:be:=⟨.none,ac,(.func (F 72 "_law_unseen" 0 .none .none 0)),bt []⟩
def B0:=oK "_law_unseen" 2535 175 1 3 152 ae (R 153) .none (R 154) (R 155) (R 156) 2539
def yy:=oF (.func (F 72 "_law_unseen" 3 (S "law_uc0059_01" 2533) (R 157) 0))
def B1:=oG []
def B2:=oT [S "code" 2545,S "way" 2546]
def B3:be:=⟨.none,ac,(.func (F 73 "_law_spelled" 0 .none .none 0)),bt []⟩
def B4:=oK "_law_spelled" 2542 179 2 3 159 ae (R 160) .none (R 161) (R 162) (R 163) 2547
def yz:=oF (.func (F 73 "_law_spelled" 3 (S "law_uc0059_01" 2533) (R 164) 0))
def B5:=oG []
def B6:=oT [S "script" 2553,S "words" 2554,S "mark" 2555,S "first" 2556,S "second" 2557,S "code" 2558,S "text" 2559,S "row" 2560,S "x" 2561,S "unseen" 2562,S "spelled" 2563]
def B7:be:=⟨.none,ac,(.func (F 74 "_law_drawn" 0 .none .none 0)),bt []⟩
def B8:=oK "_law_drawn" 2550 185 1 3 166 ae (R 167) .none (R 168) (R 169) (R 170) 2564
def yA:=oF (.func (F 74 "_law_drawn" 3 (S "law_uc0059_01" 2533) (R 171) 0))
def GG:=oG []
def GH:be:=⟨.none,ac,(.func (F 75 "_law_read" 0 .none .none 0)),bt []⟩
def GI:=oK "_law_read" 2567 215 1 3 173 ae (R 174) .none .none .none (R 175) 2570
def B9:=oF (.func (F 75 "_law_read" 3 (S "law_uc0059_01" 2533) (R 176) 0))
def GJ:=oG []
def GK:=oT [S "top" 2576,S "low" 2577,S "way" 2578,S "quotient" 2579,S "rest" 2580]
def GL:be:=⟨.none,ac,(.func (F 76 "_law_divided" 0 .none .none 0)),bt []⟩
def GM:=oK "_law_divided" 2573 229 3 3 178 ae (R 179) .none (R 180) (R 181) (R 182) 2581
def Ca:=oF (.func (F 76 "_law_divided" 3 (S "law_uc0059_01" 2533) (R 183) 0))
def GN:=oG []
def GO:be:=⟨.none,ac,(.func (F 77 "_law_shown" 0 .none .none 0)),bt []⟩
def GP:=oK "_law_shown" 2584 242 5 3 185 ae (R 186) .none .none .none (R 187) 2587
def Cb:=oF (.func (F 77 "_law_shown" 3 (S "law_uc0059_01" 2533) (R 188) 0))
def Pl:=oG []
def Pn:be:=⟨.none,ac,(.func (F 78 "_law_longest" 0 .none .none 0)),bt []⟩
def Po:=oK "_law_longest" 2590 259 2 3 190 ae (R 191) .none .none .none (R 192) 2593
def GQ:=oF (.func (F 78 "_law_longest" 3 (S "law_uc0059_01" 2533) (R 193) 0))
def Pq:=oG []
def Pr:=oT [S "row" 2599,S "runs" 2600,S "place" 2601,S "p" 2602,S "begin" 2603,S "end" 2604]
def Ps:be:=⟨.none,ac,(.func (F 79 "_law_due" 0 .none .none 0)),bt []⟩
def Pt:=oK "_law_due" 2596 271 1 3 195 ae (R 196) .none (R 197) (R 198) (R 199) 2605
def GR:=oF (.func (F 79 "_law_due" 3 (S "law_uc0059_01" 2533) (R 200) 0))
def Pu:=oG []
def Pv:be:=⟨.none,ac,(.func (F 80 "law" 0 .none .none 0)),bt []⟩
def Pw:=oK "law" 2608 284 1 3 202 ae (R 203) .none .none .none (R 204) 2611
def Px:=oF (.func (F 80 "law" 3 (S "law_uc0059_01" 2533) (R 205) 0))
def nu:List dX:=dE 647 354 0x78fd7a6000000f1baf4a000001e2f5e90000003c4ebd1800000787d7a2000000ee3af42000001e0f5e80000003c0ebcf80000077fd79e000000efbaf3a000001def5e70000003bcebcd800000777d79a000000eebaf32000001dcf5e60000003b8ebcb80000076fd796000000edbaf2a000001daf5e50000003b4ebc9800000767d792000000ecbaf22000001d8f5e40000003c3ebc0800000793d76e000000f23aeda000001e3f5db0000003c6ebb580000078bd76a000000f13aed2000001e1f5da0000003b8ebb3800000783d766000000f03aeca000001dff5d90000003beebb180000077bd762000000ef3aec2000001ddf5d80000003baebaf800000773d75e000000ee3aeba000001dbf5d70000003b6ebad80000076bd75a000000ed3aeb2000001d9f5d60000003b2ebab800000763d756000000f0fae8e000001e4f5cd0000003c8eb9980000078fd732000000f1bae62000001e2f5cc0000003c4eb97800000787d72e000000ee3ae5a000001e0f5cb0000003c0eb9580000077fd72a000000efbae52000001def5ca0000003bceb93800000777d726000000eebae4a000001dcf5c90000003b8eb9180000076fd722000000edbae42000001daf5c80000003b4eb8f800000767d71e000000ecbae3a000001d8f5c70000003c3eb86800000793d6fa000000f23adf2000001e3f5be0000003c6eb7b80000078bd6f6000000f13adea000001e1f5bd0000003b8eb79800000783d6f2000000f03ade2000001dff5bc0000003beeb7780000077bd6ee000000ef3adda000001ddf5bb0000003baeb75800000773d6ea000000ee3add2000001dbf5ba0000003b6eb7380000076bd6e6000000ed3adca000001d9f5b90000003b2eb71800000763d6e2000000f0fada6000001e4f5b00000003c8eb5f80000078fd6be000000f1bad7a000001e2f5af0000003c4eb5d800000787d6ba000000ee3ad72000001e0f5ae0000003c0eb5b80000077fd6b6000000efbad6a000001def5ad0000003bceb59800000777d6b2000000eebad62000001dcf5ac0000003b8eb5780000076fd6ae000000edbad5a000001daf5ab0000003b4eb55800000767d6aa000000ecbad52000001d8f5aa00000007aeb448000000f3d6880000001e3ad0e0000003bf5a1800000076eb428000000ebd6840000001d3ad0600000039f5a0800000072eb408000000e3d6800000001c3acfe00000037f59f80000006eeb3e8000000dbd67c0000001b3acf600000035f59e80000006aeb3c8000000d3d6780000001a3acee00000033f59d800000066eb3a8000000cbd674000000193ace600000031f59c800000062eb388000000c3d6700000001ebacaa0000003cf595000000078eb298000000efd6520000001dbaca20000003af594000000074eb278000000e7d64e0000001cbac9a00000038f593000000070eb258000000dfd64a0000001bbac9200000036f59200000006ceb238000000d7d6460000001abac8a00000034f591000000068eb218000000cfd64200000019bac8200000032f590000000064eb1f8000000c7d63e00000018bac7a00000030f58f00000007aeb108000000f3d6200000001e3ac3e0000003bf587800000076eb0e8000000ebd61c0000001d3ac3600000039f586800000072eb0c8000000e3d6180000001c3ac2e00000037f58580000006eeb0a8000000dbd6140000001b3ac2600000035f58480000006aeb088000000d3d6100000001a3ac1e00000033f583800000066eb068000000cbd60c000000193ac1600000031f582800000062eb048000000c3d6080000001ebabda0000003cf57b000000078eaf58000000efd5ea0000001dbabd20000003af57a000000074eaf38000000e7d5e60000001cbabca00000038f579000000070eaf18000000dfd5e20000001bbabc200000036f57800000006ceaef8000000d7d5de0000001ababba00000034f577000000068eaed8000000cfd5da00000019babb200000032f576000000064eaeb8000000c7d5d600000018babaa00000030f57500000007aeadc8000000f3d5b80000001e3ab6e0000003bf56d800000076eada8000000ebd5b40000001d3ab6600000039f56c800000072ead88000000e3d5b00000001c3ab5e00000037f56b80000006eead68000000dbd5ac0000001b3ab5600000035f56a80000006aead48000000d3d5a80000001a3ab4e00000033f569800000066ead28000000cbd5a4000000193ab4600000031f568800000062ead08000000c3d5a00000001ebab0a0000003cf561000000078eac18000000efd5820000001dbab020000003af560000000074eabf8000000e7d57e0000001cbaafa00000038f55f000000070eabd8000000dfd57a0000001bbaaf200000036f55e00000006ceabb8000000d7d5760000001abaaea00000034f55d000000068eab98000000cfd57200000019baae200000032f55c000000064eab78000000c7d56e00000018baada00000030f55b000000079eaa80000000f1d54f0000001dfaa9c0000003b7553400000075eaa60000000e9d54b0000001cfaa9400000037f55180000006deaa20000000d9d5430000001afaa84000000357550400000069eaa00000000cfd53e00000019baa7a00000032f54f000000064ea9d8000000c5d539000000187aa700000003cf547000000078ea8d8000000efd51a0000001dbaa320000003af546000000074ea8b8000000e7d5160000001c7aa28000000387544c0000006fea890000000ddd5110000001b7aa20000000367543c0000006bea870000000d5d50d00000019faa14000000337542400000065ea840000000c9d50700000018baa0a00000030f54100000007aea748000000f3d4e80000001e3a9ce0000003bf539800000076ea728000000ebd4e40000001d3a9c600000039f538800000072ea708000000e3d4e00000001c3a9be00000037f53780000006eea6e8000000dbd4dc0000001b3a9b600000035f53680000006aea6c8000000d3d4d80000001a3a9ae00000033f535800000066ea6a8000000cbd4d4000000193a9a600000031f534800000062ea688000000c3d4d00000001eba96a0000003cf52d000000078ea598000000efd4b20000001dba9620000003af52c000000074ea578000000e7d4ae0000001c7a95800000038752ac0000006fea550000000ddd4a90000001afa94c000000357529400000067ea510000000c9d49f00000018fa93c00000030f52700000007aea408000000f3d4800000001e3a8fe0000003bf51f800000076ea3e8000000ebd47c0000001d3a8f600000039f51e800000072ea3c8000000e3d4780000001c3a8ee00000037f51d80000006eea3a8000000dbd4740000001b3a8e600000035f51c80000006aea388000000d3d4700000001a3a8de00000033f51b800000066ea368000000cbd46c000000193a8d600000031f51a800000062ea348000000c3d4680000001eba89a0000003cf513000000078ea258000000efd44a0000001dba8920000003af512000000074ea238000000e7d4460000001cba88a00000038f511000000070ea218000000dfd4420000001bba88200000036f51000000006cea1f8000000d7d43e0000001aba87a00000034f50f000000068ea1d8000000cfd43a00000019ba87200000032f50e000000064ea1b8000000c7d43600000018ba86a00000030f50d00000007aea0c8000000f3d4180000001e3a82e0000003bf505800000076ea0a8000000ebd4140000001d3a82600000039f504800000072ea088000000e3d4100000001c3a81e00000037f50380000006eea068000000dbd40c0000001b3a81600000035f50280000006aea048000000d3d4080000001a3a80e00000033f501800000066ea028000000cbd404000000193a80600000031f500800000062ea008000000c3d4000000015b40ae8fb170000015d80afcfb160000015ac0ae8fb150000015940ae8fb140000015d80ae8fb130000001d000e6fb060000001d000e6fb050000001b000cc00667d820000000d2006600333ec0c0000006c00333ec080000006900333ec040000006600333ec0000000062003b8cf740000007600398cf700000007200380cf680000006d0038001c067b200000034001c067ae00000036801ac679c00000035801ac679a00000038001a067960000003c8019c67920000003100190679000000017001bc00c633c700000019c00d6221500318cf180000007100310cf0c000003c900368cf04000003c900358cf000000007700368cefc0000007700358cef80000007700368cef40000007701de0cef00000007700370ceec0000007700380cee80000007600368cee40000007600358cee00000007600368cedc0000007601de0ced80000007600370ced40000007600380ced00000006100380019c675800000030801c000da33ab00000018400e0006b19d50000000c2007019d48000000f40068003a0ce500000007a00340019c67260000003d001a000da33920000001e800d0006b19c88000000f4006819c80000000cc03bc19c60000000cc006e19c58000000cc007019c50000000c4006719c38000000c4006d19c30000000c4006b19c28000000c2006b19c20000000c2006d19c18000000c203bc19c10000000c2006e19c08000000c2007019c00000000ec006f19ba8000000ea006119b98000000c2007000340cdc40000006410a2800000780213f000000ecc427c00000036884cc0000006610988000000ca213000000018c425a00000031084b00000007a10940000000f421240000001b400e821220000001b000ca007410908000000da007310900000000e4211d0000001c84238000000390846c00000071108d0000000e021190000001bc00dc21160000001b8422a00000036084480000006910888000000d221100000001a0421a00000034084300000006810858000000cc00b010848000004b6210700000018c0160210300000018c420400000039801c84150000001dc80f243ff8000001dc80d0807921ff7000000d0807921ff6000000ee4079c1ff4000000ee407921ff3000000ee43ef81ff2000000d08061003c50ff380000068403c50ff300000062603c10ff2000000602030801e287f8c00000300018400f143fc4000001a100c2007721fd7000000d0807721fd6000000c04061003b90fe9800000600030801dc87f48000003b901db87f30000003b901a100edc3f8e000001a100edc3f8c000001dc80eb83f88000001dc80edc3f86000001dc87dd03f84000001dc87ef8000003b901d887ef0000003b901a100ec43f6e000001a100ec43f6c000001dc80eb03f68000001dc80ec43f66000001dc87dc03f64000001dc87d9c3f5e000001dc87d983f5c000001dc87d943f5a000001dc87d903f58000001dc87d8c3f56000001dc87d883f54000001dc87d843f52000001dc87d803f50000001dc87d9c3f4e000001dc87d983f4c000001dc87d943f4a000001dc87d903f48000001dc87d8c3f46000001dc87d883f44000001dc87d843f42000001dc87d803f40000001dc87c9c3f3e000001dc87c983f3c000001dc87c943f3a000001dc87c903f38000001dc87c8c3f36000001dc87c883f34000001dc87c843f32000001dc87c803f30000001dc87c9c3f2e000001dc87c983f2c000001dc87c943f2a000001dc87c903f28000001dc87c8c3f26000001dc87c883f24000001dc87c843f22000001dc87c803f20000001dc87c1c3f1e000001dc87c183f1c000001dc87c143f1a000001dc87c103f18000001dc87c0c3f16000001dc87c083f14000001dc87c043f12000001dc87c003f10000001dc87c1c3f0e000001dc87c183f0c000001dc87c143f0a000001dc87c103f08000001dc87c0c3f06000001dc87c083f04000001dc87c043f02000001dc87c003f00000001a100c4c078a1f56000000c04062603c50faa000000600031301e287d480000031301e287d4000001e610f4d80000057c00610f4d00000061400790f4c80000061400770f4c00000061000740f4b80000066200680f4b000000b04056502c380000076a03f5000000f0c07e4000001e080fc4000003ba01f800000078003d6000000f1807aa000001e580f50000003cd01e980000078a03d2000000ee007a2000001d900f40000003c301e1000000602030801e280ec000000301018400ee40720000001dc8008006f4000001dc80d140000030c0035007c00000007300bf8000000dc02bc00a480000060e006900980000000e60073006f80000077800b5++[J 120743 2294 (S "ψ" 2295),J 120744 2296 (S "ω" 2297),J 120763 2298 (S "σ" 2299)]
def oD(n:Nat):be:=⟨.type "dict",ac,.dict (bt (nu.take n)) n,bt []⟩
def oS(j n:Nat):be:=⟨.type "dict",ac,.dict (bt ((nu.drop (17*j)).take 17)) n,bt []⟩
abbrev Lf(o:be):BT:=N o E E
abbrev Le(o:be)(l:BT):BT:=N o l E
def tA(P:aN):=N (bY P) (N (de P) (N (boot_o_3 P) (Lf (ip P)) (Lf ah)) (N (fg P) (Lf (gj P)) (Lf gp))) (N (cp P) (N (eG P) (Lf (gM P)) (Lf (gJ 0))) (N (cq P) (Lf (cr P)) (Lf fj)))
def Py(P:aN):=N (bY P) (N (de P) (N (o3 P 12 12 (S "cpy313._pylong" 187)) (N (ip P) (Lf ah) (Lf iI)) (N ah (Lf jL) (Lf ji))) (N (fg P) (N (gj P) (Lf jK) (Lf ah)) (Le gp (Lf jg)))) (N (cp P) (N (eG P) (N (gM P) (Lf jJ) (Lf jh)) (N (gJ 6) (Lf jM) (Lf iJ))) (N (cq P) (N (cr P) (Lf ah) (Lf lm)) (Le fj (Lf ah))))
def Pz(P:aN):=N (bY P) (N (de P) (N (o3 P 14 14 (S "cpy313._pylong" 187)) (N (ip P) (Le ah (Lf kq)) (Le iI (Lf jj))) (N ah (Le jL (Lf jO)) (Lf ji))) (N (fg P) (N (gj P) (Le jK (Lf kt)) (Le ah (Lf jQ))) (N gp (Le jg (Lf ku)) (Lf ah)))) (N (cp P) (N (eG P) (N (gM P) (Le jJ (Lf kr)) (Le jh (Lf jP))) (N (gJ 12) (Le jM (Lf ah)) (Lf iJ))) (N (cq P) (N (cr P) (Le ah (Lf cu)) (Le lm (Lf lq))) (N fj (Le ah (Lf kw)) (Lf jN))))
def PA(P:aN):=N (bY P) (N (de P) (N (o3 P 17 17 (S "cpy313.doctest" 269)) (N (ip P) (N ah (Lf kq) (Lf lu)) (N iI (Lf jj) (Lf jR))) (N ah (N jL (Lf jO) (Lf lx)) (Le ji (Lf ah)))) (N (fg P) (N (gj P) (N jK (Lf kt) (Lf kA)) (Le ah (Lf jQ))) (N gp (N jg (Lf ku) (Lf ah)) (Le ah (Lf kz))))) (N (cp P) (N (eG P) (N (gM P) (N jJ (Lf kr) (Lf lw)) (N jh (Lf jP) (Lf jS))) (N (gJ 18) (N jM (Lf ah) (Lf lz)) (Le iJ (Lf ky)))) (N (cq P) (N (cr P) (N ah (Lf cu) (Lf ah)) (Le lm (Lf lq))) (N fj (N ah (Lf kw) (Lf lB)) (Le jN (Lf ah)))))
def PB(P:aN):=N (bY P) (N (de P) (N (o3 P 18 18 (S "cpy313.stringprep" 285)) (N (ip P) (N ah (Le kq (Lf lF)) (Lf lu)) (N iI (Lf jj) (Lf jR))) (N ah (N jL (Lf jO) (Lf lx)) (N ji (Lf ah) (Lf lC)))) (N (fg P) (N (gj P) (N jK (Lf kt) (Lf kA)) (N ah (Lf jQ) (Lf ah))) (N gp (N jg (Lf ku) (Lf ah)) (N ah (Lf kz) (Lf lD))))) (N (cp P) (N (eG P) (N (gM P) (N jJ (Lf kr) (Lf lw)) (N jh (Lf jP) (Lf jS))) (N (gJ 21) (N jM (Lf ah) (Lf lz)) (N iJ (Lf ky) (Lf ah)))) (N (cq P) (N (cr P) (N ah (Lf cu) (Lf ah)) (N lm (Lf lq) (Lf oM))) (N fj (N ah (Lf kw) (Lf lB)) (N jN (Lf ah) (Lf lE)))))
def oP:=N lm (Le lq (Lf pC)) (Lf oM)
def PC(P:aN):=N (bY P) (N (de P) (N (o3 P 19 19 (S "cpy313.stringprep" 285)) (N (ip P) (N ah (Le kq (Lf lF)) (Lf lu)) (N iI (Le jj (Lf (jk P))) (Lf jR))) (N ah (N jL (Le jO (Lf ni)) (Lf lx)) (N ji (Lf ah) (Lf lC)))) (N (fg P) (N (gj P) (N jK (Le kt (Lf nh)) (Lf kA)) (N ah (Le jQ (Lf ah)) (Lf ah))) (N gp (N jg (Le ku (Lf nj)) (Lf ah)) (N ah (Lf kz) (Lf lD))))) (N (cp P) (N (eG P) (N (gM P) (N jJ (Le kr (Lf ng)) (Lf lw)) (N jh (Le jP (Lf mn)) (Lf jS))) (N (gJ 21) (N jM (Le ah (Lf ah)) (Lf lz)) (N iJ (Lf ky) (Lf ah)))) (N (cq P) (N (cr P) (N ah (Le cu (Lf cF)) (Lf ah)) oP) (N fj (N ah (Le kw (Lf nk)) (Lf lB)) (N jN (Lf ah) (Lf lE)))))
def Cc(P:aN):=N (ip P) (N ah (Le kq (Lf lF)) (Le lu (Lf oN))) (N iI (Le jj (Lf (jk P))) (Lf jR))
def GS(P:aN):=N (gj P) (N jK (Le kt (Lf nh)) (Le kA (Lf nr))) (N ah (Le jQ (Lf ah)) (Lf ah))
def GT(P:aN):=N (fg P) (GS P) (N gp (N jg (Le ku (Lf nj)) (Lf ah)) (N ah (Le kz (Lf nq)) (Lf lD)))
def PD(P:aN):=N (de P) (N (o3 P 20 20 (S "cpy313.stringprep" 285)) (Cc P) (N ah (N jL (Le jO (Lf ni)) (Lf lx)) (N ji (Le ah (Lf ah)) (Lf lC)))) (GT P)
def yB(P:aN):=N (gM P) (N jJ (Le kr (Lf ng)) (Le lw (Lf oO))) (N jh (Le jP (Lf mn)) (Lf jS))
def GU(P:aN):=N (eG P) (yB P) (N (gJ 24) (N jM (Le ah (Lf ah)) (Lf lz)) (N iJ (Le ky (Lf nl)) (Lf ah)))
def yC:=N fj (N ah (Le kw (Lf nk)) (Lf lB)) (N jN (Le ah (Lf ah)) (Lf lE))
def yD(P:aN):=N (bY P) (PD P) (N (cp P) (GU P) (N (cq P) (N (cr P) (N ah (Le cu (Lf cF)) (Lf ah)) oP) yC))
def GV:=N ah (N kq (Lf lF) (Lf (oS 13 17))) (N lu (Lf oN) (Lf (oS 29 17)))
def GW(P:aN):=N iI (N jj (Lf (jk P)) (Lf (oS 21 17))) (N jR (Lf (oS 5 17)) (Lf (oS 37 17)))
def yE:=N jL (N jO (Lf ni) (Lf (oS 17 17))) (N lx (Lf (oS 1 17)) (Lf (oS 33 17)))
def qR:=N ji (N ah (Lf ah) (Lf (oS 25 17))) (Le lC (Lf (oS 9 17)))
def Cd:=N jK (N kt (Lf nh) (Lf (oS 15 17))) (N kA (Lf nr) (Lf (oS 31 17)))
def th:=N ah (N jQ (Lf ah) (Lf (oS 23 17))) (Le ah (Lf (oS 7 17)))
def PE:=N jg (N ku (Lf nj) (Lf (oS 19 17))) (N ah (Lf (oS 3 17)) (Lf (oS 35 17)))
def yF:=N ah (N kz (Lf nq) (Lf (oS 27 17))) (Le lD (Lf (oS 11 17)))
def GX(P:aN):=N (fg P) (N (gj P) Cd th) (N gp PE yF)
def Ce:=N jJ (N kr (Lf ng) (Lf (oS 14 17))) (N lw (Lf oO) (Lf (oS 30 17)))
def GY:=N jh (N jP (Lf mn) (Lf (oS 22 17))) (N jS (Lf (oS 6 17)) (Lf (oS 38 4)))
def GZ:=N jM (N ah (Lf ah) (Lf (oS 18 17))) (N lz (Lf (oS 2 17)) (Lf (oS 34 17)))
def Cf:=N iJ (N ky (Lf nl) (Lf (oS 26 17))) (Le ah (Lf (oS 10 17)))
def PF:=N ah (N cu (Lf cF) (Lf (oS 16 17))) (N ah (Lf (oD 650)) (Lf (oS 32 17)))
def jT:=N lm (N lq (Lf pC) (Lf (oS 24 17))) (Le oM (Lf (oS 8 17)))
def Cg:=N ah (N kw (Lf nk) (Lf (oS 20 17))) (N lB (Lf (oS 4 17)) (Lf (oS 36 17)))
def nw:=N jN (N ah (Lf ah) (Lf (oS 28 17))) (Le lE (Lf (oS 12 17)))
def PG(P:aN):=N (cp P) (N (eG P) (N (gM P) Ce GY) (N (gJ 24) GZ Cf)) (N (cq P) (N (cr P) PF jT) (N fj Cg nw))
def G0(P:aN):=N (bY P) (N (de P) (N (o3 P 21 21 (S "cpy313.stringprep" 285)) (N (ip P) GV (GW P)) (N ah yE qR)) (GX P)) (PG P)
def vO(P:aN):=N (ip P) (N ah (N kq (Le lF (Lf te)) (Lf (oS 13 17))) (N lu (Lf oN) (Lf (oS 29 17)))) (GW P)
def vP:=N ah yE (N ji (N ah (Lf ah) (Lf (oS 25 17))) (N lC (Lf (oS 9 17)) (Lf vG)))
def PH:=N ah (N jQ (Lf ah) (Lf (oS 23 17))) (N ah (Lf (oS 7 17)) (Lf ah))
def PI:=N gp PE (N ah (N kz (Lf nq) (Lf (oS 27 17))) (N lD (Lf (oS 11 17)) (Lf vH)))
def yG(P:aN):=N (fg P) (N (gj P) Cd PH) PI
def PJ:=N (gJ 27) GZ (N iJ (N ky (Lf nl) (Lf (oS 26 17))) (N ah (Lf (oS 10 17)) (Lf ah)))
def PK:=N lm (N lq (Lf pC) (Lf (oS 24 17))) (N oM (Lf (oS 8 17)) (Lf vF))
def PL:=N fj Cg (N jN (N ah (Lf ah) (Lf (oS 28 17))) (N lE (Lf (oS 12 17)) (Lf vI)))
def yH(P:aN):=N (cp P) (N (eG P) (N (gM P) Ce GY) PJ) (N (cq P) (N (cr P) PF PK) PL)
def PM(P:aN):=N (bY P) (N (de P) (N (o3 P 28 28 (S "cpy313.token" 2313)) (vO P) vP) (yG P)) (yH P)
def PN(P:aN):=N (bY P) (N (de P) (N (o3 P 39 39 (S "cpy313.token" 2313)) (vO P) vP) (yG P)) (yH P)
def PO(P:aN):=N (bY P) (N (de P) (N (o3 P 50 50 (S "cpy313.token" 2313)) (vO P) vP) (yG P)) (yH P)
def PP(P:aN):=N (bY P) (N (de P) (N (o3 P 61 61 (S "cpy313.token" 2313)) (vO P) vP) (yG P)) (yH P)
def PQ(P:aN):=N (bY P) (N (de P) (N (o3 P 72 72 (S "cpy313.token" 2313)) (vO P) vP) (yG P)) (yH P)
def PR(P:aN):=N (bY P) (N (de P) (N (o3 P 73 73 (S "cpy313.token" 2313)) (vO P) vP) (N (fg P) (N (gj P) (N jK (N kt (Le nh (Lf (vJ P))) (Lf (oS 15 17))) (N kA (Lf nr) (Lf (oS 31 17)))) PH) PI)) (N (cp P) (N (eG P) (N (gM P) (N jJ (N kr (Le ng (Lf (pD P))) (Lf (oS 14 17))) (N lw (Lf oO) (Lf (oS 30 17)))) GY) PJ) (N (cq P) (N (cr P) (N ah (N cu (Le cF (Lf (vK P))) (Lf (oS 16 17))) (N ah (Lf (oD 650)) (Lf (oS 32 17)))) PK) PL))
def PS(P:aN):=N (bY P) (N (de P) (N (o3 P 76 76 (S "law_uc0059_01" 2533)) (N (ip P) (N ah (N kq (Le lF (Lf te)) (Lf (oS 13 17))) (N lu (Le oN (Lf yt)) (Lf (oS 29 17)))) (N iI (N jj (Le (jk P) (Lf yn)) (Lf (oS 21 17))) (N jR (Le (oS 5 17) (Lf vN)) (Lf (oS 37 17))))) (N ah (N jL (N jO (Le ni (Lf ah)) (Lf (oS 17 17))) (N lx (Le (oS 1 17) (Lf yv)) (Lf (oS 33 17)))) (N ji (N ah (Le ah (Lf yp)) (Lf (oS 25 17))) (N lC (Lf (oS 9 17)) (Lf vG))))) (N (fg P) (N (gj P) (N jK (N kt (Le nh (Lf (vJ P))) (Lf (oS 15 17))) (N kA (Le nr (Lf ah)) (Lf (oS 31 17)))) (N ah (N jQ (Le ah (Lf vL)) (Lf (oS 23 17))) (N ah (Lf (oS 7 17)) (Lf ah)))) (N gp (N jg (N ku (Le nj (Lf ym)) (Lf (oS 19 17))) (N ah (Le (oS 3 17) (Lf yw)) (Lf (oS 35 17)))) (N ah (N kz (Le nq (Lf ah)) (Lf (oS 27 17))) (N lD (Lf (oS 11 17)) (Lf vH)))))) (N (cp P) (N (eG P) (N (gM P) (N jJ (N kr (Le ng (Lf (pD P))) (Lf (oS 14 17))) (N lw (Le oO (Lf vM)) (Lf (oS 30 17)))) (N jh (N jP (Le mn (Lf yo)) (Lf (oS 22 17))) (N jS (Lf (oS 6 17)) (Lf (oS 38 4))))) (N (gJ 36) (N jM (N ah (Le ah (Lf yl)) (Lf (oS 18 17))) (N lz (Le (oS 2 17) (Lf ah)) (Lf (oS 34 17)))) (N iJ (N ky (Le nl (Lf yq)) (Lf (oS 26 17))) (N ah (Lf (oS 10 17)) (Lf ah))))) (N (cq P) (N (cr P) (N ah (N cu (Le cF (Lf (vK P))) (Lf (oS 16 17))) (N ah (Le (oD 650) (Lf yu)) (Lf (oS 32 17)))) (N lm (N lq (Le pC (Lf ah)) (Lf (oS 24 17))) (N oM (Lf (oS 8 17)) (Lf vF)))) (N fj (N ah (N kw (Le nk (Lf ah)) (Lf (oS 20 17))) (N lB (Le (oS 4 17) (Lf yx)) (Lf (oS 36 17)))) (N jN (N ah (Le ah (Lf yr)) (Lf (oS 28 17))) (N lE (Lf (oS 12 17)) (Lf vI))))))
def PT(P:aN):=N (bY P) (N (de P) (N (o3 P 79 79 (S "law_uc0059_01" 2533)) (N (ip P) (N ah (N kq (Le lF (Lf te)) (Le (oS 13 17) (Lf ah))) (N lu (Le oN (Lf yt)) (Lf (oS 29 17)))) (N iI (N jj (Le (jk P) (Lf yn)) (Le (oS 21 17) (Lf B5))) (N jR (Le (oS 5 17) (Lf vN)) (Lf (oS 37 17))))) (N ah (N jL (N jO (Le ni (Lf ah)) (Le (oS 17 17) (Lf B3))) (N lx (Le (oS 1 17) (Lf yv)) (Lf (oS 33 17)))) (N ji (N ah (Le ah (Lf yp)) (Le (oS 25 17) (Lf B8))) (N lC (Le (oS 9 17) (Lf ah)) (Lf vG))))) (N (fg P) (N (gj P) (N jK (N kt (Le nh (Lf (vJ P))) (Le (oS 15 17) (Lf B2))) (N kA (Le nr (Lf ah)) (Lf (oS 31 17)))) (N ah (N jQ (Le ah (Lf vL)) (Le (oS 23 17) (Lf ah))) (N ah (Le (oS 7 17) (Lf BX)) (Lf ah)))) (N gp (N jg (N ku (Le nj (Lf ym)) (Le (oS 19 17) (Lf yz))) (N ah (Le (oS 3 17) (Lf yw)) (Lf (oS 35 17)))) (N ah (N kz (Le nq (Lf ah)) (Lf (oS 27 17))) (N lD (Le (oS 11 17) (Lf B0)) (Lf vH)))))) (N (cp P) (N (eG P) (N (gM P) (N jJ (N kr (Le ng (Lf (pD P))) (Le (oS 14 17) (Lf B1))) (N lw (Le oO (Lf vM)) (Lf (oS 30 17)))) (N jh (N jP (Le mn (Lf yo)) (Le (oS 22 17) (Lf B6))) (N jS (Le (oS 6 17) (Lf ah)) (Lf (oS 38 4))))) (N (gJ 45) (N jM (N ah (Le ah (Lf yl)) (Le (oS 18 17) (Lf B4))) (N lz (Le (oS 2 17) (Lf ah)) (Lf (oS 34 17)))) (N iJ (N ky (Le nl (Lf yq)) (Le (oS 26 17) (Lf yA))) (N ah (Le (oS 10 17) (Lf BZ)) (Lf ah))))) (N (cq P) (N (cr P) (N ah (N cu (Le cF (Lf (vK P))) (Le (oS 16 17) (Lf ah))) (N ah (Le (oD 650) (Lf yu)) (Lf (oS 32 17)))) (N lm (N lq (Le pC (Lf ah)) (Le (oS 24 17) (Lf B7))) (N oM (Le (oS 8 17) (Lf BY)) (Lf vF)))) (N fj (N ah (N kw (Le nk (Lf ah)) (Le (oS 20 17) (Lf ah))) (N lB (Le (oS 4 17) (Lf yx)) (Lf (oS 36 17)))) (N jN (N ah (Le ah (Lf yr)) (Lf (oS 28 17))) (N lE (Le (oS 12 17) (Lf yy)) (Lf vI))))))
def PU(P:aN):=N (bY P) (N (de P) (N (o3 P 82 82 (S "law_uc0059_01" 2533)) (N (ip P) (N ah (N kq (Le lF (Lf te)) (Le (oS 13 17) (Lf ah))) (N lu (Le oN (Lf yt)) (Le (oS 29 17) (Lf GH)))) (N iI (N jj (Le (jk P) (Lf yn)) (Le (oS 21 17) (Lf B5))) (N jR (Le (oS 5 17) (Lf vN)) (Le (oS 37 17) (Lf GM))))) (N ah (N jL (N jO (Le ni (Lf ah)) (Le (oS 17 17) (Lf B3))) (N lx (Le (oS 1 17) (Lf yv)) (Le (oS 33 17) (Lf GJ)))) (N ji (N ah (Le ah (Lf yp)) (Le (oS 25 17) (Lf B8))) (N lC (Le (oS 9 17) (Lf ah)) (Le vG (Lf GO)))))) (N (fg P) (N (gj P) (N jK (N kt (Le nh (Lf (vJ P))) (Le (oS 15 17) (Lf B2))) (N kA (Le nr (Lf ah)) (Le (oS 31 17) (Lf B9)))) (N ah (N jQ (Le ah (Lf vL)) (Le (oS 23 17) (Lf ah))) (N ah (Le (oS 7 17) (Lf BX)) (Le ah (Lf ah))))) (N gp (N jg (N ku (Le nj (Lf ym)) (Le (oS 19 17) (Lf yz))) (N ah (Le (oS 3 17) (Lf yw)) (Le (oS 35 17) (Lf ah)))) (N ah (N kz (Le nq (Lf ah)) (Le (oS 27 17) (Lf ah))) (N lD (Le (oS 11 17) (Lf B0)) (Le vH (Lf Cb))))))) (N (cp P) (N (eG P) (N (gM P) (N jJ (N kr (Le ng (Lf (pD P))) (Le (oS 14 17) (Lf B1))) (N lw (Le oO (Lf vM)) (Le (oS 30 17) (Lf GI)))) (N jh (N jP (Le mn (Lf yo)) (Le (oS 22 17) (Lf B6))) (N jS (Le (oS 6 17) (Lf ah)) (Le (oS 38 4) (Lf Ca))))) (N (gJ 54) (N jM (N ah (Le ah (Lf yl)) (Le (oS 18 17) (Lf B4))) (N lz (Le (oS 2 17) (Lf ah)) (Le (oS 34 17) (Lf GK)))) (N iJ (N ky (Le nl (Lf yq)) (Le (oS 26 17) (Lf yA))) (N ah (Le (oS 10 17) (Lf BZ)) (Le ah (Lf GP)))))) (N (cq P) (N (cr P) (N ah (N cu (Le cF (Lf (vK P))) (Le (oS 16 17) (Lf ah))) (N ah (Le (oD 650) (Lf yu)) (Le (oS 32 17) (Lf ah)))) (N lm (N lq (Le pC (Lf ah)) (Le (oS 24 17) (Lf B7))) (N oM (Le (oS 8 17) (Lf BY)) (Le vF (Lf GN))))) (N fj (N ah (N kw (Le nk (Lf ah)) (Le (oS 20 17) (Lf ah))) (N lB (Le (oS 4 17) (Lf yx)) (Le (oS 36 17) (Lf GL)))) (N jN (N ah (Le ah (Lf yr)) (Le (oS 28 17) (Lf GG))) (N lE (Le (oS 12 17) (Lf yy)) (Lf vI))))))
def Ch(P:aN):=N (bY P) (N (de P) (N (o3 P 85 85 (S "law_uc0059_01" 2533)) (N (ip P) (N ah (N kq (N lF (Lf te) (Lf Pl)) (Le (oS 13 17) (Lf ah))) (N lu (Le oN (Lf yt)) (Le (oS 29 17) (Lf GH)))) (N iI (N jj (N (jk P) (Lf yn) (Lf Ps)) (Le (oS 21 17) (Lf B5))) (N jR (Le (oS 5 17) (Lf vN)) (Le (oS 37 17) (Lf GM))))) (N ah (N jL (N jO (N ni (Lf ah) (Lf ah)) (Le (oS 17 17) (Lf B3))) (N lx (Le (oS 1 17) (Lf yv)) (Le (oS 33 17) (Lf GJ)))) (N ji (N ah (N ah (Lf yp) (Lf Pu)) (Le (oS 25 17) (Lf B8))) (N lC (Le (oS 9 17) (Lf ah)) (Le vG (Lf GO)))))) (N (fg P) (N (gj P) (N jK (N kt (N nh (Lf (vJ P)) (Lf Po)) (Le (oS 15 17) (Lf B2))) (N kA (Le nr (Lf ah)) (Le (oS 31 17) (Lf B9)))) (N ah (N jQ (N ah (Lf vL) (Lf GR)) (Le (oS 23 17) (Lf ah))) (N ah (Le (oS 7 17) (Lf BX)) (Le ah (Lf ah))))) (N gp (N jg (N ku (N nj (Lf ym) (Lf Pr)) (Le (oS 19 17) (Lf yz))) (N ah (Le (oS 3 17) (Lf yw)) (Le (oS 35 17) (Lf ah)))) (N ah (N kz (N nq (Lf ah) (Lf Pw)) (Le (oS 27 17) (Lf ah))) (N lD (Le (oS 11 17) (Lf B0)) (Le vH (Lf Cb))))))) (N (cp P) (N (eG P) (N (gM P) (N jJ (N kr (N ng (Lf (pD P)) (Lf Pn)) (Le (oS 14 17) (Lf B1))) (N lw (Le oO (Lf vM)) (Le (oS 30 17) (Lf GI)))) (N jh (N jP (N mn (Lf yo) (Lf Pt)) (Le (oS 22 17) (Lf B6))) (N jS (Le (oS 6 17) (Lf ah)) (Le (oS 38 4) (Lf Ca))))) (N (gJ 63) (N jM (N ah (N ah (Lf yl) (Lf Pq)) (Le (oS 18 17) (Lf B4))) (N lz (Le (oS 2 17) (Lf ah)) (Le (oS 34 17) (Lf GK)))) (N iJ (N ky (N nl (Lf yq) (Lf Pv)) (Le (oS 26 17) (Lf yA))) (N ah (Le (oS 10 17) (Lf BZ)) (Le ah (Lf GP)))))) (N (cq P) (N (cr P) (N ah (N cu (N cF (Lf (vK P)) (Lf GQ)) (Le (oS 16 17) (Lf ah))) (N ah (Le (oD 650) (Lf yu)) (Le (oS 32 17) (Lf ah)))) (N lm (N lq (N pC (Lf ah) (Lf ah)) (Le (oS 24 17) (Lf B7))) (N oM (Le (oS 8 17) (Lf BY)) (Le vF (Lf GN))))) (N fj (N ah (N kw (N nk (Lf ah) (Lf ah)) (Le (oS 20 17) (Lf ah))) (N lB (Le (oS 4 17) (Lf yx)) (Le (oS 36 17) (Lf GL)))) (N jN (N ah (N ah (Lf yr) (Lf Px)) (Le (oS 28 17) (Lf GG))) (N lE (Le (oS 12 17) (Lf yy)) (Le vI (Lf ah)))))))
def PV(P:aN):=N (bY P) (PD P) (N (cp P) (GU P) (N (cq P) (N (cr P) (N ah (Le cu (Lf cF)) (Le ah (Lf (oD 17)))) oP) yC))
def yI:=N ah (N jL (Le jO (Lf ni)) (Le lx (Lf (oS 1 17)))) (N ji (Le ah (Lf ah)) (Lf lC))
def PW(P:aN):=N (bY P) (N (de P) (N (o3 P 20 20 (S "cpy313.stringprep" 285)) (Cc P) yI) (GT P)) (N (cp P) (GU P) (N (cq P) (N (cr P) (N ah (Le cu (Lf cF)) (Le ah (Lf (oD 34)))) oP) yC))
def qS:=N (gJ 24) (N jM (Le ah (Lf ah)) (Le lz (Lf (oS 2 17)))) (N iJ (Le ky (Lf nl)) (Lf ah))
def PX(P:aN):=N (bY P) (N (de P) (N (o3 P 20 20 (S "cpy313.stringprep" 285)) (Cc P) yI) (GT P)) (N (cp P) (N (eG P) (yB P) qS) (N (cq P) (N (cr P) (N ah (Le cu (Lf cF)) (Le ah (Lf (oD 51)))) oP) yC))
def Ci:=N gp (N jg (Le ku (Lf nj)) (Le ah (Lf (oS 3 17)))) (N ah (Le kz (Lf nq)) (Lf lD))
def PY(P:aN):=N (de P) (N (o3 P 20 20 (S "cpy313.stringprep" 285)) (Cc P) yI) (N (fg P) (GS P) Ci)
def PZ(P:aN):=N (bY P) (PY P) (N (cp P) (N (eG P) (yB P) qS) (N (cq P) (N (cr P) (N ah (Le cu (Lf cF)) (Le ah (Lf (oD 68)))) oP) yC))
def qU:=N fj (N ah (Le kw (Lf nk)) (Le lB (Lf (oS 4 17)))) (N jN (Le ah (Lf ah)) (Lf lE))
def P0(P:aN):=N (bY P) (PY P) (N (cp P) (N (eG P) (yB P) qS) (N (cq P) (N (cr P) (N ah (Le cu (Lf cF)) (Le ah (Lf (oD 85)))) oP) qU))
def Cj(P:aN):=N (ip P) (N ah (Le kq (Lf lF)) (Le lu (Lf oN))) (N iI (Le jj (Lf (jk P))) (Le jR (Lf (oS 5 17))))
def P5(P:aN):=N (de P) (N (o3 P 20 20 (S "cpy313.stringprep" 285)) (Cj P) yI) (N (fg P) (GS P) Ci)
def P6(P:aN):=N (bY P) (P5 P) (N (cp P) (N (eG P) (yB P) qS) (N (cq P) (N (cr P) (N ah (Le cu (Lf cF)) (Le ah (Lf (oD 102)))) oP) qU))
def qW(P:aN):=N (gM P) (N jJ (Le kr (Lf ng)) (Le lw (Lf oO))) (N jh (Le jP (Lf mn)) (Le jS (Lf (oS 6 17))))
def P7(P:aN):=N (bY P) (P5 P) (N (cp P) (N (eG P) (qW P) qS) (N (cq P) (N (cr P) (N ah (Le cu (Lf cF)) (Le ah (Lf (oD 119)))) oP) qU))
def yJ(P:aN):=N (gj P) (N jK (Le kt (Lf nh)) (Le kA (Lf nr))) (N ah (Le jQ (Lf ah)) (Le ah (Lf (oS 7 17))))
def P8(P:aN):=N (de P) (N (o3 P 20 20 (S "cpy313.stringprep" 285)) (Cj P) yI) (N (fg P) (yJ P) Ci)
def P9(P:aN):=N (bY P) (P8 P) (N (cp P) (N (eG P) (qW P) qS) (N (cq P) (N (cr P) (N ah (Le cu (Lf cF)) (Le ah (Lf (oD 136)))) oP) qU))
def jl:=N lm (Le lq (Lf pC)) (Le oM (Lf (oS 8 17)))
def Qa(P:aN):=N (bY P) (P8 P) (N (cp P) (N (eG P) (qW P) qS) (N (cq P) (N (cr P) (N ah (Le cu (Lf cF)) (Le ah (Lf (oD 153)))) jl) qU))
def G1:=N ah (N jL (Le jO (Lf ni)) (Le lx (Lf (oS 1 17)))) (N ji (Le ah (Lf ah)) (Le lC (Lf (oS 9 17))))
def Qc(P:aN):=N (de P) (N (o3 P 20 20 (S "cpy313.stringprep" 285)) (Cj P) G1) (N (fg P) (yJ P) Ci)
def Qd(P:aN):=N (bY P) (Qc P) (N (cp P) (N (eG P) (qW P) qS) (N (cq P) (N (cr P) (N ah (Le cu (Lf cF)) (Le ah (Lf (oD 170)))) jl) qU))
def yK:=N (gJ 24) (N jM (Le ah (Lf ah)) (Le lz (Lf (oS 2 17)))) (N iJ (Le ky (Lf nl)) (Le ah (Lf (oS 10 17))))
def Qe(P:aN):=N (bY P) (Qc P) (N (cp P) (N (eG P) (qW P) yK) (N (cq P) (N (cr P) (N ah (Le cu (Lf cF)) (Le ah (Lf (oD 187)))) jl) qU))
def Ck:=N gp (N jg (Le ku (Lf nj)) (Le ah (Lf (oS 3 17)))) (N ah (Le kz (Lf nq)) (Le lD (Lf (oS 11 17))))
def Qf(P:aN):=N (de P) (N (o3 P 20 20 (S "cpy313.stringprep" 285)) (Cj P) G1) (N (fg P) (yJ P) Ck)
def Qg(P:aN):=N (bY P) (Qf P) (N (cp P) (N (eG P) (qW P) yK) (N (cq P) (N (cr P) (N ah (Le cu (Lf cF)) (Le ah (Lf (oD 204)))) jl) qU))
def qY:=N fj (N ah (Le kw (Lf nk)) (Le lB (Lf (oS 4 17)))) (N jN (Le ah (Lf ah)) (Le lE (Lf (oS 12 17))))
def Qh(P:aN):=N (bY P) (Qf P) (N (cp P) (N (eG P) (qW P) yK) (N (cq P) (N (cr P) (N ah (Le cu (Lf cF)) (Le ah (Lf (oD 221)))) jl) qY))
def G2:=N ah (N kq (Lf lF) (Lf (oS 13 17))) (Le lu (Lf oN))
def Cm(P:aN):=N (o3 P 20 20 (S "cpy313.stringprep" 285)) (N (ip P) G2 (N iI (Le jj (Lf (jk P))) (Le jR (Lf (oS 5 17))))) G1
def Qi(P:aN):=N (bY P) (N (de P) (Cm P) (N (fg P) (yJ P) Ck)) (N (cp P) (N (eG P) (qW P) yK) (N (cq P) (N (cr P) (N ah (Le cu (Lf cF)) (Le ah (Lf (oD 238)))) jl) qY))
def Co:=N jJ (N kr (Lf ng) (Lf (oS 14 17))) (Le lw (Lf oO))
def Cp(P:aN):=N (eG P) (N (gM P) Co (N jh (Le jP (Lf mn)) (Le jS (Lf (oS 6 17))))) yK
def Qj(P:aN):=N (bY P) (N (de P) (Cm P) (N (fg P) (yJ P) Ck)) (N (cp P) (Cp P) (N (cq P) (N (cr P) (N ah (Le cu (Lf cF)) (Le ah (Lf (oD 255)))) jl) qY))
def vQ:=N jK (N kt (Lf nh) (Lf (oS 15 17))) (Le kA (Lf nr))
def Cq(P:aN):=N (fg P) (N (gj P) vQ (N ah (Le jQ (Lf ah)) (Le ah (Lf (oS 7 17))))) Ck
def Qk(P:aN):=N (bY P) (N (de P) (Cm P) (Cq P)) (N (cp P) (Cp P) (N (cq P) (N (cr P) (N ah (Le cu (Lf cF)) (Le ah (Lf (oD 272)))) jl) qY))
def Ql(P:aN):=N (bY P) (N (de P) (Cm P) (Cq P)) (N (cp P) (Cp P) (N (cq P) (N (cr P) (N ah (N cu (Lf cF) (Lf (oS 16 17))) (Le ah (Lf (oD 289)))) jl) qY))
def yL:=N jL (N jO (Lf ni) (Lf (oS 17 17))) (Le lx (Lf (oS 1 17)))
def Cr:=N ah yL (N ji (Le ah (Lf ah)) (Le lC (Lf (oS 9 17))))
def Cs(P:aN):=N (o3 P 20 20 (S "cpy313.stringprep" 285)) (N (ip P) G2 (N iI (Le jj (Lf (jk P))) (Le jR (Lf (oS 5 17))))) Cr
def Qm(P:aN):=N (bY P) (N (de P) (Cs P) (Cq P)) (N (cp P) (Cp P) (N (cq P) (N (cr P) (N ah (N cu (Lf cF) (Lf (oS 16 17))) (Le ah (Lf (oD 306)))) jl) qY))
def G3:=N jM (N ah (Lf ah) (Lf (oS 18 17))) (Le lz (Lf (oS 2 17)))
def Qn:=N (gJ 24) G3 (N iJ (Le ky (Lf nl)) (Le ah (Lf (oS 10 17))))
def Ct(P:aN):=N (eG P) (N (gM P) Co (N jh (Le jP (Lf mn)) (Le jS (Lf (oS 6 17))))) Qn
def Qo(P:aN):=N (bY P) (N (de P) (Cs P) (Cq P)) (N (cp P) (Ct P) (N (cq P) (N (cr P) (N ah (N cu (Lf cF) (Lf (oS 16 17))) (Le ah (Lf (oD 323)))) jl) qY))
def yM:=N jg (N ku (Lf nj) (Lf (oS 19 17))) (Le ah (Lf (oS 3 17)))
def G4:=N gp yM (N ah (Le kz (Lf nq)) (Le lD (Lf (oS 11 17))))
def Cu(P:aN):=N (fg P) (N (gj P) vQ (N ah (Le jQ (Lf ah)) (Le ah (Lf (oS 7 17))))) G4
def Qp(P:aN):=N (bY P) (N (de P) (Cs P) (Cu P)) (N (cp P) (Ct P) (N (cq P) (N (cr P) (N ah (N cu (Lf cF) (Lf (oS 16 17))) (Le ah (Lf (oD 340)))) jl) qY))
def pE:=N ah (N kw (Lf nk) (Lf (oS 20 17))) (Le lB (Lf (oS 4 17)))
def qZ:=N fj pE (N jN (Le ah (Lf ah)) (Le lE (Lf (oS 12 17))))
def Qq(P:aN):=N (bY P) (N (de P) (Cs P) (Cu P)) (N (cp P) (Ct P) (N (cq P) (N (cr P) (N ah (N cu (Lf cF) (Lf (oS 16 17))) (Le ah (Lf (oD 357)))) jl) qZ))
def yN(P:aN):=N (ip P) G2 (N iI (N jj (Lf (jk P)) (Lf (oS 21 17))) (Le jR (Lf (oS 5 17))))
def Qr(P:aN):=N (bY P) (N (de P) (N (o3 P 20 20 (S "cpy313.stringprep" 285)) (yN P) Cr) (Cu P)) (N (cp P) (Ct P) (N (cq P) (N (cr P) (N ah (N cu (Lf cF) (Lf (oS 16 17))) (Le ah (Lf (oD 374)))) jl) qZ))
def Cv:=N jh (N jP (Lf mn) (Lf (oS 22 17))) (Le jS (Lf (oS 6 17)))
def Cw(P:aN):=N (eG P) (N (gM P) Co Cv) Qn
def Qs(P:aN):=N (bY P) (N (de P) (N (o3 P 20 20 (S "cpy313.stringprep" 285)) (yN P) Cr) (Cu P)) (N (cp P) (Cw P) (N (cq P) (N (cr P) (N ah (N cu (Lf cF) (Lf (oS 16 17))) (Le ah (Lf (oD 391)))) jl) qZ))
def Qt(P:aN):=N (de P) (N (o3 P 20 20 (S "cpy313.stringprep" 285)) (yN P) Cr) (N (fg P) (N (gj P) vQ th) G4)
def Qu(P:aN):=N (bY P) (Qt P) (N (cp P) (Cw P) (N (cq P) (N (cr P) (N ah (N cu (Lf cF) (Lf (oS 16 17))) (Le ah (Lf (oD 408)))) jl) qZ))
def Qv(P:aN):=N (bY P) (Qt P) (N (cp P) (Cw P) (N (cq P) (N (cr P) (N ah (N cu (Lf cF) (Lf (oS 16 17))) (Le ah (Lf (oD 425)))) jT) qZ))
def Qw(P:aN):=N (de P) (N (o3 P 20 20 (S "cpy313.stringprep" 285)) (yN P) (N ah yL qR)) (N (fg P) (N (gj P) vQ th) G4)
def Qx(P:aN):=N (bY P) (Qw P) (N (cp P) (Cw P) (N (cq P) (N (cr P) (N ah (N cu (Lf cF) (Lf (oS 16 17))) (Le ah (Lf (oD 442)))) jT) qZ))
def Cy(P:aN):=N (eG P) (N (gM P) Co Cv) (N (gJ 24) G3 Cf)
def Qy(P:aN):=N (bY P) (Qw P) (N (cp P) (Cy P) (N (cq P) (N (cr P) (N ah (N cu (Lf cF) (Lf (oS 16 17))) (Le ah (Lf (oD 459)))) jT) qZ))
def Qz(P:aN):=N (de P) (N (o3 P 20 20 (S "cpy313.stringprep" 285)) (yN P) (N ah yL qR)) (N (fg P) (N (gj P) vQ th) (N gp yM yF))
def QA(P:aN):=N (bY P) (Qz P) (N (cp P) (Cy P) (N (cq P) (N (cr P) (N ah (N cu (Lf cF) (Lf (oS 16 17))) (Le ah (Lf (oD 476)))) jT) qZ))
def QB(P:aN):=N (bY P) (Qz P) (N (cp P) (Cy P) (N (cq P) (N (cr P) (N ah (N cu (Lf cF) (Lf (oS 16 17))) (Le ah (Lf (oD 493)))) jT) (N fj pE nw)))
def Cz(P:aN):=N (ip P) GV (N iI (N jj (Lf (jk P)) (Lf (oS 21 17))) (Le jR (Lf (oS 5 17))))
def QC(P:aN):=N (de P) (N (o3 P 20 20 (S "cpy313.stringprep" 285)) (Cz P) (N ah yL qR)) (N (fg P) (N (gj P) vQ th) (N gp yM yF))
def QD(P:aN):=N (bY P) (QC P) (N (cp P) (Cy P) (N (cq P) (N (cr P) (N ah (N cu (Lf cF) (Lf (oS 16 17))) (Le ah (Lf (oD 510)))) jT) (N fj pE nw)))
def CA(P:aN):=N (eG P) (N (gM P) Ce Cv) (N (gJ 24) G3 Cf)
def QE(P:aN):=N (bY P) (QC P) (N (cp P) (CA P) (N (cq P) (N (cr P) (N ah (N cu (Lf cF) (Lf (oS 16 17))) (Le ah (Lf (oD 527)))) jT) (N fj pE nw)))
def QF(P:aN):=N (de P) (N (o3 P 20 20 (S "cpy313.stringprep" 285)) (Cz P) (N ah yL qR)) (N (fg P) (N (gj P) Cd th) (N gp yM yF))
def QG(P:aN):=N (bY P) (QF P) (N (cp P) (CA P) (N (cq P) (N (cr P) (N ah (N cu (Lf cF) (Lf (oS 16 17))) (Le ah (Lf (oD 544)))) jT) (N fj pE nw)))
def QH(P:aN):=N (bY P) (QF P) (N (cp P) (CA P) (N (cq P) (N (cr P) (N ah (N cu (Lf cF) (Lf (oS 16 17))) (N ah (Lf (oD 561)) (Lf (oS 32 17)))) jT) (N fj pE nw)))
def QI(P:aN):=N (de P) (N (o3 P 20 20 (S "cpy313.stringprep" 285)) (Cz P) (N ah yE qR)) (N (fg P) (N (gj P) Cd th) (N gp yM yF))
def QJ(P:aN):=N (bY P) (QI P) (N (cp P) (CA P) (N (cq P) (N (cr P) (N ah (N cu (Lf cF) (Lf (oS 16 17))) (N ah (Lf (oD 578)) (Lf (oS 32 17)))) jT) (N fj pE nw)))
def CB(P:aN):=N (eG P) (N (gM P) Ce Cv) (N (gJ 24) GZ Cf)
def QK(P:aN):=N (bY P) (QI P) (N (cp P) (CB P) (N (cq P) (N (cr P) (N ah (N cu (Lf cF) (Lf (oS 16 17))) (N ah (Lf (oD 595)) (Lf (oS 32 17)))) jT) (N fj pE nw)))
def QL(P:aN):=N (de P) (N (o3 P 20 20 (S "cpy313.stringprep" 285)) (Cz P) (N ah yE qR)) (GX P)
def QM(P:aN):=N (bY P) (QL P) (N (cp P) (CB P) (N (cq P) (N (cr P) (N ah (N cu (Lf cF) (Lf (oS 16 17))) (N ah (Lf (oD 612)) (Lf (oS 32 17)))) jT) (N fj pE nw)))
def QN(P:aN):=N (bY P) (QL P) (N (cp P) (CB P) (N (cq P) (N (cr P) (N ah (N cu (Lf cF) (Lf (oS 16 17))) (N ah (Lf (oD 629)) (Lf (oS 32 17)))) jT) (N fj Cg nw)))
def QO(P:aN):=N (de P) (N (o3 P 20 20 (S "cpy313.stringprep" 285)) (N (ip P) GV (GW P)) (N ah yE qR)) (GX P)
def G5(P:aN):=N (bY P) (QO P) (N (cp P) (CB P) (N (cq P) (N (cr P) (N ah (N cu (Lf cF) (Lf (oS 16 17))) (N ah (Lf (oD 646)) (Lf (oS 32 17)))) jT) (N fj Cg nw)))
def G6(P:aN):=N (bY P) (QO P) (PG P)
def pF:aR:=match bW 14 with| .Assign _ (.Dict _ _ dp) _=>dp|_=>default
def QP:aR:=match bW 14 with| .Assign _ _ p=>p|_=>default
def QQ:List ax:=match bW 14 with| .Assign ts _ _=>ts|_=>[]
def QaD:ax:=match bW 14 with| .Assign _ v _=>v|_=>default
def cO:List gH:=match bW 14 with
 | .Assign _ (.Dict ks vs dp) _=>(evalEach (ks.filterMap id) je).zip ((evalEach vs je).map λv=>do let x<-v;pX dp;pure x)
 |_=>[]
def G7(v:ao):cg kQ:=do assignStores je v (<-T2 QQ QaD je) ((zo QQ je).map (·.2))
abbrev chk(w:d9)(os:ug)(j:Nat)(m:Option au)(T:BT)(k toks:Nat)(T':BT)(k' JT:Nat):Prop:=nV mO pw w 11 (aa (.ref 6)) 1 1000 (iH T k toks os) (vD (gI ((cO.drop (17*j)).take 17) m) cE pF jI)=aa (.ret (.ref 82),iH T' k' JT os,cE,pF)
noncomputable def tj(a b:Int):Bool:=match a with
 | .ofNat x=>match b with| .ofNat y=>fJ x y| .negSucc _=>af
 | .negSucc x=>match b with| .ofNat _=>af| .negSucc y=>fJ x y
variable (w:d9)(os:ug)
theorem QaE(a b:Int):tj a b=(a==b):=by cases a<;>cases b<;>dsimp only[tj,BT.beq_eq]<;>rw[gA]<;>simp<;>lia
noncomputable def oQ(h:Int):List dX->Nat->List Nat
 |[],_=>[]
 |e::r,i=>match tj e.hash h with
  |true=>i::oQ h r (kN i)
  |false=>oQ h r (kN i)
theorem QaF(es:Array dX)(h:Int):DK es.size (λi=>es[i]?.map (·.hash)) h=oQ h es.toList 0:=by
 refine(?_:(∀(l:List dX)(n:Nat),oQ h l n=(ey n l.length).filter λi=>(l[i-n]?.map (·.hash))==aa h)->_) (by
  intro l;induction l with
  |nil=>intro n;rfl
  |cons e r ih=>
   intro n
   simp only[ce,TF,Qg3]
   refine(?_:((ey (n+1) r.length).filter (λi=>((e::r)[i-n]?.map (·.hash))==aa h)=oQ h r (n+1))->_) (by refine ag (ih (n+1)) ?_;refine Qg4 λi hi=>?_;rw[nW]at hi;obtain⟨j,_,rfl⟩:=hi;simp only[show n+1+1*j-n=(n+1+1*j-(n+1))+1 from fN 0x5432400d32090c90150034c824324014225d04528228224528a0895400d32090c900508974114a08a24528a0822560c92c32400d32090c900b0034c8243240 Yt,cU])
   intro e1
   refine ag e1 ?_
   simp only[Nat.sub_self,cH,bF]
   show(match tj e.hash h with|true=>n::oQ h r (n+1)|false=>oQ h r (n+1))=_
   simp only[QaE]
   cases q:e.hash==h with
   |true=>rw[aw (by exact q)]
   |false=>rw[az (by simpa using q)])
 intro key;refine ag (key es.toList 0) ?_;unfold DK;simp only[Qg5, <-QgY];refine Qg4 λi _=>?_;simp only[Nat.sub_zero,TU]
noncomputable def G8(a b:Int):Bool:=@Int.rec (λ_=>Bool) (λx=>@Int.rec (λ_=>Bool) (λy=>fJ x y) (λ_=>af) b) (λx=>@Int.rec (λ_=>Bool) (λ_=>af) (λy=>fJ x y) b) a
theorem QaG(a b:Int):G8 a b=tj a b:=by cases a<;>cases b<;>rfl
def yO(h:Int)(l:List dX):Nat->List Nat:=@Ir dX (λ_=>Nat->List Nat) (λ_=>[]) (λe _ ih i=>@fY (λ_=>List Nat) (ih (kN i)) (i::ih (kN i)) (G8 (@DictEntry.rec (λ_=>Int) (λh _ _=>h) e) h)) l
theorem QR(h:Int):∀(l:List dX)(i:Nat),oQ h l i=yO h l i
 |[],_=>rfl
 |e::r,i=>by
  show(match tj e.hash h with|true=>i::oQ h r (kN i)|false=>oQ h r (kN i))=@fY (λ_=>List Nat) (yO h r (kN i)) (i::yO h r (kN i)) (G8 e.hash h)
  rw[QaG,QR h r];cases tj e.hash h<;>rfl
theorem QaH(es:Array dX)(h:Int):DK es.size (λi=>es[i]?.map (·.hash)) h=yO h es.toList 0:=by simp only[QaF,QR]
noncomputable def G9(x:dX)(l:List dX):List dX:=@Ir dX (λ_=>List dX) [x] (λe _ ih=>e::ih) l
theorem QS(x:dX):∀l:List dX,l++[x]=G9 x l
 |[]=>rfl
 |e::r=>by show e::(r++[x])=e::G9 x r;exact ag (QS x r) rfl
def QT(es:Array dX)(x:dX):Array dX:=bt (G9 x es.toList)
theorem QaI:@Array.push dX=QT:=by funext es x;unfold QT;rw[<-QS];exact zc.mp (by rw[Array.toList_push])
noncomputable def QU(es:Array dX)(h:Int):List Nat:=DK es.size (λi=>es[i]?.map (·.hash)) h
theorem QaJ(es:Array dX)(h:Int):DK es.size (λi=>es[i]?.map (·.hash)) h=QU es h:=rfl
def plQ(es:Array dX)(h:Int):List Nat:=yO h es.toList 0
theorem QaL:QU=plQ:=funext λes=>funext λh=>QaH es h
noncomputable def QV(d:au)(key:ao)(h:Int):{x:cg (Option Nat)//dictFind d key h=x}:=by
 refine⟨?_,?_⟩;rotate_left
 ·delta dictFind;dsimp only[QaJ];rw[QaL]
def QaM(d:au)(key:ao)(h:Int):cg (Option Nat):=(QV d key h).1
theorem QaN:dictFind=QaM:=by funext d key h;exact(QV d key h).2
def QW(run:List gH)(main:Option au):{x:cg (Option au)//gI run main=x}:=by
 refine⟨?_,?_⟩;rotate_left
 ·delta gI subDict mergeMapping dictSet dictSetHashed dictPut;rw[QaI,QaN,PySem.W.Fast.te10540108854288196387]
def QaO(run:List gH)(main:Option au):cg (Option au):=(QW run main).1
theorem dD(run:List gH)(main:Option au):gI run main=QaO run main:=(QW run main).2
theorem dv:nV mO=PySem.W.Fast.tw10110043849684766642 PySem.W.Fast.tw14364793385576792824:=by rw[PySem.W.Fast.te10110043849684766642,PySem.W.Fast.te14364793385576792824]
theorem dd{P:d9->Prop}(f:∀w:d9,P (w.withFollow "special-get-raises" af))(t:∀w:d9,P (w.withFollow "special-get-raises" ae))(w:d9):P w:=byRow2 "special-get-raises" f t w
theorem ck0:chk w os 0 ac (yD w.params) 82 354 (PV w.params) 83 405:=by unfold chk;rw[dD,dv];revert os w;refine dd ?_ ?_<;>(intros;kernel_rfl)
theorem ck1:chk w os 1 (aa 82) (PV w.params) 83 405 (PW w.params) 84 456:=by unfold chk;rw[dD,dv];revert os w;refine dd ?_ ?_<;>(intros;kernel_rfl)
theorem ck2:chk w os 2 (aa 82) (PW w.params) 84 456 (PX w.params) 85 507:=by unfold chk;rw[dD,dv];revert os w;refine dd ?_ ?_<;>(intros;kernel_rfl)
theorem ck3:chk w os 3 (aa 82) (PX w.params) 85 507 (PZ w.params) 86 558:=by unfold chk;rw[dD,dv];revert os w;refine dd ?_ ?_<;>(intros;kernel_rfl)
theorem ck4:chk w os 4 (aa 82) (PZ w.params) 86 558 (P0 w.params) 87 609:=by unfold chk;rw[dD,dv];revert os w;refine dd ?_ ?_<;>(intros;kernel_rfl)
theorem ck5:chk w os 5 (aa 82) (P0 w.params) 87 609 (P6 w.params) 88 660:=by unfold chk;rw[dD,dv];revert os w;refine dd ?_ ?_<;>(intros;kernel_rfl)
theorem ck6:chk w os 6 (aa 82) (P6 w.params) 88 660 (P7 w.params) 89 711:=by unfold chk;rw[dD,dv];revert os w;refine dd ?_ ?_<;>(intros;kernel_rfl)
theorem ck7:chk w os 7 (aa 82) (P7 w.params) 89 711 (P9 w.params) 90 762:=by unfold chk;rw[dD,dv];revert os w;refine dd ?_ ?_<;>(intros;kernel_rfl)
theorem ck8:chk w os 8 (aa 82) (P9 w.params) 90 762 (Qa w.params) 91 813:=by unfold chk;rw[dD,dv];revert os w;refine dd ?_ ?_<;>(intros;kernel_rfl)
theorem ck9:chk w os 9 (aa 82) (Qa w.params) 91 813 (Qd w.params) 92 864:=by unfold chk;rw[dD,dv];revert os w;refine dd ?_ ?_<;>(intros;kernel_rfl)
theorem QaZ:chk w os 10 (aa 82) (Qd w.params) 92 864 (Qe w.params) 93 915:=by unfold chk;rw[dD,dv];revert os w;refine dd ?_ ?_<;>(intros;kernel_rfl)
theorem Qa0:chk w os 11 (aa 82) (Qe w.params) 93 915 (Qg w.params) 94 966:=by unfold chk;rw[dD,dv];revert os w;refine dd ?_ ?_<;>(intros;kernel_rfl)
theorem Qa1:chk w os 12 (aa 82) (Qg w.params) 94 966 (Qh w.params) 95 1017:=by unfold chk;rw[dD,dv];revert os w;refine dd ?_ ?_<;>(intros;kernel_rfl)
theorem Qa2:chk w os 13 (aa 82) (Qh w.params) 95 1017 (Qi w.params) 96 1068:=by unfold chk;rw[dD,dv];revert os w;refine dd ?_ ?_<;>(intros;kernel_rfl)
theorem Qa3:chk w os 14 (aa 82) (Qi w.params) 96 1068 (Qj w.params) 97 1119:=by unfold chk;rw[dD,dv];revert os w;refine dd ?_ ?_<;>(intros;kernel_rfl)
theorem Qa4:chk w os 15 (aa 82) (Qj w.params) 97 1119 (Qk w.params) 98 1170:=by unfold chk;rw[dD,dv];revert os w;refine dd ?_ ?_<;>(intros;kernel_rfl)
theorem Qa5:chk w os 16 (aa 82) (Qk w.params) 98 1170 (Ql w.params) 99 1221:=by unfold chk;rw[dD,dv];revert os w;refine dd ?_ ?_<;>(intros;kernel_rfl)
theorem Qa6:chk w os 17 (aa 82) (Ql w.params) 99 1221 (Qm w.params) 100 1272:=by unfold chk;rw[dD,dv];revert os w;refine dd ?_ ?_<;>(intros;kernel_rfl)
theorem Qa7:chk w os 18 (aa 82) (Qm w.params) 100 1272 (Qo w.params) 101 1323:=by unfold chk;rw[dD,dv];revert os w;refine dd ?_ ?_<;>(intros;kernel_rfl)
theorem Qa8:chk w os 19 (aa 82) (Qo w.params) 101 1323 (Qp w.params) 102 1374:=by unfold chk;rw[dD,dv];revert os w;refine dd ?_ ?_<;>(intros;kernel_rfl)
theorem Qa9:chk w os 20 (aa 82) (Qp w.params) 102 1374 (Qq w.params) 103 1425:=by unfold chk;rw[dD,dv];revert os w;refine dd ?_ ?_<;>(intros;kernel_rfl)
theorem Qba:chk w os 21 (aa 82) (Qq w.params) 103 1425 (Qr w.params) 104 1476:=by unfold chk;rw[dD,dv];revert os w;refine dd ?_ ?_<;>(intros;kernel_rfl)
theorem Qbb:chk w os 22 (aa 82) (Qr w.params) 104 1476 (Qs w.params) 105 1527:=by unfold chk;rw[dD,dv];revert os w;refine dd ?_ ?_<;>(intros;kernel_rfl)
theorem Qbc:chk w os 23 (aa 82) (Qs w.params) 105 1527 (Qu w.params) 106 1578:=by unfold chk;rw[dD,dv];revert os w;refine dd ?_ ?_<;>(intros;kernel_rfl)
theorem Qbd:chk w os 24 (aa 82) (Qu w.params) 106 1578 (Qv w.params) 107 1629:=by unfold chk;rw[dD,dv];revert os w;refine dd ?_ ?_<;>(intros;kernel_rfl)
theorem Qbe:chk w os 25 (aa 82) (Qv w.params) 107 1629 (Qx w.params) 108 1680:=by unfold chk;rw[dD,dv];revert os w;refine dd ?_ ?_<;>(intros;kernel_rfl)
theorem Qbf:chk w os 26 (aa 82) (Qx w.params) 108 1680 (Qy w.params) 109 1731:=by unfold chk;rw[dD,dv];revert os w;refine dd ?_ ?_<;>(intros;kernel_rfl)
theorem Qbg:chk w os 27 (aa 82) (Qy w.params) 109 1731 (QA w.params) 110 1782:=by unfold chk;rw[dD,dv];revert os w;refine dd ?_ ?_<;>(intros;kernel_rfl)
theorem Qbh:chk w os 28 (aa 82) (QA w.params) 110 1782 (QB w.params) 111 1833:=by unfold chk;rw[dD,dv];revert os w;refine dd ?_ ?_<;>(intros;kernel_rfl)
theorem Qbi:chk w os 29 (aa 82) (QB w.params) 111 1833 (QD w.params) 112 1884:=by unfold chk;rw[dD,dv];revert os w;refine dd ?_ ?_<;>(intros;kernel_rfl)
theorem Qbj:chk w os 30 (aa 82) (QD w.params) 112 1884 (QE w.params) 113 1935:=by unfold chk;rw[dD,dv];revert os w;refine dd ?_ ?_<;>(intros;kernel_rfl)
theorem Qbk:chk w os 31 (aa 82) (QE w.params) 113 1935 (QG w.params) 114 1986:=by unfold chk;rw[dD,dv];revert os w;refine dd ?_ ?_<;>(intros;kernel_rfl)
theorem Qbl:chk w os 32 (aa 82) (QG w.params) 114 1986 (QH w.params) 115 2037:=by unfold chk;rw[dD,dv];revert os w;refine dd ?_ ?_<;>(intros;kernel_rfl)
theorem Qbm:chk w os 33 (aa 82) (QH w.params) 115 2037 (QJ w.params) 116 2088:=by unfold chk;rw[dD,dv];revert os w;refine dd ?_ ?_<;>(intros;kernel_rfl)
theorem Qbn:chk w os 34 (aa 82) (QJ w.params) 116 2088 (QK w.params) 117 2139:=by unfold chk;rw[dD,dv];revert os w;refine dd ?_ ?_<;>(intros;kernel_rfl)
theorem Qbo:chk w os 35 (aa 82) (QK w.params) 117 2139 (QM w.params) 118 2190:=by unfold chk;rw[dD,dv];revert os w;refine dd ?_ ?_<;>(intros;kernel_rfl)
theorem Qbp:chk w os 36 (aa 82) (QM w.params) 118 2190 (QN w.params) 119 2241:=by unfold chk;rw[dD,dv];revert os w;refine dd ?_ ?_<;>(intros;kernel_rfl)
theorem Qbq:chk w os 37 (aa 82) (QN w.params) 119 2241 (G5 w.params) 120 2292:=by unfold chk;rw[dD,dv];revert os w;refine dd ?_ ?_<;>(intros;kernel_rfl)
theorem Qbr:chk w os 38 (aa 82) (G5 w.params) 120 2292 (G6 w.params) 121 2304:=by unfold chk;rw[dD,dv];revert os w;refine dd ?_ ?_<;>(intros;kernel_rfl)
theorem tm:jf w os 94 (tA w.params) 15 187 (ib 0 4) ⟨0,0,0,0⟩ (Py w.params) 29 222 ⟨19,0,28,17⟩:=by kernel_rfl
theorem to:jf w os 67 (Py w.params) 29 222 (ib 4 2) ⟨19,0,28,17⟩ (Pz w.params) 43 244 ⟨45,0,53,49⟩:=by kernel_rfl
theorem vR:jf w os 88 (Pz w.params) 43 244 (ib 6 4) ⟨45,0,53,49⟩ (PA w.params) 57 273 ⟨77,0,77,15⟩:=by kernel_rfl
theorem hd3:jf w os 44 (PA w.params) 57 273 (ib 10 2) ⟨77,0,77,15⟩ (PB w.params) 64 287 ⟨106,0,106,8⟩:=by kernel_rfl
theorem hd4:jf w os 999 (PB w.params) 64 287 (ib 12 1) ⟨106,0,106,8⟩ (PC w.params) 75 347 ⟨107,0,107,6⟩:=by
 show nV mO _ _ _ _ _ _ _ _=_;rw[dv];revert os w;refine byRow2 "set-order" ?_ ?_
 ·refine dd ?_ ?_<;>(intros;kernel_rfl)
 ·refine dd ?_ ?_<;>(intros;kernel_rfl)
theorem hd5:jf w os 30 (PC w.params) 75 347 (ib 13 1) ⟨107,0,107,6⟩ (yD w.params) 82 354 ⟨108,0,109,30⟩:=by kernel_rfl
theorem hd7:jf w os 94 (G0 w.params) 121 2305 (ib 15 8) ⟨110,0,110,13⟩ (PM w.params) 128 2327 ⟨122,0,122,5⟩:=by kernel_rfl
theorem hd8:jf w os 100 (PM w.params) 128 2327 (ib 23 11) ⟨122,0,122,5⟩ (PN w.params) 128 2349 ⟨133,0,133,5⟩:=by kernel_rfl
theorem hd9:jf w os 100 (PN w.params) 128 2349 (ib 34 11) ⟨133,0,133,5⟩ (PO w.params) 128 2371 ⟨144,0,144,9⟩:=by kernel_rfl
theorem Qby:jf w os 100 (PO w.params) 128 2371 (ib 45 11) ⟨144,0,144,9⟩ (PP w.params) 128 2393 ⟨155,0,155,14⟩:=by kernel_rfl
theorem Qbz:jf w os 100 (PP w.params) 128 2393 (ib 56 11) ⟨155,0,155,14⟩ (PQ w.params) 128 2415 ⟨166,0,166,9⟩:=by kernel_rfl
theorem QbA:jf w os 979 (PQ w.params) 128 2415 (ib 67 1) ⟨166,0,166,9⟩ (PR w.params) 131 2512 ⟨167,0,167,17⟩:=by revert os w;refine dd ?_ ?_<;>(intros;kernel_rfl)
theorem QbB:jf w os 97 (PR w.params) 131 2512 (ib 68 4) ⟨167,0,167,17⟩ (PS w.params) 152 2535 ⟨174,0,174,8⟩:=by kernel_rfl
theorem QbC:jf w os 99 (PS w.params) 152 2535 (ib 72 3) ⟨174,0,174,8⟩ (PT w.params) 173 2567 ⟨185,0,214,22⟩:=by kernel_rfl
theorem QbD:jf w os 86 (PT w.params) 173 2567 (ib 75 3) ⟨185,0,214,22⟩ (PU w.params) 190 2590 ⟨242,0,258,15⟩:=by kernel_rfl
theorem QbE:jf w os 87 (PU w.params) 190 2590 (ib 78 3) ⟨242,0,258,15⟩ (Ch w.params) 207 2614 ⟨284,0,307,15⟩:=by kernel_rfl
theorem QX:jd.length=81:=by kernel_rfl
theorem QbF(i:Nat)(h:i<81):jd.drop i=bW i::jd.drop (i+1):=by
 have h':i<jd.length:=by rw[QX];exact h
 rw[IP h'];unfold bW;rw[eW,cf h'];rfl
abbrev tR(w:d9)(N:Nat)(s:aE)(t:Thread):Option aE:=rP mO pw w 11 (aa (.ref 6)) N s t
theorem jm{w:d9}{n N a b:Nat}{s s':SharedT}{r:aE}{p p':aR}(h:nV mO pw w 11 (aa (.ref 6)) 1 n s (piecesOf (ib a b) je cE p jI)=aa (.next,s',cE,p'))
  (k:tR w N s'.abs (wS (jd.drop (a+b)) je cE p' jI)=aa r):tR w (n+N) s.abs (wS (jd.drop a) je cE p jI)=aa r:=by
 have e:jd.drop a=ib a b++jd.drop (a+b):=by rw[<-ze,IV]
 rw[e]
 exact piece_app (DJ h) k
theorem QbG:exec (bW 14) je=(pX QP>>=λ_=>pX pF)>>=λ_=>(IU (yk cO)>>=λv=>G7 v):=by kernel_rfl
theorem QbH(w:d9)(os:ug):nV mO pw w 11 (aa (.ref 6)) 1 4 (iH (yD w.params) 82 354 os) ⟨(pX QP>>=λ_=>pX pF:cg Unit).wrap (λ_=>.pure (.done .next)) wR id id,cE,⟨108,0,109,30⟩,jI⟩=
  aa (.next,iH (yD w.params) 82 354 os,cE,pF):=by kernel_rfl
theorem QbI(w:d9)(os:ug):nV mO pw w 11 (aa (.ref 6)) 1 200 (iH (G6 w.params) 121 2304 os) ⟨(G7 (.ref 82)).wrap doneF wR id id,cE,pF,jI⟩=
  aa (.next,iH (G0 w.params) 121 2305 os,cE,⟨110,0,110,13⟩):=by kernel_rfl
theorem dw:cO.length=650:=by kernel_rfl
theorem ckz:nV mO pw w 11 (aa (.ref 6)) 1 1000 (iH (G5 w.params) 120 2292 os) (vD (gI (cO.drop (17*38)) (aa 82)) cE pF jI)=aa (.ret (.ref 82),iH (G6 w.params) 121 2304 os,cE,pF):=by
 have e:cO.drop (17*38)=(cO.drop (17*38)).take 17:=by rw[nN];rw[dL,dw];decide
 rw[e];exact Qbr w os
theorem QbK(w:d9)(os:ug){N:Nat}{r:aE}(k:tR w N (iH (G0 w.params) 121 2305 os).abs (wS (jd.drop 15) je cE ⟨110,0,110,13⟩ jI)=aa r):
  tR w (4+(1000+(1000+(1000+(1000+(1000+(1000+(1000+(1000+(1000+(1000+(1000+(1000+(1000+(1000+(1000+(1000+(1000+(1000+(1000+(1000+(1000+(1000+(1000+(1000+(1000+(1000+(1000+(1000+(1000+(1000+(1000+(1000+(1000+(1000+(1000+(1000+(1000+(1000+(1000+(200+N))))))))))))))))))))))))))))))))))))))))) (iH (yD w.params) 82 354 os).abs (wS (jd.drop 14) je cE ⟨108,0,109,30⟩ jI)=aa r:=by
 rw[QbF 14 (by decide)]
 unfold wS
 rw[execs_cons_wrap,QbG,BV]
 refine Qaz (QbH w os) ?_
 show tR w _ _ ⟨(IU (yk cO)>>=λv=>G7 v).wrap _ _ id id,cE,pF,jI⟩=_
 rw[BV,Qax,BV]
 refine dH (L:=cO) (j:=0) (by rw[dw];rfl) (ck0 w os) ?_
 refine dH (L:=cO) (j:=1) (by rw[dw];rfl) (ck1 w os) ?_
 refine dH (L:=cO) (j:=2) (by rw[dw];rfl) (ck2 w os) ?_
 refine dH (L:=cO) (j:=3) (by rw[dw];rfl) (ck3 w os) ?_
 refine dH (L:=cO) (j:=4) (by rw[dw];rfl) (ck4 w os) ?_
 refine dH (L:=cO) (j:=5) (by rw[dw];rfl) (ck5 w os) ?_
 refine dH (L:=cO) (j:=6) (by rw[dw];rfl) (ck6 w os) ?_
 refine dH (L:=cO) (j:=7) (by rw[dw];rfl) (ck7 w os) ?_
 refine dH (L:=cO) (j:=8) (by rw[dw];rfl) (ck8 w os) ?_
 refine dH (L:=cO) (j:=9) (by rw[dw];rfl) (ck9 w os) ?_
 refine dH (L:=cO) (j:=10) (by rw[dw];rfl) (QaZ w os) ?_
 refine dH (L:=cO) (j:=11) (by rw[dw];rfl) (Qa0 w os) ?_
 refine dH (L:=cO) (j:=12) (by rw[dw];rfl) (Qa1 w os) ?_
 refine dH (L:=cO) (j:=13) (by rw[dw];rfl) (Qa2 w os) ?_
 refine dH (L:=cO) (j:=14) (by rw[dw];rfl) (Qa3 w os) ?_
 refine dH (L:=cO) (j:=15) (by rw[dw];rfl) (Qa4 w os) ?_
 refine dH (L:=cO) (j:=16) (by rw[dw];rfl) (Qa5 w os) ?_
 refine dH (L:=cO) (j:=17) (by rw[dw];rfl) (Qa6 w os) ?_
 refine dH (L:=cO) (j:=18) (by rw[dw];rfl) (Qa7 w os) ?_
 refine dH (L:=cO) (j:=19) (by rw[dw];rfl) (Qa8 w os) ?_
 refine dH (L:=cO) (j:=20) (by rw[dw];rfl) (Qa9 w os) ?_
 refine dH (L:=cO) (j:=21) (by rw[dw];rfl) (Qba w os) ?_
 refine dH (L:=cO) (j:=22) (by rw[dw];rfl) (Qbb w os) ?_
 refine dH (L:=cO) (j:=23) (by rw[dw];rfl) (Qbc w os) ?_
 refine dH (L:=cO) (j:=24) (by rw[dw];rfl) (Qbd w os) ?_
 refine dH (L:=cO) (j:=25) (by rw[dw];rfl) (Qbe w os) ?_
 refine dH (L:=cO) (j:=26) (by rw[dw];rfl) (Qbf w os) ?_
 refine dH (L:=cO) (j:=27) (by rw[dw];rfl) (Qbg w os) ?_
 refine dH (L:=cO) (j:=28) (by rw[dw];rfl) (Qbh w os) ?_
 refine dH (L:=cO) (j:=29) (by rw[dw];rfl) (Qbi w os) ?_
 refine dH (L:=cO) (j:=30) (by rw[dw];rfl) (Qbj w os) ?_
 refine dH (L:=cO) (j:=31) (by rw[dw];rfl) (Qbk w os) ?_
 refine dH (L:=cO) (j:=32) (by rw[dw];rfl) (Qbl w os) ?_
 refine dH (L:=cO) (j:=33) (by rw[dw];rfl) (Qbm w os) ?_
 refine dH (L:=cO) (j:=34) (by rw[dw];rfl) (Qbn w os) ?_
 refine dH (L:=cO) (j:=35) (by rw[dw];rfl) (Qbo w os) ?_
 refine dH (L:=cO) (j:=36) (by rw[dw];rfl) (Qbp w os) ?_
 refine dH (L:=cO) (j:=37) (by rw[dw];rfl) (Qbq w os) ?_
 refine Qay (L:=cO) (j:=38) (by rw[dw];rfl) (ckz w os) ?_
 exact QaA (QbI w os) k
def H1(P:aN):cC:=absHeap (Ch P) 207 Pk
noncomputable def QY:Nat:=12+(1+(94+(67+(88+(44+(999+(30+(4+(1000+(1000+(1000+(1000+(1000+(1000+(1000+(1000+(1000+(1000+(1000+(1000+(1000+(1000+(1000+(1000+(1000+(1000+(1000+(1000+(1000+(1000+(1000+(1000+(1000+(1000+(1000+(1000+(1000+(1000+(1000+(1000+(1000+(1000+(1000+(1000+(1000+(1000+(1000+(200+(94+(100+(100+(100+(100+(979+(97+(99+(86+(87+2))))))))))))))))))))))))))))))))))))))))))))))))))))))))))
theorem QbL:tR w 2 (iH (Ch w.params) 207 2614 os).abs (wS (jd.drop 81) je cE ⟨284,0,307,15⟩ jI)=aa (iH (Ch w.params) 207 2614 os).abs :=by rw[wD (by rw[QX];exact dj _)];kernel_rfl
theorem QbM:topGo mO pw w 11 (aa (.ref 6)) 12 ⟨uh w.params,bt [],boot_drawn,boot_toks,os⟩ (topStub pw)=aa ((iH (tA w.params) 15 187 os).abs,⟨denote mO cE,cE,⟨0,0,0,0⟩,jI⟩):=by kernel_rfl
theorem QbN:segRun mO pw w 11 (aa (.ref 6)) 1 1 (iH (tA w.params) 15 187 os).abs (blockOf jd je cE ⟨0,0,0,0⟩ jI)=aa (.next,(iH (tA w.params) 15 187 os).abs,cE,⟨0,0,0,0⟩):=by kernel_rfl
theorem QbO:tR w QY ⟨uh w.params,bt [],boot_drawn,boot_toks,os⟩ (topStub pw)=aa ⟨H1 w.params,bt [],⟨0,0,0,0⟩,2614,os⟩:=by refine go_top (QbM w os) ?_;refine piece_block (QbN w os) ?_;show tR w _ _ (wS (jd.drop 0) je cE _ jI)=_;refine jm (tm w os) ?_;refine jm (to w os) ?_;refine jm (vR w os) ?_;refine jm (hd3 w os) ?_;refine jm (hd4 w os) ?_;refine jm (hd5 w os) ?_;refine QbK w os ?_;refine jm (hd7 w os) ?_;refine jm (hd8 w os) ?_;refine jm (hd9 w os) ?_;refine jm (Qby w os) ?_;refine jm (Qbz w os) ?_;refine jm (QbA w os) ?_;refine jm (QbB w os) ?_;refine jm (QbC w os) ?_;refine jm (QbD w os) ?_;refine jm (QbE w os) ?_;exact QbL w os
def qV:rB:={pw with main:={pw.main with body:=[bW 80]}}
noncomputable def loose:List PySem.Str:=[aG "_DIV_LIMIT",aG "_div2n1n",aG "_div3n2n",aG "_int2digits",aG "_digits2int",aG "_divmod_pos",aG "int_divmod",aG "ELLIPSIS_MARKER",aG "_ellipsis_match",aG "b1_set",aG "in_table_b1",aG "b3_exceptions",aG "map_table_b3",aG "ENDMARKER",aG "LPAR",aG "RPAR",aG "LSQB",aG "RSQB",aG "COLON",aG "COMMA",aG "SEMI",aG "PLUS",aG "MINUS",aG "STAR",aG "SLASH",aG "VBAR",aG "AMPER",aG "LESS",aG "GREATER",aG "EQUAL",aG "DOT",aG "PERCENT",aG "LBRACE",aG "RBRACE",aG "EQEQUAL",aG "NOTEQUAL",aG "LESSEQUAL",aG "GREATEREQUAL",aG "TILDE",aG "CIRCUMFLEX",aG "LEFTSHIFT",aG "RIGHTSHIFT",aG "DOUBLESTAR",aG "PLUSEQUAL",aG "MINEQUAL",aG "STAREQUAL",aG "SLASHEQUAL",aG "PERCENTEQUAL",aG "AMPEREQUAL",aG "VBAREQUAL",aG "CIRCUMFLEXEQUAL",aG "LEFTSHIFTEQUAL",aG "RIGHTSHIFTEQUAL",aG "DOUBLESTAREQUAL",aG "DOUBLESLASH",aG "DOUBLESLASHEQUAL",aG "AT",aG "ATEQUAL",aG "RARROW",aG "ELLIPSIS",aG "COLONEQUAL",aG "EXCLAMATION",aG "NT_OFFSET",aG "EXACT_TOKEN_TYPES",aG "ISTERMINAL",aG "ISNONTERMINAL",aG "ISEOF",aG "_law_unseen",aG "_law_spelled",aG "_law_drawn",aG "_law_read",aG "_law_divided",aG "_law_shown",aG "_law_longest",aG "_law_due"]
noncomputable def Ha:List Nat:=[3,11,12,13,14,15,16,17,18,19,20,21,22,23,24,25,26,27,28,29,30,31,32,33,34,35,36,37,38,39,40,41,42,43,44,45,46,47,48,49,50,51,52,53,54,55,56,57,58,59,60,61,62,63,64,65,66,67,68,69,70,71,72,73,74,75,76,77,78,79,80,81,82,121,122,123,124,125,126,127,128,129,130,131,132,133,134,135,136,137,138,139,140,141,142,143,144,145,146,147,148,149,150,151,152,153,154,155,156,157,158,159,160,161,162,163,164,165,166,167,168,169,170,171,172,173,174,175,176,177,178,179,180,181,182,183,184,185,186,187,188,189,190,191,192,193,194,195,196,197,198,199,200,201,202,203,204,205,206]
def eK(P:aN):List (Nat×be):=[(3,(o3 P 85 85 (S "law_uc0059_01" 2533))),(11,ah),(12,(gJ 63)),(13,gp),(14,fj),(15,ah),(16,jJ),(17,jK),(18,ah),(19,jL),(20,jM),(21,jg),(22,ah),(23,iI),(24,jh),(25,ah),(26,lm),(27,ji),(28,iJ),(29,ah),(30,jN),(31,kq),(32,kr),(33,kt),(34,cu),(35,jO),(36,ah),(37,ku),(38,kw),(39,jj),(40,jP),(41,jQ),(42,lq),(43,ah),(44,ky),(45,kz),(46,ah),(47,lu),(48,lw),(49,kA),(50,ah),(51,lx),(52,lz),(53,ah),(54,lB),(55,jR),(56,jS),(57,ah),(58,oM),(59,lC),(60,ah),(61,lD),(62,lE),(63,lF),(64,ng),(65,nh),(66,cF),(67,ni),(68,ah),(69,nj),(70,nk),(71,(jk P)),(72,mn),(73,ah),(74,pC),(75,ah),(76,nl),(77,nq),(78,ah),(79,oN),(80,oO),(81,nr),(82,(oD 650)),(121,ah),(122,vF),(123,vG),(124,ah),(125,vH),(126,vI),(127,te),(128,(pD P)),(129,(vJ P)),(130,(vK P)),(131,ah),(132,yl),(133,ym),(134,ah),(135,yn),(136,yo),(137,vL),(138,ah),(139,yp),(140,yq),(141,ah),(142,yr),(143,yt),(144,vM),(145,ah),(146,yu),(147,yv),(148,ah),(149,yw),(150,yx),(151,vN),(152,ah),(153,BX),(154,BY),(155,ah),(156,BZ),(157,B0),(158,yy),(159,ah),(160,B1),(161,B2),(162,ah),(163,B3),(164,B4),(165,yz),(166,ah),(167,B5),(168,B6),(169,ah),(170,B7),(171,B8),(172,yA),(173,ah),(174,GG),(175,GH),(176,GI),(177,B9),(178,ah),(179,GJ),(180,GK),(181,ah),(182,GL),(183,GM),(184,Ca),(185,ah),(186,GN),(187,GO),(188,GP),(189,Cb),(190,ah),(191,Pl),(192,Pn),(193,Po),(194,GQ),(195,ah),(196,Pq),(197,Pr),(198,ah),(199,Ps),(200,Pt),(201,GR),(202,ah),(203,Pu),(204,Pv),(205,Pw),(206,Px)]
theorem QbP:∀w:d9,(fencedOpening mO pw w 200000).map (λs=>(s.heap,s.gens,s.drawn,s.toks))=aa (uh w.params,bt [],boot_drawn,boot_toks):=boot_open (by kernel_rfl) (by decide+kernel) (λs=>by kernel_rfl)
theorem QbQ(w:d9):((uh w.params).isNs ew&&(bt []:Array GenState).size ==0,(uh w.params).objs.size,(uh w.params).nsMap ew "__annotations__")=(ae,11,aa (.ref 6)):=by kernel_rfl
abbrev s1(w:d9)(os:ug):aE:=⟨H1 w.params,bt [],⟨0,0,0,0⟩,2614,os⟩
theorem QbR:(staticsOk (importedModules pw.main.body) (uh w.params) (H1 w.params)&&namesBound pw (H1 w.params)&&gensDone (s1 w os)&&laidKept (uh w.params) (H1 w.params))=ae:=by kernel_rfl
theorem QbS:openSeen qV loose (importedModules pw.main.body) (λs=>recOk [] s) ae (s1 w os)=openGood qV loose:=by unfold openSeen openGood;refine qc ?_ (qc ?_ (qc ?_ (qc ?_ (qc ?_ (qc ?_ (qc ?_ (qc ?_ ?_)))))));all_goals kernel_rfl
theorem QbT:Ha.map (s1 w os).heap.get? =(eK w.params).map λp=>aa p.2:=by kernel_rfl
theorem QbU:LeftO pw qV loose (λs=>recOk [] s) (λs=>Ha.map s.heap.get?) (λw=>(eK w.params).map λp=>aa p.2) 200000:=LeftO.of_pieces (M:=QY) QbP QbQ (λw os=>QbO w os) (by decide+kernel) (λw=>by funext os;exact qc (QbR w os) (qc (QbS w os) (QbT w os)))
end
section
open PySem.Calls
noncomputable def eD:List Nat:=[30,37]
def kB(P:aN):List (Nat×be):=(eK P).filter λp=> !eD.contains p.1
theorem Hb(g:Nat->Bool):∀{l:List (Nat×α)},(l.filter λp=>g p.1).lookup a=aa o->l.lookup a=aa o
 |[],h=>by injection h
 |(b,x)::r,h=>by
  rw[Qg3]at h;rw[pT];split at h
  ·rw[pT]at h;cases q:a==b with
   |true=>rw[q]at h;exact h
   |false=>rw[q]at h;exact Hb g h
  ·rename_i hg;cases q:a==b with
   |true=>
    exfalso;have:(r.filter λp=>g p.1).lookup a=ac:=by
     rw[List.lookup_eq_none_iff];intro p hp;have:=(oZ.mp hp).2;cases z:a==p.1 with
     |false=>simp[bne,z]
     |true=>
      have e1:=bV.mp z
      have e2:=bV.mp q
      rw[<-e1,e2]at this
      exact absurd this hg
    rw[this]at h;injection h
   |false=>exact Hb g h
def TbAt(c P:au)(pos:aR)(qual:ar)(h:cC):Prop:=
 ∃ps:Array ao,CodeHd h c P/\h.get? P=aa (tabObj ps)/\TriplesOk ps.toList/\
  (codeAmong pos ps.toList=ac\/∃(c':au)(o:be)(vs:Array ao)(t:fL),codeAmong pos ps.toList=aa (.ref c')/\h.get? c'=aa o/\o.cls=.type "code"/\o.data=.fields vs/\vs[1]?=aa (.str qual t))
theorem TbAt.keep(x:TbAt c P pos qual h)(k:∀b o,h.get? b=aa o->na o->h'.get? b=aa o):TbAt c P pos qual h':=by obtain⟨ps,⟨o,vs,file,tf,flags,tg,z4,text,tt,e1,e2,e3,r⟩,hP,ht,hc⟩:=x;refine⟨ps,⟨o,vs,file,tf,flags,tg,z4,text,tt,k _ _ e1 ⟨.inr e2,vs,e3⟩,e2,e3,r⟩,k _ _ hP ⟨.inl rfl,ps,rfl⟩,ht,hc.imp id ?_⟩;rintro⟨c',o',iw,t,f1,f2,f3,f4,f5⟩;exact(xn c' o' iw t f1 (k _ _ f2 ⟨.inr f3,iw,f4⟩) f3 f4 f5)
def vS(i j:Nat):aR:=match(cR (bW i)).getD j (.Pass default)with
 | .FunctionDef _ _ _ _ _ _ _ _ _ p=>p
 |_=>default
def QbV(h:cC):Prop:=∃ob,h.get? 4=aa ob/\ob.cls=.type "module"/\ob.dict=aa za/\ob.data=.plain
def bv(w:d9)(mg mb:ar->Option ao):Wd where
 prog:=pw
 w:=w
 mg:=mg
 mb:=mb
 T:=eD
 Bs:=λh=>h.Ns ew mg/\h.Ns za mb/\h.NoLimit/\eX.In (kB w.params) h/\QbV h
 Tb:=λh=>TbAt 34 30 (vS 4 1) "_int2digits.<locals>.inner" h/\TbAt 41 37 (vS 5 0) "_digits2int.<locals>.inner" h
 Base:=λa=>a=0\/a=2\/a=3\/a=4\/((kB w.params).lookup a).isSome =ae
theorem QbW(P:aN):∀a,((kB P).lookup a).isSome =ae->a∉eD:=λa h q=>by obtain⟨o,e⟩:=DA.mp h;have:(a,o)∈kB P:=mem_of_lookupK e;have:=(oZ.mp this).2;rw[show eD.contains a=ae from List.contains_iff_mem.mpr q]at this;injection this
theorem QbX(hb:∀x:ar,x≠"__name__"->mb x=zb x):(bv w mg mb).Ok where
 bsG:=λh b=>b.1
 bsB:=λh b=>b.2.1
 bsLim:=λh b=>b.2.2.1
 bsKeep:=λh h' x k=>by
  obtain⟨⟨o1,tz,UZ,e1,r1⟩,⟨o2,tB,U0,e2,r2⟩,⟨mc,⟨o3,U1,U2,e3,r3⟩,q3⟩,hk,⟨ob,eb,rb⟩⟩:=x;exact⟨⟨o1,tz,UZ,k _ _ (.inr (.inr (.inl rfl))) e1,r1⟩,⟨o2,tB,U0,k _ _ (.inl rfl) e2,r2⟩,⟨mc,⟨o3,U1,U2,k _ _ (.inr (.inl rfl)) e3,r3⟩,q3⟩,
   λa o e=>k a o (.inr (.inr (.inr (.inr (by refine ag e ?_;rfl))))) (hk a o e),⟨ob,k _ _ (.inr (.inr (.inr (.inl rfl)))) eb,rb⟩⟩
 base:=λh x a ha=>by
  obtain⟨⟨o1,tz,UZ,e1,r1⟩,⟨o2,tB,U0,e2,r2⟩,⟨mc,⟨o3,U1,U2,e3,r3⟩,q3⟩,hk,⟨ob,eb,rb⟩⟩:=x;rcases ha with rfl|rfl|rfl|rfl|ha
  ·exact⟨show 0∉eD by decide,_,e2⟩
  ·exact⟨show 2∉eD by decide,_,e3⟩
  ·exact⟨show 3∉eD by decide,_,e1⟩
  ·exact⟨show 4∉eD by decide,_,eb⟩
  ·refine aD (DA.mp ha) λo e=>?_;exact⟨QbW _ a ha,o,hk a o e⟩
 tbKeep:=λh h' x k=>⟨x.1.keep k,x.2.keep k⟩
 tStill:=λh x a ha=>by
  obtain⟨⟨ps,_,h1,_⟩,⟨sf,_,h2,_⟩⟩:=x;have:a=30\/a=37:=by simpa[bv,eD]using ha
  clear ha;rcases this with rfl|rfl
  ·exact⟨_,h1,.inl rfl,_,rfl⟩
  ·exact⟨_,h2,.inl rfl,_,rfl⟩
 builtins:=λx _ hn=>hb x hn
theorem QbY{w:d9}{JU s:aE}{XP:(ar->Option ao)->cC->Prop}{mg mb:ar->Option ao}(G:Ground qV loose [] XP w JU mg mb s.heap)(Y:eX.In (eK w.params) s.heap):
  (bv w mg mb).Ok /\(bv w mg mb).Bs s.heap/\(bv w mg mb).Tb s.heap:=by
 have qq:mg "__builtins__"=aa (.ref 4):=fh Y G.T.g (by kernel_rfl)
 refine⟨QbX G.T.builtins,⟨G.T.g,G.T.b,G.T.nolimit,λa o e=>Y a o (Hb (λb=> !eD.contains b) e),?_⟩,?_,?_⟩
 ·refine VL G.T.bmain λbm ob b1 b2 b3 b4 b5 b6=>?_;rw[qq]at b1;clear b2;obtain rfl:=zr (aB b1);exact⟨ob,b3,b4,b5,b6⟩
 ·refine⟨#[],⟨_,_,_,_,_,_,_,_,_,Y 34 _ rfl,rfl,rfl,rfl,rfl,rfl,rfl,rfl,rfl,by decide⟩,Y 30 _ rfl,trivial,.inl rfl⟩
 ·refine⟨#[],⟨_,_,_,_,_,_,_,_,_,Y 41 _ rfl,rfl,rfl,rfl,rfl,rfl,rfl,rfl,rfl,by decide⟩,Y 37 _ rfl,trivial,.inl rfl⟩
noncomputable def oR:List Int:=[65024,65025,65026,65027,65028,65029,6150,65030,65031,65032,65033,6155,6156,6157,8203,8204,8205,65034,65035,65036,65037,65038,65039,173,847,8288,65279]
noncomputable def tq:ao->Option (Int×fL)| .int i t=>aa (i,t)|_=>ac
noncomputable def vT:ao->Option (ar×fL)| .str x t=>aa (x,t)|_=>ac
theorem Hc(h:tq v=aa (i,t)):v=.int i t:=(show Says (tq v) (λp=>v=.int p.1 p.2)from by clear h;cases v using Value.casesOn<;>first|exact io|exact rfl).get h
theorem QZ(h:vT v=aa (x,t)):v=.str x t:=(show Says (vT v) (λp=>v=.str p.1 p.2)from by clear h;cases v using Value.casesOn<;>first|exact io|exact rfl).get h
def CC(e:dX):Option (Int×List Nat):=(two (tq e.key) (vT e.val)).map λp=>(p.1.1,p.2.1.cps.toList)
def CD:List (Int×List Nat):=nu.filterMap CC
noncomputable def fS:List (List Nat×Int):=[([33],54),([33,61],28),([37],24),([37,61],40),([38],19),([38,61],41),([40],7),([41],8),([42],16),([42,42],35),([42,42,61],46),([42,61],38),([43],14),([43,61],36),([44],12),([45],15),([45,61],37),([45,62],51),([46],23),([46,46,46],52),([47],17),([47,47],47),([47,47,61],48),([47,61],39),([58],11),([58,61],53),([59],13),([60],20),([60,60],33),([60,60,61],44),([60,61],29),([61],22),([61,61],27),([62],21),([62,61],30),([62,62],34),([62,62,61],45),([64],49),([64,61],50),([91],9),([93],10),([94],32),([94,61],43),([123],25),([124],18),([124,61],42),([125],26),([126],31)]
def aA:Tabs:=⟨oR,CD,fS⟩
theorem Hd{x y:ar}:x=y↔x.cps.toList=y.cps.toList:=by
 constructor
 ·rintro rfl;rfl
 ·intro h;cases x;cases y;simp only[Str.mk.injEq];exact zc.mp h
def yP(e:dX):Bool:=match two (tq e.key) (vT e.val)with
 |some p=>e.hash==rQ p.1.1
 |none=>af
set_option tactic.hygienic true in
theorem He(h:yP e=ae):∃i t x u,e=⟨rQ i,.int i t,.str x u⟩:=by
 unfold yP at h;split at h
 ·rename_i p q;obtain⟨⟨i,t⟩,⟨x,u⟩⟩:=p;obtain⟨hs,k,v⟩:=e;have e1:=Hc (cX q).1;have e2:=QZ (cX q).2;dsimp only at e1 e2;subst e1;subst e2;have e3:hs=rQ i:=eq_of_beq h;exact⟨i,t,x,u,by exact ag e3 rfl⟩
 ·injection h
theorem QbZ(i:Int)(es:List dX)(h:es.all yP=ae):(es.filterMap CC).lookup i=((es.find? λe=>o7 i e.key).map (·.val)).bind λv=>(vT v).map λp=>p.1.cps.toList:=by
 induction es with
 |nil=>rfl
 |cons e r ih=>
  rw[ID]at h
  refine aF (eg.mp h) λh1 h2=>?_
  refine uR (He h1) λj t x u fM=>?_;clear h h1;subst fM
  have e1:(⟨rQ j,.int j t,.str x u⟩::r).filterMap CC=(j,x.cps.toList)::r.filterMap CC:=rfl
  refine ag e1 ?_;rw[pT,TY];refine ag (show o7 i (DictEntry.key ⟨rQ j,.int j t,.str x u⟩)=(j==i)from rfl) ?_
  by_cases e:i=j
  ·subst e;rw[beq_self_eq_true];rfl
  ·refine ag (beq_eq_false_iff_ne.mpr e) (ag (beq_eq_false_iff_ne.mpr (λq:j=i=>e q.symm)) ?_);exact ih h2
theorem Qb0(i:Int){es:List dX}(h:es.all yP=ae)(he:(es.find? λe=>o7 i e.key)=aa e):∃x t,e.val=.str x t:=by refine uR (He (eA.mp h e (Qg6 he))) λj t x u fM=>?_;clear he;subst fM;exact(eR x u rfl)
theorem Hf:nu.all yP=ae:=by kernel_rfl
theorem Qb1:nu.all (λe=>match e.val with| .str x _=>decide (x.length<=1000)|_=>ae)=ae:=by kernel_rfl
theorem Q0{prog:rB}{w:d9}{h:cC}{a:au}{n:Nat}(ho:h.get? a=aa (oD n))(hn:nu.take n=nu):
  h.MapOf (pY prog w) a λi=>(nu.find? λe=>o7 i e.key).map (·.val):=by
 refine⟨_,_,_,ho,⟨rfl,rfl,rfl⟩,rfl,λe he=>?_,λk=>?_⟩
 ·rw[hn]at he;have he:=Qg7.mpr he;have:=eA.mp Hf e he;refine uR (He this) λj t x u fM=>?_;subst fM;exact⟨j,by simp[pY,o7],rfl⟩
 ·refine ag hn ?_;unfold findBy;rw[<-Qg8];rfl
def CE(e:Int×ao):Bool:=match tq e.2 with
 |some p=>e.1==rQ p.1
 |none=>af
def Hg(e:Int×ao):Int:=match tq e.2 with
 |some p=>p.1
 |none=>0
set_option tactic.hygienic true in
theorem Q1(h:CE e=ae):∃i t,e=(rQ i,.int i t):=by
 unfold CE at h;split at h
 ·rename_i p q;obtain⟨i,t⟩:=p;obtain⟨hs,v⟩:=e;have e1:=Hc q;dsimp only at e1;subst e1;have e3:hs=rQ i:=eq_of_beq h;exact⟨i,t,by exact ag e3 rfl⟩
 ·injection h
theorem Qb2(k:Int)(es:List (Int×ao))(h:es.all CE=ae):(es.map Hg).contains k=ae↔∃e∈es,o7 k e.2=ae:=by
 induction es with
 |nil=>simp
 |cons e r ih=>
  rw[ID]at h
  refine aF (eg.mp h) λh1 h2=>?_
  refine fi (Q1 h1) λi t av=>?_;clear h h1;subst av
  rw[cA,List.contains_cons,mK,ih h2]
  have e1:Hg (rQ i,.int i t)=i:=rfl
  have e2:o7 k (.int i t)=(i==k):=rfl
  refine ag e1 ?_
  constructor
  ·rintro(q|⟨e,he,q⟩)
   ·exact(aO _ fD (by refine ag e2 (ag (eq_of_beq q) ?_);rw[beq_self_eq_true]))
   ·exact(aO e (eh _ he) q)
  ·rintro⟨e,he,q⟩;refine bX (cB.mp he) (λg9=>?_) λhe=>?_
   ·clear he;subst g9;rw[e2]at q;exact .inl (by refine ag (eq_of_beq q) ?_;rw[beq_self_eq_true])
   ·exact .inr (aO e he q)
theorem Qb3{prog:rB}{w:d9}{h:cC}{a:au}{P:aN}(ho:h.get? a=aa (jk P)):h.SetOf (pY prog w) a (λi=>oR.contains i) 27:=by
 have key:∀es ep t,(jk P).data =.set es ep t->es.toList.all CE=ae/\es.toList.map Hg=oR/\es.size=27/\t.fits es.size=ae:=λes ep t e=>by obtain⟨rfl,rfl,rfl⟩:=PySem.Data.set.inj e;exact⟨by kernel_rfl,by kernel_rfl,by kernel_rfl,by kernel_rfl⟩
 refine og (key _ _ _ rfl) λk1 k2 k3 k4=>?_;refine⟨_,_,_,_,ho,⟨rfl,rfl,rfl⟩,rfl,λe he=>?_,λk=>?_,by refine ag k3 ?_;decide,k4,k3⟩
 ·have:=eA.mp k1 e he;refine fi (Q1 this) λi t av=>?_;subst av;exact⟨(aO i (by simp[pY,o7]) rfl),rfl⟩
 ·refine a8 k2 ?_;exact Qb2 k _ k1
noncomputable def StrEnts(w:d9):List dX->Prop
 |[]=>True
 |e::r=>(∃(x:ar)(t:fL),e.key=.str x t/\e.hash=hashStr w x)/\StrEnts w r
theorem StrEnts.at(h:StrEnts w es):∀e∈es,∃(x:ar)(t:fL),e.key=.str x t/\e.hash=hashStr w x:=by
 induction es with
 |nil=>exact λ_ m=>absurd m j0
 |cons a r ih=>exact λe m=>(cB.mp m).elim (λq=>q▸h.1) (ih h.2 e)
def yQ(e:dX):List Nat×Option Int:=match two (vT e.key) (tq e.val)with
 |some p=>(p.1.1.cps.toList,aa p.2.1)
 |none=>([],ac)
set_option tactic.hygienic true in
theorem Qb4(h:yQ e=(c,aa i)):∃x t u,e.key=.str x t/\e.val=.int i u/\x.cps.toList=c:=by
 unfold yQ at h;split at h
 ·rename_i p q;obtain⟨⟨x,t⟩,⟨j,u⟩⟩:=p;have h1:x.cps.toList=c:=congrArg Prod.fst h;have h2:aa j=aa i:=congrArg Prod.snd h;obtain rfl:=aB h2;exact⟨x,t,u,QZ (cX q).1,Hc (cX q).2,h1⟩
 ·exact absurd (congrArg Prod.snd h) (λz=>nomatch z)
theorem Qb5{w:d9}(y:ar)(es:List dX):∀(l:List (List Nat×Int)),StrEnts w es->es.map yQ=l.map (λp=>(p.1,aa p.2))->
  (∃t:Int->fL,((es.find? λe=>IW y e.key).map (·.val))=(l.lookup y.cps.toList).map λi=>.int i (t i)):=by
 induction es with
 |nil=>
  intro l _ h
  cases l with
  |nil=>exact(bC (λ_=>0) rfl)
  |cons _ _=>injection h
 |cons e r ih=>
  intro l hs h
  cases l with
  |nil=>injection h
  |cons p l=>
   rw[cA,cA]at h
   refine aF (DF h) λh1 h2=>?_
   refine aD (ih l hs.2 h2) λt' ih=>?_
   obtain⟨pc,pi⟩:=p
   have h1:yQ e=(pc,aa pi):=h1
   refine k7 (Qb4 h1) λx t u e1 e2 e3=>?_
   have e4:IW y e.key=(x==y):=by refine ag e1 ?_;rfl
   rw[TY,pT];refine ag e4 (a8 e3 ?_)
   by_cases q:x=y
   ·subst q;rw[beq_self_eq_true];exact⟨λ_=>u,by rw[beq_self_eq_true];exact congrArg aa e2⟩
   ·refine ag (beq_eq_false_iff_ne.mpr q) (ag (beq_eq_false_iff_ne.mpr (λz:y.cps.toList=x.cps.toList=>q (Hd.mpr z.symm))) ?_);exact⟨t',ih⟩
theorem Qb6(w:d9):∀es ep,(pD w.params).data =.dict es ep->StrEnts w es.toList/\es.toList.map yQ=fS.map (λp=>(p.1,aa p.2)):=λes ep e=>by obtain⟨rfl,rfl⟩:=QgO e;refine⟨?_,by kernel_rfl⟩;repeat(first|exact trivial|refine⟨(hU _ _ rfl rfl),?_⟩)
theorem Q2{prog:rB}{w:d9}{h:cC}{a:au}(ho:h.get? a=aa (pD w.params)):
  ∃f:ar->Option ao,h.MapOf (IX prog w) a f/\∀y,∃t:Int->fL,f y=(fS.lookup y.cps.toList).map λi=>.int i (t i):=by
 refine aF (Qb6 w _ _ rfl) λk1 k2=>?_
 refine(aO _ (⟨_,_,_,ho,⟨rfl,rfl,rfl⟩,rfl,λe he=>?_,λk=>rfl⟩) (λy=>?_))
 ·refine d7 (k1.at e (Qg7.mpr he)) λx t e1 e2=>?_;exact(aO x (by refine ag e1 ?_;simp[IX,IW]) e2)
 ·refine aD (Qb5 y _ _ k1 k2) λt e=>?_;refine(bC t ?_);refine a8 e ?_;unfold findBy;rw[<-Qg8];rfl
theorem Hh(x:ar)(t:fL):(IX pw w).is x (.str x t)=ae:=by simp[IX,IW]
theorem Qb7{w:d9}{mg mb:ar->Option ao}{G:∀t,mg (lh t)=aa (match t with| .b1 =>.ref 71| .b3 =>.ref 82| .tok =>.ref 128)}:TabOk (bv w mg mb) aA:=by
 have h71:∀h,(bv w mg mb).Bs h->h.get? 71=aa (jk w.params):=λh b=>b.2.2.2.1 71 _ rfl;have JV:∀h,(bv w mg mb).Bs h->h.get? 82=aa (oD nu.length):=λh b=>b.2.2.2.1 82 _ rfl;have U3:∀h,(bv w mg mb).Bs h->h.get? 128=aa (pD w.params):=λh b=>b.2.2.2.1 128 _ rfl;refine⟨λt=>(oh _ (G t) ?_ ?_ ?_)⟩
 ·intro neg A n X s u d b Q aq bs h r hQ;cases t with
  |b3=>injection h
  |b1=>
   refine ai (bO.mp h) λi h1 h2=>?_;have e1:=hY h1;clear h1;subst e1;have h2:oR.contains i=b:=h2;subst h2;refine aD r.int_inv λt am=>?_;clear r;subst am;have S:=Qb3 (prog:=pw) (w:=w) (h71 _ bs);cases neg
   ·exact wpAny_inSet_of (k:=i) (intKind_is pw w i _) rfl S (by have z:=hQ _ (Ext.tok (s.toks+1));simpa[aA]using z)
   ·exact wpAny_notInSet_of (k:=i) (intKind_is pw w i _) rfl S (by have z:=hQ _ (Ext.tok (s.toks+1));simpa[aA]using z)
  |tok=>
   refine ai (bO.mp h) λx h1 h2=>?_;have e1:=gc h1;clear h1;subst e1;have h2:(fS.lookup x.cps.toList).isSome =b:=h2;subst h2;refine ai r.str_inv λt am _=>?_;clear r;subst am;refine ai (Q2 (prog:=pw) (U3 _ bs)) λf M hf=>?_;refine aD (hf x) λtk e=>?_;have e':(f x).isSome =(fS.lookup x.cps.toList).isSome :=by refine ag e ?_;simp
   cases neg
   ·exact wpAny_in_of (k:=x) (Hh x _) rfl M (by refine ag e' ?_;have z:=hQ _ (Ext.tok (s.toks+1));simpa[aA]using z)
   ·exact wpAny_notIn_of (k:=x) (Hh x _) rfl M (by refine ag e' ?_;have z:=hQ _ (Ext.tok (s.toks+1));simpa[aA]using z)
 ·intro A n X s u d r Q aq bs h rp hQ;have hr:t=.tok :=by cases t<;>first|rfl|injection h
  subst hr;refine ai (bx.mp h) λx h1 h2=>?_;have e1:=gc h1;clear h1;subst e1;refine ai rp.str_inv λt am _=>?_;clear rp;subst am;refine ai (Q2 (prog:=pw) (U3 _ bs)) λf M hf=>?_;refine aD (hf x) λtk e=>?_;refine ai (bO.mp h2) λi hi e2=>?_;subst e2;refine⟨(aO _ NT M.typeIs),wpAny_getItem_of (k:=x) (v:=.int i (tk i)) (Hh x _) M ?_ (hQ _ _ (Ext.tok _) (.int _ _))⟩;refine ag e ?_;have:fS.lookup x.cps.toList=aa i:=hi;refine ag this ?_;rfl
 ·intro d r h;have hr:t=.b3 :=by cases t<;>first|rfl|injection h
  subst hr;refine ai (bO.mp h) λi h1 h2=>?_;have e1:=hY h1;clear h1;subst e1;subst h2;refine⟨λs bs=>⟨(Q0 (prog:=pw) (w:=w) (JV _ bs) zg).typeIs,λa ha=>?_⟩,λA n X s u Q aq bs rp hQ=>?_⟩
  ·obtain rfl:=zr ha;exact(aO _ (JV _ bs) rfl)
  ·refine aD rp.int_inv λt am=>?_;clear rp;subst am;have M:=Q0 (prog:=pw) (w:=w) (JV _ bs) zg;refine call_meetsIn PySem.F.slot_dict_get M.typeIs PySem.F.entry_dict_get (PySem.F.args_dict_get_2 _ _) (meets_dict_get (pY pw w) 82 (k:=i) (intKind_is pw w i _) rfl) ⟨_,M,?_⟩;have key:=QbZ i nu Hf;cases q:nu.find? λe=>o7 i e.key with
   |none=>rw[q]at key;refine hQ _ _ (Ext.tok _) ?_;have:aA.b3.lookup i=ac:=key;refine ag this ?_;exact .none
   |some e=>refine fi (Qb0 i Hf q) λx t' e1=>?_;rw[q,bF,e1]at key;refine hQ _ _ (Ext.tok _) ?_;have:aA.b3.lookup i=aa x.cps.toList:=key;refine ag this ?_;rw[bF];refine ag e1 ?_;have hl:=eA.mp Qb1 e (Qg6 q);rw[e1]at hl;exact .str _ _ (nR (of_decide_eq_true hl) (by decide))
noncomputable def CF:List (ar×dR)->List ar->Bool
 |_,[]=>ae
 |[],_::_=>af
 |(y,k)::r,x::ps=>y==x&&(k==.local ||k==.cell)&&CF r ps
theorem Q3:∀{names:List (ar×dR)}{ps:List ar},CF names ps=ae->∀(i:Nat)(x:ar),ps[i]?=aa x->∃kd,names[i]?=aa (x,kd)/\(kd=.local \/kd=.cell)
 |_,[],_,i,x,h=>by injection h
 |[],_::_,h,_,_,_=>by injection h
 |(y,k)::r,p::ps,h,i,x,hi=>by
  simp only[CF,bo,mK,bV]at h;obtain⟨⟨rfl,hk⟩,hr⟩:=h;cases i with
  |zero=>simp at hi;subst hi;exact(aO k rfl hk)
  |succ i=>simpa using Q3 hr i x (by simpa using hi)
def Q4(sc:mD)(ps:List ar):Bool:= !sc.isCoroutine&& !sc.isGenerator&&sc.kind==.function &&decide (sc.names.map (·.1)).Nodup &&sc.names.all (λx=>x.2 !=.free)&&CF sc.names ps
theorem gq(h:Q4 (d8 (bW i)) ps=ae)(hb:∀vs:List ao,vs.length=ps.length->bindArgs (F i x 3 pm cd 0) ⟨vs,[]⟩=pure (ps.zip vs)):
  FnForm (F i x 3 pm cd 0) (cR (bW i)) ps:=by
 simp only[Q4,bo,rI,bV,bl,eA,bne_iff_ne]at h
 obtain⟨⟨⟨⟨⟨h1,h2⟩,h3⟩,h4⟩,h5⟩,h6⟩:=h
 exact⟨rfl,rfl,rfl,rfl,h1,h2,h3,h4,h5,Q3 h6,hb⟩
def fT(i:Nat):Option MF:=Fy (vE (bW i)) (d8 (bW i)) (cR (bW i))
set_option tactic.hygienic true in
theorem gU(h:Fy a sc b=aa m):∃c:Cx,c.names=sc.names/\kf (i6 20 c) b=aa m.body/\m.nParams=a.args.length/\m.nNames=sc.names.length:=by
 unfold Fy at h;dsimp only at h;split at h
 ·rename_i b' e;obtain rfl:=aB h;exact(oh _ rfl e rfl rfl)
 ·injection h
theorem gu(X:eX.In (kB P) h)(e:(kB P).lookup cd=aa o)(hd:o.data=.fields vs)(hq:vs[1]?=aa (.str (aG x) t)):
  h.CodeRec (.ref cd) (aG x):=⟨cd,o,vs,t,rfl,X _ _ e,hd,hq⟩
theorem vU(h:vs.length=n+1):∃a r,vs=a::r/\r.length=n:=by
 cases vs with
 |nil=>cases h
 |cons a r=>exact(hU a r rfl (Dq h))
theorem nA(h:vs.length=1):∃v0,vs=[v0]:=by refine d7 (vU h) λa r av h'=>?_;clear h;subst av;exact(bC a (by exact ag (Dw.mp h') rfl))
theorem pG(h:vs.length=2):∃v0 v1,vs=[v0,v1]:=by refine d7 (vU h) λv0 r av h'=>?_;clear h;subst av;refine aD (nA h') λv1 am=>?_;subst am;exact(eR v0 v1 rfl)
theorem CG(h:vs.length=3):∃v0 v1 v2,vs=[v0,v1,v2]:=by refine d7 (vU h) λv0 r av h'=>?_;clear h;subst av;refine fi (pG h') λv1 v2 av=>?_;subst av;exact(Ai v0 v1 v2 rfl)
theorem Qb8(h:vs.length=4):∃v0 v1 v2 v3,vs=[v0,v1,v2,v3]:=by refine d7 (vU h) λv0 r av h'=>?_;clear h;subst av;refine pj (CG h') λv1 v2 v3 bB=>?_;subst bB;exact(EC v0 v1 v2 v3 rfl)
theorem Q5(h:vs.length=5):∃v0 v1 v2 v3 v4,vs=[v0,v1,v2,v3,v4]:=by refine d7 (vU h) λv0 r av h'=>?_;clear h;subst av;refine uR (Qb8 h') λv1 v2 v3 v4 fM=>?_;subst fM;exact(VM v0 v1 v2 v3 v4 rfl)
theorem Qb9(h:vs.length=6):∃v0 v1 v2 v3 v4 v5,vs=[v0,v1,v2,v3,v4,v5]:=by refine d7 (vU h) λv0 r av h'=>?_;clear h;subst av;refine Ks (Q5 h') λv1 v2 v3 v4 v5 JW=>?_;subst JW;exact(Ku v0 v1 v2 v3 v4 v5 rfl)
theorem Qca:FnForm (F 2 "_div2n1n" 3 (S "cpy313._pylong" 187) (R 20) 0) (cR (bW 2)) [aG "a",aG "b",aG "n"]:=gq (by kernel_rfl) λvs h=>by refine pj (CG h) λv0 v1 v2 bB=>?_;clear h;subst bB;rfl
theorem Qcb:FnForm (F 3 "_div3n2n" 3 (S "cpy313._pylong" 187) (R 27) 0) (cR (bW 3)) [aG "a12",aG "a3",aG "b",aG "b1",aG "b2",aG "n"]:=gq (by kernel_rfl) λvs h=>by refine Kt (Qb9 h) λv0 v1 v2 v3 v4 v5 lX=>?_;clear h;subst lX;rfl
theorem Qcc:FnForm (F 4 "_int2digits" 3 (S "cpy313._pylong" 187) (R 34) 0) (cR (bW 4)) [aG "a",aG "n"]:=gq (by kernel_rfl) λvs h=>by refine fi (pG h) λv0 v1 av=>?_;clear h;subst av;rfl
theorem Qcd:FnForm (F 5 "_digits2int" 3 (S "cpy313._pylong" 187) (R 41) 0) (cR (bW 5)) [aG "digits",aG "n"]:=gq (by kernel_rfl) λvs h=>by refine fi (pG h) λv0 v1 av=>?_;clear h;subst av;rfl
theorem Qce:FnForm (F 6 "_divmod_pos" 3 (S "cpy313._pylong" 187) (R 48) 0) (cR (bW 6)) [aG "a",aG "b"]:=gq (by kernel_rfl) λvs h=>by refine fi (pG h) λv0 v1 av=>?_;clear h;subst av;rfl
theorem Qcf:FnForm (F 7 "int_divmod" 3 (S "cpy313._pylong" 187) (R 55) 0) (cR (bW 7)) [aG "a",aG "b"]:=gq (by kernel_rfl) λvs h=>by refine fi (pG h) λv0 v1 av=>?_;clear h;subst av;rfl
theorem Qcg:FnForm (F 10 "_ellipsis_match" 3 (S "cpy313.doctest" 269) (R 62) 0) (cR (bW 10)) [aG "want",aG "got"]:=gq (by kernel_rfl) λvs h=>by refine fi (pG h) λv0 v1 av=>?_;clear h;subst av;rfl
theorem Qch:FnForm (F 13 "in_table_b1" 3 (S "cpy313.stringprep" 285) (R 80) 0) (cR (bW 13)) [aG "code"]:=gq (by kernel_rfl) λvs h=>by refine aD (nA h) λv0 am=>?_;clear h;subst am;rfl
theorem Qci:FnForm (F 15 "map_table_b3" 3 (S "cpy313.stringprep" 285) (R 126) 0) (cR (bW 15)) [aG "code"]:=gq (by kernel_rfl) λvs h=>by refine aD (nA h) λv0 am=>?_;clear h;subst am;rfl
theorem Qcj:FnForm (F 68 "ISTERMINAL" 3 (S "cpy313.token" 2313) (R 136) 0) (cR (bW 68)) [aG "x"]:=gq (by kernel_rfl) λvs h=>by refine aD (nA h) λv0 am=>?_;clear h;subst am;rfl
theorem Qck:FnForm (F 69 "ISNONTERMINAL" 3 (S "cpy313.token" 2313) (R 143) 0) (cR (bW 69)) [aG "x"]:=gq (by kernel_rfl) λvs h=>by refine aD (nA h) λv0 am=>?_;clear h;subst am;rfl
theorem Qcl:FnForm (F 70 "ISEOF" 3 (S "cpy313.token" 2313) (R 150) 0) (cR (bW 70)) [aG "x"]:=gq (by kernel_rfl) λvs h=>by refine aD (nA h) λv0 am=>?_;clear h;subst am;rfl
theorem Qcm:FnForm (F 72 "_law_unseen" 3 (S "law_uc0059_01" 2533) (R 157) 0) (cR (bW 72)) [aG "place"]:=gq (by kernel_rfl) λvs h=>by refine aD (nA h) λv0 am=>?_;clear h;subst am;rfl
theorem Qcn:FnForm (F 73 "_law_spelled" 3 (S "law_uc0059_01" 2533) (R 164) 0) (cR (bW 73)) [aG "code",aG "way"]:=gq (by kernel_rfl) λvs h=>by refine fi (pG h) λv0 v1 av=>?_;clear h;subst av;rfl
theorem Qco:FnForm (F 74 "_law_drawn" 3 (S "law_uc0059_01" 2533) (R 171) 0) (cR (bW 74)) [aG "script"]:=gq (by kernel_rfl) λvs h=>by refine aD (nA h) λv0 am=>?_;clear h;subst am;rfl
theorem Qcp:FnForm (F 75 "_law_read" 3 (S "law_uc0059_01" 2533) (R 176) 0) (cR (bW 75)) [aG "text"]:=gq (by kernel_rfl) λvs h=>by refine aD (nA h) λv0 am=>?_;clear h;subst am;rfl
theorem Qcq:FnForm (F 76 "_law_divided" 3 (S "law_uc0059_01" 2533) (R 183) 0) (cR (bW 76)) [aG "top",aG "low",aG "way"]:=gq (by kernel_rfl) λvs h=>by refine pj (CG h) λv0 v1 v2 bB=>?_;clear h;subst bB;rfl
theorem Qcr:FnForm (F 77 "_law_shown" 3 (S "law_uc0059_01" 2533) (R 188) 0) (cR (bW 77)) [aG "row",aG "signs",aG "wide",aG "share",aG "way"]:=gq (by kernel_rfl) λvs h=>by refine Ks (Q5 h) λv0 v1 v2 v3 v4 JW=>?_;clear h;subst JW;rfl
theorem Qcs:FnForm (F 78 "_law_longest" 3 (S "law_uc0059_01" 2533) (R 193) 0) (cR (bW 78)) [aG "tape",aG "place"]:=gq (by kernel_rfl) λvs h=>by refine fi (pG h) λv0 v1 av=>?_;clear h;subst av;rfl
theorem Qct:FnForm (F 79 "_law_due" 3 (S "law_uc0059_01" 2533) (R 200) 0) (cR (bW 79)) [aG "row"]:=gq (by kernel_rfl) λvs h=>by refine aD (nA h) λv0 am=>?_;clear h;subst am;rfl
theorem Qcu:FnForm (F 80 "law" 3 (S "law_uc0059_01" 2533) (R 205) 0) (cR (bW 80)) [aG "script"]:=gq (by kernel_rfl) λvs h=>by refine aD (nA h) λv0 am=>?_;clear h;subst am;rfl
section
variable {w:d9} {mg mb:ar->Option ao} {h₀:cC}
theorem Qcv(X:eX.In (eK w.params) h₀)(G:h₀.Ns ew mg)(hm:fT 2=aa m):DefAt (bv w mg mb) 0 m:=by refine fy (gU hm) λc c1 c2 c3 c4=>?_;refine⟨λx hx=>?_⟩;obtain rfl:x=aG "_div2n1n":=(aB hx).symm;exact⟨21,jg,_,_,_,c,20,fh X G (by kernel_rfl),λh b=>b.2.2.2.1 21 _ rfl,rfl,Qca,λh b _=>gu b.2.2.2.1 rfl rfl rfl,c1,c2,c3.trans rfl,c4⟩
theorem Qcw(X:eX.In (eK w.params) h₀)(G:h₀.Ns ew mg)(hm:fT 3=aa m):DefAt (bv w mg mb) 1 m:=by refine fy (gU hm) λc c1 c2 c3 c4=>?_;refine⟨λx hx=>?_⟩;obtain rfl:x=aG "_div3n2n":=(aB hx).symm;exact⟨28,iJ,_,_,_,c,20,fh X G (by kernel_rfl),λh b=>b.2.2.2.1 28 _ rfl,rfl,Qcb,λh b _=>gu b.2.2.2.1 rfl rfl rfl,c1,c2,c3.trans rfl,c4⟩
theorem Qcx(X:eX.In (eK w.params) h₀)(G:h₀.Ns ew mg)(hm:fT 6=aa m):DefAt (bv w mg mb) 4 m:=by refine fy (gU hm) λc c1 c2 c3 c4=>?_;refine⟨λx hx=>?_⟩;obtain rfl:x=aG "_divmod_pos":=(aB hx).symm;exact⟨49,kA,_,_,_,c,20,fh X G (by kernel_rfl),λh b=>b.2.2.2.1 49 _ rfl,rfl,Qce,λh b _=>gu b.2.2.2.1 rfl rfl rfl,c1,c2,c3.trans rfl,c4⟩
theorem Qcy(X:eX.In (eK w.params) h₀)(G:h₀.Ns ew mg)(hm:fT 7=aa m):DefAt (bv w mg mb) 5 m:=by refine fy (gU hm) λc c1 c2 c3 c4=>?_;refine⟨λx hx=>?_⟩;obtain rfl:x=aG "int_divmod":=(aB hx).symm;exact⟨56,jS,_,_,_,c,20,fh X G (by kernel_rfl),λh b=>b.2.2.2.1 56 _ rfl,rfl,Qcf,λh b _=>gu b.2.2.2.1 rfl rfl rfl,c1,c2,c3.trans rfl,c4⟩
theorem Qcz(X:eX.In (eK w.params) h₀)(G:h₀.Ns ew mg)(hm:fT 10=aa m):DefAt (bv w mg mb) 6 m:=by refine fy (gU hm) λc c1 c2 c3 c4=>?_;refine⟨λx hx=>?_⟩;obtain rfl:x=aG "_ellipsis_match":=(aB hx).symm;exact⟨63,lF,_,_,_,c,20,fh X G (by kernel_rfl),λh b=>b.2.2.2.1 63 _ rfl,rfl,Qcg,λh b _=>gu b.2.2.2.1 rfl rfl rfl,c1,c2,c3.trans rfl,c4⟩
theorem QcA(X:eX.In (eK w.params) h₀)(G:h₀.Ns ew mg)(hm:fT 13=aa m):DefAt (bv w mg mb) 7 m:=by refine fy (gU hm) λc c1 c2 c3 c4=>?_;refine⟨λx hx=>?_⟩;obtain rfl:x=aG "in_table_b1":=(aB hx).symm;exact⟨81,nr,_,_,_,c,20,fh X G (by kernel_rfl),λh b=>b.2.2.2.1 81 _ rfl,rfl,Qch,λh b _=>gu b.2.2.2.1 rfl rfl rfl,c1,c2,c3.trans rfl,c4⟩
theorem QcB(X:eX.In (eK w.params) h₀)(G:h₀.Ns ew mg)(hm:fT 15=aa m):DefAt (bv w mg mb) 8 m:=by refine fy (gU hm) λc c1 c2 c3 c4=>?_;refine⟨λx hx=>?_⟩;obtain rfl:x=aG "map_table_b3":=(aB hx).symm;exact⟨127,te,_,_,_,c,20,fh X G (by kernel_rfl),λh b=>b.2.2.2.1 127 _ rfl,rfl,Qci,λh b _=>gu b.2.2.2.1 rfl rfl rfl,c1,c2,c3.trans rfl,c4⟩
theorem QcC(X:eX.In (eK w.params) h₀)(G:h₀.Ns ew mg)(hm:fT 68=aa m):DefAt (bv w mg mb) 9 m:=by refine fy (gU hm) λc c1 c2 c3 c4=>?_;refine⟨λx hx=>?_⟩;obtain rfl:x=aG "ISTERMINAL":=(aB hx).symm;exact⟨137,vL,_,_,_,c,20,fh X G (by kernel_rfl),λh b=>b.2.2.2.1 137 _ rfl,rfl,Qcj,λh b _=>gu b.2.2.2.1 rfl rfl rfl,c1,c2,c3.trans rfl,c4⟩
theorem QcD(X:eX.In (eK w.params) h₀)(G:h₀.Ns ew mg)(hm:fT 69=aa m):DefAt (bv w mg mb) 10 m:=by refine fy (gU hm) λc c1 c2 c3 c4=>?_;refine⟨λx hx=>?_⟩;obtain rfl:x=aG "ISNONTERMINAL":=(aB hx).symm;exact⟨144,vM,_,_,_,c,20,fh X G (by kernel_rfl),λh b=>b.2.2.2.1 144 _ rfl,rfl,Qck,λh b _=>gu b.2.2.2.1 rfl rfl rfl,c1,c2,c3.trans rfl,c4⟩
theorem QcE(X:eX.In (eK w.params) h₀)(G:h₀.Ns ew mg)(hm:fT 70=aa m):DefAt (bv w mg mb) 11 m:=by refine fy (gU hm) λc c1 c2 c3 c4=>?_;refine⟨λx hx=>?_⟩;obtain rfl:x=aG "ISEOF":=(aB hx).symm;exact⟨151,vN,_,_,_,c,20,fh X G (by kernel_rfl),λh b=>b.2.2.2.1 151 _ rfl,rfl,Qcl,λh b _=>gu b.2.2.2.1 rfl rfl rfl,c1,c2,c3.trans rfl,c4⟩
theorem QcF(X:eX.In (eK w.params) h₀)(G:h₀.Ns ew mg)(hm:fT 72=aa m):DefAt (bv w mg mb) 12 m:=by refine fy (gU hm) λc c1 c2 c3 c4=>?_;refine⟨λx hx=>?_⟩;obtain rfl:x=aG "_law_unseen":=(aB hx).symm;exact⟨158,yy,_,_,_,c,20,fh X G (by kernel_rfl),λh b=>b.2.2.2.1 158 _ rfl,rfl,Qcm,λh b _=>gu b.2.2.2.1 rfl rfl rfl,c1,c2,c3.trans rfl,c4⟩
theorem QcG(X:eX.In (eK w.params) h₀)(G:h₀.Ns ew mg)(hm:fT 73=aa m):DefAt (bv w mg mb) 13 m:=by refine fy (gU hm) λc c1 c2 c3 c4=>?_;refine⟨λx hx=>?_⟩;obtain rfl:x=aG "_law_spelled":=(aB hx).symm;exact⟨165,yz,_,_,_,c,20,fh X G (by kernel_rfl),λh b=>b.2.2.2.1 165 _ rfl,rfl,Qcn,λh b _=>gu b.2.2.2.1 rfl rfl rfl,c1,c2,c3.trans rfl,c4⟩
theorem QcH(X:eX.In (eK w.params) h₀)(G:h₀.Ns ew mg)(hm:fT 74=aa m):DefAt (bv w mg mb) 14 m:=by refine fy (gU hm) λc c1 c2 c3 c4=>?_;refine⟨λx hx=>?_⟩;obtain rfl:x=aG "_law_drawn":=(aB hx).symm;exact⟨172,yA,_,_,_,c,20,fh X G (by kernel_rfl),λh b=>b.2.2.2.1 172 _ rfl,rfl,Qco,λh b _=>gu b.2.2.2.1 rfl rfl rfl,c1,c2,c3.trans rfl,c4⟩
theorem QcI(X:eX.In (eK w.params) h₀)(G:h₀.Ns ew mg)(hm:fT 75=aa m):DefAt (bv w mg mb) 15 m:=by refine fy (gU hm) λc c1 c2 c3 c4=>?_;refine⟨λx hx=>?_⟩;obtain rfl:x=aG "_law_read":=(aB hx).symm;exact⟨177,B9,_,_,_,c,20,fh X G (by kernel_rfl),λh b=>b.2.2.2.1 177 _ rfl,rfl,Qcp,λh b _=>gu b.2.2.2.1 rfl rfl rfl,c1,c2,c3.trans rfl,c4⟩
theorem QcJ(X:eX.In (eK w.params) h₀)(G:h₀.Ns ew mg)(hm:fT 76=aa m):DefAt (bv w mg mb) 16 m:=by refine fy (gU hm) λc c1 c2 c3 c4=>?_;refine⟨λx hx=>?_⟩;obtain rfl:x=aG "_law_divided":=(aB hx).symm;exact⟨184,Ca,_,_,_,c,20,fh X G (by kernel_rfl),λh b=>b.2.2.2.1 184 _ rfl,rfl,Qcq,λh b _=>gu b.2.2.2.1 rfl rfl rfl,c1,c2,c3.trans rfl,c4⟩
theorem QcK(X:eX.In (eK w.params) h₀)(G:h₀.Ns ew mg)(hm:fT 77=aa m):DefAt (bv w mg mb) 17 m:=by refine fy (gU hm) λc c1 c2 c3 c4=>?_;refine⟨λx hx=>?_⟩;obtain rfl:x=aG "_law_shown":=(aB hx).symm;exact⟨189,Cb,_,_,_,c,20,fh X G (by kernel_rfl),λh b=>b.2.2.2.1 189 _ rfl,rfl,Qcr,λh b _=>gu b.2.2.2.1 rfl rfl rfl,c1,c2,c3.trans rfl,c4⟩
theorem QcL(X:eX.In (eK w.params) h₀)(G:h₀.Ns ew mg)(hm:fT 78=aa m):DefAt (bv w mg mb) 18 m:=by refine fy (gU hm) λc c1 c2 c3 c4=>?_;refine⟨λx hx=>?_⟩;obtain rfl:x=aG "_law_longest":=(aB hx).symm;exact⟨194,GQ,_,_,_,c,20,fh X G (by kernel_rfl),λh b=>b.2.2.2.1 194 _ rfl,rfl,Qcs,λh b _=>gu b.2.2.2.1 rfl rfl rfl,c1,c2,c3.trans rfl,c4⟩
theorem QcM(X:eX.In (eK w.params) h₀)(G:h₀.Ns ew mg)(hm:fT 79=aa m):DefAt (bv w mg mb) 19 m:=by refine fy (gU hm) λc c1 c2 c3 c4=>?_;refine⟨λx hx=>?_⟩;obtain rfl:x=aG "_law_due":=(aB hx).symm;exact⟨201,GR,_,_,_,c,20,fh X G (by kernel_rfl),λh b=>b.2.2.2.1 201 _ rfl,rfl,Qct,λh b _=>gu b.2.2.2.1 rfl rfl rfl,c1,c2,c3.trans rfl,c4⟩
end
noncomputable def Q6:List (Nat×Nat):=[(0,2),(1,3),(4,6),(5,7),(6,10),(7,13),(8,15),(9,68),(10,69),(11,70),(12,72),(13,73),(14,74),(15,75),(16,76),(17,77),(18,78),(19,79)]
def gv(g:Nat):Option MF:=(Q6.lookup g).bind fT
theorem ig{P:α->Prop}{r:List (Nat×α)}(h1:g=a->P b)(h2:Says (r.lookup g) P):Says (List.lookup g ((a,b)::r)) P:=by
 show Says (match g==a with|true=>aa b|false=>r.lookup g) P
 cases h:g==a with
 |true=>exact h1 (eq_of_beq h)
 |false=>exact h2
noncomputable def vV(g:Nat):Bool:=g==2||g==3
theorem QcN{mg mb:ar->Option ao}(X:eX.In (eK w.params) h₀)(G:h₀.Ns ew mg)(g:Nat)(m:MF)(h:gv g=aa m):DefAt (bv w mg mb) g m:=by
 refine ai (bx.mp h) λi hi hm=>?_;exact(show Says (Q6.lookup g) (λi=>∀m,fT i=aa m->DefAt (bv w mg mb) g m)from
  ig (λe m h=>e▸Qcv X G h)<|
  ig (λe m h=>e▸Qcw X G h)<|
  ig (λe m h=>e▸Qcx X G h)<|
  ig (λe m h=>e▸Qcy X G h)<|
  ig (λe m h=>e▸Qcz X G h)<|
  ig (λe m h=>e▸QcA X G h)<|
  ig (λe m h=>e▸QcB X G h)<|
  ig (λe m h=>e▸QcC X G h)<|
  ig (λe m h=>e▸QcD X G h)<|
  ig (λe m h=>e▸QcE X G h)<|
  ig (λe m h=>e▸QcF X G h)<|
  ig (λe m h=>e▸QcG X G h)<|
  ig (λe m h=>e▸QcH X G h)<|
  ig (λe m h=>e▸QcI X G h)<|
  ig (λe m h=>e▸QcJ X G h)<|
  ig (λe m h=>e▸QcK X G h)<|
  ig (λe m h=>e▸QcL X G h)<|
  ig (λe m h=>e▸QcM X G h)<|
  trivial).get hi m hm
theorem QcO(ok:(bv w mg mb).Ok)(X:eX.In (eK w.params) h₀)(G:h₀.Ns ew mg):Lib0 (bv w mg mb) aA where
 ok:=ok
 consts:=λx m h=>(show Says (sL x) (λm=>∃v,(bv w mg mb).mg x=aa v/\((∃i t,m=.ki i/\v=.int i t)\/∃y t,m=.ks y/\v=.str (bk y) t/\y.length<=1000))from
  gn (λe=>e▸(aO ((I 4000 189)) (fh X G (by kernel_rfl)) (.inl (hU _ _ rfl rfl)))) (gn (λe=>e▸(aO ((I 256 2413)) (fh X G (by kernel_rfl)) (.inl (hU _ _ rfl rfl))))
  (gn (λe=>e▸(aO ((I 0 2315)) (fh X G (by kernel_rfl)) (.inl (hU _ _ rfl rfl)))) (gn (λe=>e▸(aO ((S "..." 271)) (fh X G (by kernel_rfl)) (.inr (gO _ _ rfl rfl (by decide))))) trivial)))).get h
 bis:=λx b h=>by refine ag (On h) ?_;cases b<;>exact mg_none_of X G (by kernel_rfl)
 rng:=mg_none_of X G (by kernel_rfl)
 rvd:=mg_none_of X G (by kernel_rfl)
 tabs:=Qb7 (G:=λt=>by cases t<;>exact fh X G (by kernel_rfl))
end
section
open PySem.Calls
noncomputable def fC(n:Nat):List Int->Int
 |[]=>0
 |d::r=>d+fC n r*2^n
theorem Hi(n:Nat):∀a b:List Int,fC n (a++b)=fC n a+fC n b*2^(n*a.length)
 |[],b=>by simp[fC]
 |d::a,b=>by simp only[rN,fC,Hi n a b,ce];simp only[show n*(a.length+1)=n*a.length+n by simp only[qd,zv],IY,Tf,Int.mul_assoc];exact Z0 0x1d0452452570d00c80030d0200 [_,_,_] Yt
noncomputable def pH(n:Nat)(ds:List Int):Bool:=ds.all (λd=>decide (0<=d)&&decide (d<2^n))&&decide (n*ds.length<=900000)&&decide (ds.length<=65536)
theorem Q7(n:Nat):∀ds:List Int,(∀d∈ds,0<=d/\d<2^n)->0<=fC n ds/\fC n ds<2^(n*ds.length)
 |[],_=>by simp[fC]
 |d::r,h=>by
  refine ay λcG=>?_;refine aF (h d (.head _)) λh1 h2=>?_;refine aF (Q7 n r λx hx=>h x (.tail _ hx)) λh3 h4=>?_;apply cG;clear cG;simp only[fC,ce];simp only[show n*(r.length+1)=n*r.length+n by simp only[qd,zv],IY];have p:(0:Int)<2^n:=Ds (by decide);generalize hp:(2:Int)^n=P at*;generalize (2:Int)^(n*r.length)=Q at*;constructor
  ·have:=Int.mul_nonneg h3 (mC p);exact ot 0x70c02011c8047001 Yt h1 this
  ·have:(fC n r+1)*P<=Q*P:=Qgn h4 (mC p);simp only[Tf]at this;exact Z2 0xf4030183c86074034c8240 [_,_,_,_] Yt h2 this
def o4:List an->Option ((Int×Int)×List Int×Int)
 |[a,b,c,d]=>two (m7 a b) (two ((i9 c).bind fB) (gQ d))
 |_=>ac
theorem QcP{args:List an}{L R z:Int}{ds:List Int}(h:o4 args=aa ((L,R),ds,z)):∃xs,args=[.int L,.int R,.list xs,.int z]/\fB xs=aa ds:=by
 rcases args with _|⟨a,_|⟨b,_|⟨c,_|⟨d,_|⟨e,r⟩⟩⟩⟩⟩
 ·injection h
 ·injection h
 ·injection h
 ·injection h
 ·refine aF (cX h) λh1 h2=>?_;refine aF (cX h2) λh3 h4=>?_;refine ai (bx.mp h3) λxs h5 h6=>?_;refine aF (qA h1) λaM am=>?_;subst aM;subst am;refine ag (hY h4) (ag (kg h5) ?_);exact(aO xs rfl h6)
 ·injection h
def jn(m:Nat):bn:=λg args=>if g=40 then((o4 args).bind λp=>if 0<=p.2.2/\pH p.2.2.toNat p.2.1=ae/\0<=p.1.1/\p.1.1<p.1.2/\p.1.2<=p.2.1.length/\2*(p.1.2-p.1.1)<=2^m then aa (.int (fC p.2.2.toNat ((p.2.1.drop p.1.1.toNat).take (p.1.2-p.1.1).toNat)))else ac)else ac
theorem Q8(m:Nat){N:Nat}:Bu W (jn m) N:=λg x args d hg h=>by
 exfalso;have:g=40:=by
  unfold jn at h;split at h
  ·assumption
  ·injection h
 clear h;subst this;injection hg
theorem Q9{m:Nat}{args:List an}(h:jn m 40 (args++[d1,d2])=aa d):∃(L R z:Int)(xs:List an)(ds:List Int),args=[.int L,.int R]/\d1=.list xs/\d2=.int z/\fB xs=aa ds/\0<=z/\pH z.toNat ds=ae/\
  0<=L/\L<R/\R<=ds.length/\2*(R-L)<=2^m/\d=.int (fC z.toNat ((ds.drop L.toNat).take (R-L).toNat)):=by
 refine ay λcG=>?_
 unfold jn at h
 rw[aw rfl]at h
 refine ai (bx.mp h) λaM h1 h2=>?_;obtain⟨⟨L,R⟩,ds,z⟩:=aM
 refine ai (QcP h1) λxs e cV=>?_
 clear h
 apply cG;clear cG
 split at h2
 ·refine ay λcG=>?_;rename_i hc;refine VK hc λc1 c2 c3 c4 c5 c6=>?_;have e1:args=[.int L,.int R]/\[d1,d2]=[.list xs,.int z]:=List.append_inj' (t₁:=[d1,d2]) (t₂:=[.list xs,.int z]) (s₂:=[.int L,.int R]) e rfl;refine aF (DF e1.2) λe2 e3=>?_;apply cG;clear cG;exact⟨L,R,z,xs,ds,e1.1,e2,(DF e3).1,cV,c1,c2,c3,c4,c5,c6,(aB h2).symm⟩
 ·injection h2
theorem Hj{m:Nat}{L R z:Int}{xs:List an}{ds:List Int}(h1:fB xs=aa ds)(h2:0<=z)(h3:pH z.toNat ds=ae)(h4:0<=L)(h5:L<R)(h6:R<=ds.length)(h7:2*(R-L)<=2^m):
  jn m 40 [.int L,.int R,.list xs,.int z]=aa (.int (fC z.toNat ((ds.drop L.toNat).take (R-L).toNat))):=by
 refine(?_:(o4 [.int L,.int R,.list xs,.int z]=aa ((L,R),ds,z))->_) (by show two (aa (L,R)) (two (fB xs) (aa z))=_;refine ag h1 ?_;rfl)
 intro e
 unfold jn
 rw[aw rfl];refine ag e ?_;rw[IZ,aw ⟨h2,h3,h4,h5,h6,h7⟩]
theorem Ra(h:fB xs=aa ds):xs.length=ds.length/\xs=ds.map .int :=by have e:xs=ds.map .int :=AX (λ_ _=>hY) h;exact⟨by refine ag e ?_;rw[bq],e⟩
noncomputable def Hk:List MS:=[
 .ife (.cmp .eq (.bin .add (.v 0) (.ki 1)) (.v 1)) [.ret (.idx (.v 4) (.v 0))] [],
 .asg 2 (.bin .shr (.bin .add (.v 0) (.v 1)) (.ki 1)),
 .asg 3 (.bin .mul (.bin .sub (.v 2) (.v 0)) (.v 6)),
 .ret (.bin .add (.bin .shl (.call 40 [.v 2,.v 1,.v 4,.v 6]) (.v 3)) (.call 40 [.v 0,.v 2,.v 4,.v 6]))]
theorem vW(h0:0<=x)(h:x<2^k)(hk:k<=999999):di x=ae:=by
 unfold di;have:x.natAbs<2^k:=by
  have:(x.natAbs:Int)<((2^k:Nat):Int):=by refine ag (Iv h0) ?_;simpa using h
  exact_mod_cast this
 by_cases z:x.natAbs=0
 ·refine ag z ?_;decide
 ·have:=(Dt z).mpr this;simp;exact Lg hk this
theorem QcQ(m:Nat){L R z:Int}{xs:List an}{ds:List Int}(h1:fB xs=aa ds)(h2:0<=z)(h3:pH z.toNat ds=ae)(h4:0<=L)(h5:L<R)(h6:R<=ds.length)(h7:2*(R-L)<=2^(m+1))(T:Tabs)(Wf:Nat):
  ∃f',bc T (jn m) Wf 20 Hk [.val (.int L),.val (.int R),.un,.un,.val (.list xs),.un,.val (.int z)]=aa (.ret (.int (fC z.toNat ((ds.drop L.toNat).take (R-L).toNat))),f'):=by
 refine aF (Ra h1) λhl hx=>?_
 unfold Hk
 by_cases q:L+1=R
 ·have i1:L.toNat<ds.length:=W3 0x3500528228a28914a082282289380b001c0047b00217203240 [_] [_,_] Yt h4 h6 q;have ix:xs[L.toNat]?=aa (.int ds[L.toNat]):=by simp only[hx,dS,cf i1];rfl
  refine(?_:(hZ (.list xs) (.int L)=aa (.int ds[L.toNat]))->_) (by show(place L xs.length).bind (λj=>xs[j]?)=_;unfold place;rw[aw h4,aw (by exact W3 0x3ec0001ec208d88017203240 [_,_] [_,_] Yt h6 hl q)];exact ix);intro i2;refine(?_:((ds.drop L.toNat).take (R-L).toNat =[ds[L.toNat]])->_) (by simp only[show(R-L).toNat =1 from ot 0xd4b00814228225d04528a082082245282282089589b0b0085c80c9037203240 Yt q q,IP i1];rfl);intro e;have e2:fC z.toNat [ds[L.toNat]]=ds[L.toNat]:=by simp[fC]
  refine ag e (ag e2 ?_);have u1:bM .add (.int L) (.int 1)=aa (.int (L+1)):=rfl;have u2:dt .eq (.int (L+1)) (.int R)=aa ae:=by show aa (L+1==R)=_;exact ag (bV.mpr q) rfl
  exact⟨_,by simp only[iE,iD,kj,iC,fQ,cQ,Frm.get,cH,gG,u1,iF,Frm.peek,cU,u2,bF,dO,l9,A8,i2];rfl⟩
 ·have hm0:(L+R)/2^(1:Int).toNat =(L+R)/2:=rfl;generalize hM:(L+R)/2=M at*;have b1:L<M:=Lh h5 q hM;have b2:M<R:=Li h5 hM;have hh:2*(M-L)<=2^m/\2*(R-M)<=2^m:=by
   cases m with
   |zero=>exfalso;simp at h7;exact Lj h5 q h7
   |succ m=>
    have JX:(2:Int)^(m+1+1)=2*(2*2^m):=by rw[zw,zw];exact Lk
    have JY:(2:Int)^(m+1)=2*2^m:=by rw[zw];exact Ll
    exact Mk hM h7 JX JY
  have c1:=Hj (m:=m) (R:=R) h1 h2 h3 (L:=M) (ot 0x72011c004f200 Yt h4 b1) b2 h6 hh.2;have c2:=Hj (m:=m) (R:=M) h1 h2 h3 (L:=L) h4 b1 (Lm h5 h6 hM) hh.1;simp only[pH,bo,eA,bl]at h3;refine aF h3 λaM h33=>?_;obtain⟨h31,JZ⟩:=aM;generalize hn:z.toNat=n at*;have hz:z=(n:Int):=W3 0xd4074114a08914a28208a08974114a08a08208914a282082082257b00007001580b00d80b00 [_] [_] Yt h2 hn hn;generalize hA:fC n ((ds.drop M.toNat).take (R-M).toNat)=A at*;generalize hB:fC n ((ds.drop L.toNat).take (M-L).toNat)=B at*;have pg:∀(a b:Nat),∀d∈(ds.drop a).take b,0<=d/\d<2^n:=λa b d hd=>h31 d (pW (I0 hd));have bA:=Q7 n _ (pg M.toNat (R-M).toNat);rw[hA]at bA;have lA:((ds.drop M.toNat).take (R-M).toNat).length <=ds.length:=by rw[eV,dL];exact W4 0x15b0003500528208a08a28914a08208a08208a24d2ec000b0b00814208a08208a245082282282289180d0bb0002c2c02074013c8407b0020f200 [_] [_,_,_] Yt h4 h5 h6 b2
  have sA:di A=ae:=vW bA.1 bA.2 (by have:=rR n lA;exact Lo JZ this);have nz:(n:Int)<2^20/\((M-L)*n)<=900000/\0<=(M-L)*n:=by
   have e1:n*1<=n*ds.length:=rR n (W3 0x60091c804f0081ec000 [_] [_,_] Yt h4 h5 h6);have e2:n*(M-L).toNat <=n*ds.length:=rR n (W3 0x2d443200d4b01014a08208208914a08a28208a28a291180b0b0101c0047b0023741b443200 [_] [_,_,_] Yt h4 h6 hM);have e3:((n*(M-L).toNat :Nat):Int)=(M-L)*n:=by rw[mJ,Dx (by exact xC b1),wr]
   refine⟨Lp JZ e1,W3 0x70a2caa69a6401828b2a9a699206200dc0b00 [_,_] [_] Yt JZ e2 e3,qx 0x70015c0b00 Yt e3⟩
  have s1:di (M-L)=ae:=vW (k:=20) (xC b1) (W4 0xb510c800528208a48a29224f08208208284b0101c0047b0023741b443200182082082440 [_] [_,_,_] Yt h4 h6 hM h33) (by decide);have s2:di z=ae:=vW (k:=20) (eY 0x1c0047001 Yt h2) (W2 0xf0820820828405ec0003c20820820a1b00 [_] [_] Yt hz nz.1) (by decide);have key:fC n ((ds.drop L.toNat).take (R-L).toNat)=A*2^((M-L)*n).toNat +B:=by
   have e:(ds.drop L.toNat).take (R-L).toNat =(ds.drop L.toNat).take (M-L).toNat ++(ds.drop M.toNat).take (R-M).toNat :=by have e1:(R-L).toNat =(M-L).toNat +(R-M).toNat :=Z3 0x352c020508a082089d4b4001422820820822752d020508a08208208208974114a28208228208914a08a08a0822560ec2c022c2d002c2d020f2103c040f200 [_,_,_] Yt h5 b1 b2;refine ag e1 ?_;rw[List.take_add,ze];congr 3;exact ot 0xd48142282289d4b00814228208208227501d04528a08a08208a08224528228228225d04528a08228208224528228208a0895ac203b0b008b001c004f200 Yt h4 b1
   refine ag e ?_;rw[Hi];refine ag hA (ag hB ?_);rw[eV,dL,Int.add_comm];congr 3;have e3:((n*(M-L).toNat :Nat):Int)=(M-L)*n:=by rw[mJ,Dx (by exact xC b1),wr]
   refine a8 e3 ?_;rw[jY];congr 1;exact W5 0xd4b400142282082089d5034bb1002c2d0015b1000508a08208208a08208208a28914a08208208a28228208228228225d04528208914a08208934bb1002c2d0015b1000508a08208208a08208208208a24528208208228a08228208208228225d04528208914a0820895ac2d00342ec400b0b4001d004f2101ec0083c040f200 [_] [_,_,_] Yt h4 h5 h6 b1 b2
  refine ag key ?_;have t1:bM .mul (.int (M-L)) (.int z)=aa (.int ((M-L)*n)):=by show(if(di (M-L)&&di z)=ae then aa (bQ ((M-L)*z))else ac)=_;refine ag s1 (ag s2 (ag hz ?_));rfl
  have t2:bM .shl (.int A) (.int ((M-L)*n))=aa (.int (A*2^((M-L)*n).toNat)):=by show(if(decide (0<=(M-L)*(n:Int))&&decide ((M-L)*(n:Int)<=1000000)&&di A)=ae then aa (bQ (A*2^((M-L)*(n:Int)).toNat))else ac)=_;refine ag sA (ag (d6 nz.2.2) ?_);rw[d6 (wt nz.2.1 (by decide))];rfl
  have u1:bM .add (.int L) (.int R)=aa (.int (L+R)):=rfl;have u2:bM .shr (.int (L+R)) (.int 1)=aa (.int M):=by refine a8 hm0 ?_;rfl
  have u3:bM .sub (.int M) (.int L)=aa (.int (M-L)):=rfl;have u4:bM .add (.int L) (.int 1)=aa (.int (L+1)):=rfl;have u5:bM .add (.int (A*2^((M-L)*n).toNat)) (.int B)=aa (.int (A*2^((M-L)*n).toNat +B)):=rfl;have u6:dt .eq (.int (L+1)) (.int R)=aa af:=by show aa (L+1==R)=_;exact ag (beq_eq_false_iff_ne.mpr q) rfl
  simp only[iE,iD,kj,iC,fQ,cQ,Frm.get,ce,js,gB,Ub,Uc,getElem?_pos,Ud,gG,u4,iF,Frm.peek,Ue,Uf,u6,bF,dO,md,ja,u1,u2,Frm.put,dz,dC,u3,Nat.lt_add_one,t1,l9,jF,aV,c1,t2,c2,u5,IS,zx,true_and,exists_eq']
def iK:dF:=(cR (bW 5)).getD 0 (.Pass default)
noncomputable def CH:ax->Option (ax×Operator×ax×aR)| .BinOp l o r p=>aa (l,o,r,p)|_=>ac
theorem Rb(h:CH e=aa (l,o,r,p)):e=.BinOp l o r p:=(show Says (CH e) (λv=>e=.BinOp v.1 v.2.1 v.2.2.1 v.2.2.2)from by clear h;cases e using wL<;>first|exact io|exact rfl).get h
noncomputable def Hl:dF->Option (ax×aR)| .Return (aa e) p=>aa (e,p)|_=>ac
theorem QcR{st:dF}{e:ax}(h:Hl st=aa (e,p)):st=.Return (aa e) p:=(show Says (Hl st) (λv=>st=.Return (aa v.1) v.2)from by
 cases st with
 |Return oe p=>cases oe with
  |none=>exact io
  |some e=>exact rfl
 |_=>exact io).get h
def CI(e:ax):Option (List ax×aR×aR):=match xP e with
 |some (g,es,ks,p)=>(match pt g with
  |some (x,q)=>if x=="inner"&&ks.isEmpty&& !es.isEmpty then aa (es,q,p)else ac
  |none=>ac)
 |none=>ac
theorem Rc(h:CI e=aa (es,q,p)):e=.Call (.Name "inner" q) es [] p/\es.isEmpty=af:=by
 unfold CI at h;split at h
 ·rename_i hc;split at h
  ·rename_i hn;split at h
   ·rename_i hx;obtain⟨rfl,qh⟩:=dx (aB h);clear h;obtain⟨rfl,rfl⟩:=dx qh;simp only[bo,bV,rI,nO]at hx;refine ag (Fo hc) (ag (sM hn) (ag hx.1.1 (ag hx.1.2 ?_)));exact⟨rfl,hx.2⟩
   ·injection h
  ·injection h
 ·injection h
def Rd(c:Cx)(st:dF):Option (List MS):=(Hl st).bind λv=>(CH v.1).bind λb=>(two (CH b.1) (CI b.2.2.1)).bind λp=>
 (CI p.1.1).bind λq=>if b.2.1==.Add &&p.1.2.1==.LShift then(two (ct (br 20 c) q.1) (two (br 20 c p.1.2.2.1) (ct (br 20 c) p.2.1))).map
  λm=>[.ret (.bin .add (.bin .shl (.call 40 (m.1++[.v 4,.v 6])) m.2.1) (.call 40 (m.2.2++[.v 4,.v 6])))]else ac
def CJ(c:Cx)(st:dF):Option (List MS):=match Rd c st with
 |some a=>aa a
 |none=>i6 20 c st
def cD:Cx:={names:=(d8 iK).names}
theorem QcS:kf (CJ cD) (cR iK)=aa Hk:=by kernel_rfl
noncomputable def vX:List (ar×dR):=[("L",.local),("R",.local),("mid",.local),("shift",.local),("digits",.free),("inner",.free),("n",.free)]
theorem pI:(d8 iK).names =vX:=by kernel_rfl
noncomputable abbrev vY(cn ci cd:au):List (ar×au):=[("n",cn),("inner",ci),("digits",cd)]
noncomputable abbrev qD:ar:="_digits2int.<locals>.inner"
abbrev Re(ka:List (ar×au))(fw pm fF:ao)(c':au):o5:=fnX "inner" qD (vE iK) (cR iK) (d8 iK) ka .none .none fw pm ac (.ref c') fF
theorem QcT{cn ci cd:au}{fw pm fF:ao}{c':au}:CloForm (Re (vY cn ci cd) fw pm fF c') (cR iK) ["L","R"] (vY cn ci cd) where
 body:=rfl
 clo:=rfl
 glob:=rfl
 blt:=rfl
 co:=by kernel_rfl
 gen:=by kernel_rfl
 kind:=by kernel_rfl
 nodup:=by show((d8 iK).names.map (·.1)).Nodup;refine ag pI ?_;decide
 cell:=by show∀x∈(d8 iK).names,x.2≠.cell;refine ag pI ?_;decide
 free:=λi x h=>by
  refine(?_:((d8 iK).names[i]?=aa (x,.free))->_) (h);intro h;rw[pI]at h;unfold vX at h;rcases i with _|_|_|_|_|_|_|i<;>simp at h<;>subst h
  ·exact⟨cd,by rfl⟩
  ·exact⟨ci,by rfl⟩
  ·exact⟨cn,by rfl⟩
 pars:=λi x h=>by show(d8 iK).names[i]?=_;refine ag pI ?_;rcases i with _|_|i<;>simp at h<;>subst h<;>rfl
 bind:=λvs h=>by refine fi (pG h) λa b av=>?_;clear h;subst av;rfl
theorem QcU{N Wf:Nat}(L:Lib W T O N)(eo:EnvOk env)(df:env.scope.names=vX){cn ci cd f:au}(dq:env.cells=vY cn ci cd){o:be}{fd:o5}
  (mQ:∀h,W.Bs h->h.IsCell ci (aa (.ref f))) (ho:∀h,W.Bs h->h.get? f=aa o) (ux:o.data=.func fd) (uy:GB W O N 40 f cd cn [cn,ci,cd]):
  ∀st a,CJ cD st=aa a->lj W T O N Wf env st a:=by
 have cx:er cD env:=λi x k h=>(aO k (by refine ag df ?_;rw[show cD.names=vX from pI]at h;exact h) (.inl rfl))
 have sub:∀e m,br 20 cD e=aa m->SE W T O N env e m:=λe m h=>(li L 20 cD env e m cx eo h).se
 refine(?_:(∀{x:ar}{es:List ax}{ms:List ME}{np pos:aR},x="inner"->es.isEmpty=af->ct (br 20 cD) es=aa ms->SE W T O N env (.Call (.Name x np) es [] pos) (.call 40 (ms++[.v 4,.v 6])))->_) (λ{x es ms np pos} hx bT ht=>by
  subst hx;exact O7 L.ok eo (λe m h=>(iG h).1) (x1:="digits") (x2:="n") (k1:=.free) (k2:=.free) rfl (.inr (eo.kindAt (i:=5) (by refine ag df ?_;rfl))) (by refine ag dq ?_;rfl) mQ ho ux (by rintro rfl;injection bT)
   (by refine ag df ?_;rfl) (.inr rfl) (by refine ag dq ?_;rfl) (by refine ag df ?_;rfl) (.inr rfl) (by refine ag dq ?_;rfl) (λc hc=>by
    simp only[cB,j0,or_false]at hc;refine ag dq ?_;rcases hc with e|e|e<;>refine ag e ?_
    ·exact(bC ("n") rfl)
    ·exact(bC ("inner") rfl)
    ·exact(bC ("digits") rfl)) uy ht λe _ m h=>sub e m h)
 intro call
 intro st a h
 refine(?_:(i6 20 cD st=aa a->lj W T O N Wf env st a)->_) (λh=>BH L 20 cD env st a cx eo h);intro z
 cases hx:Rd cD st with
 |none=>exact z (by unfold CJ at h;rwa[hx]at h)
 |some a'=>
  refine ay λcG=>?_
  clear z;obtain rfl:a'=a:=by unfold CJ at h;rw[hx]at h;exact aB h
  refine ai (bx.mp hx) λaM hr hx=>?_;obtain⟨e,p0⟩:=aM
  refine ai (bx.mp hx) λaM hb hx=>?_;obtain⟨l,o,r,p⟩:=aM
  refine ai (bx.mp hx) λaM hlr hx=>?_;obtain⟨⟨a1,o2,sh,p2⟩,tB,q2,p3⟩:=aM
  refine aF (cX hlr) λhl hr2=>?_
  refine ai (bx.mp hx) λaM ha hx=>?_;obtain⟨tz,q1,p1⟩:=aM
  refine aF (pS.mp hx) λho hx=>?_
  refine ai (bO.mp hx) λaM hm av=>?_;obtain⟨m1,m2,m3⟩:=aM;subst av
  have ho:=eg.mp ho
  refine aF (cX hm) λh1 h23=>?_
  refine aF (cX h23) λh2 h3=>?_
  refine aF (Rc ha) λi1 n1=>?_
  refine aF (Rc hr2) λi2 n2=>?_
  have e2:e=.BinOp l o r p:=Rb hb
  have e3:l=.BinOp a1 o2 sh p2:=Rb hl
  apply cG;clear cG
  refine ag (QcR hr) (ag e2 (ag e3 (ag (show o=.Add from eq_of_beq ho.1) (ag (show o2=.LShift from eq_of_beq ho.2) (ag (show a1=_ from i1) (ag (show r=_ from i2) ?_))))))
  exact⟨[],_,rfl,(λ_ hm=>nomatch hm),OQ L (F5 L (op:=.add) (F5 L (op:=.shl) (call rfl n1 h1) (sub _ _ h2)) (call rfl n2 h3))⟩
theorem QcV{W:Wd}{X X':List au}{env:bP}{s aS s':aE}{oa:Nat->au}{f:Frm}{X0:List au}{U4:bP}(h1:∃hp tk,aS={s with heap:=hp,toks:=tk})(hk:∀b o,s.heap.get? b=aa o->aS.heap.get? b=aa o)(Ln:s.heap.get? env.locals=ac)
  (st:Stp W X (env.locals::X) X' aS s') (sr:SR W X0 U4 oa X' s'.heap f):Ext W s s':=by
 refine⟨?_,λb o nT e=>?_,λ_=>sr.bs,λ_=>sr.tb⟩
 ·exact qJ h1 st.same
 ·refine(?_:_->_) (hk b o e);intro e1;by_cases q:b∈X
  ·exact st.keep0 b o q nT e1
  ·refine st.keep b o (λq2=>?_) e1;rcases cB.mp q2 with q2|q2
   ·simp only[q2,Ln]at e;injection e
   ·exact q q2
set_option tactic.hygienic true in
theorem QcW(L0:Lib0 W T){cn ci cd f c':au}{fw pm fF:ao}{oi of oc:be}{vc:Array ao}{t:fL}(xe:oi.data=.cell (aa (.ref f)))(lY:of.data=.func (Re (vY cn ci cd) fw pm fF c'))
  (z5:oc.data=.fields vc) (hv:vc[1]?=aa (.str qD t)) (hK:∀p∈[(ci,oi),(f,of),(c',oc)],p.1∉W.T) (ap:cn≠ci/\cn≠cd/\ci≠cd):
  ∀m,GB (Wc W [(ci,oi),(f,of),(c',oc)]) (jn m) (m+1) 40 f cd cn [cn,ci,cd]:=by
 intro m
 induction m with
 |zero=>exact λargs d d1 d2 A X s vs v1 v2 Q h=>by obtain⟨L,R,z,xs,ds,_,_,_,_,_,_,_,h1,_,h2,_⟩:=Q9 h;simp at h2;exact fZ (Lq h1 h2)
 |succ m ih=>
  exact λargs d d1 d2 A X s vs v1 v2 Q h aq bs tb tX alX jz JQ r1 JR r2 hr hQ=>by
   refine ay λcG=>?_;obtain⟨L,R,z,xs,ds,rfl,rfl,rfl,h1,h2,h3,h4,h5,h6,h7,rfl⟩:=Q9 h;refine(?_:_->_) (yi L0.ok hK);intro k;refine aD (QcQ m h1 h2 h3 h4 h5 h6 h7 T 100) λf' bG=>?_;have bi:∀h,(Wc W [(ci,oi),(f,of),(c',oc)]).Bs h->h.get? ci=aa oi/\h.get? f=aa of/\h.get? c'=aa oc:=λh b=>⟨b.2 (ci,oi) (by simp),b.2 (f,of) (by simp),b.2 (c',oc) (by simp)⟩;refine(?_:(∀(x:ar)(c:au),(vY cn ci cd).lookup x=aa c->c∈[cn,ci,cd])->_) (λx c hl=>by
    have:=mem_of_lookup hl;simp only[cB,zx,j0,or_false]at this⊢;rcases this with⟨_,e⟩|⟨_,e⟩|⟨_,e⟩
    ·exact .inl e
    ·exact .inr (.inl e)
    ·exact .inr (.inr e))
   intro J0;have L1:Lib (Wc W [(ci,oi),(f,of),(c',oc)]) T (jn m) (m+1):=(BL L0 hK).lib (Q8 m);apply cG;clear cG;refine O8 k QcT (f:=[.val (.int L),.val (.int R),.un,.un,.val (.list xs),.un,.val (.int z)]) (bi _ bs).2.1 lY ⟨c',oc,vc,t,rfl,(bi _ bs).2.2,z5,hv⟩ (by have:=aq.depth;exact Lr this) bs tb tX alX hr rfl ?_ ?_ ?_ (λx c hl=>jz c (J0 x c hl)) ?_ ?_
   ·show _=(d8 iK).names.length;simp only[pI];rfl
   ·intro i hi;rcases i with _|_|i
    ·rfl
    ·rfl
    ·exact absurd hi (by show¬i+1+1<2;exact bL 0x26443243240 Yt)
   ·intro i x kd hi hn;have hn:(d8 iK).names[i]?=aa (x,kd):=hn;rw[pI]at hn;rcases i with _|_|_|_|_|_|_|i
    ·simp at hi
    ·simp at hi
    ·exact .inl rfl
    ·exact .inl rfl
    ·obtain⟨rfl,rfl⟩:=dx (aB hn);exact .inr (uQ _ cd v1 rfl rfl rfl JQ r1)
    ·exact .inl rfl
    ·obtain⟨rfl,rfl⟩:=dx (aB hn);exact .inr (uQ _ cn v2 rfl rfl rfl JR r2)
    ·simp[vX]at hn
   ·simp only[Qg9,cB,j0,or_false];refine⟨?_,?_,?_,.nil⟩
    ·rintro y (rfl|rfl)
     ·exact ap.1
     ·exact ap.2.1
    ·rintro y rfl;exact ap.2.2
    ·intro y hy;cases hy
   ·intro env aS df dq eo _ same ft Ln cm sr;have JJ:=pB (QcU (Wf:=100) L1 eo (by refine ag df ?_;exact pI) dq (λh b=>⟨oi,(bi h b).1,xe⟩) (λh b=>(bi h b).2.1) lY ih) QcS;refine JJ 20 (A.deeper env) X _ _ _ aS _ f' _ aq.deeper cm sr bG λeN X' s' dT st lU fo=>?_;cases fo;rename_i v rv;refine hQ v s' (QcV same ft Ln st lU) ?_;refine aD rv.int_inv λt am=>?_;clear rv;subst am;exact .int _ _
section
variable {M:Model} {A:dK} {E:ao->aE->Prop} {s:aE} {name qual:ar} {params:Dr} {body:List dF} {scope:mD} {env:bP} {c P:au} {pos:aR} {line:Nat} {mg:ar->Option ao} {ka:List (ar×au)} {Q:ao->aE->Prop}
def QcX(s:aE)(P c:au)(pos:aR)(name qual:ar)(params:Dr)(body:List dF)(scope:mD)(ka:List (ar×au))(Q:ao->aE->Prop):Prop:=
 ∀(c':au)(fw pm fF:ao)(h':cC)(tk:fL)(oc:be)(vc:Array ao)(t:fL),(∀b o,b≠P->s.heap.get? b=aa o->h'.get? b=aa o)->TbAt c P pos qual h'->h'.get? c'=aa oc->oc.cls=.type "code"->oc.data=.fields vc->vc[1]?=aa (.str qual t)->
  Q (.ref h'.objs.size) {s with heap:=h'.push {cls:=.type "function",data:=.func (fnX name qual params body scope ka .none .none fw pm ac (.ref c') fF)},toks:=tk}
theorem QcY(dq:uc scope env=pure ka)(bT:ka.isEmpty=af)(U5:env.globals=ew)(hg:s.heap.Ns ew mg)(kW:env.code=.ref c)(tb:TbAt c P pos qual s.heap)(hgP:ew≠P)(hb:s.heap.BuiltinsAt mg P)
  (h:QcX s P c pos name qual params body scope ka Q):aI M A (makeFunction name qual params (.stmts body) scope env [] [] [] pos line) Q E s:=by
 refine ay λcG=>?_
 obtain⟨ps,C,hP,ht,Qiz⟩:=tb
 apply cG;clear cG
 refine bX Qiz (λU6=>?_) λfq=>?_
 ·obtain⟨bm,ob,e1,e2,e3,e4,e5,e6,e7,e8⟩:=hb;rw[makeFunction_eq];simp only[List.zip_nil_right,List.filterMap_nil,List.isEmpty_nil,if_true,pure_bind];unfold makeTail;refine ag dq (ag U5 ?_);refine bH (dW ?_);refine ag bT ?_;simp only[wB,if_false];refine bH (wpAny_newTextTuple ?_);have keep:∀(o:be) b ob,s.heap.get? b=aa ob->(s.heap.push o).get? b=aa ob:=λo b ob e=>jr _ e;refine bH (wpAny_functionCodeX kW ((C.keeps (keep _)).code (keep _ _ _ hP) ht) ((C.keeps (keep _)).tab (keep _ _ _ hP)) U6 λc' h' tk hx z6 bK hic QiA QiB ⟨P',_,_,QiC⟩=>?_);have sj:Heap.ExtBut P s.heap h':=λb o n e=>hx b o n (keep _ _ _ e);have U7:=hg.extBut sj hgP;refine bH (wpAny_builtinsFor U7 e1 e2 (sj _ _ e4 e5) e6 e7 e8 ?_);refine bH (wpAny_nsGet U7 ?_);refine ay λcG=>?_;obtain⟨⟨oc,vs,g1,g2,g3,g4⟩,_⟩:=QiC;obtain⟨c₂,QjU,QjV,t₂,r1,r2,r3,r4⟩:=QiA;apply cG;clear cG;obtain rfl:=zr r1;rw[g1]at r2;obtain rfl:=aB r2;rw[g3]at r3;obtain rfl:=QjJ r3;have e:(ps++#[pU pos.line,pU pos.col,Value.ref c']).toList =ps.toList++[pU pos.line,pU pos.col,.ref c']:=by simp
  have cP:c≠P:=by obtain⟨_,_,_,_,_,_,_,_,_,_,_,_,_,_,_,_,_,_,q⟩:=C;exact q
  have z7:TbAt c P pos qual h':=by obtain⟨o,vs,file,tf,flags,tg,z4,text,tt,a1,a2⟩:=C;refine⟨_,⟨o,vs,file,tf,flags,tg,z4,text,tt,sj _ _ cP a1,a2⟩,QiB.2,by refine ag e ?_;exact TriplesOk_snoc _ _ _ _ ht,.inr (xn c' oc _ t₂ ?_ g1 g2 g3 r4)⟩;refine ag e ?_;rw[codeAmong_snoc _ ht U6]
  cases QjW:docOf body with
  |none=>exact bH (dW (TW (h c' _ _ _ h' tk oc _ t₂ sj z7 g1 g2 g3 r4) (by size_fits)))
  |some d=>exact bH (wpAny_mkText (TW (h c' _ _ _ h' _ oc _ t₂ sj z7 g1 g2 g3 r4) (by size_fits)))
 ·obtain⟨c',oc,vc,t,hf,h1,h2,h3,h4⟩:=fq;refine makeFunction_hit dq U5 hg kW C hP ht hf hb λfF fw h' tk hk _=>?_;exact h c' fw _ fF h' tk oc vc t (λb o _ e=>hk b o e) ⟨ps,C.keeps hk,hk _ _ hP,ht,.inr (xn c' oc vc t hf (hk _ _ h1) h2 h3 h4)⟩ (hk _ _ h1) h2 h3 h4
end
theorem TbAt.but(x:TbAt c P pos qual h)(hn:∀o,h.get? P'=aa o->o.cls=.none)(hP:P≠P')(k:∀b o,b≠P'->h.get? b=aa o->h'.get? b=aa o):TbAt c P pos qual h':=by
 refine ay λcG=>?_;obtain⟨ps,⟨o,vs,file,tf,flags,tg,z4,text,tt,e1,e2,e3,r⟩,h1,ht,hc⟩:=x;have nc:∀(b:au)(ob:be),h.get? b=aa ob->ob.cls=.type "code"->b≠P':=λb ob e q z=>by clear hP k;subst z;rw[hn _ e]at q;injection q
 apply cG;clear cG;refine⟨ps,⟨o,vs,file,tf,flags,tg,z4,text,tt,k _ _ (nc _ _ e1 e2) e1,e2,e3,r⟩,k _ _ hP h1,ht,hc.imp id ?_⟩;rintro⟨c',o',iw,t,f1,f2,f3,f4⟩;exact(EE c' o' iw t f1 (k _ _ (nc _ _ f2 f3) f2) f3 f4)
section
variable {w:d9} {mg mb:ar->Option ao} {X0:List au} {env:bP} {oa:Nat->au} {X:List au} {f:Frm}
structure TabOf(c P:au)(pos:aR)(qual:ar):Prop where
 mem:P∈eD
 one:∀{w:d9}{mg mb:ar->Option ao}(h:cC),(bv w mg mb).Tb h->TbAt c P pos qual h
 new:∀{w:d9}{mg mb:ar->Option ao}(h h':cC),(bv w mg mb).Tb h->(∀b o,b≠P->h.get? b=aa o->h'.get? b=aa o)->TbAt c P pos qual h'->(bv w mg mb).Tb h'
theorem Hm(tb:(bv w mg mb).Tb h):∀a∈eD,∀o,h.get? a=aa o->o.cls=.none :=λa ha o e=>by
 refine ay λcG=>?_;obtain⟨⟨ps,_,h1,_⟩,⟨sf,_,h2,_⟩⟩:=tb;have:a=30\/a=37:=by simpa[eD]using ha
 apply cG;clear cG;clear ha;rcases this with rfl|rfl
 ·rw[h1]at e;obtain rfl:=aB e;rfl
 ·rw[h2]at e;obtain rfl:=aB e;rfl
theorem QcZ:TabOf 34 30 (vS 4 1) "_int2digits.<locals>.inner":=⟨by decide,λh x=>x.1,λh h' x k y=>⟨y,x.2.but (Hm x 30 (by decide)) (by decide) k⟩⟩
theorem Qc0:TabOf 41 37 (vS 5 0) "_digits2int.<locals>.inner":=⟨by decide,λh x=>x.2,λh h' x k y=>⟨x.1.but (Hm x 37 (by decide)) (by decide) k,y⟩⟩
theorem Rf(k:(bv w mg mb).Ok)(qq:mg "__builtins__"=aa (.ref 4))(tab:TabOf c P pos qual)(eo:EnvOk env)(cm:CellsMine (bv w mg mb) X0 env)(sr:SR (bv w mg mb) X0 env oa X s.heap f)
  {params:Dr} {body:List dF} {scope:mD} (kW:env.code=.ref c) (z8:env.qual++name=qual) (tm:params.defaults=[]) (Jd:params.kw_defaults=[]) (ha:annTrees params ac env=[]) {i:Nat} (hi:env.scope.names[i]?=aa (name,.cell))
  {ci:au} (hc:env.cells.lookup name=aa ci) {ka:List (ar×au)} (QiD:uc scope env=pure ka) (bT:ka.isEmpty=af) {Q:kQ->aE->Prop}
  (h:∀(fa c':au)(fw pm fF:ao)(oi of oc:be)(vc:Array ao)(t:fL)(s':aE),Stp (bv w mg mb) X0 X X s s'->SR (bv w mg mb) X0 env oa X s'.heap (f.put i .un)->s'.heap.get? ci=aa oi->oi.data=.cell (aa (.ref fa))->s'.heap.get? fa=aa of->
   of.data=.func (fnX name qual params body scope ka .none .none fw pm ac (.ref c') fF)->s'.heap.get? c'=aa oc->oc.data=.fields vc->vc[1]?=aa (.str qual t)->(ci∉eD/\fa∉eD/\c'∉eD)->fa∉X->(∀b o,b∉eD->b≠ci->s.heap.get? b=aa o->s'.heap.get? b=aa o)->Q .next s'):
  aI (aP pw w) A (exec (.FunctionDef name params body [] ac [] scope ac name pos) env) Q bg s:=by
 have bs:=sr.bs
 have tbs:=sr.tb
 have nP:∀a,a∉eD->a≠P:=λa q e=>q (e▸tab.mem)
 refine nestDef_K tm Jd ha ?_
 have hq:qualnameIn env name name=qual:=by unfold qualnameIn;refine ag (eo.kindAt hi) ?_;exact z8
 refine ag hq ?_
 refine QcY (mg:=mg) QiD bT eo.glob (k.bsG _ bs) kW (tab.one _ tbs) (ju λe=>by have:=tab.mem;rw[e]at this;revert this;decide) ?_ ?_
 ·refine ay λcG=>?_;obtain⟨ob,e1,e2,e3,e4⟩:=bs.2.2.2.2;apply cG;clear cG;exact⟨4,ob,qq,by decide,by decide,nP _ (by decide),e1,e2,e3,e4⟩
 ·intro c' fw pm fF h' tk oc vc t hx htb g1 g2 g3 g4;have z9:∀(o:be) b ob,b≠P->s.heap.get? b=aa ob->(h'.push o).get? b=aa ob:=λo b ob n e=>jr _ (hx b ob n e);generalize lY:({cls:=.type "function",data:=.func (fnX name qual params body scope ka .none .none fw pm ac (.ref c') fF)}:be)=of;have U8:of.data=.func (fnX name qual params body scope ka .none .none fw pm ac (.ref c') fF):=by exact a8 lY rfl
  have x1:Ext (bv w mg mb) s {s with heap:=h'.push of,toks:=tk}:=by have kp:∀b o,b∉(bv w mg mb).T ->s.heap.get? b=aa o->(h'.push of).get? b=aa o:=λb o n e=>z9 of b o (nP b n) e;refine⟨(eR _ _ rfl),kp,λb=>k.bsKeep _ _ b λa o ba e=>kp a o (k.base _ b a ba).1 e,λtb=>tab.new _ _ tb (λb o n e=>z9 of b o n e) ?_⟩;exact htb.keep λb o e _=>jr _ e
  have aY:=sr.ext k x1;refine ai aY.vars λm hn hv=>?_;obtain⟨lQ,v0,iV⟩:=aY.cellI name ci hc;refine TZ eo.kind (eo.kindAt hi) hc iV λh2 iY lV=>?_;refine ay λcG=>?_;obtain⟨oi,i1,i2⟩:=iY;have bU:=aY.holdCell k eo cm hn hv hi hc iV ⟨oi,i1,i2⟩ lV (v:=.ref h'.objs.size);have cT:ci∉eD:=oH k aY.tb iV;have U9:∀(b:au)(o:be),(h'.push of).get? b=aa o->(∀v,o.data≠.cell v)->h2.get? b=aa o:=λb o e n=>(lV.2 b λq=>by clear hc h lQ lV i1 cT;subst q;obtain⟨o',e',d⟩:=iV;rw[show(h'.push of).get? b=aa o from e]at e';obtain rfl:=aB e';exact n _ d).trans e;have f1:h2.get? h'.objs.size=aa of:=U9 _ _ (g5 _ (by refine a8 lY ?_;rfl)) λv q=>by rw[U8]at q;injection q
  have c1:h2.get? c'=aa oc:=U9 _ _ (jr _ g1) λv q=>by rw[g3]at q;injection q
  have tn:=Hm bU.tb;apply cG;clear cG;refine h h'.objs.size c' fw pm fF oi of oc vc t _ (Stp.trans (x1.stp sr.tXX) (Stp.mut _ lV lQ (cm.mine name ci (eo.kindAt hi) hc).1)) bU i1 i2 f1 U8 c1 g3 g4 ⟨cT,λq=>?_,λq=>?_⟩ (λq=>?_) λb o nT nc e=>(lV.2 b nc).trans (x1.keep b o nT e)
  ·have:=tn _ q _ f1;rw[<-lY]at this;injection this
  ·have:=tn _ q _ c1;rw[g2]at this;injection this
  ·refine aD (sr.alX _ q) λo e=>?_;by_cases z:h'.objs.size∈eD
   ·have:=tn _ z _ f1;rw[<-lY]at this;injection this
   ·exact absurd (fK (hx _ _ (nP _ z) e)) (mI _)
end
end
section
open PySem.Calls
def CK(vs:List an):Option an:=(AY vs).bind λp=>(two (i9 p.1) (gQ p.2)).bind λq=>(fB q.1).bind λds=>if 0<=q.2/\pH q.2.toNat ds=ae then aa (.int (fC q.2.toNat ds))else ac
def CL:dF:=(cR (bW 5)).getD 1 (.Pass default)
def Hn:List ax:=match CL with| .Return (aa (.IfExp _ (.Call _ es _ _) _ _)) _=>es|_=>[]
noncomputable def yR:List (ar×dR):=[("digits",.cell),("n",.cell),("inner",.cell),("len",.globalImplicit)]
theorem Qc1:cR (bW 5)=[.FunctionDef "inner" (vE iK) (cR iK) [] ac [] (d8 iK) ac "inner" (vS 5 0),CL]:=by kernel_rfl
theorem Ho:(d8 (bW 5)).names =yR:=by kernel_rfl
theorem Qc2:∃p1 p2 p3 p4 p5 k,CL=.Return (aa (.IfExp (.Name "digits" p1) (.Call (.Name "inner" p2) Hn [] p3) (.Constant (.int 0) k p4) p5)) (match CL with| .Return _ p=>p|_=>default):=(Ku _ _ _ _ _ _ rfl)
theorem Rg:ct (br 20 {names:=yR}) Hn=aa [.ki 0,.bi .len [.v 0]]:=by kernel_rfl
noncomputable def Rh(n:Nat):List (ar×au):=[("inner",n+2),("n",n+1),("digits",n)]
theorem Qc3(n:Nat):o9 n yR []=Rh n:=rfl
theorem Qc4{cn ci cd:au}(h1:env.cells.lookup ("n":ar)=aa cn)(h2:env.cells.lookup ("inner":ar)=aa ci)(h3:env.cells.lookup ("digits":ar)=aa cd):uc (d8 iK) env=pure (vY cn ci cd):=by unfold uc;refine ag pI ?_;unfold vX;simp only[Dy,List.forIn_nil,cellOf,h1,h2,h3];rfl
theorem Qc5(h1:∃hp tk,aS={s with heap:=hp,toks:=tk})(hk:∀b o,s.heap.get? b=aa o->aS.heap.get? b=aa o)(hX:∀b∈X1,b∈X\/s.heap.get? b=ac)
  (st:Stp W X X1 X' aS s') (sr:SR W X0 U4 oa Y s'.heap f):Ext W s s':=by
 refine⟨?_,λb o nT e=>?_,λ_=>sr.bs,λ_=>sr.tb⟩
 ·exact qJ h1 st.same
 ·have e1:=hk b o e;by_cases q:b∈X
  ·exact st.keep0 b o q nT e1
  ·refine st.keep b o (λq2=>?_) e1;refine bX (hX b q2) (λq2=>?_) λq2=>?_
   ·exact q q2
   ·rw[q2]at e;injection e
theorem Qc6{w:d9}{mg mb:ar->Option ao}(L0:Lib0 (bv w mg mb) aA)(X0:eX.In (eK w.params) h₀)(G:h₀.Ns ew mg):GA (bv w mg mb) 3 CK:=by
 intro x hx;obtain rfl:x="_digits2int":=(aB hx).symm;have k:=L0.ok;have qq:mg "__builtins__"=aa (.ref 4):=fh X0 G (by kernel_rfl);refine⟨42,lq,_,fh X0 G (by kernel_rfl),λh b=>b.2.2.2.1 42 _ rfl,rfl,?_⟩;intro args d A X s vs Q hp aq bs tb tX alX hr hQ;refine ai (bx.mp hp) λaM n8 hq=>?_;obtain⟨x1,x2⟩:=aM;refine ai (bx.mp hq) λaM dZ qo=>?_;obtain⟨xs,z⟩:=aM;refine aF (cX dZ) λy1 y2=>?_;obtain rfl:x1=.list xs:=kg y1;obtain rfl:x2=.int z:=hY y2;obtain rfl:=FA n8;refine ai (bx.mp qo) λds cV hs=>?_;clear hp hq n8 dZ y1 y2 qo;refine aF (pS.mp hs) λhc e=>?_;obtain rfl:=aB e;clear hs e;refine aF hc λhz fE=>?_;refine O9 k Qcd (bs.2.2.2.1 42 _ rfl) rfl (gu bs.2.2.2.1 rfl rfl rfl) (by have:=aq.depth;omega) bs tb tX alX hr rfl ?_;intro env aS df dq eo kW z8 same ft Ln Cn apart cm sr;have df:env.scope=d8 (bW 5):=df;have fx:env.scope.names=yR:=by rw[df];exact Ho
 have dq:env.cells=Rh (s.heap.objs.size+1):=by rw[dq];show o9 _ (d8 (bW 5)).names []=_;rw[Ho,Qc3]
 obtain⟨ci,cn,cd,dq,ap⟩:∃ci cn cd:au,env.cells=[(("inner":ar),ci),(("n":ar),cn),(("digits":ar),cd)]/\(cn≠ci/\cn≠cd/\ci≠cd):=⟨s.heap.objs.size+1+2,s.heap.objs.size+1+1,s.heap.objs.size+1,dq,by refine⟨?_,?_,?_⟩<;>(intro q;exact absurd q (by simp))⟩;have l1:env.cells.lookup ("n":ar)=aa cn:=by rw[dq];rfl
 have l2:env.cells.lookup ("inner":ar)=aa ci:=by rw[dq];rfl
 have l3:env.cells.lookup ("digits":ar)=aa cd:=by rw[dq];rfl
 rw[Qc1];refine lN (Rf k qq Qc0 eo cm sr kW (by rw[z8];rfl) (by kernel_rfl) (by kernel_rfl) (by kernel_rfl) (i:=2) (by rw[fx];rfl) l2 (Qc4 l1 l2 l3) rfl ?_);intro fa c' fw pm fF oi of oc vc t s2 st2 bU i1 i2 f1 f2 c1 c2 c3 nT nX _;dsimp only;have hK:∀p∈[(ci,oi),(fa,of),(c',oc)],p.1∉(bv w mg mb).T :=λp hp=>by
  simp only[cB,j0,or_false]at hp;rcases hp with rfl|rfl|rfl
  ·exact nT.1
  ·exact nT.2.1
  ·exact nT.2.2
 have k2:=yi k hK;have hf:Frm.put (List.map FV.val [ui xs,bQ z]++bz ((d8 (bW 5)).names.length -([aG "digits",aG "n"]:List ar).length) FV.un) 2 .un =[.val (.list xs),.val (.int z),.un,.un]:=by rw[Ho];rfl
 have bU:SR (bv w mg mb) X env (λ_=>0) _ s2.heap [.val (.list xs),.val (.int z),.un,.un]:=hf▸bU;have uG:∀p∈[(ci,oi),(fa,of),(c',oc)],s2.heap.get? p.1=aa p.2:=λp hp=>by
  simp only[cB,j0,or_false]at hp;rcases hp with rfl|rfl|rfl
  ·exact i1
  ·exact f1
  ·exact c1
 refine ai bU.vars λm2 uC _=>?_;have ln:∀(p:au×be),p∈[(ci,oi),(fa,of),(c',oc)]->env.locals≠p.1:=λp hp q=>by
  obtain⟨o,es,ep,e,hd,_⟩:=uC;have e2:=uG p hp;rw[<-q,e]at e2;have e2:=aB e2;simp only[cB,j0,or_false]at hp;clear q;rcases hp with rfl|rfl|rfl
  ·dsimp only at e2;subst e2;rw[i2]at hd;injection hd
  ·dsimp only at e2;subst e2;rw[f2]at hd;injection hd
  ·dsimp only at e2;subst e2;rw[c2]at hd;injection hd
 have dG:=bU.toWc uG (λq=>by
  refine ai (gi.mp q) λp hp e=>?_;exact ln p hp e.symm) (λi ys e=>by
  rcases i with _|_|_|_|i<;>simp at e)
 have bi:∀h,(Wc (bv w mg mb) [(ci,oi),(fa,of),(c',oc)]).Bs h->h.get? ci=aa oi/\h.get? fa=aa of/\h.get? c'=aa oc:=λh b=>⟨b.2 (ci,oi) (by simp),b.2 (fa,of) (by simp),b.2 (c',oc) (by simp)⟩;have xs2:Ext (bv w mg mb) s s2:=Qc5 same ft (λb hb=>by
  rcases cB.mp hb with rfl|hb
  ·exact .inr Ln
  ·rcases gZ.mp hb with hb|hb
   ·refine ai (o6.mp hb) λp _ hp=>?_;exact .inr (Cn p.1 b (mem_of_lookup hp))
   ·exact .inl hb) st2 bU
 have fin:∀(s':aE)(t:fL)(i:Int),Ext (Wc (bv w mg mb) [(ci,oi),(fa,of),(c',oc)]) s2 s'->i=fC z.toNat ds->Q (.int i t) s':=λs' t i x e=>by subst e;have x2:=x.ofWc dG.bs;exact hQ _ _ (xs2.trans x2) (.int _ _)
 refine Kt Qc2 λp1 p2 p3 p4 p5 kk hrt=>?_;rw[hrt];refine lN (T3 (TR ?_));rw[Ol rfl];refine cY (dG.val (i:=0) (x:="digits") (kd:=.cell) (d:=.list xs) (by rw[fx];rfl) rfl) λm3 v3 J1 Ei Aa=>?_;refine bH (qN eo (i:=0) (by decide) (by rw[fx];rfl) J1 Ei (bH (zj (zi ?_))));refine dc Aa.list_inv λla lnn uH bB Ej bh Va=>?_;clear Ei Aa;subst bB;have Ek:=(Ra cV).1;have ll:uH.length=ds.length:=by rw[Va.length,Ek]
 refine wpAny_truthy_list (items:=uH.toArray) ⟨_,ed Ej,rfl,_,rfl⟩ (by
  have:uH.length<=cz:=bh;simp only[mL];have h2:cz<2^63:=by decide
  omega) ?_
 by_cases tm:ds=[]
 ·have:(!(uH.toArray).isEmpty)=af:=by
   rw[tm]at ll;have:uH=[]:=Dw.mp ll;clear Ej bh Va;subst this;rfl
  rw[this];exact zk (fin _ _ _ (Ext.tok _) (by rw[tm];rfl))
 ·have Vb:0<ds.length:=by
   cases ds with
   |nil=>exact absurd rfl tm
   |cons=>simp
  have:(!(uH.toArray).isEmpty)=ae:=by
   cases uH with
   |nil=>rw[<-ll]at Vb;cases Vb
   |cons=>rfl
  rw[this];have ok3:=fE;simp only[pH,bo,bl]at ok3;have cx:er {names:=yR} env:=λi x kd h=>(aO kd (by rw[fx];exact h) (.inl rfl));have L1:Lib (Wc (bv w mg mb) [(ci,oi),(fa,of),(c',oc)]) aA (jn 17) 18:=(BL L0 hK).lib (Q8 17);have se:=O7 (T:=aA) (O:=jn 17) (N:=18) (g:=40) (i1:=0) (i2:=1) (np:=p2) (pos:=p3) k2 eo (λe m h=>(iG h).1) (x:="inner") (x1:="digits") (x2:="n") (k1:=.cell) (k2:=.cell) (by decide) (.inl (eo.kindAt (i:=2) (by rw[fx];rfl))) l2 (λh b=>⟨oi,(bi h b).1,i2⟩) (λh b=>(bi h b).2.1) f2 (es:=Hn)
   (by intro q;have:=Rg;rw[q]at this;injection this with e_;injection e_) (by rw[fx];rfl) (.inl rfl) l3 (by rw[fx];rfl) (.inl rfl) l1 (CX:=[cn,ci,cd]) (λc hc=>by
    simp only[cB,j0,or_false]at hc;rcases hc with e|e|e<;>rw[e]
    ·exact(bC _ l1)
    ·exact(bC _ l2)
    ·exact(bC _ l3)) (QcW L0 i2 f2 c2 c3 hK ap 17) Rg λe _ m h=>(li L1 20 _ env e m cx eo h).se
  have bG:aj aA (jn 17) 10 (.call 40 ([.ki 0,.bi .len [.v 0]]++[.v 0,.v 1])) [.val (.list xs),.val (.int z),.un,.un]=aa (.int (fC z.toNat ds)):=by
   have e1:=Hj (m:=17) (L:=0) (R:=ds.length) cV hz fE (by omega) (by omega) (by omega) (by
    have:(2:Int)^17=131072:=by decide
    omega)
   have e2:(ds.drop (0:Int).toNat).take ((ds.length:Int)-0).toNat =ds:=by rw[show((ds.length:Int)-0).toNat =ds.length by omega];exact zg
   rw[e2]at e1;have hm:aV (λe=>aj aA (jn 17) 9 e [.val (.list xs),.val (.int z),.un,.un]) ([.ki 0,.bi .len [.v 0]]++[.v 0,.v 1])=aa [.int 0,.int xs.length,.list xs,.int z]:=rfl;show(match aV (λe=>aj aA (jn 17) 9 e [.val (.list xs),.val (.int z),.un,.un]) ([.ki 0,.bi .len [.v 0]]++[.v 0,.v 1])with|some vs=>jn 17 40 vs|none=>ac)=_;rw[hm];show jn 17 40 _=_;rw[Ek];exact e1
  rw[aw rfl];exact se 10 (A.deeper env) X (λ_=>0) _ _ _ _ _ (aq.deeper.less (by omega)) (dG.ext k2 (Ext.tok _)) bG λv s' x3 r3=>by refine aD r3.int_inv λt3 am=>?_;clear r3;subst am;exact fin _ _ _ ((Ext.tok _).trans x3) rfl
set_option backward.match.sparseCases true
theorem Qc7(x s:Nat):x^^^(x/2^s*2^s)=x%2^s:=by
 apply Qha;intro i;simp only[Nat.testBit_xor,Nat.testBit_mul_two_pow,Qhb,Qhc];by_cases h:i<s
 ·simp[h,Nat.not_le.mpr h]
 ·have h':s<=i:=Du.mp h;simp[h,h',Tk h']
noncomputable def dg(n:Nat)(x:Int)(k:Nat):Int:=x/2^(n*k)%2^n
noncomputable def Hp:List MS:=[
 .asg 3 (.bin .shr (.bin .add (.v 1) (.v 2)) (.ki 1)),
 .asg 4 (.bin .mul (.bin .sub (.v 3) (.v 1)) (.v 9)),
 .asg 5 (.bin .shr (.v 0) (.v 4)),
 .asg 6 (.bin .bxor (.v 0) (.bin .shl (.v 5) (.v 4)))]
theorem Qc8(T:Tabs)(O:bn)(Wf:Nat){n:Nat}{x L R M:Int}{c:Nat}(hx:0<=x)(z9:x<2^(n*(R-L).toNat))(hL:0<=L)(hM:(L+R)/2=M)(b1:L<M)(b2:M<R)(hR:R<=c)(hn:n*c<=900000)(hc:c<=65536):
  bc T O Wf 20 Hp [.val (.int x),.val (.int L),.val (.int R),.un,.un,.un,.un,.un,.un,.val (.int n)]=
   aa (.next,[.val (.int x),.val (.int L),.val (.int R),.val (.int M),.val (.int ((M-L)*n)),.val (.int (x/2^(n*(M-L).toNat))),.val (.int (x%2^(n*(M-L).toNat))),.un,.un,.val (.int n)]):=by
 have e3:((n*(M-L).toNat :Nat):Int)=(M-L)*n:=by rw[mJ,Dx (by exact xC b1),wr]
 have hs:((M-L)*n).toNat =n*(M-L).toNat :=by simp only[<-e3,jY]
 refine(?_:(n*1<=n*c)->_) (rR n (W4 0x1802474013c840f0081ec000 [_] [_,_,_] Yt hL b1 b2 hR));intro e1
 have e2:n*(M-L).toNat <=n*c:=rR n (W3 0xd4b40814a08914a08228a289180b0b4081d004f0081ec000 [_] [_,_,_] Yt hL b2 hR)
 have e4:n*(R-L).toNat <=n*c:=rR n (W2 0xd4b20014a08914a08228a24602c2c80072011ec000 [_] [_,_] Yt hL hR)
 have s1:di (M-L)=ae:=vW (k:=20) (xC b1) (W4 0xb510c020528208a48a48a24f08208208284b2101c807741b4430081ec000182082082440 [_] [_,_,_] Yt hL hM hR hc) (by decide)
 refine(?_:(di (n:Int)=ae)->_) (vW (k:=20) (ke) (Lp hn e1) (by decide));intro s2
 have u1:bM .add (.int L) (.int R)=aa (.int (L+R)):=rfl
 have u2:bM .shr (.int (L+R)) (.int 1)=aa (.int M):=by refine a8 hM ?_;rfl
 have u3:bM .sub (.int M) (.int L)=aa (.int (M-L)):=rfl
 have t1:bM .mul (.int (M-L)) (.int n)=aa (.int ((M-L)*n)):=by show(if(di (M-L)&&di (n:Int))=ae then aa (bQ ((M-L)*n))else ac)=_;simp only[s1,s2];rfl
 have z6:0<=(M-L)*n:=by refine a8 e3 ?_;exact ke
 have t2:bM .shr (.int x) (.int ((M-L)*n))=aa (.int (x/2^(n*(M-L).toNat))):=by show(if 0<=(M-L)*n then aa (bQ (x/2^((M-L)*(n:Int)).toNat))else ac)=_;rw[aw z6];exact ag hs rfl
 have pp:(0:Int)<2^(n*(M-L).toNat):=Ds (by decide)
 have hu:0<=x/2^(n*(M-L).toNat):=Int.ediv_nonneg hx (mC pp)
 have Vc:x/2^(n*(M-L).toNat)<=x:=Int.ediv_le_self _ hx
 have su:di (x/2^(n*(M-L).toNat))=ae:=vW hu (Int.lt_of_le_of_lt Vc z9) (Lo hn e4)
 have t3:bM .shl (.int (x/2^(n*(M-L).toNat))) (.int ((M-L)*n))=aa (.int (x/2^(n*(M-L).toNat)*2^(n*(M-L).toNat))):=by show(if(0<=(M-L)*n&&(M-L)*n<=1000000&&di (x/2^(n*(M-L).toNat)))=ae then aa (bQ (x/2^(n*(M-L).toNat)*2^((M-L)*(n:Int)).toNat))else ac)=_;refine ag su (ag hs ?_);rw[aw (by simp[z6];exact W3 0x708228a8b26401828b2a9a69923702c006200 [_,_] [_] Yt hn e3 e2)]
 have t4:bM .bxor (.int x) (.int (x/2^(n*(M-L).toNat)*2^(n*(M-L).toNat)))=aa (.int (x%2^(n*(M-L).toNat))):=by
  refine aD (I2 hx) λy am=>?_;clear hx z9 t2 hu Vc su t3;subst am;have c1:((y:Int)/2^(n*(M-L).toNat)*2^(n*(M-L).toNat))=((y/2^(n*(M-L).toNat)*2^(n*(M-L).toNat):Nat):Int):=by simp
  have c2:((y:Int)%2^(n*(M-L).toNat))=((y%2^(n*(M-L).toNat):Nat):Int):=by simp
  refine ag c1 (ag c2 ?_);rw[<-Qc7];rfl
 simp only[Hp,iE,ja,fQ,cQ,Frm.get,ce,js,gB,Ub,Ue,getElem?_pos,Uf,Ud,u1,gG,u2,Frm.put,dz,dC,u3,Nat.lt_add_one,t1,Uc,t2,t3,t4,md]
def gw:dF:=(cR (bW 4)).getD 1 (.Pass default)
noncomputable def tu:List (ar×dR):=[("x",.local),("L",.local),("R",.local),("mid",.local),("shift",.local),("upper",.local),("lower",.local),("a_digits",.free),("inner",.free),("n",.free)]
theorem q7:(d8 gw).names =tu:=by kernel_rfl
noncomputable abbrev tw(cn ci ca:au):List (ar×au):=[("n",cn),("inner",ci),("a_digits",ca)]
noncomputable abbrev qI:ar:="_int2digits.<locals>.inner"
abbrev CM(ka:List (ar×au))(fw pm fF:ao)(c':au):o5:=fnX "inner" qI (vE gw) (cR gw) (d8 gw) ka .none .none fw pm ac (.ref c') fF
theorem Qc9{cn ci ca:au}{fw pm fF:ao}{c':au}:CloForm (CM (tw cn ci ca) fw pm fF c') (cR gw) ["x","L","R"] (tw cn ci ca) where
 body:=rfl
 clo:=rfl
 glob:=rfl
 blt:=rfl
 co:=by kernel_rfl
 gen:=by kernel_rfl
 kind:=by kernel_rfl
 nodup:=by show((d8 gw).names.map (·.1)).Nodup;refine ag q7 ?_;decide
 cell:=by show∀x∈(d8 gw).names,x.2≠.cell;refine ag q7 ?_;decide
 free:=λi x h=>by
  refine(?_:((d8 gw).names[i]?=aa (x,.free))->_) (h);intro h;rw[q7]at h;unfold tu at h;rcases i with _|_|_|_|_|_|_|_|_|_|i<;>simp at h<;>subst h
  ·exact⟨ca,by rfl⟩
  ·exact⟨ci,by rfl⟩
  ·exact⟨cn,by rfl⟩
 pars:=λi x h=>by show(d8 gw).names[i]?=_;refine ag q7 ?_;rcases i with _|_|_|i<;>simp at h<;>subst h<;>rfl
 bind:=λvs h=>by refine ay λcG=>?_;refine pj (CG h) λa b c bB=>?_;clear h;subst bB;apply cG;clear cG;rfl
def cI:Cx:={names:=tu}
theorem Qda:kf (i6 20 cI) (((cR gw).drop 1).take 4)=aa Hp:=by kernel_rfl
def Hq:ax:=match(cR gw).getD 0 (.Pass default)with| .If t _ _ _=>t|_=>default
def tz:List ax:=match(cR gw).getD 5 (.Pass default)with| .Expr (.Call _ es _ _) _=>es|_=>[]
def tB:List ax:=match(cR gw).getD 6 (.Pass default)with| .Expr (.Call _ es _ _) _=>es|_=>[]
theorem Qdb:br 20 cI Hq=aa (.cmp .eq (.bin .add (.v 1) (.ki 1)) (.v 2)):=by kernel_rfl
theorem Ri:ct (br 20 cI) tz=aa [.v 6,.v 1,.v 3]:=by kernel_rfl
theorem Rj:ct (br 20 cI) tB=aa [.v 5,.v 3,.v 2]:=by kernel_rfl
theorem Qdc:∃p1 p2 p3 p4 p5 p6 p7 p8 p9 Ab xf xg Vd,cR gw=.If Hq [.Assign [.Subscript (.Name "a_digits" p1) (.Name "L" p2) p3] (.Name "x" p4) p5,.Return ac p6] [] p7::(((cR gw).drop 1).take 4++
  [.Expr (.Call (.Name "inner" p8) tz [] p9) Ab,.Expr (.Call (.Name "inner" xf) tB [] xg) Vd]):=⟨_,_,_,_,_,_,_,_,_,_,_,_,_,rfl⟩
theorem Rk(env:bP):∀(a b:List dF),mN (a++b) env=(mN a env>>=λf=>match f with| .next =>mN b env|f=>pure f)
 |[],b=>rfl
 |st::a,b=>by
  refine(?_:(∀l,mN (st::l) env=(exec st env>>=λf=>match f with| .next =>mN l env|f=>pure f))->_) (λl=>rfl);intro e
  rw[rN,e,e,BU];refine ag (Rk env a b) ?_;refine GF λf=>?_;cases f<;>rfl
theorem Qdd{E:ao->aE->Prop}{a b:List dF}{Q:kQ->aE->Prop}(h:aI M A (mN a env) (λf s'=>match f with| .next =>aI M A (mN b env) Q E s'|f=>Q f s') E s):
  aI M A (mN (a++b) env) Q E s:=by
 rw[Rk]
 refine bH (nQ h (λf s' h'=>?_) λ_ _ x=>x)
 cases f<;>first|exact h'|exact dW h'
structure ExtQ(W:Wd)(q:au)(s s':aE):Prop where
 same:∃h tk,s'={s with heap:=h,toks:=tk}
 keep:∀b o,b∉W.T->b≠q->s.heap.get? b=aa o->s'.heap.get? b=aa o
 bs:W.Bs s.heap->W.Bs s'.heap
 tb:W.Tb s.heap->W.Tb s'.heap
theorem ExtQ.trans(a:ExtQ W q s s')(b:ExtQ W q s' zE):ExtQ W q s zE:=by refine ay λcG=>?_;obtain⟨⟨h,tk,rfl⟩,k1,b1,t1⟩:=a;obtain⟨⟨h',zF,rfl⟩,k2,b2,t2⟩:=b;apply cG;clear cG;exact⟨(eR h' zF rfl),λb o n m e=>k2 b o n m (k1 b o n m e),b2∘b1,t2∘t1⟩
theorem Ext.toQ(x:Ext W s s'):ExtQ W q s s':=⟨x.same,λb o n _ e=>x.keep b o n e,x.bs,x.tb⟩
theorem SR.extQ(k:W.Ok)(r:SR W X0 env oa X s.heap f)(x:ExtQ W q s s')(hq:q∈X)(hl:s.heap.get? q=aa (listOf dU ep))(mR:∃o,s'.heap.get? q=aa o)
  (ho:∀(i:Nat)(xs:List an),f[i]?≠aa (.own xs)):SR W X0 env oa X s'.heap f:=by
 refine ai r.vars λm hn hv=>?_
 have nL:env.locals≠q:=λe=>by obtain⟨o,es,n,a,b,_⟩:=hn;simp only[e,hl]at a;obtain rfl:=aB a;injection b
 have nC:∀c v,s.heap.IsCell c v->c≠q:=λc v ⟨o,e,d⟩ z=>by clear x hq mR nL;subst z;rw[hl]at e;obtain rfl:=aB e;injection d
 have J2:∀c v,s.heap.IsCell c v->s'.heap.IsCell c v:=λc v i=>by obtain⟨o,e,d⟩:=id i;exact⟨o,x.keep c o (oH k r.tb i) (nC c v i) e,d⟩
 have dY:s'.heap.Ns env.locals m:=by have:=Bf k r.tb hn;obtain⟨o,es,n,a,b,c⟩:=hn;exact⟨o,es,n,x.keep _ _ this nL a,b,c⟩
 have hm:∀a o,aJ X s.heap a=aa o->aJ X s'.heap a=aa o:=λa o e=>by refine aF (cb.mp e) λn e=>?_;exact cb.mpr ⟨n,x.keep a o (λz=>n (r.tXX a z)) (λz=>n (z▸hq)) e⟩
 refine⟨x.bs r.bs,x.tb r.tb,r.tX,r.sub,λa ha=>?_,r.loc,λy c e=>?_,(aO m dY (λi y kd e=>?_)),r.ownA,r.len⟩
 ·by_cases z:a=q
  ·clear x hq nL nC;subst z;exact mR
  ·by_cases t:a∈W.T
   ·refine ai (k.tStill _ (x.tb r.tb) a t) λo e _=>?_;exact(bC o e)
   ·refine aD (r.alX a ha) λo e=>?_;exact(bC o (x.keep a o t z e))
 ·obtain⟨h1,v,i⟩:=r.cellI y c e;exact⟨h1,v,J2 c v i⟩
 ·have v:=hv i y kd e;cases hf:f[i]? with
  |none=>trivial
  |some fv=>cases fv with
   |un=>trivial
   |val d=>
    refine ay λcG=>?_;simp only[hf]at v;obtain⟨v,b,rp⟩:=v;apply cG;clear cG;refine⟨v,?_,rp.mono hm⟩;unfold oE at b⊢;cases kd with
    |«local»=>exact b
    |cell=>obtain⟨c,e,i⟩:=b;exact⟨c,e,J2 c _ i⟩
    |free=>obtain⟨c,e,i⟩:=b;exact⟨c,e,J2 c _ i⟩
    |_=>exact b
   |own xs=>exact absurd hf (ho i xs)
def Hr(W:Wd)(N n:Nat)(q fa:au)(CX:List au)(c m:Nat):Prop:=
 ∀(x L R:Int)(A:dK)(X:List au)(s:aE)(vs dU:List ao)(ep:Nat)(Q:ao->aE->Prop),0<=x->x<2^(n*(R-L).toNat)->0<=L->L<R->R<=c->2*(R-L)<=2^m->AOk A N->W.Bs s.heap->W.Tb s.heap->
  (∀a∈W.T,a∈X)->(∀a∈X,∃o,s.heap.get? a=aa o)->q∈X->(∀c∈CX,c∈X/\∃v,s.heap.IsCell c v)->RepL (aJ X s.heap) vs [.int x,.int L,.int R]->s.heap.get? q=aa (listOf dU.toArray ep)->dU.length=c->
  (∀(s':aE)(hJ:List ao),ExtQ W q s s'->s'.heap.get? q=aa (listOf hJ.toArray ep)->hJ.length=c->(∀i:Nat,(i:Int)<L\/R<=i->hJ[i]?=dU[i]?)->
   (∀i:Nat,L<=i->(i:Int)<R->∃t,hJ[i]?=aa (.int (dg n x (i-L).toNat) t))->Q .none s')->aI (aP W.prog W.w) A (call (.ref fa) vs) Q bg s
section
variable {W:Wd} {T:Tabs} {env:bP}
theorem Rl{N n c m:Nat}{q fa ci:au}{CX:List au}(L:Lib W T (λ_ _=>ac) N)(eo:EnvOk env)(fx:env.scope.names=tu)(hc:env.cells.lookup ("inner":ar)=aa ci){o:be}{fd:o5}(mQ:∀h,W.Bs h->h.IsCell ci (aa (.ref fa)))(ho:∀h,W.Bs h->h.get? fa=aa o)(ux:o.data=.func fd)
  (jz:∀c∈CX,∃y,env.cells.lookup y=aa c) (hI:Hr W N n q fa CX c m) {es:List ax} {ms:List ME} (bT:es≠[]) (ht:ct (br 20 cI) es=aa ms) {A:dK} (aq:AOk A N) {X0:List au} {oa:Nat->au} {X:List au} {f:Frm} {s:aE} (sr:SR W X0 env oa X s.heap f)
  {x l r:Int} (cV:aV (λe=>aj T (λ_ _=>ac) 10 e f) ms=aa [.int x,.int l,.int r]) (h0:0<=x) (h1:x<2^(n*(r-l).toNat)) (h2:0<=l) (h3:l<r) (h4:r<=c) (h5:2*(r-l)<=2^m) (hq:q∈X) (sv:q∉W.T) {dU:List ao} {ep:Nat} (hl:s.heap.get? q=aa (listOf dU.toArray ep)) (bh:dU.length=c)
  (El:∀(i:Nat)(xs:List an),f[i]?≠aa (.own xs)) {np p pos:aR} {Q:kQ->aE->Prop}
  (hQ:∀(s':aE)(hJ:List ao),ExtQ W q s s'->SR W X0 env oa X s'.heap f->s'.heap.get? q=aa (listOf hJ.toArray ep)->hJ.length=c->(∀i:Nat,(i:Int)<l\/r<=i->hJ[i]?=dU[i]?)->
   (∀i:Nat,l<=i->(i:Int)<r->∃t,hJ[i]?=aa (.int (dg n x (i-l).toNat) t))->Q .next s'):aI (aP W.prog W.w) A (exec (.Expr (.Call (.Name "inner" np) es [] p) pos) env) Q bg s:=by
 have k:=L.ok
 refine(?_:(er cI env)->_) (λi x kd h=>(aO kd (by refine ag fx ?_;exact h) (.inl rfl)));intro cx
 have jy:zq env=af:=by unfold zq;refine ag eo.kind ?_;rfl
 refine T4 ?_ jy (vy rfl _ _ _)
 refine wN (ua (IJ eo.kind (eo.kindAt (i:=8) (by refine ag fx ?_;rfl)) hc (mQ _ sr.bs) ?_) rfl)
 have cv:∀e m,br 20 cI e=aa m->fb e=ae:=λe m h=>(iG h).1
 refine IL (o:=o) (fd:=fd) (pA (jc cv ht).1 bT (mj k aq cv ht cV sr (λe _ m h=>(li L 20 cI env e m cx eo h).se) λvs s' x1 r1=>?_))
 have aY:=sr.ext k x1
 have D7:=x1.keep q _ sv hl
 refine⟨⟨ho _ aY.bs,ux⟩,?_⟩
 refine hI x l r A X s' vs dU ep _ h0 h1 h2 h3 h4 h5 aq aY.bs aY.tb aY.tXX aY.alX hq (λc hc=>let⟨y,hy⟩:=jz c hc;aY.cellI y c hy) r1 D7 bh λs2 hJ x2 e2 e3 e4 e5=>?_
 exact hQ s2 hJ (x1.toQ.trans x2) (aY.extQ k x2 hq D7 (bC _ e2) El) e2 e3 e4 e5
end
theorem ExtQ.set(k:W.Ok)(hs:mF q s.heap h')(sx:¬W.Base q)(hl:s.heap.get? q=aa (listOf dU ep)):ExtQ W q s {s with heap:=h'}:=⟨(eR h' s.toks rfl),λb o _ n e=>(hs.2 b n).trans e,λb=>k.bsKeep _ _ b λa o ba e=>(hs.2 a λz=>sx (z▸ba)).trans e,λt=>k.tbKeep _ _ t λa o e st=>(hs.2 a λz=>by clear hs sx;subst z;rw[hl]at e;obtain rfl:=aB e;obtain⟨_,vs,d⟩:=st;injection d).trans e⟩
theorem Qde{n:Nat}{x l:Int}(h:x<2^(n*l.toNat))(h0:0<=x)(hl:l=1):dg n x 0=x:=by subst hl;unfold dg;simp only[Nat.mul_zero,Int.pow_zero,Int.ediv_one];exact Int.emod_eq_of_lt h0 (by simpa using h)
theorem Qdf(h0:0<=x)(h:j<k):dg n (x%2^(n*k)) j=dg n x j:=by
 unfold dg;refine aD (I2 h0) λy am=>?_;clear h0;subst am;refine(?_:(((y:Int)%2^(n*k)/2^(n*j)%2^n)=((y%2^(n*k)/2^(n*j)%2^n:Nat):Int))->_) (rfl);intro e1;have e2:((y:Int)/2^(n*j)%2^n)=((y/2^(n*j)%2^n:Nat):Int):=rfl;simp only[e1,e2];congr 1;apply Qha;intro i;simp only[Qhc,Qhb];by_cases hi:i<n
 ·have:i+n*j<n*k:=by
   have:n*(j+1)<=n*k:=rR n h;simp only[qd,zv]at this;exact fz 0xe403018388606403200 Yt hi this
  simp[hi,this]
 ·simp[hi]
theorem Qdg:dg n (x/2^(n*k)) j=dg n x (k+j):=by unfold dg;rw[Int.ediv_ediv_of_nonneg (mC (Ds (by decide))), <-IY,qd]
theorem Qdh{cn ci ca fa c' q:au}{fw pm fF:ao}{oi of oc oa on:be}{vc:Array ao}{t tn:fL}{n c:Nat}(k:V.Ok)(L0:∀m,Lib V T (λ_ _=>ac) (m+1))(bi:∀h,V.Bs h->h.get? ci=aa oi/\h.get? fa=aa of/\h.get? c'=aa oc/\h.get? ca=aa oa/\h.get? cn=aa on)(xe:oi.data=.cell (aa (.ref fa)))(lY:of.data=.func (CM (tw cn ci ca) fw pm fF c'))
  (z5:oc.data=.fields vc) (hv:vc[1]?=aa (.str qI t)) (J3:oa.data=.cell (aa (.ref q))) (J4:on.data=.cell (aa (.int n tn))) (ap:cn≠ci/\cn≠ca/\ci≠ca)
  (sv:q∉V.T) (sx:¬V.Base q) (hn:n*c<=900000) (hc:c<=65536):
  ∀m,Hr V (m+1) n q fa [cn,ci,ca] c m:=by
 intro m
 induction m with
 |zero=>exact λx L R A X s vs dU ep Q h0 h1 h2 h3 h4 h5=>by simp at h5;exact fZ (Lq h3 h5)
 |succ m ih=>
  exact λx L R A X s vs dU ep Q h0 h1 h2 h3 h4 h5 aq bs tb tX alX hq jz hr hl bh hQ=>by
   have J0:∀(x:ar)(c:au),(tw cn ci ca).lookup x=aa c->c∈[cn,ci,ca]:=λx c hl=>by
    have:=mem_of_lookup hl;simp only[cB,zx,j0,or_false]at this⊢;rcases this with⟨_,e⟩|⟨_,e⟩|⟨_,e⟩
    ·exact .inl e
    ·exact .inr (.inl e)
    ·exact .inr (.inr e)
   have L1:=L0 m;refine O8 k Qc9 (f:=[.val (.int x),.val (.int L),.val (.int R),.un,.un,.un,.un,.un,.un,.val (.int n)]) (bi _ bs).2.1 lY ⟨c',oc,vc,t,rfl,(bi _ bs).2.2.1,z5,hv⟩ (by have:=aq.depth;exact Lr this) bs tb tX alX hr rfl ?_ ?_ ?_ (λx c hl=>jz c (J0 x c hl)) ?_ ?_
   ·show _=(d8 gw).names.length;simp only[q7];rfl
   ·intro i hi;rcases i with _|_|_|i
    ·rfl
    ·rfl
    ·rfl
    ·exact absurd hi (by show¬i+1+1+1<3;exact bL 0x26643243243240 Yt)
   ·intro i y kd hi hn;have hn:(d8 gw).names[i]?=aa (y,kd):=hn;rw[q7]at hn;rcases i with _|_|_|_|_|_|_|_|_|_|i
    ·simp at hi
    ·simp at hi
    ·simp at hi
    ·exact .inl rfl
    ·exact .inl rfl
    ·exact .inl rfl
    ·exact .inl rfl
    ·exact .inl rfl
    ·exact .inl rfl
    ·obtain⟨rfl,rfl⟩:=dx (aB hn);exact .inr (uQ _ cn (.int n tn) rfl rfl rfl (⟨on,(bi _ bs).2.2.2.2,J4⟩) (.int _ _))
    ·simp[tu]at hn
   ·simp only[Qg9,cB,j0,or_false];refine⟨?_,?_,?_,.nil⟩
    ·rintro y (rfl|rfl)
     ·exact ap.1
     ·exact ap.2.1
    ·rintro y rfl;exact ap.2.2
    ·intro y hy;cases hy
   ·intro env aS df dq eo _ same ft Ln cm sr;refine ay λcG=>?_;have fx:env.scope.names=tu:=by rw[df];exact q7
    have cx:er cI env:=λi x kd h=>(aO kd (by rw[fx];exact h) (.inl rfl));have l2:env.cells.lookup ("inner":ar)=aa ci:=by rw[dq];rfl
    have l3:env.cells.lookup ("a_digits":ar)=aa ca:=by rw[dq];rfl
    have x01:ExtQ V q s aS:=by refine fi same λhp tk av=>?_;clear same cG;subst av;exact⟨(eR hp tk rfl),λb o _ _ e=>ft b o e,λ_=>sr.bs,λ_=>sr.tb⟩
    obtain⟨p1,p2,p3,p4,p5,p6,p7,p8,p9,Ab,xf,xg,Vd,hb⟩:=Qdc;apply cG;clear cG;rw[hb];have hT:aK T (λ_ _=>ac) 10 (.cmp .eq (.bin .add (.v 1) (.ki 1)) (.v 2)) [.val (.int x),.val (.int L),.val (.int R),.un,.un,.un,.un,.un,.un,.val (.int n)]=aa (L+1==R):=rfl;refine lN (IR ((li L1 20 cI env Hq _ cx eo Qdb).st 10 (A.deeper env) X _ _ _ aS _ _ aq.deeper sr hT λs2 x2=>?_));have bU:=sr.ext k x2;have qp:=x2.keep q _ sv (ft q _ hl);by_cases e:L+1=R
    ·rw[aw (by simpa using e)];refine ay λcG=>?_;refine cY (bU.val (i:=0) (x:="x") (kd:=.local) (d:=.int x) (by rw[fx];rfl) rfl) λm3 v3 J1 Ei Aa=>?_;refine aD Aa.int_inv λtx am=>?_;clear Aa;subst am;refine cY (bU.val (i:=1) (x:="L") (kd:=.local) (d:=.int L) (by rw[fx];rfl) rfl) λm4 v4 J5 va4 Em=>?_;refine aD Em.int_inv λtL am=>?_;clear Em;subst am;apply cG;clear cG;refine lN (wpAny_Assign_Subscript (qN eo (i:=0) (by decide) (by rw[fx];rfl) J1 Ei ?_));refine ua (IJ eo.kind (eo.kindAt (i:=7) (by rw[fx];rfl)) l3 ⟨oa,(bi _ bU.bs).2.2.2.1,J3⟩ ?_) (by decide);refine qN eo (i:=1) (by decide) (by rw[fx];rfl) J5 va4 ?_;refine ki_setAt qp h2 (W3 0xf082082082082082082082082082082089006082082091007b00217203240 [_] [_,_] Yt hc h4 e) (by simp only[mL];exact W3 0x3ec0001ec208d88017203240 [_,_] [_,_] Yt h4 bh e) ?_;refine lN (wpAny_Return_none ?_);have hs:mF q s2.heap (s2.heap.update q (ud (·.setIfInBounds L.toNat (.int x tx)))):=T5 ..;have z:=PySem.IsL.update qp (λa=>a.setIfInBounds L.toNat (.int x tx));have ez:dU.toArray.setIfInBounds L.toNat (.int x tx)=(dU.set L.toNat (.int x tx)).toArray :=by
      apply zc.mp;rw[Array.toList_setIfInBounds]
     rw[ez,aw (by simp)]at z;refine hQ _ (dU.set L.toNat (.int x tx)) ((x01.trans x2.toQ).trans (ExtQ.set k hs sx qp)) z (by rw[tS,bh]) (λi hi=>?_) λi uq ut=>?_
     ·rw[List.getElem?_set_ne (V7 h2 e hi)]
     ·have:i=L.toNat:=W3 0x3521d04528228228224528974114a08a08228224528a082082256b080370032481ec0083c0b00 [_] [_,_] Yt e uq ut;clear uq;subst this;refine⟨tx,?_⟩;rw[List.getElem?_set_self (by exact W3 0x380b001ec208d8800f22cb00 [_,_] [_,_] Yt h4 bh ut)];have e0:((L.toNat:Int)-L).toNat =0:=ot 0x352c0b2c01d04528914974114a282082289149581b0b02cb00dc80c900f22cb00 Yt e ut;rw[e0,Qde h1 h0 (ot 0x74114a08224528225724b0085c80c9037203240 Yt e e)]
    ·rw[az (by simpa using e)];refine wP ?_;dsimp only;obtain⟨M,hM⟩:∃M,(L+R)/2=M:=⟨_,rfl⟩;have b1:L<M:=Lh h3 e hM;have b2:M<R:=Li h3 hM;have hh:2*(M-L)<=2^m/\2*(R-M)<=2^m:=by
      cases m with
      |zero=>exfalso;simp at h5;exact Lj h3 e h5
      |succ m=>
       have JX:(2:Int)^(m+1+1)=2*(2*2^m):=by rw[zw,zw];exact Lk
       have JY:(2:Int)^(m+1)=2*2^m:=by rw[zw];exact Ll
       exact Mk hM h5 JX JY
     have hR:(R-L).toNat =(M-L).toNat +(R-M).toNat :=Z3 0x2d443400d4b21014228a0822820922752c020508a0820820820820822752c040508a08208208208208208974114a28208228208914a08a08a0822560ec2c842c2c022c2c040f400dc86d10d000f200 [_,_,_] Yt h3 hM b1;have pp:(0:Int)<2^(n*(M-L).toNat):=Ds (by decide);have lo1:0<=x%2^(n*(M-L).toNat):=Int.emod_nonneg _ (Int.ne_of_gt pp);have lo2:x%2^(n*(M-L).toNat)<2^(n*(M-L).toNat):=Qgh _ pp;have up1:0<=x/2^(n*(M-L).toNat):=Int.ediv_nonneg h0 (mC pp);have up2:x/2^(n*(M-L).toNat)<2^(n*(R-M).toNat):=by apply Int.ediv_lt_of_lt_mul pp;rw[<-IY, <-qd,zy, <-hR];exact h1
     refine Qdd (pB (λst a h=>BH (Wf:=100) L1 20 cI env st a cx eo h) Qda 20 (A.deeper env) X _ _ _ s2 _ _ _ aq.deeper cm bU (Qc8 T _ 100 h0 h1 h2 hM b1 b2 h4 hn hc) λeN X' s3 dT En dG fo=>?_);cases fo;dsimp only;have Ve:q∈X':=dG.sub q hq;have hl3:=En.keep0 q _ hq sv qp;have x03:ExtQ V q s s3:=by
      refine⟨?_,λb o nT _ e=>?_,λ_=>dG.bs,λ_=>dG.tb⟩
      ·exact qJ same (qJ x2.same En.same)
      ·have e2:=x2.keep b o nT (ft b o e);by_cases z:b∈X
       ·exact En.keep0 b o z nT e2
       ·refine En.keep b o (λz2=>?_) e2;rcases cB.mp z2 with z2|z2
        ·rw[z2,Ln]at e;injection e
        ·exact z z2
     have El:∀(i:Nat)(xs:List an),([.val (.int x),.val (.int L),.val (.int R),.val (.int M),.val (.int ((M-L)*n)),.val (.int (x/2^(n*(M-L).toNat))),.val (.int (x%2^(n*(M-L).toNat))),.un,.un,.val (.int n)]:Frm)[i]?≠aa (.own xs):=by intro i xs;rcases i with _|_|_|_|_|_|_|_|_|_|i<;>simp
     have Vf:∀c∈[cn,ci,ca],∃y,env.cells.lookup y=aa c:=λc hc=>by
      simp only[cB,j0,or_false]at hc;rw[dq];rcases hc with e|e|e<;>rw[e]
      ·exact(bC ("n") rfl)
      ·exact(bC ("inner") rfl)
      ·exact(bC ("a_digits") rfl)
     have JK:tz≠[]:=by intro z;have:=Ri;rw[z]at this;injection this with e_;injection e_
     have JL:tB≠[]:=by intro z;have:=Rj;rw[z]at this;injection this with e_;injection e_
     refine lN (Rl L1 eo fx l2 (λh b=>⟨oi,(bi h b).1,xe⟩) (λh b=>(bi h b).2.1) lY Vf ih JK Ri aq.deeper dG (x:=x%2^(n*(M-L).toNat)) (l:=L) (r:=M) rfl lo1 lo2 h2 b1 (Lm h3 h4 hM) hh.1 Ve sv hl3 bh El λs4 it4 x4 jB hl4 QiR k4 d4=>?_);dsimp only;refine lN (Rl L1 eo fx l2 (λh b=>⟨oi,(bi h b).1,xe⟩) (λh b=>(bi h b).2.1) lY Vf ih JL Rj aq.deeper jB (x:=x/2^(n*(M-L).toNat)) (l:=M) (r:=R) rfl up1 up2 (ot 0x72011c004f200 Yt h2 b1) b2 h4 hh.2 Ve sv hl4 QiR El λs5 it5 x5 J6 hl5 QiU k5 d5=>?_);refine wP ?_;refine hQ s5 it5 ((x03.trans x4).trans x5) hl5 QiU (λi hi=>?_) λi uq ut=>?_
     ·rw[k5 i (hi.elim (λh=>.inl (Int.lt_trans h b1)) .inr),k4 i (hi.elim .inl (λh=>.inr (wt (mC b2) h)))]
     ·by_cases z:(i:Int)<M
      ·refine aD (d4 i uq z) λt' e'=>?_;refine(bC t' ?_);rw[k5 i (.inl z),e',Qdf h0 (by exact W2 0x352c800508a089d4b22c00528208a08a24528208228228224eb0b200b0b22c00f0083c0b00 [_] [_,_] Yt b1 z)]
      ·refine aD (d5 i (qx 0x1ec0009c0b00 Yt z) ut) λt' e'=>?_;refine(bC t' ?_);rw[e',Qdg];congr 4;exact W2 0xd4b22c00508a08a2752c0b00d4b20014228208208208974114a28208a08228208224528228208a2752c800508a08208208208974114a28208a08208914a08a082282256b0b22c003b0b02c02c2c800f0089c0b00 [_] [_,_] Yt b1 z
theorem Qdi(L0:Lib0 W T){cn ci ca fa c' q:au}{fw pm fF:ao}{oi of oc oa on:be}{vc:Array ao}{t tn:fL}{n c:Nat}(xe:oi.data=.cell (aa (.ref fa)))(lY:of.data=.func (CM (tw cn ci ca) fw pm fF c'))
  (z5:oc.data=.fields vc) (hv:vc[1]?=aa (.str qI t)) (J3:oa.data=.cell (aa (.ref q))) (J4:on.data=.cell (aa (.int n tn))) (hK:∀p∈[(ci,oi),(fa,of),(c',oc),(ca,oa),(cn,on)],p.1∉W.T) (ap:cn≠ci/\cn≠ca/\ci≠ca)
  (sv:q∉W.T) (sx:¬(Wc W [(ci,oi),(fa,of),(c',oc),(ca,oa),(cn,on)]).Base q) (hn:n*c<=900000) (hc:c<=65536):
  ∀m,Hr (Wc W [(ci,oi),(fa,of),(c',oc),(ca,oa),(cn,on)]) (m+1) n q fa [cn,ci,ca] c m:=by
 refine Qdh (yi L0.ok hK) (λm=>(BL L0 hK).lib (λg x args d _ h=>by injection h)) (λh b=>?_) xe lY z5 hv J3 J4 ap sv sx hn hc
 exact⟨b.2 (ci,oi) (by simp),b.2 (fa,of) (by simp),b.2 (c',oc) (by simp),b.2 (ca,oa) (by simp),b.2 (cn,on) (by simp)⟩
end
section
open PySem.Calls
set_option backward.match.sparseCases true
noncomputable def dI(a:Int):Nat:=if a=0 then 0 else a.natAbs.log2+1
def ee(a:Int)(n:Nat):Nat:=(dI a+n-1)/n
def ii(n:Nat)(a:Int)(c:Nat):List an:=(f0 c).map λk=>.int (dg n a k)
def Qdj(a z:Int):Option an:=if 0<=a/\1<=z/\z<2^30/\z.toNat*ee a z.toNat<=900000/\ee a z.toNat<=65536 then aa (.list (ii z.toNat a (ee a z.toNat)))else ac
def yS(vs:List an):Option an:=(AY vs).bind λp=>(two (gQ p.1) (gQ p.2)).bind λq=>Qdj q.1 q.2
theorem Rm(h:0<=a):a<2^dI a:=by
 refine aD (I2 h) λy am=>?_;clear h;subst am;unfold dI;by_cases z:(y:Int)=0
 ·rw[aw z];refine ag z ?_;decide
 ·rw[az z];have hy:y≠0:=Ls z;have:=Qgm (n:=y);have e:((y:Int).natAbs.log2 +1)=y.log2+1:=by rw[I3]
  refine ag e ?_;exact_mod_cast this
theorem Rn(h:0<=a)(hn:1<=n):a<2^(n*ee a n):=by
 refine Int.lt_of_lt_of_le (Rm h) ?_;have:dI a<=n*ee a n:=by unfold ee;have d1:=lH (dI a+n-1) n;have d2:=im (dI a+n-1) (show n>0 from qu hn);lia
 have h2:(2:Nat)^dI a<=2^(n*ee a n):=nY (by decide) this;exact_mod_cast h2
def st4:dF:=(cR (bW 4)).getD 0 (.Pass default)
def r4:ax:=match st4 with| .Assign _ (.BinOp _ _ r _) _=>r|_=>default
def Hs:List ax:=match(cR (bW 4)).getD 2 (.Pass default)with| .If _ [.Expr (.Call _ es _ _) _] _ _=>es|_=>[]
noncomputable def CN:List (ar×dR):=[("a",.local),("n",.cell),("a_digits",.cell),("inner",.cell),("len",.globalImplicit)]
theorem Ht:(d8 (bW 4)).names =CN:=by kernel_rfl
def c4:Cx:={names:=CN}
theorem Qdl:br 20 c4 r4=aa (.bin .fdiv (.bin .sub (.bin .add (.meth .bitlen (.v 0) []) (.v 1)) (.ki 1)) (.v 1)):=by kernel_rfl
theorem Hu:ct (br 20 c4) Hs=aa [.v 0,.ki 0,.bi .len [.v 2]]:=by kernel_rfl
theorem Qdm:∃p1 p2 p3 p4 p5 p6 p7 p8 p9 Ab xf xg kk,cR (bW 4)=[.Assign [.Name "a_digits" p1] (.BinOp (.List [.Constant (.int 0) kk p2] p3) .Mult r4 p4) p5,.FunctionDef "inner" (vE gw) (cR gw) [] ac [] (d8 gw) ac "inner" (vS 4 1),
  .If (.Name "a" p6) [.Expr (.Call (.Name "inner" p7) Hs [] p8) p9] [] Ab,.Return (aa (.Name "a_digits" xf)) xg]:=⟨_,_,_,_,_,_,_,_,_,_,_,_,_,rfl⟩
noncomputable def Ro(n:Nat):List (ar×au):=[("inner",n+2),("a_digits",n+1),("n",n)]
theorem Qdn(n:Nat):o9 n CN []=Ro n:=rfl
theorem Qdo{cn ci ca:au}(h1:env.cells.lookup ("n":ar)=aa cn)(h2:env.cells.lookup ("inner":ar)=aa ci)(h3:env.cells.lookup ("a_digits":ar)=aa ca):uc (d8 gw) env=pure (tw cn ci ca):=by unfold uc;refine ag q7 ?_;unfold tu;simp only[Dy,List.forIn_nil,cellOf,h1,h2,h3];rfl
theorem Qdp(T:Tabs)(O:bn)(hz:1<=z)(h:z<2^30)(f:Frm)(h0:f.get 0=aa (.int a))(h1:f.get 1=aa (.int z)):
  aj T O 10 (.bin .fdiv (.bin .sub (.bin .add (.meth .bitlen (.v 0) []) (.v 1)) (.ki 1)) (.v 1)) f=aa (.int (ee a z.toNat)):=by
 have u1:gS .bitlen (.int a) []=aa (.int (dI a)):=rfl
 have u2:∀x y:Int,bM .add (.int x) (.int y)=aa (.int (x+y)):=λ_ _=>rfl
 have u3:∀x y:Int,bM .sub (.int x) (.int y)=aa (.int (x-y)):=λ_ _=>rfl
 have u4:bM .fdiv (.int ((dI a:Int)+z-1)) (.int z)=aa (.int (ee a z.toNat)):=by show(if(0<z&&z<2^30)=ae then aa (bQ (((dI a:Int)+z-1)/z))else ac)=_;rw[aw (by simp only[bo,bl];exact⟨eY 0x3c0047009 Yt hz,h⟩)];congr 2;unfold ee;refine aD (I2 (show 0<=z from eY 0x1c0047009 Yt hz)) λy am=>?_;clear h h1;subst am;have:((dI a:Int)+y-1)=((dI a+y-1:Nat):Int):=aQ 0x5490c021d04528224528a08225d04528914a0895ec2c90c020b243b00b081ec009 Yt hz;refine ag this ?_;simp
 simp only[fQ,jG,cQ,h0,aV,u1,h1,u2,gG,u3,u4]
theorem Hv:∀(dU:List ao)(ds:List an),dU.length=ds.length->(∀i:Nat,i<dU.length->∃z t,dU[i]?=aa (.int z t)/\ds[i]?=aa (.int z))->RepL g dU ds:=λdU ds hl h=>RepL.of_at hl λi v d h1 h2=>by have hi:i<dU.length:=(mH.mp h1).1;refine d7 (h i hi) λz t e1 e2=>?_;rw[h1]at e1;rw[h2]at e2;clear h1;obtain rfl:=aB e1;clear h2;obtain rfl:=aB e2;exact .int _ _
theorem Qdq{w:d9}{mg mb:ar->Option ao}(L0:Lib0 (bv w mg mb) aA)(X0:eX.In (eK w.params) h₀)(G:h₀.Ns ew mg):GA (bv w mg mb) 2 yS:=by
 intro x hx;obtain rfl:x="_int2digits":=(aB hx).symm;have k:=L0.ok;have qq:mg "__builtins__"=aa (.ref 4):=fh X0 G (by kernel_rfl);refine⟨35,jO,_,fh X0 G (by kernel_rfl),λh b=>b.2.2.2.1 35 _ rfl,rfl,?_⟩;intro args d A X s vs Q hp aq bs tb tX alX hr hQ;refine ai (bx.mp hp) λaM n8 hq=>?_;obtain⟨x1,x2⟩:=aM;refine ai (bx.mp hq) λaM dZ qo=>?_;obtain⟨a,z⟩:=aM;refine aF (cX dZ) λy1 y2=>?_;obtain rfl:x1=.int a:=hY y1;obtain rfl:x2=.int z:=hY y2;obtain rfl:=FA n8;clear hp hq n8 dZ y1 y2;refine aF (pS.mp (show(if 0<=a/\1<=z/\z<2^30/\z.toNat*ee a z.toNat<=900000/\ee a z.toNat<=65536 then aa (.list (ii z.toNat a (ee a z.toNat)))else ac)=aa d from qo)) λhc e=>?_;obtain rfl:=aB e;clear qo e;refine Kn hc λha hz QiV hn g8=>?_;generalize J7:ee a z.toNat=c at*;have sy:a<2^(z.toNat*c):=by refine a8 J7 ?_;exact Rn ha (eY 0xd4014228224508a08a246b00247009 Yt hz)
 refine O9 k Qcc (bs.2.2.2.1 35 _ rfl) rfl (gu bs.2.2.2.1 rfl rfl rfl) (by have:=aq.depth;exact aH 0xe0aae8900e0aae890f2640 Yt this) bs tb tX alX hr rfl ?_;intro env aS df dq eo kW z8 same ft Ln Cn apart cm sr;have df:env.scope=d8 (bW 4):=df;have fx:env.scope.names=CN:=by refine ag df ?_;exact Ht
 have dq:env.cells=Ro (s.heap.objs.size+1):=by refine ag dq ?_;show o9 _ (d8 (bW 4)).names []=_;refine ag Ht ?_;rw[Qdn]
 obtain⟨ci,ca,cn,dq,ap⟩:∃ci ca cn:au,env.cells=[(("inner":ar),ci),(("a_digits":ar),ca),(("n":ar),cn)]/\(cn≠ci/\cn≠ca/\ci≠ca):=⟨s.heap.objs.size+1+2,s.heap.objs.size+1+1,s.heap.objs.size+1,dq,by refine⟨?_,?_,?_⟩<;>(intro q;exact absurd q (by simp))⟩;have l1:env.cells.lookup ("n":ar)=aa cn:=by refine ag dq ?_;rfl
 have l2:env.cells.lookup ("inner":ar)=aa ci:=by refine ag dq ?_;rfl
 have l3:env.cells.lookup ("a_digits":ar)=aa ca:=by refine ag dq ?_;rfl
 have cx:er c4 env:=λi x kd h=>(aO kd (by refine ag fx ?_;exact h) (.inl rfl));have hf0:(List.map FV.val [bQ a,bQ z]++bz ((d8 (bW 4)).names.length -([aG "a",aG "n"]:List ar).length) FV.un)=([.val (.int a),.val (.int z),.un,.un,.un]:Frm):=by refine ag Ht ?_;rfl
 obtain⟨X1,Vg⟩:∃X1,X1=env.locals::(env.cells.filterMap (λp=>env.cells.lookup p.1)++X):=⟨_,rfl⟩;have sr:SR (bv w mg mb) X env (λ_=>0) X1 aS.heap [.val (.int a),.val (.int z),.un,.un,.un]:=by refine ag Vg ?_;exact hf0▸sr
 have QjZ:∀b∈X1,b∈X\/s.heap.get? b=ac:=λb hb=>by
  rw[Vg]at hb;rcases cB.mp hb with rfl|hb
  ·exact .inr Ln
  ·rcases gZ.mp hb with hb|hb
   ·refine ai (o6.mp hb) λp _ hp=>?_;exact .inr (Cn p.1 b (mem_of_lookup hp))
   ·exact .inl hb
 have L1:Lib (bv w mg mb) aA (λ_ _=>ac) 0:=L0.lib (λg x args d _ h=>by injection h);have Eo:AOk (A.deeper env) 0:=aq.deeper.less (i5 0x1aa641 Yt);obtain⟨p1,p2,p3,p4,p5,p6,p7,p8,p9,Ab,xf,xg,kk,hb⟩:=Qdm;refine ag hb ?_;refine lN (T0 (wpAny_BinOp (Oq L1 (tr:=br 20 c4) (λe m h=>(iG h).1) (ms:=[.ki 0]) (by rfl) (by simp) (λe _ m h=>(li L1 20 c4 env e m cx eo h).se) 10 (A.deeper env) X _ X1 _ aS (.list [.int 0]) _ Eo sr rfl λv1 s2 x2 r2=>?_)) rfl);have bU:=sr.ext k x2;refine(li L1 20 c4 env r4 _ cx eo Qdl).se 10 (A.deeper env) X _ X1 _ s2 (.int (ee a z.toNat)) _ Eo bU (Qdp _ _ hz QiV _ rfl rfl) λv2 s3 x3 r3=>?_;rw[J7]at r3;refine aD r3.int_inv λt3 am=>?_;clear r3;subst am;have Vh:=bU.rep_ext x3 r2;have dG:=bU.ext k x3;refine dc Vh.list_inv λla le lv bB Ej _ hlv=>?_;clear r2 Vh;subst bB;refine ai hlv.one λv0 am rv0=>?_;subst am;refine aD rv0.int_inv λt0 am=>?_;subst am;refine Nw (W:=bv w mg mb) (ed Ej) (ke) (aH 0x70a249a099b00182082082440 Yt g8) ?_;obtain⟨q,hq⟩:∃q,q=s3.heap.objs.size:=⟨_,rfl⟩;obtain⟨dU,Ep⟩:∃dU:List ao,dU=bz (c:Int).toNat (.int 0 t0):=⟨_,rfl⟩;have bh:dU.length=c:=by refine ag Ep ?_;rw[lO];exact bL 0xd6c01d04528914a08974114a24528225602cb00 Yt
 refine a8 Ep (a8 hq ?_);have q3:s3.heap.get? q=ac:=by refine ag hq ?_;exact Heap.get?_none_of_le (dj _)
 have n9:Ext (bv w mg mb) aS s3:=x2.trans x3;have x4:=Ext.push (W:=bv w mg mb) k (s:=s3) {cls:=.type "list",data:=.seq dU.toArray} s3.toks;have jB:=dG.ext k x4;have Em:Rep (aJ X1 (s3.heap.push {cls:=.type "list",data:=.seq dU.toArray})) (.ref q) (.list (bz c (.int 0))):=by
  refine ag hq ?_;refine Bj (vs:=dU) dG.ltX rfl (by refine ag bh (ag dy ?_);exact Lu g8) (Hv _ _ (by refine ag bh ?_;rw[lO]) λi hi=>(hU 0 t0 ?_ ?_))
  ·refine ag Ep ?_;rw[Qhd];rw[Ep,lO]at hi;exact hi
  ·rw[Qhd];exact qt bh hi
 have J8:(s3.heap.push {cls:=.type "list",data:=.seq dU.toArray}).get? q=aa (listOf dU.toArray 0):=by refine ag hq ?_;exact g5 _ rfl
 have qT:q∉eD:=qG k jB.tb J8 rfl;have qX1:q∉X1:=λz=>by refine aD (dG.alX q z) λo e=>?_;rw[q3]at e;injection e
 have qs:s.heap.get? q=ac:=by
  cases e:s.heap.get? q with
  |none=>rfl
  |some o=>
   have:=n9.keep q o qT (ft q o e)
   rw[q3]at this;injection this
 refine ai jB.vars λm4 J5 hv4=>?_;obtain⟨caX,v4,Er⟩:=jB.cellI _ ca l3;refine TZ (name:="a_digits") eo.kind (eo.kindAt (i:=2) (by refine ag fx ?_;rfl)) l3 Er λh5 Vi J9=>?_;have J6:=jB.storeCell k eo cm J5 hv4 (i:=2) (by refine ag fx ?_;rfl) l3 Er Vi J9 Em;have Vj:ca∉eD:=oH k jB.tb Er;have caq:q≠ca:=vk Er J8 rfl;have Vk:h5.get? q=aa (listOf dU.toArray 0):=(J9.2 q caq).trans J8;dsimp only;refine lN (Rf k qq QcZ eo cm J6 kW (by refine ag z8 ?_;rfl) (by kernel_rfl) (by kernel_rfl) (by kernel_rfl) (i:=3) (by refine ag fx ?_;rfl) l2 (Qdo l1 l2 l3) rfl ?_);intro fa c' fw pm fF oi of oc vc t s6 st6 uJ i1 i2 f1 f2 c1 c2 c3 nT nX Es;dsimp only;have uJ:SR (bv w mg mb) X env (λ_=>0) X1 s6.heap [.val (.int a),.val (.int z),.val (.list (bz c (.int 0))),.un,.un]:=uJ;obtain⟨oa,a1,a2⟩:=Vi;have a6:s6.heap.get? ca=aa oa:=Es ca oa Vj (ju ap.2.2) a1;have q6:s6.heap.get? q=aa (listOf dU.toArray 0):=Es q _ qT (λe=>by clear dq ap i1 f2 nT Es;subst e;obtain⟨v,oz,e1,e2⟩:=(J6.cellI _ _ l2).2;rw[show h5.get? q=_ from Vk]at e1;obtain rfl:=aB e1;injection e2) Vk;obtain⟨vn,⟨on,n1,n2⟩,rn⟩:=uJ.cellVal (i:=1) (x:="n") (kd:=.cell) (d:=.int z) (by refine ag fx ?_;rfl) (.inl rfl) l1 rfl;refine aD rn.int_inv λtn am=>?_;clear rn;subst am;have cnT:cn∉eD:=oH k uJ.tb ⟨on,n1,n2⟩;have uG:∀p∈[(ci,oi),(fa,of),(c',oc),(ca,oa),(cn,on)],s6.heap.get? p.1=aa p.2/\p.1∉eD/\∀es ep,p.2.data≠.dict es ep/\∀vs n,p.2.data≠.seq vs n:=λp hp=>by
  simp only[cB,j0,or_false]at hp;rcases hp with rfl|rfl|rfl|rfl|rfl
  ·exact⟨i1,nT.1,λ_ _=>⟨by refine ag i2 ?_;(intro e;injection e),λ_ _=>by refine ag i2 ?_;(intro e;injection e)⟩⟩
  ·exact⟨f1,nT.2.1,λ_ _=>⟨by refine ag f2 ?_;(intro e;injection e),λ_ _=>by refine ag f2 ?_;(intro e;injection e)⟩⟩
  ·exact⟨c1,nT.2.2,λ_ _=>⟨by refine ag c2 ?_;(intro e;injection e),λ_ _=>by refine ag c2 ?_;(intro e;injection e)⟩⟩
  ·exact⟨a6,Vj,λ_ _=>⟨by refine ag a2 ?_;(intro e;injection e),λ_ _=>by refine ag a2 ?_;(intro e;injection e)⟩⟩
  ·exact⟨n1,cnT,λ_ _=>⟨by refine ag n2 ?_;(intro e;injection e),λ_ _=>by refine ag n2 ?_;(intro e;injection e)⟩⟩
 have hK:∀p∈[(ci,oi),(fa,of),(c',oc),(ca,oa),(cn,on)],p.1∉(bv w mg mb).T :=λp hp=>(uG p hp).2.1;have k2:=yi k hK;have sx:¬(Wc (bv w mg mb) [(ci,oi),(fa,of),(c',oc),(ca,oa),(cn,on)]).Base q:=by
  rintro(b|b)
  ·exact k.fresh bs qs b
  ·refine ai (gi.mp b) λp hp e=>?_;refine eQ (uG p hp) λe1 _ e3=>?_;rw[e,q6]at e1;have e1:=aB e1;exact(e3 #[] 0).2 dU.toArray 0 (by exact a8 e1 rfl)
 refine ai uJ.vars λm6 hn6 _=>?_;have Ka:=uJ.toWc (λp hp=>(uG p hp).1) (λz=>by
  refine ai (gi.mp z) λp hp e=>?_;obtain⟨o,es,ep,e1,e2,_⟩:=hn6;refine eQ (uG p hp) λe3 _ e4=>?_;rw[<-e,e3]at e1;have e1:=aB e1;exact(e4 es ep).1 (by refine ag e1 ?_;exact e2)) (λi ys e=>by
  rcases i with _|_|_|_|_|i<;>simp at e)
 have bi:∀h,(Wc (bv w mg mb) [(ci,oi),(fa,of),(c',oc),(ca,oa),(cn,on)]).Bs h->h.get? ci=aa oi/\h.get? fa=aa of/\h.get? ca=aa oa:=λh b=>⟨b.2 (ci,oi) (by simp),b.2 (fa,of) (by simp),b.2 (ca,oa) (by simp)⟩;have s06:∀b o,b∉eD->s.heap.get? b=aa o->s6.heap.get? b=aa o:=λb o nb e=>by
  have ec:∀y cc,(y,cc)∈env.cells->b≠cc:=λy cc hm z=>by have:=Cn y cc hm;rw[z,this]at e;injection e
  refine Es b o nb (ec "inner" ci (mem_of_lookup l2)) ?_;exact(J9.2 b (ec "a_digits" ca (mem_of_lookup l3))).trans (x4.keep b o nb (n9.keep b o nb (ft b o e)))
 have Qi5:∃hp tk,s6={s with heap:=hp,toks:=tk}:=by exact qJ same (qJ n9.same st6.same)
 have fin:∀(s':aE)(hJ:List ao),ExtQ (Wc (bv w mg mb) [(ci,oi),(fa,of),(c',oc),(ca,oa),(cn,on)]) q s6 s'->s'.heap.get? q=aa (listOf hJ.toArray 0)->hJ.length=c->(∀i:Nat,i<c->∃t,hJ[i]?=aa (.int (dg z.toNat a i) t))->
   aI (aP (bv w mg mb).prog (bv w mg mb).w) (A.deeper env) (mN [.Return (aa (.Name "a_digits" xf)) xg] env) (λfl s'=>Q (match fl with| .ret v=>v|_=>.none) s') bg s':=λs' hJ x hq' mR DR=>by
  have b':=x.bs Ka.bs
  refine lN (T3 (ua (II eo.kind (eo.kindAt (i:=2) (by refine ag fx ?_;rfl)) l3 ⟨oa,(bi _ b').2.2,a2⟩ ?_) (by decide)))
  dsimp only
  refine hQ _ _ ⟨?_,λb o nb e=>?_,λ_=>b'.1,λ_=>x.tb uJ.tb⟩ ?_
  ·exact qJ Qi5 x.same
  ·exact x.keep b o nb (λz=>by rw[z,qs]at e;injection e) (s06 b o nb e)
  ·refine Rep.mkList (n:=0) (vs:=hJ) (cb.mpr ⟨λz=>?_,hq'⟩) (by refine ag mR (ag dy ?_);exact Lu g8) (Hv _ _ (by refine ag mR ?_;simp[ii]) λi hi=>?_)
   ·refine aD (alX q z) λo e=>?_;rw[qs]at e;injection e
   ·refine aD (DR i (qt mR hi)) λt' e=>?_;refine(hU _ t' e ?_);unfold ii;rw[dS,DB (by exact qt mR hi)];rfl
 have hT:aK aA (λ_ _=>ac) 10 (.v 0) [.val (.int a),.val (.int z),.val (.list (bz c (.int 0))),.un,.un]=aa (a !=0):=rfl;have Lc:Lib (Wc (bv w mg mb) [(ci,oi),(fa,of),(c',oc),(ca,oa),(cn,on)]) aA (λ_ _=>ac) 0:=(BL L0 hK).lib (λg x args d _ h=>by injection h);refine lN (IR ((li Lc 20 c4 env (.Name "a" p6) (.v 0) cx eo (by kernel_rfl)).st 10 (A.deeper env) X _ X1 _ s6 _ _ Eo Ka hT λs8 x8=>?_));have Kb:=Ka.ext k2 x8;have q8:=x8.keep q _ qT q6;by_cases ea:a=0
 ·have c0:c=0:=by
   refine a8 J7 (ag ea ?_);unfold ee dI;rw[aw rfl];exact Qhe (eY 0xd40142282255243b0004528208a08a24508a0820893ac00b243b00047009 Yt hz)
  rw[az (by simp[ea])];refine wP ?_;exact fin s8 dU x8.toQ q8 bh λi hi=>absurd hi (aQ 0x980216040 Yt c0)
 ·rw[aw (by simpa using ea)];have mS:0<c:=by
   rcases Nat.eq_zero_or_pos c with h|h
   ·rw[h,Nat.mul_zero]at sy;exfalso;have:a<1:=by simpa using sy
    exact Z3 0x1d445282245289b810470013c903f040 [_] Yt ha sy ea
   ·exact h
  have jy:zq env=af:=by unfold zq;refine ag eo.kind ?_;rfl
  have cv:∀e m,br 20 c4 e=aa m->fb e=ae:=λe m h=>(iG h).1;have ne4:Hs≠[]:=by intro z;have:=Hu;rw[z]at this;injection this with e_;injection e_
  refine lN (T4 (wN (ua (II eo.kind (eo.kindAt (i:=3) (by refine ag fx ?_;rfl)) l2 ⟨oi,(bi _ Kb.bs).1,i2⟩ ?_) (by decide))) jy (vy rfl _ _ _));have cV:aV (λe=>aj aA (λ_ _=>ac) 10 e [.val (.int a),.val (.int z),.val (.list (bz c (.int 0))),.un,.un]) [.v 0,.ki 0,.bi .len [.v 2]]=aa [.int a,.int 0,.int c]:=by
   have e3:gR .len [.list (bz c (.int 0))]=aa (.int c):=by show aa (bQ ((bz c (bQ 0)).length :Nat))=_;rw[lO]
   simp only[aV,cQ,Frm.get,ce,js,gB,Ub,Uc,getElem?_pos,Ud,gG,oB,iF,Frm.peek,Ue,Uf,bF,e3]
  refine IL (o:=of) (fd:=CM (tw cn ci ca) fw pm fF c') (pA (jc cv Hu).1 ne4 (mj k2 Eo cv Hu cV Kb (λe _ m h=>(li Lc 20 c4 env e m cx eo h).se) λvs9 s9 x9 r9=>?_));have uK:=Kb.ext k2 x9;have q9:=x9.keep q _ qT q8;refine⟨⟨(bi _ uK.bs).2.1,f2⟩,?_⟩;have zz:z=(z.toNat:Int):=eY 0xd4014228225d0452822452895ecb00007009 Yt hz;have uy:=Qdi (W:=bv w mg mb) (n:=z.toNat) (c:=c) (tn:=tn) L0 i2 f2 c2 c3 a2 (by exact ag n2 (a8 zz rfl)) hK ap qT sx hn g8 17;refine uy a 0 c (A.deeper env) (q::X1) s9 vs9 dU 0 _ ha (by simpa using sy) (by lia) (xD mS) (bL 0x7b00b00 Yt) (by
   have:(2:Int)^17=131072:=by decide
   exact aH 0x14a4470820820a14cb06c011182082082440 Yt g8) (aq.deeper.less (i5 0x6a990c9291 Yt)) uK.bs uK.tb (λb hb=>eh _ (uK.tXX b hb)) (λb hb=>?_) fD (λcc g8=>?_) ?_ q9 bh ?_
  ·rcases cB.mp hb with e_|hb
   ·clear hb;obtain rfl:=e_.symm;exact(bC _ q9)
   ·exact uK.alX b hb
  ·have:∃y,env.cells.lookup y=aa cc:=by
    simp only[cB,j0,or_false]at g8;rcases g8 with e|e|e
    ·exact(bC _ (e▸l1))
    ·exact(bC _ (e▸l2))
    ·exact(bC _ (e▸l3))
   refine aD this λy hy=>?_;exact⟨eh _ (uK.cellI y cc hy).1,(uK.cellI y cc hy).2⟩
  ·refine RepL.of_at r9.length λi v d h1 h2=>?_;have rp:=r9.at i v d h1 h2;rcases i with _|_|_|i
   ·obtain rfl:=aB h2;refine aD rp.int_inv λt' am=>?_;clear h1 rp;subst am;exact .int _ _
   ·obtain rfl:=aB h2;refine aD rp.int_inv λt' am=>?_;clear h1 rp;subst am;exact .int _ _
   ·obtain rfl:=aB h2;refine aD rp.int_inv λt' am=>?_;clear h1 rp;subst am;exact .int _ _
   ·simp at h2
  ·intro s' hJ xq e2 e3 e4 e5;refine wP ?_;refine fin s' hJ ((x8.toQ.trans x9.toQ).trans xq) e2 e3 λi hi=>?_;refine aD (e5 i (ke) (AD hi)) λt' e=>?_;exact(bC t' (by refine ag e ?_;congr 4))
end
section
theorem ij{x k:Nat}(h:x<2^k)(hk:k<=999999):di (x:Int)=ae:=by
 unfold di;rw[I3];by_cases z:x=0
 ·refine ag z ?_;decide
 ·have:=(Dt z).mpr h;simp;exact Lg hk this
theorem gV(x y:Int):bM .add (.int x) (.int y)=aa (.int (x+y)):=rfl
theorem pJ(x y:Int):bM .sub (.int x) (.int y)=aa (.int (x-y)):=rfl
theorem rc(hx:di x=ae)(hy:di y=ae):bM .mul (.int x) (.int y)=aa (.int (x*y)):=by show(if(di x&&di y)=ae then aa (bQ (x*y))else ac)=_;refine ag hx (ag hy ?_);rfl
theorem vZ{x k:Nat}(hk:k<=1000000)(hx:di (x:Int)=ae):bM .shl (.int x) (.int k)=aa (.int ((x*2^k:Nat):Int)):=by show(if(decide (0<=(k:Int))&&decide ((k:Int)<=1000000)&&di (x:Int))=ae then aa (bQ ((x:Int)*2^(k:Int).toNat))else ac)=_;refine ag hx ?_;rw[aw (by simp;exact aH 0x708228a8b266c00608228a8b2640 Yt hk),jY];congr 2
theorem CP{k:Nat}(hk:k<=1000000):bM .shl (.int 1) (.int k)=aa (.int ((2^k:Nat):Int)):=by have:=vZ (x:=1) hk (by decide);rw[zA]at this;exact this
theorem yT(x k:Nat):bM .shr (.int x) (.int k)=aa (.int ((x/2^k:Nat):Int)):=by show(if(0:Int)<=(k:Int)then aa (bQ ((x:Int)/2^(k:Int).toNat))else ac)=_;rw[aw (by exact ke),jY];congr 2
theorem CQ(x y:Nat):bM .band (.int x) (.int y)=aa (.int ((x&&& y:Nat):Int)):=by show(if(decide (0<=(x:Int))&&decide (0<=(y:Int)))=ae then aa (bQ (((x:Int).toNat &&& (y:Int).toNat :Nat):Int))else ac)=_;rw[aw (by simp),jY,jY]
theorem Rp(x y:Nat):bM .bor (.int x) (.int y)=aa (.int ((x|||y:Nat):Int)):=by show(if(decide (0<=(x:Int))&&decide (0<=(y:Int)))=ae then aa (bQ (((x:Int).toNat |||(y:Int).toNat :Nat):Int))else ac)=_;rw[aw (by simp),jY,jY]
theorem Rq(h:y<2^n):x*2^n|||y=x*2^n+y:=by rw[fm,Nat.two_pow_add_eq_or_of_lt h]
def Ret(T:Tabs)(O:bn)(W n:Nat)(r:List MS)(f:Frm)(d:an):Prop:=∃ff,bc T O W n r f=aa (.ret d,ff)
theorem Ret.next(h:bJ T O W n s f=aa (.next,g))(h2:Ret T O W n r g d):Ret T O W (n+1) (s::r) f d:=by obtain⟨ff,h2⟩:=h2;exact⟨ff,by rw[iE];refine ag h ?_;exact h2⟩
theorem Ret.ret(h:bJ T O W n s f=aa (.ret d,g)):Ret T O W (n+1) (s::r) f d:=⟨g,by rw[iE];exact ag h rfl⟩
theorem Ret.ife(c:Bool)(h:aK T O 40 t f=aa c)(h2:Ret T O W n (if c then a else b) f d):Ret T O W (n+2) (.ife t a b::r) f d:=by obtain⟨ff,h2⟩:=h2;exact Ret.ret (WG c h h2)
theorem Ret.no(h:aK T O 40 t f=aa af)(h2:Ret T O W (n+2) r f d):Ret T O W (n+3) (.ife t a []::r) f d:=by refine Ret.next ?_ h2;rw[iD];refine ag h ?_;rfl
theorem Ret.evF(h2:Ret T O W 200 m.body (vs.map .val ++bz (m.nNames-m.nParams) .un) d)(h:vs.length=m.nParams):evF T O W m vs=aa d:=by obtain⟨ff,h2⟩:=h2;rw[Mine.evF,aw h];exact ag h2 rfl
def D2(O:bn)(N:Nat):Prop:=∀a b n:Nat,n<=N->2^n<=2*b->b<2^n->a<b*2^n->O 0 [.int a,.int b,.int n]=aa (.tuple [.int ((a/b:Nat):Int),.int ((a%b:Nat):Int)])
def D3(O:bn)(N:Nat):Prop:=∀da a3 b1 b2 n:Nat,n<=N->2^n<=2*b1->b1<2^n->b2<2^n->a3<2^n->da<b1*2^n+b2->
 O 1 [.int da,.int a3,.int ((b1*2^n+b2:Nat):Int),.int b1,.int b2,.int n]=aa (.tuple [.int (((da*2^n+a3)/(b1*2^n+b2):Nat):Int),.int (((da*2^n+a3)%(b1*2^n+b2):Nat):Int)])
theorem Qdr(ht:t f=aa ae)(hb:b f=aa (.next,f')):ek t b (k+1) f=ek t b k f':=by
 conv=>lhs;unfold ek
 rw[ht];dsimp only[];rw[hb]
theorem Qds(ht:t f=aa af):ek t b (k+1) f=aa (.next,f):=by
 conv=>lhs;unfold ek
 rw[ht]
theorem Qdt(T:Tabs)(O:bn)(Wf fu wf:Nat)(v0 v1 v3 v4 v5 v8:FV)(h2:0<=r+2*b)(hr:r<b):
  ∃q' r':Int,ek (λf=>aK T O 40 (.cmp .lt (.v 7) (.ki 0)) f) (λf=>bc T O Wf (fu+3) [.aug 6 .sub (.ki 1),.aug 7 .add (.v 2)] f) (wf+3) [v0,v1,.val (.int b),v3,v4,v5,.val (.int q),.val (.int r),v8]=
   aa (.next,[v0,v1,.val (.int b),v3,v4,v5,.val (.int q'),.val (.int r'),v8])/\0<=r'/\r'<b/\q'*b+r'=q*b+r:=by
 have kR:∀(k:Nat)(q r:Int),r<0->ek (λf=>aK T O 40 (.cmp .lt (.v 7) (.ki 0)) f) (λf=>bc T O Wf (fu+3) [.aug 6 .sub (.ki 1),.aug 7 .add (.v 2)] f) (k+1) [v0,v1,.val (.int b),v3,v4,v5,.val (.int q),.val (.int r),v8]=
   ek (λf=>aK T O 40 (.cmp .lt (.v 7) (.ki 0)) f) (λf=>bc T O Wf (fu+3) [.aug 6 .sub (.ki 1),.aug 7 .add (.v 2)] f) k [v0,v1,.val (.int b),v3,v4,v5,.val (.int (q-1)),.val (.int (r+b)),v8]:=by
  intro k q r h
  exact Qdr (congrArg aa (d6 h)) rfl
 have Kc:∀(k:Nat)(q r:Int),0<=r->ek (λf=>aK T O 40 (.cmp .lt (.v 7) (.ki 0)) f) (λf=>bc T O Wf (fu+3) [.aug 6 .sub (.ki 1),.aug 7 .add (.v 2)] f) (k+1) [v0,v1,.val (.int b),v3,v4,v5,.val (.int q),.val (.int r),v8]=
   aa (.next,[v0,v1,.val (.int b),v3,v4,v5,.val (.int q),.val (.int r),v8]):=by
  intro k q r h
  exact Qds (congrArg aa (eP (Ar h)))
 by_cases h:0<=r
 ·exact⟨q,r,Kc (wf+2) q r h,h,hr,rfl⟩
 ·by_cases h1:0<=r+b
  ·exact⟨q-1,r+b,by rw[kR (wf+2) q r (uX h),Kc (wf+1) _ _ h1],h1,Z1 0x3c80c801f001 [_,_] Yt h,by rw[Ug];exact Z0 0x1d0452452570d00030c840b4c8240 [_,_,_] Yt⟩
  ·refine⟨q-1-1,r+b+b,by rw[kR (wf+2) q r (by exact uX h),kR (wf+1) _ _ (by exact Z1 0x3c10c801f0c8001 [_,_] Yt h1),Kc wf _ _ (by exact Lv h2)],by exact Lv h2,by exact Z1 0x3c80c80c801f0c8001 [_,_] Yt h1,by rw[Ug,Ug];exact Z0 0x1d0452452570d00030c80c840b4c824b4c8240 [_,_,_] Yt⟩
theorem Qdu{N wf:Nat}(hN:N<=400000)(h:D2 O N)(da a3 b1 b2 n:Nat)(hn:n<=N)(h1:2^n<=2*b1)(h2:b1<2^n)(h3:b2<2^n)(h4:a3<2^n)(b:Nat)(hB:b1*2^n+b2=b)(h5:da<b):
  ∃q0 r0:Nat,da=q0*b1+r0/\q0<2^n/\r0<2^n+b1/\r0*2^n+a3<b+q0*b2/\
   (∀v5,bJ T O (wf+3) 199 (.ife (.cmp .eq (.bin .shr (.v 0) (.v 5)) (.v 3)) [.unp [6,7] (.tup [.bin .sub (.bin .shl (.ki 1) (.v 5)) (.ki 1),.bin .add (.bin .sub (.v 0) (.bin .shl (.v 3) (.v 5))) (.v 3)])] [.unp [6,7] (.call 0 [.v 0,.v 3,.v 5])])
    [.val (.int da),.val (.int a3),.val (.int b),.val (.int b1),.val (.int b2),.val (.int n),.un,.un,v5]=aa (.next,[.val (.int da),.val (.int a3),.val (.int b),.val (.int b1),.val (.int b2),.val (.int n),.val (.int q0),.val (.int r0),v5])):=by
 have P:0<2^n:=jv n
 have Kd:0<b1:=EV h1 P
 have sm:∀x:Nat,x<2^n->di (x:Int)=ae:=λx hx=>ij hx (AE hN hn)
 have u0:=yT da n
 have d:=lH da (2^n)
 have dm:=im da P
 by_cases q:da/2^n=b1
 ·rw[q]at d;have t1:bM .sub (.int ((2^n:Nat):Int)) (.int 1)=aa (.int ((2^n-1:Nat):Int)):=by rw[pJ];congr 2;exact Lw P
  have t2:=vZ (x:=b1) (k:=n) (AF hN hn) (sm _ h2);have z6:b1*2^n<=da:=by rw[fm]at d;exact bR 0x190016403200 Yt d
  have t3:bM .sub (.int (da:Int)) (.int ((b1*2^n:Nat):Int))=aa (.int ((da-b1*2^n:Nat):Int)):=by rw[pJ];congr 2;exact EW z6
  have t4:bM .add (.int ((da-b1*2^n:Nat):Int)) (.int (b1:Int))=aa (.int ((da-b1*2^n+b1:Nat):Int)):=by rw[gV];congr 2
  have c:dt .eq (.int ((da/2^n:Nat):Int)) (.int (b1:Int))=aa ae:=by refine ag q ?_;exact congrArg aa (by simp)
  have t0:=CP (k:=n) (AF hN hn);have e1:(2^n-1)*b1=b1*2^n-b1:=by rw[I4,zA,fm]
  have e2:(2^n-1)*b2=b2*2^n-b2:=by rw[I4,zA,fm]
  have e3:b1<=b1*2^n:=Qhf _ P;have e4:b2<=b2*2^n:=Qhf _ P;have e5:(da-b1*2^n+b1)*2^n<=(b2-1+b1)*2^n:=lI _ (N2 0x54961540014a08208914228228a28955000528208224508a28228a2460e02c960380b400d880d840e200 [_,_,_,_,_] Yt hB h5);have e6:(b2-1+b1)*2^n=b2*2^n-2^n+b1*2^n:=by rw[lP,I4,zA]
  have e7:2^n<=b2*2^n:=I5 _ (by clear d;lia);refine⟨2^n-1,da-b1*2^n+b1,by clear d;lia,aH 0x5490052822891422893802c900e001 Yt P,N4 0x1560814a08a08208914228a28a24e0e8003a0b60838083640381839020e001 [_,_,_,_,_,_] Yt h3 hB h5 P,N6 0x57021500814a08228a28a08a28914228228a28a08a25500814a08a08a28a28a28914228a08a28a28a24e0e8e03120380116e03c18d8bc08a0642058360b008406200 [_,_,_,_,_,_,_,_,_] Yt h4 hB e2 e5 e6 e7,λv5=>?_⟩;simp only[iD,kj,iC,fQ,cQ,Frm.get,cH,cU,u0,iF,Frm.peek,c,bF,dO,iE,m9,qE,aV,gG,t0,t1,t2,t3,t4,eC,Frm.put,dz,dC,md]
 ·have lt:da/2^n<b1:=by
   have:da/2^n<b1+1:=(qe P).mpr (by rw[lP];exact xK 0x3834e025000e818d880d840e200 Yt h3 hB h5);exact bp 0x1d24528208914a24e200f8800e0c9200 Yt q this
  have Vl:da<b1*2^n:=(qe P).mp lt;have c:dt .eq (.int ((da/2^n:Nat):Int)) (.int (b1:Int))=aa af:=congrArg aa (by rw[beq_eq_false_iff_ne];intro z;exact q (by exact_mod_cast z));have hc:=h da b1 n hn h1 h2 Vl;have r1:=im da Kd;have e5:(da%b1)*2^n<=(b1-1)*2^n:=lI _ (xE r1);have e6:(b1-1)*2^n=b1*2^n-2^n:=by rw[I4,zA]
  have e7:2^n<=b1*2^n:=I5 _ Kd;refine⟨da/b1,da%b1,?_,(qe Kd).mpr (by rw[fm];exact Vl),bR 0x38321000e200 Yt r1,N5 0x54020528228a28a28914228a28a289383e280f060e0305a80e020641858b008406200 [_,_,_,_,_,_,_,_] Yt h4 hB e5 e6 e7,λv5=>?_⟩
  ·rw[fm];exact(lH da b1).symm
  ·simp only[iD,kj,iC,fQ,cQ,Frm.get,cH,cU,u0,iF,Frm.peek,c,bF,dO,iE,m9,jF,aV,hc,eC,Frm.put,dz,dC,md]
theorem Qdv{a b:Nat}{q r:Int}(h0:0<=r)(h1:r<b)(e:q*b+r=a):q=((a/b:Nat):Int)/\r=((a%b:Nat):Int):=by have hb:(0:Int)<b:=W2 0xfb000470013ec000 [_] [_] Yt h0 h1;have:=Int.ediv_emod_unique hb (a:=(a:Int)) (r:=r) (q:=q);have w:=this.mpr ⟨by rw[wr];exact W2 0x1d0452822452820895ec0030085ec003200dec003200 [_] [_,_] Yt e e,h0,h1⟩;rw[Qhg,Qhh];exact⟨w.1.symm,w.2.symm⟩
theorem Qdw{N wf:Nat}(hN:N<=400000)(h:D2 O N)(da a3 b1 b2 n:Nat)(hn:n<=N)(h1:2^n<=2*b1)(h2:b1<2^n)(h3:b2<2^n)(h4:a3<2^n)(h5:da<b1*2^n+b2):
  evF T O (wf+3) M5 [.int da,.int a3,.int ((b1*2^n+b2:Nat):Int),.int b1,.int b2,.int n]=aa (.tuple [.int (((da*2^n+a3)/(b1*2^n+b2):Nat):Int),.int (((da*2^n+a3)%(b1*2^n+b2):Nat):Int)]):=by
 have P:0<2^n:=jv n
 generalize hB:b1*2^n+b2=b at*
 refine EB (Qdu (T:=T) (wf:=wf) hN h da a3 b1 b2 n hn h1 h2 h3 h4 b hB h5) λq0 r0 e0 Vm JC hr0 ev=>?_
 have pp:2^(n+1)=2^n*2:=zB 2 n
 have t1:=vZ (x:=r0) (k:=n) (AF hN hn) (ij (x:=r0) (k:=n+1) (f7 0x38040e2183836084364d1200 Yt h2 JC pp) (bp 0x6eba08a8b2643240182092a8a889206200 Yt hN hn))
 have t2:=Rp (r0*2^n) a3
 rw[Rq h4]at t2
 have t3:=rc (ij Vm (AE hN hn)) (ij h3 (AE hN hn))
 have t4:=pJ ((r0*2^n+a3:Nat):Int) ((q0:Int)*(b2:Int))
 generalize hR:((r0*2^n+a3:Nat):Int)-(q0:Int)*(b2:Int)=R at t4
 have Vn:((q0*b2:Nat):Int)=(q0:Int)*(b2:Int):=mJ _ _
 have hR1:R<b:=W3 0xfb1820e0c0603408dc82c0b034085c0b00 [_,_,_,_] [_,_] Yt hr0 hR Vn
 have hR2:0<=R+2*b:=by have e1:q0*b2<=q0*2^n:=rR _ (qv h3);have e2:q0*2^n<=2^n*2^n:=lI _ (qv Vm);have e3:2^n*2^n<=2*(b1*2^n):=a8 (nZ 2 b1 (2^n)) (lI _ h1);lia
 refine Kp (Qdt T O (wf+3) 193 wf (.val (.int da)) (.val (.int a3)) (.val (.int b1)) (.val (.int b2)) (.val (.int n)) .un (b:=b) (q:=q0) (r:=R) hR2 hR1) λq' r' w1 w2 w3 w4=>?_
 have fin:q'*b+r'=((da*2^n+a3:Nat):Int):=by
  refine ag w4 (a8 hR (a8 hB (a8 Vn (ag e0 ?_))));have:q0*(b1*2^n+b2)+(r0*2^n+a3)=(q0*b1+r0)*2^n+a3+q0*b2:=by rw[qd,lP,nZ];exact N0 0x1d0452452560c80d80d00030d8403200 [_,_,_,_] Yt
  rw[<-mJ];exact Wb this
 refine aF (Qdv w2 w3 fin) λf1 f2=>?_
 refine a8 f1 (a8 f2 ?_)
 refine Ret.evF ?_ rfl
 refine Ret.next (ev _) ?_
 refine Ret.next (by simp only[ja,fQ,cQ,Frm.get,cU,cH,t1,t2,t3,t4,Frm.put,dz,dC];rfl) ?_
 refine Ret.next w1 ?_
 exact Ret.ret rfl
end
section
theorem Hw:gS .bitlen (.int a) []=aa (.int (dI (a:Int):Nat)):=rfl
theorem yU{a k:Nat}(h:a<2^k):dI (a:Int)<=k:=by
 unfold dI;by_cases z:(a:Int)=0
 ·rw[aw z];exact Ay
 ·rw[az z,I3];have:=(Dt (Ls z)).mpr h;exact xF this
theorem Hx(a:Nat):a<2^dI (a:Int):=by
 have h:=Rm (a:=(a:Int)) (ke);have e:((2^dI (a:Int):Nat):Int)=2^dI (a:Int):=by rw[wT];rfl
 exact W2 0xe0083c0b08dc0b00 [_,_] [_] Yt h e
theorem Qdx{b:Nat}(hb:0<b):2^dI (b:Int)<=2*b:=by unfold dI;rw[az (by exact AG hb),I3,zB];have:=Nat.log2_self_le (n:=b) (aH 0x14a089f8100e001 Yt hb);exact aQ 0x52911932114d1006200 Yt this
theorem bDm{a b:Nat}(h:0<b)(h2:a<b*2^4010):gR .divmod [.int a,.int b]=aa (.tuple [.int ((a/b:Nat):Int),.int ((a%b:Nat):Int)]):=by
 show(if(decide ((0:Int)<b)&&decide (0<=(a:Int))&&decide ((a:Int)<b*2^4010))=ae then aa (PyData.tuple [.int ((a:Int)/b),.int ((a:Int)%b)])else ac)=_;have e:((b*2^4010:Nat):Int)=(b:Int)*2^4010:=by rw[mJ,wT];rfl
 rw[aw]
 ·rw[Qhg,Qhh]
 ·refine a8 e ?_;simp only[bo,bl];exact⟨⟨xD h,ke⟩,AD h2⟩
theorem Rr{Wf a b n:Nat}(hb:b<2^n)(kX:2^n<=2*b)(h:dI (a:Int)<=n+4000):
  evF T O Wf vj [.int a,.int b,.int n]=aa (.tuple [.int ((a/b:Nat):Int),.int ((a%b:Nat):Int)]):=by
 have P:0<2^n:=jv n
 have l:a<b*2^4010:=by
  have h1:=Hx a;have h2:2^dI (a:Int)<=2^(n+4000):=nY (by decide) h;rw[jZ]at h2;have h3:2^n*2^4000<=2*b*2^4000:=lI _ kX;have h4:2*b*2^4000<=b*2^4010:=by rw[show 2^4010=2^10*2^4000 by rw[<-jZ], <-nZ];exact lI _ (bL 0x193082091013011 Yt)
  exact sH 0xe220398806418180406200 Yt h1 h2 h3 h4
 have c1:bM .sub (.int ((dI (a:Int):Nat):Int)) (.int (n:Int))=aa (.int (((dI (a:Int):Nat):Int)-n)):=rfl
 have c2:dt .le (.int (((dI (a:Int):Nat):Int)-n)) (.int 4000)=aa ae:=congrArg aa (d6 (aQ 0x1c28b2e4bb08b001830a2cb9200 Yt h))
 have c3:=bDm (by exact EV kX P) l
 refine Ret.evF ?_ rfl
 show Ret T O Wf 200 vj.body [.val (.int a),.val (.int b),.val (.int n),.un,.un,.un,.un,.un,.un,.un,.un,.un,.un,.un] _
 refine Ret.ife ae (by simp only[kj,iC,fQ,jG,cQ,Frm.get,cH,aV,Hw,cU,c1,sP,gG,c2,bF,dO]) ?_
 exact Ret.ret (by simp only[l9,oB,aV,iF,Frm.peek,cH,cU,bF,c3];rfl)
theorem Qdz(hA:A<B*(2^h*2^h))(hB:0<B):
  ∃q1 r1 q2 r2,q1=(A/(2^h*2^h)*2^h+A/2^h%2^h)/B/\r1=(A/(2^h*2^h)*2^h+A/2^h%2^h)%B/\q2=(r1*2^h+A%2^h)/B/\r2=(r1*2^h+A%2^h)%B/\
   A/(2^h*2^h)<B/\r1<B/\q1<2^h/\q2<2^h/\q1*2^h+q2=A/B/\r2=A%B:=by
 have P:0<2^h:=jv h
 refine⟨_,_,_,_,rfl,rfl,rfl,rfl,?_⟩
 generalize 2^h=X at*
 have e1:A/(X*X)*X+A/X%X=A/X:=by rw[<-Nat.div_div_eq_div_mul,fm];exact lH _ _
 refine ag e1 ?_
 have m1:=im (A/X) hB
 have k1:A/(X*X)<B:=(qe (I6 P P)).mpr hA
 have k2:A/X<B*X:=(qe P).mpr (by rw[nZ];exact hA)
 have k3:A/X/B<X:=(qe hB).mpr (by rw[fm];exact k2)
 have a1:=im A P
 have k4:A/X%B*X+A%X<B*X:=by exact hz m1 a1
 have k5:(A/X%B*X+A%X)/B<X:=(qe hB).mpr (by refine ag (fm X B) ?_;exact k4)
 refine⟨k1,m1,k3,k5,?_⟩
 have d1:=lH A X
 have d2:=lH (A/X) B
 have d3:=lH (A/X%B*X+A%X) B
 have m3:=im (A/X%B*X+A%X) hB
 have fin:(A/X/B*X+(A/X%B*X+A%X)/B)*B+(A/X%B*X+A%X)%B=A:=by
  have z:A/X/B*X*B+A/X%B*X=X*(A/X):=by rw[nZ];refine ag (fm X B) ?_;rw[<-nZ, <-lP];refine ag (fm (A/X/B) B) (ag d2 ?_);rw[fm]
  rw[lP];rw[fm B]at d3;exact N6 0x74114a08a08a08914a082282282256c038036005b00e8436c03a10583a080e06360e82038185900c8036403200 [_,_,_,_,_,_,_] Yt d1 d1 d3 d3 z z
 generalize (A/X/B*X+(A/X%B*X+A%X)/B)=Q at*
 generalize (A/X%B*X+A%X)%B=R at*
 have:A/B=Q/\A%B=R:=by have w:=(I7 (a:=A) (d:=Q) (c:=R) hB).mpr ⟨by rw[fm];exact Ly fin fin,m3⟩;exact w
 exact⟨this.1.symm,this.2.symm⟩
theorem QdA{Wf N:Nat}(hN:N<=200000)(H:D3 O N){a b n:Nat}(hn:n<=2*N)(hb:b<2^n)(kX:2^n<=2*b)(ha:a<b*2^n)(h:¬dI (a:Int)<=n+4000):
  evF T O Wf vj [.int a,.int b,.int n]=aa (.tuple [.int ((a/b:Nat):Int),.int ((a%b:Nat):Int)]):=by
 have c1:bM .sub (.int ((dI (a:Int):Nat):Int)) (.int (n:Int))=aa (.int (((dI (a:Int):Nat):Int)-n)):=rfl
 have c2:dt .le (.int (((dI (a:Int):Nat):Int)-n)) (.int 4000)=aa af:=congrArg aa (eP (aQ 0x7c28b2e4bb08b007830a2cb9200 Yt h))
 have c3:=CQ n 1
 rw[show n&&& 1=n%2 from Nat.and_one_is_mod n]at c3
 have P:0<2^n:=jv n
 have hbp:0<b:=EV kX P
 have Vo:dI (a:Int)<=2*n:=yU (by have:b*2^n<=2^n*2^n:=lI _ (qv hb);rw[zC,jZ];exact EX ha this)
 obtain⟨p,hp,A,B,m,hA,hB,hm,ev⟩:∃p:Nat,p=n%2/\∃A B m:Nat,A=a*2^p/\B=b*2^p/\n+p=2*m/\
   (∀v4 v5 v6 v7 v8 v9 bf cL gk fG,bJ T O Wf 197 (.ife (.v 3) [.aug 0 .shl (.ki 1),.aug 1 .shl (.ki 1),.aug 2 .add (.ki 1)] []) [.val (.int a),.val (.int b),.val (.int n),.val (.int p),v4,v5,v6,v7,v8,v9,bf,cL,gk,fG]=
    aa (.next,[.val (.int A),.val (.int B),.val (.int ((2*m:Nat):Int)),.val (.int p),v4,v5,v6,v7,v8,v9,bf,cL,gk,fG])):=by
  have q:=Iz n
  rcases q with q|q
  ·refine⟨0,q.symm,a,b,n/2,by exact bL 0x1d0452452564c9000 Yt,by exact bL 0x1d0452452564c9000 Yt,by exact aH 0x95101d0452822820822452895936d10110c1016063440 Yt q,λ_ _ _ _ _ _ _ _ _ _=>?_⟩;rw[show 2*(n/2)=n from aH 0x95101d04528914a08a0820895804db440456063440 Yt q];rfl
  ·refine⟨1,q.symm,a*2,b*2,(n+1)/2,Lz,Lz,Ml q,λ_ _ _ _ _ _ _ _ _ _=>?_⟩;rw[<-Ml q];have sa:di (a:Int)=ae:=ij (k:=2*n) (by
    have:b*2^n<=2^n*2^n:=lI _ (qv hb);rw[zC,jZ];exact EX ha this) (by exact bp 0x14a8911bae822a2c994c0446082ab20b12064c8440 Yt hN hn)
   have sb:di (b:Int)=ae:=ij hb (bp 0x14a4891bae822a2c99006082ab20b12064c8440 Yt hN hn);have u1:oA .shl (a:Int) 1=aa ((a*2:Nat):Int):=by show(if(decide ((0:Int)<=1)&&decide ((1:Int)<=1000000)&&di (a:Int))=ae then aa ((a:Int)*2^(1:Int).toNat)else ac)=_;refine ag sa ?_;rfl
   have u2:oA .shl (b:Int) 1=aa ((b*2:Nat):Int):=by show(if(decide ((0:Int)<=1)&&decide ((1:Int)<=1000000)&&di (b:Int))=ae then aa ((b:Int)*2^(1:Int).toNat)else ac)=_;refine ag sb ?_;rfl
   have u3:oA .add (n:Int) 1=aa ((n+1:Nat):Int):=rfl;have t:((((1:Nat):Int))!=0)=ae:=rfl;simp only[iD,qF,cQ,Frm.get,cU,cH,dO,t,iE,xW,gG,Frm.put,dC,u1,bF,dz,u2,u3,md]
 have Ke:A<B*(2^m*2^m):=by
  have e:2^n<=2^m*2^m:=by rw[<-jZ];exact nY (by decide) (bR 0x1834100164d0443200 Yt hm)
  have Pp:=jv p;have e1:a*2^p<b*2^n*2^p:=Uh ha Pp;have e2:b*2^n*2^p=B*2^n:=by refine ag hB ?_;rw[nZ,fm (2^n),nZ]
  have e3:B*2^n<=B*(2^m*2^m):=rR _ e;exact sH 0xe22059880e418580406200 Yt hA e1 e2 e3
 have hBp:0<B:=by refine ag hB ?_;exact I6 hbp (jv p)
 have Kf:B<2^m*2^m:=by refine ag hB ?_;rw[<-jZ, <-zC];refine a8 hm ?_;rw[jZ];exact Uh hb (jv p)
 have Vp:2^m*2^m<=2*B:=by refine ag hB ?_;rw[<-jZ, <-zC];refine a8 hm ?_;rw[jZ, <-nZ];exact lI _ kX
 have sA:di ((A/(2^m*2^m):Nat):Int)=ae:=ij (k:=2*m) (by have:=(qe (I6 (jv m) (jv m))).mpr Ke;rw[zC,jZ];exact AC Kf this) (by exact ou 0x2544014208a08a48a2891bae822a2c994d0446082ab20b16064d84405a34402364d0443200 Yt hN hn hp hm)
 obtain⟨q1,r1,q2,r2,eq1,Vq,eq2,Vr,k1,k2,k3,k4,k5,k6⟩:=Qdz Ke hBp
 have Pm:=jv m
 have hAb:A/B=a/b:=by refine ag hA (ag hB ?_);exact Nat.mul_div_mul_right _ _ (jv p)
 have Kg:A%B/2^p=a%b:=by refine ag hA (ag hB ?_);rw[Nat.mul_mod_mul_right];exact Nat.mul_div_cancel _ (jv p)
 have dB:=lH B (2^m)
 rw[fm]at dB
 have mB:=im B Pm
 have Kh:B/2^m<2^m:=(qe Pm).mpr Kf
 have Vs:2^m<=2*(B/2^m):=by
  refine Nat.le_of_mul_le_mul_right (c:=2^m) ?_ Pm;rw[nZ];have hq:¬(2*(B/2^m*2^m)<2^m*2^m):=by
   intro bK;have hm1:1<=m:=f7 0x15228a2464097830a2cb90181930116164d0443200 Yt h Vo hm;clear ev Ke Kf sA eq1 Vq eq2 Vr k1 k3 k4 k5 Pm Kh hm1;obtain⟨j,rfl⟩:∃j,m=j+1:=⟨m-1,f7 0x54940509208a28974114a2452822560c92c94107830a2cb90181930116164d0443200 Yt h Vo hm⟩;have e:2^(j+1)*2^(j+1)=2*(2^j*2^(j+1)):=by rw[zB];refine ag (fm (2^j) 2) ?_;rw[nZ]
   rw[e]at bK Vp;have h1:B/2^(j+1)<2^j:=Nat.lt_of_mul_lt_mul_right (a:=2^(j+1)) (aQ 0x548938800e4c8453011 Yt bK);have h2:(B/2^(j+1)+1)*2^(j+1)<=2^j*2^(j+1):=lI _ h1;rw[lP]at h2;exact sH 0x14a49246e0411938114d04768036003886064034c8240 Yt Vp dB mB h2
  exact aQ 0x193011226213011 Yt hq
 have C1:=H (A/(2^m*2^m)) (A/2^m%2^m) (B/2^m) (B%2^m) m (LA hn hp hm) Vs Kh mB (im _ Pm) (by refine ag dB ?_;exact k1)
 have C2:=H r1 (A%2^m) (B/2^m) (B%2^m) m (LA hn hp hm) Vs Kh mB (im _ Pm) (by refine ag dB ?_;exact k2)
 rw[dB, <-eq1, <-Vq]at C1
 rw[dB, <-eq2, <-Vr]at C2
 have c4:=yT (2*m) 1
 rw[show 2*m/2^1=m from bL 0x9514c045d04548915208a25601b453011 Yt]at c4
 have c5:=CP (k:=m) (LB hN hn hp hm)
 have c6:bM .sub (.int ((2^m:Nat):Int)) (.int 1)=aa (.int ((2^m-1:Nat):Int)):=by rw[pJ];congr 2;exact Lw Pm
 have c7:=yT B m
 have c8:=CQ B (2^m-1)
 rw[Ui]at c8
 have c9:=yT A (2*m)
 rw[show 2^(2*m)=2^m*2^m by rw[zC,jZ]]at c9
 have c10:=yT A m
 have Vt:=CQ (A/2^m) (2^m-1)
 rw[Ui]at Vt
 have Vu:=CQ A (2^m-1)
 rw[Ui]at Vu
 have c13:=vZ (x:=q1) (k:=m) (LB hN hn hp hm) (ij k3 (ou 0x2544014208a09248a2891bae822a2c99406082ab20b16064d84405a34402364d0443200 Yt hN hn hp hm))
 have Vv:=Rp (q1*2^m) q2
 rw[Rq k4,k5,hAb]at Vv
 have ev2:∀v0 v1 v2 v4 v5 v6 v7 v8 bf cL gk fG,bJ T O Wf 191 (.ife (.v 3) [.aug 9 .shr (.ki 1)] []) [v0,v1,v2,.val (.int p),v4,v5,v6,v7,v8,.val (.int r2),bf,cL,gk,fG]=
    aa (.next,[v0,v1,v2,.val (.int p),v4,v5,v6,v7,v8,.val (.int ((a%b:Nat):Int)),bf,cL,gk,fG]):=by
  intro _ _ _ _ _ _ _ _ _ _ _ _
  refine a8 Kg (ag k6 ?_)
  have q:p=0\/p=1:=hp▸Iz n
  rcases q with q|q
  ·clear hp hA hB hm ev Kg;subst q;rw[show A%B/2^0=A%B from bL 0x94901d04528914a08a25601b240 Yt];rfl
  ·clear hp hA hB hm ev Kg;subst q;have u:oA .shr ((A%B:Nat):Int) 1=aa ((A%B/2^1:Nat):Int):=by
    show(if(0:Int)<=1 then aa (((A%B:Nat):Int)/2^(1:Int).toNat)else ac)=_;rw[aw (by decide)];rfl
   have t:((((1:Nat):Int))!=0)=ae:=rfl;simp only[iD,qF,cQ,Frm.get,cU,cH,dO,t,iE,xW,gG,Frm.put,dz,dC,u,bF,md]
 refine Ret.evF ?_ rfl
 show Ret T O Wf 200 vj.body [.val (.int a),.val (.int b),.val (.int n),.un,.un,.un,.un,.un,.un,.un,.un,.un,.un,.un] _
 refine Ret.no (by simp only[kj,iC,fQ,jG,cQ,Frm.get,cH,aV,Hw,cU,c1,sP,gG,c2,bF,dO]) ?_
 rw[<-hp]at c3
 refine Ret.next (g:=[.val (.int a),.val (.int b),.val (.int n),.val (.int p),.un,.un,.un,.un,.un,.un,.un,.un,.un,.un]) (by show bJ T O Wf 198 _ [.val (.int a),.val (.int b),.val (.int n),.un,.un,.un,.un,.un,.un,.un,.un,.un,.un,.un]=_;simp only[ja,fQ,cQ,Frm.get,cU,cH,gG,Frm.put,dz,dC];exact ag (show bM .band (.int n) (.int 1)=aa (.int (p:Int))from c3) rfl) ?_
 refine Ret.next (ev _ _ _ _ _ _ _ _ _ _) ?_
 refine Ret.next (g:=[.val (.int A),.val (.int B),.val (.int ((2*m:Nat):Int)),.val (.int p),.val (.int m),.un,.un,.un,.un,.un,.un,.un,.un,.un]) (by simp only[ja,fQ,cQ,Frm.get,cU,cH,gG,Frm.put,dz,dC];exact ag (show bM .shr (.int ((2*m:Nat):Int)) (.int 1)=aa (.int (m:Int))from c4) rfl) ?_
 refine Ret.next (by simp only[ja,fQ,gG,cQ,Frm.get,cU,cH,c5,c6,Frm.put,dz,dC];rfl) ?_
 refine Ret.next (by simp only[m9,qE,aV,fQ,cQ,Frm.get,cU,cH,c7,c8,bF,eC,Frm.put,dz,dC];rfl) ?_
 refine Ret.next (by simp only[m9,jF,aV,fQ,cQ,Frm.get,cH,cU,c9,c10,Vt,bF,C1,eC,Frm.put,dz,dC];rfl) ?_
 refine Ret.next (by simp only[m9,jF,aV,cQ,Frm.get,cU,cH,fQ,Vu,bF,C2,eC,Frm.put,dz,dC];rfl) ?_
 refine Ret.next (ev2 _ _ _ _ _ _ _ _ _ _ _ _) ?_
 exact Ret.ret (by simp only[l9,qE,aV,fQ,cQ,Frm.get,cU,cH,c13,Vv,bF];rfl)
theorem QdB{Wf N:Nat}(hN:N<=200000)(H:D3 O N){a b n:Nat}(hn:n<=2*N)(kX:2^n<=2*b)(hb:b<2^n)(ha:a<b*2^n):
  evF T O Wf vj [.int a,.int b,.int n]=aa (.tuple [.int ((a/b:Nat):Int),.int ((a%b:Nat):Int)]):=by
 by_cases h:dI (a:Int)<=n+4000
 ·exact Rr hb kX h
 ·exact QdA hN H hn hb kX ha h
end
section
open PySem.Calls
set_option backward.match.sparseCases true
theorem Rs{R:WRecords}:∀{xs:List WData},qf.hasItems R xs .int =ae->∃ns:List Int,xs=ns.map .int
 |[],_=>⟨[],rfl⟩
 |x::xs,h=>by obtain⟨h1,h2⟩:=eg.mp (show(qf.has R x .int &&qf.hasItems R xs .int)=ae from h);clear h;obtain⟨ns,rfl⟩:=Rs h2;cases x<;>first|exact iS (show af=ae from h1)|exact⟨_::ns,rfl⟩
theorem QdC{R:WRecords}{args:List WData}(h:qf.hasAll R args [.list .int]=ae):∃ns:List Int,args=[.list (ns.map .int)]:=by
 match args,h with
 |[x],h=>
  have h:=(eg.mp (show(qf.has R x (.list .int)&&qf.hasAll R [] [])=ae from h)).1
  cases x<;>first|exact iS (show af=ae from h)|(obtain⟨ns,rfl⟩:=Rs ((Bool.or_false _).symm.trans h);exact⟨ns,rfl⟩)
 |[],h=>exact iS (show af=ae from h)
 |x::y::r,h=>exact iS (show af=ae from(eg.mp (show(qf.has R x (.list .int)&&qf.hasAll R (y::r) [])=ae from h)).2)
theorem QdD(w:DL P h vs (d::ds)):∃v us,vs=v::us/\Well P h v d/\DL P h us ds:=by cases w with|cons a b=>exact(gO _ _ rfl a b)
theorem QdE(w:DL P h vs []):vs=[]:=by cases w;rfl
theorem QdF(w:Well P h v (.int n)):∃t,v=.int n t:=by cases w;exact⟨_,rfl⟩
theorem QdG{ns:List Int}:∀{vs:List ao},DL P h vs (ns.map .int)->∃ts:List fL,vs=(ns.zip ts).map (λp=>.int p.1 p.2)/\ts.length=ns.length:=by
 induction ns with
 |nil=>intro vs w;exact(aO ([]) (QdE w) rfl)
 |cons n ns ih=>
  intro vs w
  refine cY (QdD w) λv us av h1 h2=>?_;clear w;subst av
  refine aD (QdF h1) λt am=>?_;subst am
  refine ai (ih h2) λts am l=>?_;subst am
  exact(aO (t::ts) rfl (congrArg kN l))
def QdH(g:Nat):List an->Option an:=if g=2 then yS else if g=3 then CK else λ_=>ac
abbrev aL(Wf N:Nat):bn:=vB aA Wf gv QdH vV N
def Hy(Wf N fu i:Nat):Prop:=∀m,fT i=aa m->∀xs:List Int,xs.length<=63->∃ff,bc aA (aL Wf N) Wf fu m.body (.val (.list (xs.map .int))::bz (m.nNames-1) .un)=aa (.ret (.bool ae),ff)
theorem QdI(L0:Lib0 (bv w mg mb) aA)(X:eX.In (eK w.params) h₀)(G:h₀.Ns ew mg)(N:Nat):Lib (bv w mg mb) aA (aL Wf N) N:=
 L0.lib (O5 L0 (λg m _ h=>QcN X G g m h) (λg hg=>by
  simp only[vV,mK,bV]at hg;rcases hg with rfl|rfl
  ·exact Qdq L0 X G
  ·exact Qc6 L0 X G) N)
set_option tactic.hygienic true in
theorem QdJ{Wf N fu:Nat}{c:ClaimW}{cl:ar->Option au}{Vw:ExcName->Option ao}{w:d9}{mg mb:ar->Option ao}{XP:(ar->Option ao)->cC->Prop}(hN:N<=99)(P:Hy Wf N fu 80)(hm:(fT 80).isSome =ae)
  (G:Ground qV loose [] XP w JU mg mb s.heap) (Y:eX.In (eK w.params) s.heap) {a:au} (ha:mg "law"=aa (.ref a)) (hg:s.gens=#[]) {args:List WData} {Et:List ao} (ht:qf.hasAll [] args [.list .int]=ae) (bh:∀ns:List Int,args=[.list (ns.map .int)]->ns.length<=63)
  (hw:DL w.params s.heap Et args) (hr:∀x,c.raises args x=af) (hp:c.post args (.bool ae) args=ae):
  aI (aP pw w) callerA (PySem.call (.ref a) Et) (λv s'=>GoodWG c cl Vw args s (.ok (.ret v)) s') (λe s'=>GoodWG c cl Vw args s (.error e) s') s:=by
 refine eQ (QbY G Y) λk bs tb=>?_
 have L0:=QcO k Y G.T.g
 refine aD (DA.mp hm) λm hm=>?_
 refine fy (gU hm) λcc c1 c2 c3 c4=>?_
 have e:mg "law"=aa (.ref 206):=fh Y G.T.g (by kernel_rfl)
 rw[e]at ha;obtain rfl:=zr (aB ha)
 refine aD (QdC ht) λns am=>?_;clear ht;subst am
 refine aD (P m hm ns (bh ns rfl)) λff bG=>?_
 have tX:∀b∈eD,∃o,s.heap.get? b=aa o:=λb hb=>let⟨o,e,_⟩:=k.tStill _ tb b hb;⟨o,e⟩
 obtain⟨v,rfl,hv⟩:∃v,Et=[v]/\Well w.params s.heap v (.list (ns.map .int)):=by
  cases hw with
  |cons h1 h2=>cases h2;exact⟨_,rfl,h1⟩
 have rp:Rep (aJ eD s.heap) v (.list (ns.map .int)):=by
  cases hv with
  |list h1 h2=>
   rename_i la vs
   refine ai (QdG h2) λts e l=>?_
   have nT:la∉eD:=qG k tb h1 rfl
   refine Rep.mkList (n:=0) (cb.mpr ⟨nT,h1⟩) ?_ (Hv _ _ ?_ λi hi=>?_)
   ·have:=bh ns rfl;refine ag e ?_;rw[bq,Qhi];refine ag dy ?_;omega
   ·refine ag e ?_;simp[l]
   ·clear h1;subst e;simp only[bq,Qhi,l,Nat.min_self]at hi;refine(hU (ns[i]) (ts[i]) ?_ ?_)
    ·have z:(ns.zip ts)[i]?=aa (ns[i],ts[i]):=wQ.mpr ⟨cf hi,cf (by omega)⟩;rw[dS];refine ag z ?_;rfl
    ·rw[dS];refine ag (cf hi) ?_;rfl
 have aq:AOk callerA (N+1):=by
  refine⟨rfl,?_,?_⟩
  ·show(1+claimMargin)+(N+1)<1000;have:claimMargin+1+100<1000:=by decide
   omega
  ·show 4+10*(N+1)+100<9900;omega
 refine qP (OX (Wf:=Wf) (N:=N) (fu:=fu) (d:=.bool ae) (ff:=ff) (QdI (Wf:=Wf) L0 Y G.T.g N) Qcu (λh b=>b.2.2.2.1 206 _ rfl) rfl (λh b _=>gu b.2.2.2.1 rfl rfl rfl) (c:=cc) c1 c2 (args:=[.list (ns.map .int)]) rfl ?_ aq bs tb (λ_ h=>h) tX (.cons rp .nil) ?_)
 ·have:(d8 (bW 80)).names.length =m.nNames:=c4.symm;show bc aA _ Wf fu m.body ([.val (.list (ns.map .int))]++bz ((d8 (bW 80)).names.length -1) .un)=_;refine ag this ?_;exact bG
 ·intro v' s' x r;have:=r.bool_inv;clear r;subst this;have z7:=x.tb tb;refine⟨.inl (uQ _ _ ([]) rfl hr (ReadsW.bool ae) hp (λ_=>⟨List.nodup_nil,λ_ hm=>(nomatch hm)⟩)),⟨λb o e=>?_,λb o e=>?_⟩,?_,?_⟩
  ·by_cases z:b∈eD
   ·have Qjj:b=30\/b=37:=by simpa[eD]using z
    obtain⟨⟨q1,C1,P1,_⟩,⟨q2,C2,P2,_⟩⟩:=tb;obtain⟨⟨q3,C3,P3,_⟩,⟨q4,C4,P4,_⟩⟩:=z7;have y30:s.heap.get? 30=aa (tabObj #[]):=Y 30 _ rfl;have y37:s.heap.get? 37=aa (tabObj #[]):=Y 37 _ rfl;clear z;rcases Qjj with rfl|rfl
    ·rw[y30]at e;obtain rfl:=aB e;exact .inr (.inl ⟨(C1.tab P1).isCodeTable,rfl,#[],q3,rfl,by rw[Qhj];exact P3⟩)
    ·rw[y37]at e;obtain rfl:=aB e;exact .inr (.inl ⟨(C2.tab P2).isCodeTable,rfl,#[],q4,rfl,by rw[Qhj];exact P4⟩)
   ·exact .inl (x.keep b o z e)
  ·by_cases z:b∈eD
   ·refine ai (k.tStill _ z7 b z) λo' e' _=>?_;exact(bC o' e')
   ·exact(bC o (x.keep b o z e))
  ·refine fi x.same λh' t' av=>?_;subst av;rfl
  ·refine fi x.same λh' t' av=>?_;subst av;show AllBare s.gens;refine ag hg ?_;exact AllBare.empty
theorem QdK{ns:List Int}(h:(PySem.Challenge.rw_uc0059_01.row).pre.holds [] {args:=[.list (ns.map .int)]}=ae):ns.length<=63:=by
 have e:(PySem.Challenge.rw_uc0059_01.row).pre =.and (.not (.lt (.lit (.int 63)) (.len (.arg 0)))) (.lit (.bool ae)):=rfl;rw[e]at h;by_cases q:ns.length<=63
 ·exact q
 ·exfalso;have z:less? (.int 63) (.int ((ns.map WData.int).length :Nat))=aa ae:=by
   show aa (decide ((63:Int)<((ns.map WData.int).length :Nat)))=aa ae;rw[bq];exact congrArg aa (d6 (by omega))
  simp only[WTm.holds,WTm.value,cH,z,bF,Bool.not_true]at h;injection h
theorem QdL:(PySem.Challenge.rw_uc0059_01.row).toRowW.claim.post args (.bool ae) args=ae:=by have e:(PySem.Challenge.rw_uc0059_01.row).toRowW.claim.post args (.bool ae) args=(qf.has [] (.bool ae) .bool &&WTm.holds [] (.eq .res (.lit (.bool ae))) {args:=args,res:=aa (.bool ae),after:=args}):=rfl;refine e.trans (eg.mpr ⟨rfl,?_⟩);simp[WTm.holds,WTm.value,same]
theorem QdM:PySem.Challenge.rw_uc0059_01.wellSaid=ae:=by kernel_rfl
theorem QdN{Wf N fu:Nat}(hN:N<=99)(P:Hy Wf N fu 80)(hm:(fT 80).isSome =ae):PySem.Challenge.rw_uc0059_01.Holds:=by
 refine PySem.W.holds_law QdM λQj2=>?_;refine PySem.W.holds_open (r:=PySem.Challenge.rw_uc0059_01.row) (α:=List (Option be)) (q:=qV) (loose:=loose) (Xt:=λs=>recOk [] s) (XP:=λ_ _=>True) (Yf:=λs=>Ha.map s.heap.get?) (Ya:=λw=>(eK w.params).map λp:Nat×be=>aa p.2) (YP:=λw h=>eX.In (eK w.params) h) (N:=200000)
  QbU (λw s e=>eX.in_of (by kernel_rfl) e) (λw h h' x k=>eX.In.keeps x k) (λ_ _=>trivial) (λ_ _ _ _ _=>trivial) (by rfl) (by rfl) (by rfl) (λs e=>recFacts_of e) (by rfl) (by first|assumption|decide+kernel) (by decide+kernel) ⟨rfl,rfl,rfl,rfl,rfl,by decide+kernel⟩ ?_ ?_
 ·exact⟨[.list []],by decide+kernel,by decide+kernel⟩
 ·intro w JU aS mg mb G Y fa o pm cd fw dV kV ho hd hcd hD qq hg args Et as Vx Qjm hrd Vy zI;refine QdJ hN P hm G Y qq hg ?_ ?_ Vy (λx=>rfl) ?_
  ·exact(eg.mp Vx).1
  ·intro ns e;clear Qjm hrd Vy;subst e;have h:=(eg.mp Vx).2;exact QdK h
  ·exact QdL
end
section
theorem Rt:gv 0=aa vj:=by kernel_rfl
theorem QdO:gv 1=aa M5:=by kernel_rfl
theorem QdP:gv 4=aa M6:=by kernel_rfl
theorem Hz:gv 5=aa Bc:=by kernel_rfl
theorem QdQ:gv 6=aa M7:=by kernel_rfl
theorem QdR:gv 7=aa M8:=by kernel_rfl
theorem QdS:gv 8=aa M9:=by kernel_rfl
theorem QdT:gv 9=aa Na:=by kernel_rfl
theorem QdU:gv 10=aa Nb:=by kernel_rfl
theorem QdV:gv 11=aa Nc:=by kernel_rfl
theorem QdW:gv 12=aa Nd:=by kernel_rfl
theorem QdX:gv 13=aa Nf:=by kernel_rfl
theorem QdY:gv 14=aa Ng:=by kernel_rfl
theorem QdZ:gv 15=aa Nh:=by kernel_rfl
theorem Qd0:gv 16=aa Ni:=by kernel_rfl
theorem Qd1:gv 17=aa Nj:=by kernel_rfl
theorem Qd2:gv 18=aa Nk:=by kernel_rfl
theorem Qd3:gv 19=aa Nl:=by kernel_rfl
theorem Ru:fT 80=aa Nm:=by kernel_rfl
theorem gx{Wf k g:Nat}{m:MF}(hd:gv g=aa m)(hp:vV g=af)(args:List an):aL Wf (k+1) g args=evF aA (aL Wf k) Wf m args:=by show(if vV g=ae then _ else _)=_;refine ag hp (ag hd ?_);rfl
theorem Rv{Wf k:Nat}(h:30<=k)(args:List an):aL Wf (k+1) 2 args=yS args:=by simp only[aL,vB,show vV 2=ae by decide,h,if_true];rfl
theorem HA{Wf k:Nat}(h:30<=k)(args:List an):aL Wf (k+1) 3 args=CK args:=by simp only[aL,vB,show vV 3=ae by decide,h,if_true];rfl
end
section
theorem Qd4(k:Nat):D2 (aL Wf (k+1)) 4000:=λa b n hn h1 h2 h3=>by rw[gx Rt rfl];refine Rr h2 h1 (nR (yU (k:=n+n) ?_) (aH 0x1830a2cb90030001828b2e40 Yt hn));have:b*2^n<=2^n*2^n:=lI _ (qv h2);rw[jZ];exact EX h3 this
theorem Rw{wf N k:Nat}(hN:N<=200000)(H:D2 (aL (wf+3) k) N):D3 (aL (wf+3) (k+1)) N:=λda a3 b1 b2 n hn h1 h2 h3 h4 h5=>by rw[gx QdO rfl];exact Qdw (aH 0x60824aa2a22401820aac82c40 Yt hN) H da a3 b1 b2 n hn h1 h2 h3 h4 h5
theorem Rx{Wf N k:Nat}(hN:N<=200000)(H:D3 (aL Wf k) N):D2 (aL Wf (k+1)) (2*N):=λa b n hn h1 h2 h3=>by rw[gx Rt rfl];exact QdB hN H hn h1 h2 h3
theorem Qd5{wf:Nat}(k:Nat):D2 (aL (wf+3) (k+5)) 16000:=Rx (by decide) (Rw (by decide) (Rx (by decide) (Rw (by decide) (Qd4 k))))
noncomputable def bD(X:Nat):List Nat->Nat->Nat
 |[],v=>v
 |d::r,v=>bD X r (v*X+d)
theorem iL(X:Nat):∀(ds:List Nat)(v:Nat),bD X ds v=v*X^ds.length+bD X ds 0
 |[],v=>by simp[bD]
 |d::r,v=>by rw[bD,bD];refine ag (iL X r (v*X+d)) (ag (iL X r (0*X+d)) ?_);rw[ce,zB,lP,uj,gB,nZ,fm X];exact sI 0x1d0452452560c3408003403200 Yt
noncomputable def kC(X b:Nat):List Nat->Nat->List Nat
 |[],_=>[]
 |d::r,v=>((v*X+d)/b)::kC X b r ((v*X+d)%b)
noncomputable def fH(X b:Nat):List Nat->Nat->Nat
 |[],v=>v
 |d::r,v=>fH X b r ((v*X+d)%b)
theorem HB(X b:Nat):∀(ds:List Nat)(v:Nat),(kC X b ds v).length =ds.length
 |[],_=>rfl
 |_::r,_=>by rw[kC,ce,HB X b r,ce]
theorem Ry(hb:0<b):∀(ds:List Nat)(v:Nat),v<b->(∀d∈ds,d<X)->bD X (kC X b ds v) 0*b+fH X b ds v=bD X ds v/\fH X b ds v<b/\∀q∈kC X b ds v,q<X
 |[],v,hv,_=>⟨by simp[bD,kC,fH],hv,λ_ h=>by simp[kC]at h⟩
 |d::r,v,hv,hd=>by
  have to:=hd d (.head _);have m:=im (v*X+d) hb;refine eQ (Ry hb r ((v*X+d)%b) m (λx hx=>hd x (.tail _ hx))) λh1 h2 h3=>?_;have e:v*X+d<b*X:=by exact hz hv to
  refine⟨?_,h2,λq hq=>?_⟩
  ·rw[kC,fH,bD,bD,iL,HB,uj,gB,lP,Uj];refine ag h1 (ag (iL X r ((v*X+d)%b)) (ag (iL X r (v*X+d)) ?_));have z:=lH (v*X+d) b;have:(v*X+d)/b*X^r.length*b+(v*X+d)%b*X^r.length=(v*X+d)*X^r.length:=by
    rw[Nat.mul_right_comm, <-lP,fm _ b];exact ag z rfl
   exact fz 0x74114a08914a0822560d84030d82005900c8036403200 Yt this this
  ·rcases cB.mp hq with rfl|hq
   ·exact(qe hb).mpr (by refine ag (fm X b) ?_;exact e)
   ·exact h3 q hq
theorem Rz(n:Nat):∀ds:List Nat,fC n ((ds.map fe).reverse)=((bD (2^n) ds 0:Nat):Int)
 |[]=>rfl
 |d::r=>by
  rw[cA,wx,Hi];refine ag (Rz n r) ?_;rw[bD,iL _ r (0*2^n+d),uj,gB];simp only[fC,IN,bq,Int.zero_mul,Th];have:((d*(2^n)^r.length:Nat):Int)=fe d*(2^n)^r.length:=by rw[mJ,wT,wT];rfl
  rw[Int.natCast_add];refine ag this ?_;rw[Int.pow_mul];exact W0 0x1d0452452570ec0000c0b00 [_] [_] Yt
noncomputable def fU(n a c:Nat):List Nat:=((f0 c).map λk=>a/2^(n*k)%2^n).reverse
theorem CR(n a c:Nat):(fU n a c).length =c:=by simp[fU]
theorem HC(n a:Nat):∀c,bD (2^n) (fU n a c) 0=a%2^(n*c)
 |0=>by simp[fU,bD,Nat.mod_one]
 |c+1=>by
  have e:fU n a (c+1)=(a/2^(n*c)%2^n)::fU n a c:=by unfold fU;rw[Qgx,fn,List.reverse_append];rfl
  refine ag e ?_;rw[bD,iL,CR];refine ag (HC n a c) ?_;rw[uj,gB,qd,zv,jZ,Nat.mod_mul, <-rS,fm (2^(n*c))];exact fN 0x1d0452452560c0203200 Yt
theorem RA(n a c:Nat):∀d∈fU n a c,d<2^n:=λd h=>by unfold fU at h;refine ai (gi.mp (DC.mp h)) λk _ av=>?_;clear h;subst av;exact im _ (jv n)
theorem RB(n a c:Nat):(ii n (a:Int) c).reverse =(fU n a c).map λd=>.int (fe d):=by unfold ii fU;rw[zp,g6];congr 1
theorem yV(xs:List Int):fB (xs.map .int)=aa xs:=Fz (f:=gQ) (g:=bQ) (λ_=>rfl) xs
theorem RC{a n K:Nat}(hn:1<=n)(h:a<2^K):n*ee (a:Int) n<K+n:=by unfold ee;have h1:=yU h;have h2:=Nat.div_mul_le_self (dI (a:Int)+n-1) n;rw[fm];exact f7 0x1524340814a08a28224508a2822893834180064091982062c90d0200 Yt hn h1 h2
theorem RD{a n K:Nat}(h1:1<=n)(hn:n+K<=60000)(h:a<2^K):yS [.int a,.int n]=aa (.list (ii n (a:Int) (ee (a:Int) n))):=by have q1:=RC h1 h;have q2:ee (a:Int) n<=n*ee (a:Int) n:=I5 _ h1;show(if 0<=(a:Int)/\1<=(n:Int)/\(n:Int)<2^30/\(n:Int).toNat *ee (a:Int) (n:Int).toNat <=900000/\ee (a:Int) (n:Int).toNat <=65536 then aa (ui (ii (n:Int).toNat a (ee a (n:Int).toNat)))else ac)=_;rw[jY,aw ⟨ke,aH 0x7b00246009 Yt h1,aQ 0x3c2082082082082089b0018288aab2243200 Yt hn,by lia,by lia⟩]
theorem HD{ds:List Nat}(h:∀d∈ds,d<2^n)(hl:n*ds.length<=60000)(qp:ds.length<=60000):CK [.list ((ds.map λd=>.int (fe d)).reverse),.int n]=aa (.int ((bD (2^n) ds 0:Nat):Int)):=by
 have e:((ds.map λd=>bQ (fe d)).reverse)=(((ds.map fe).reverse).map .int):=by rw[zp,g6];rfl
 refine ag e ?_;show(fB (((ds.map fe).reverse).map .int)).bind (λds=>if 0<=(n:Int)/\pH (n:Int).toNat ds=ae then aa (bQ (fC (n:Int).toNat ds))else ac)=_;rw[yV];simp only[jY,IZ];rw[aw,Rz];refine⟨ke,?_⟩;simp only[pH,bo,bl,eA,IN,bq];refine⟨⟨λd hd=>?_,aH 0x60a2caa69a64018288aab2240 Yt hl⟩,aH 0x18208208244018288aab2240 Yt qp⟩;refine ai (gi.mp (DC.mp hd)) λx hx av=>?_;clear hd;subst av;have:=h x hx;have e2:((2^n:Nat):Int)=2^n:=by rw[wT];rfl
 exact⟨rt _,by refine a8 e2 ?_;exact tN.mpr this⟩
theorem Ret.forr{W n:Nat}{is:List Nat}{one:Bool}{b r:List MS}{xs:List an}(h:gm T O 40 it f=aa xs)(h1:eJ (λf=>bc T O W n b f) (e9 is one) xs f=aa (.next,g))(h2:Ret T O W (n+1) r g d):Ret T O W (n+2) (.forr is one it b::r) f d:=by refine Ret.next ?_ h2;rw[Ba];refine ag h ?_;exact h1
theorem Ret.whl(h1:ek (λf=>aK T O 40 t f) (λf=>bc T O W n b f) W f=aa (.next,g))(h2:Ret T O W (n+1) r g d):Ret T O W (n+2) (.whl t b::r) f d:=by refine Ret.next ?_ h2;rw[MY];exact h1
theorem RE{Wf N fu b n:Nat}(hN:N<=400000)(H:D2 O N)(hn:n<=N)(kX:2^n<=2*b)(hb:b<2^n)(v0 v3:FV)(tl:List FV):∀(ds:List Nat)(r:Nat)(qs:List an)(v6 v7:FV),r<b->(∀d∈ds,d<2^n)->qs.length+ds.length<=60000->
  ∃x6 x7,eJ (λf=>bc aA O Wf (fu+3) [.unp [7,4] (.call 0 [.bin .add (.bin .shl (.v 4) (.v 2)) (.v 6),.v 1,.v 2]),.app 5 (.v 7)] f) (e9 [6] ae) (ds.map λd=>.int (fe d)) (v0::.val (.int b)::.val (.int n)::v3::.val (.int r)::.own qs::v6::v7::tl)=
   aa (.next,v0::.val (.int b)::.val (.int n)::v3::.val (.int ((fH (2^n) b ds r:Nat):Int))::.own (qs++(kC (2^n) b ds r).map λd=>.int (fe d))::x6::x7::tl)
 |[],r,qs,v6,v7,_,_,_=>(eR v6 v7 (by simp[eJ,fH,kC]))
 |d::ds,r,qs,v6,v7,hr,hd,hl=>by
  have to:=hd d (.head _);have c1:=vZ (x:=r) (k:=n) (AF hN hn) (ij (k:=n) (AC hb hr) (AE hN hn));have c2:bM .add (.int ((r*2^n:Nat):Int)) (.int (fe d))=aa (.int ((r*2^n+d:Nat):Int)):=rfl;have e:r*2^n+d<b*2^n:=by exact hz hr to
  have c3:=H (r*2^n+d) b n hn kX hb e;rw[ce]at hl;refine fi (RE (Wf:=Wf) (fu:=fu) hN H hn kX hb v0 v3 tl ds ((r*2^n+d)%b) (qs++[.int (((r*2^n+d)/b:Nat):Int)]) (.val (.int (fe d))) (.val (.int (((r*2^n+d)/b:Nat):Int))) (im _ (bp 0xe00119301120e200 Yt kX hb)) (λx hx=>hd x (.tail _ hx)) (by simp;exact aQ 0x18288aab224320324018288aab22430c9200 Yt hl)) λw6 w7 ih=>?_;refine⟨w6,w7,?_⟩;rw[fH,kC,cA,cA,eJ];have kR:bc aA O Wf (fu+3) [.unp [7,4] (.call 0 [.bin .add (.bin .shl (.v 4) (.v 2)) (.v 6),.v 1,.v 2]),.app 5 (.v 7)] (v0::.val (.int b)::.val (.int n)::v3::.val (.int r)::.own qs::.val (.int (fe d))::v7::tl)=
    aa (.next,v0::.val (.int b)::.val (.int n)::v3::.val (.int (((r*2^n+d)%b:Nat):Int))::.own (qs++[.int (((r*2^n+d)/b:Nat):Int)])::.val (.int (fe d))::.val (.int (((r*2^n+d)/b:Nat):Int))::tl):=by
   simp only[iE,m9,jF,aV,fQ,cQ,Frm.get,cU,cH,c1,c2,bF,c3,eC,Frm.put,dz,dC,FK,aw (show qs.length<100000 from aQ 0x38289268264018288aab22430c9200 Yt hl),md]
  simp only[e9,if_true,eC,Frm.put,dz,dC,kR];refine ag ih ?_;rw[lM];rfl
theorem Qd6{wf k:Nat}(hk:30<=k){a b K:Nat}(hb:0<b)(kX:b<2^16000)(ha:a<2^K)(hK:K<=40000):aL (wf+3) (k+7) 4 [.int a,.int b]=aa (.tuple [.int ((a/b:Nat):Int),.int ((a%b:Nat):Int)]):=by
 rw[gx QdP rfl];have hn:dI (b:Int)<=16000:=yU kX;have xh:1<=dI (b:Int):=by unfold dI;rw[az (by exact AG hb)];exact pk
 have p1:=Qdx hb;have p2:=Hx b;generalize hnn:dI (b:Int)=n at*;have lb:gS .bitlen (.int b) []=aa (.int n):=by rw[Hw];exact ag hnn rfl
 have c1:aL (wf+3) (k+6) 2 [.int a,.int n]=aa (.list (ii n (a:Int) (ee (a:Int) n))):=by rw[Rv (by exact aH 0x183a40c99180c99 Yt hk)];exact RD xh (by exact bp 0x60a22aac890c80060822b22892060824ba640 Yt hK hn) ha
 have hc:=RC xh ha;have iY:ee (a:Int) n<=n*ee (a:Int) n:=I5 _ xh;generalize g8:ee (a:Int) n=c at*;have sy:a<2^(n*c):=by
  have h:=Rn (a:=(a:Int)) (n:=n) (ke) xh;rw[g8]at h;have e2:((2^(n*c):Nat):Int)=2^(n*c):=by rw[wT];rfl
  exact W2 0xe0083c0b08dc0b00 [_,_] [_] Yt h e2
 have bh:=CR n a c;have bK:=RA n a c;have hh:=HC n a c;rw[qg sy]at hh;refine eQ (Ry (X:=2^n) hb (fU n a c) 0 hb bK) λk1 k2 k3=>?_;rw[hh]at k1;refine fi (RE (O:=aL (wf+3) (k+6)) (Wf:=wf+3) (fu:=193) (N:=16000) (b:=b) (n:=n) (by decide) (Qd5 (k+1)) hn p1 p2 (.val (.int a)) (.val (.list (ii n (a:Int) c))) [.un,.un,.un,.un,.un] (fU n a c) 0 [] .un .un hb bK (by simp;exact N5 0x18288aab224018208ac8a258182092e9980e0e0610190216200 [_,_,_,_,_] Yt hK hn hc iY bh)) λw6 w7 lp=>?_;have ql:=HB (2^n) b (fU n a c) 0;have c3:aL (wf+3) (k+6) 3 [.list (((kC (2^n) b (fU n a c) 0).map λd=>.int (fe d)).reverse),.int n]=aa (.int ((bD (2^n) (kC (2^n) b (fU n a c) 0) 0:Nat):Int)):=by rw[HA (by exact aH 0x183a40c99180c99 Yt hk)];exact HD k3 (by refine ag ql (ag bh ?_);exact k8 0x18288aab224018208ac8a248182092e9940e0d0200 Yt hK hn hc) (by refine ag ql (ag bh ?_);exact ou 0x60a22aac890060822b22894060824ba658383610206200 Yt hK hn hc iY)
 have w:=(I7 (a:=a) (d:=bD (2^n) (kC (2^n) b (fU n a c) 0) 0) (c:=fH (2^n) b (fU n a c) 0) hb).mpr ⟨by rw[fm];exact Ly k1 k1,k2⟩;rw[<-w.1]at c3;rw[<-w.2]at lp;refine Ret.evF ?_ rfl;show Ret aA _ _ 200 M6.body [.val (.int a),.val (.int b),.un,.un,.un,.un,.un,.un,.un,.un,.un,.un,.un] _;refine Ret.next (by simp only[ja,jG,cQ,Frm.get,cU,cH,aV,lb,Frm.put,dz,dC];rfl) ?_;refine Ret.next (by simp only[ja,jF,aV,cQ,Frm.get,cH,cU,bF,c1,Frm.put,dz,dC];rfl) ?_;refine Ret.next (rfl) ?_;refine Ret.next (rfl) ?_;refine Ret.forr (by simp only[Frm.put,dz,dC,MW,cQ,Frm.get,cU,cH,RB]) lp ?_;refine Ret.next (rfl) ?_;refine Ret.next (rfl) ?_;rw[IT];refine Ret.next (by simp only[Frm.put,dz,dC,ja,jF,aV,cQ,Frm.get,cU,cH,bF,c3];rfl) ?_;exact Ret.ret (rfl)
end
section
def CT(a b:Nat):Prop:=0<b/\b<2^16000/\a<2^40000
theorem CU(hk:30<=k)(h:CT a b):aL (wf+3) (k+8) 5 [.int a,.int b]=aa (.tuple [.int ((a/b:Nat):Int),.int ((a%b:Nat):Int)]):=by rw[gx Hz rfl];have c1:dt .eq (.int (b:Int)) (.int 0)=aa af:=congrArg aa (by rw[beq_eq_false_iff_ne];have:=h.1;exact AG this);have c2:dt .lt (.int (b:Int)) (.int 0)=aa af:=congrArg aa (eP (pl));have c3:dt .lt (.int (a:Int)) (.int 0)=aa af:=congrArg aa (eP (pl));have c4:=Qd6 (wf:=wf) hk h.1 h.2.1 h.2.2 (dj _);refine Ret.evF ?_ rfl;show Ret aA _ _ 200 Bc.body [.val (.int a),.val (.int b),.un,.un,.un,.un,.un] _;refine Ret.ife af (sQ rfl rfl c1) (Ret.ife af rfl (Ret.ife af rfl ?_));exact Ret.ret (FP (vi rfl c4))
theorem RF(hk:30<=k)(h:CT a b):aL (wf+3) (k+9) 5 [.int (-(a:Int)-1),.int b]=aa (.tuple [.int (-((a/b:Nat):Int)-1),.int ((b:Int)+(-((a%b:Nat):Int)-1))]):=by rw[gx Hz rfl];have c1:dt .eq (.int (b:Int)) (.int 0)=aa af:=congrArg aa (by rw[beq_eq_false_iff_ne];have:=h.1;exact AG this);have c2:dt .lt (.int (b:Int)) (.int 0)=aa af:=congrArg aa (eP (pl));have c3:dt .lt (.int (-(a:Int)-1)) (.int 0)=aa ae:=congrArg aa (d6 (bL 0xf04b27cb00 Yt));have c4:=CU (wf:=wf) hk h;have e: -(-(a:Int)-1)-1=(a:Int):=EY;refine Ret.evF ?_ rfl;show Ret aA _ _ 200 Bc.body [.val (.int (-(a:Int)-1)),.val (.int b),.un,.un,.un,.un,.un] _;refine Ret.ife af (sQ rfl rfl c1) (Ret.ife af rfl (Ret.ife ae (sQ rfl rfl c3) ?_));refine Ret.next (by simp only[m9,jF,aV,A7,cQ,Frm.get,cH,e,cU,bF,c4,eC,Frm.put,dz,dC];rfl) ?_;refine Ret.ret rfl
theorem HE(hb:0<b)(h:aL (wf+3) k 5 [.int a,.int b]=aa (.tuple [.int q,.int r])):aL (wf+3) (k+1) 5 [.int (-a),.int (-b)]=aa (.tuple [.int q,.int (-r)]):=by rw[gx Hz rfl];have c1:dt .eq (.int (-b)) (.int 0)=aa af:=congrArg aa (by rw[beq_eq_false_iff_ne];exact eY 0x508a27f07c00f001 Yt hb);have c2:dt .lt (.int (-b)) (.int 0)=aa ae:=congrArg aa (d6 (eY 0xf07c00f001 Yt hb));refine Ret.evF ?_ rfl;show Ret aA _ _ 200 Bc.body [.val (.int (-a)),.val (.int (-b)),.un,.un,.un,.un,.un] _;refine Ret.ife af (sQ rfl rfl c1) (Ret.ife ae (sQ rfl rfl c2) ?_);refine Ret.next (by simp only[m9,jF,aV,vh,cQ,Frm.get,cH,Int.neg_neg,cU,bF,h,eC,Frm.put,dz,dC];rfl) ?_;exact Ret.ret (rfl)
theorem HF(h:x=y):dt .eq (.int x) (.int y)=aa ae:=congrArg aa (by simp[h])
theorem HG(h:x≠y):dt .eq (.int x) (.int y)=aa af:=congrArg aa (by rw[beq_eq_false_iff_ne];exact h)
theorem CV(h:x<y):dt .lt (.int x) (.int y)=aa ae:=congrArg aa (d6 h)
theorem CW(h:¬x<y):dt .lt (.int x) (.int y)=aa af:=congrArg aa (eP h)
theorem tC(h:x>y):dt .gt (.int x) (.int y)=aa ae:=congrArg aa (d6 h)
theorem wc(h:¬x>y):dt .gt (.int x) (.int y)=aa af:=congrArg aa (eP h)
theorem RG(h:x>=y):dt .ge (.int x) (.int y)=aa ae:=congrArg aa (d6 h)
theorem Qd7(h:¬x>=y):dt .ge (.int x) (.int y)=aa af:=congrArg aa (eP h)
theorem HH(hk:30<=k)(h:CT a b)(hw:way=0\/way=1\/way=2\/way=3):
  aL (wf+3) (k+11) 16 [.int a,.int b,.int way]=aa (.tuple [.int ((a/b:Nat):Int),.int ((a%b:Nat):Int)]):=by
 have hb:=h.1
 rw[gx Qd0 rfl]
 refine Ret.evF ?_ rfl
 show Ret aA _ _ 200 Ni.body [.val (.int a),.val (.int b),.val (.int way),.un,.un,.un] _
 rcases hw with rfl|rfl|rfl|rfl
 ·refine Ret.ife ae rfl ?_;have c:=CU (wf:=wf) (k:=k+2) (aH 0x183440c99180c99 Yt hk) h;exact Ret.ret (FP (vi rfl c))
 ·refine Ret.no rfl ?_;refine Ret.ife ae rfl ?_;have c:=HE (wf:=wf) (xD hb) (CU (wf:=wf) (k:=k+1) (Av hk) h);refine Ret.next (Bb (vi rfl c) rfl) ?_;exact Ret.ret (by simp only[Frm.put,dz,dC,l9,qE,aV,cQ,Frm.get,cU,cH,vh,Int.neg_neg,bF];rfl)
 ·refine Ret.no rfl ?_;refine Ret.no rfl ?_;refine Ret.ife ae rfl ?_;have c:=RF (wf:=wf) (k:=k+1) (Av hk) h;have e1: -(-((a/b:Nat):Int)-1)-1=((a/b:Nat):Int):=EY;have e2:(b:Int)+(-((b:Int)+(-((a%b:Nat):Int)-1))-1)=((a%b:Nat):Int):=fN 0x1d045245257b080cb27c0cb27cb08b00b00 Yt;refine Ret.next (Bb (vi rfl c) rfl) ?_;exact Ret.ret (by simp only[Frm.put,dz,dC,l9,qE,aV,A7,cQ,Frm.get,cU,cH,e1,fQ,gV,e2,bF];rfl)
 ·refine Ret.no rfl ?_;refine Ret.no rfl ?_;refine Ret.no rfl ?_;by_cases z:a=0
  ·subst z;have c:=HE (wf:=wf) (by exact xD hb) (CU (wf:=wf) (k:=k+1) (by exact Av hk) h);rw[show-((0:Nat):Int)=((0:Nat):Int)from rfl,show(0/b:Nat)=0 from Nat.zero_div b,Nat.zero_mod]at c;rw[Nat.zero_div,Nat.zero_mod];refine Ret.next (Bb (vi rfl c) rfl) ?_;refine Ret.no rfl ?_;exact Ret.ret (rfl)
  ·obtain⟨y,rfl⟩:∃y,a=y+1:=⟨a-1,aH 0x54901d04528225d24528a24525d04528914a08958324b24003e040 Yt z⟩;have h':CT y b:=⟨h.1,h.2.1,by have:=h.2.2;exact aQ 0x38800e203240 Yt this⟩;have c:=HE (wf:=wf) (by exact xD hb) (RF (wf:=wf) (k:=k) (by exact aH 0x180c99180c99 Yt hk) h');rw[show-(-((y:Int))-1)=((y+1:Nat):Int) by exact LC]at c;have dm:=lH y b;have mm:=im y hb;refine Ret.next (Bb (vi rfl c) rfl) ?_;by_cases q:y%b+1<b
   ·have w:=(I7 (a:=y+1) (d:=y/b) (c:=y%b+1) hb).mpr ⟨by exact bu 0x74114a08914a0822560c94030032485900c8036403200 Yt dm dm,q⟩;refine ag w.1 (ag w.2 ?_);have e1: -(-((y/b:Nat):Int)-1)-1=((y/b:Nat):Int):=by exact EY
    have e2:(b:Int)+ -((b:Int)+(-((y%b:Nat):Int)-1))=((y%b+1:Nat):Int):=by exact fN 0x1d045245257b032480fc0cb27cb08b00b00 Yt
    refine Ret.ife ae (by simp only[Frm.put,dz,dC,xZ,gf,kj,iC,cQ,Frm.get,cU,cH,sP,gG,dO,fQ,gV,e2];rw[CV (by exact aQ 0x3c1f032c9f2c02c20e203240 Yt q)];simp only[bF];rw[tC (by exact bL 0x3ec0c9001 Yt)];exact rfl) ?_;exact Ret.ret (by simp only[Frm.put,dz,dC,l9,qE,aV,A7,cQ,Frm.get,cU,cH,e1,fQ,gV,e2,bF];rfl)
   ·have w:=(I7 (a:=y+1) (d:=y/b+1) (c:=0) hb).mpr ⟨by rw[qd];exact ou 0x74114a08a08224528208a2560c96030d32484015980c0436603010388026203240 Yt dm dm mm q,hb⟩;refine ag w.1 (ag w.2 ?_);have e1: -(-((y/b:Nat):Int)-1)=((y/b+1:Nat):Int):=by exact LC
    have e2: -(-((b:Int)+(-((y%b:Nat):Int)-1)))=((0:Nat):Int):=by exact bp 0x74114a082245282257b01f3c0cb27cb00b08388026203240 Yt mm q
    refine Ret.no (by simp only[Frm.put,dz,dC,xZ,gf,kj,iC,cQ,Frm.get,cU,cH,sP,gG,dO,fQ,gV];rw[CW (by exact aQ 0x9c1f032c9f2c02c226203240 Yt q)];exact rfl) ?_;exact Ret.ret (by simp only[Frm.put,dz,dC,l9,qE,aV,vh,cQ,Frm.get,cU,cH,e1,e2,bF];rfl)
end
section
noncomputable def aU:List Nat:=[46,46,46]
noncomputable def kD(bj:List Nat)(e:Nat):List (List Nat)->Nat->Bool
 |[],_=>ae
 |w::r,s=>if i8 w bj s e<0 then af else kD bj e r ((i8 w bj s e).toNat +w.length)
def wd(bj:List Nat)(s e:Nat)(ws:List (List Nat)):Bool:=if s>e then af else kD bj e ws s
def tD(bj:List Nat)(s:Nat)(ws:List (List Nat)):Option Bool:=match ws.getLast? with
 |none=>ac
 |some w=>aa (if w.length=0 then wd bj s bj.length ws else if w.isSuffixOf bj then wd bj s (bj.length-w.length) ws.dropLast else af)
def ik(eO bj:List Nat):Option Bool:=
 if ox aU eO=af then aa (eO==bj)else
 match gE aU eO with
 |w::w1::r=>if w.length=0 then tD bj 0 (w::w1::r)else if w.isPrefixOf bj then tD bj w.length (w1::r)else aa af
 |_=>ac
theorem Qd8(l:List Nat):(bk l).cps.toList =l:=rfl
theorem Qd9:bk a=bk b↔a=b:=by
 constructor
 ·intro h;have:=congrArg (λs=>s.cps.toList) h;exact this
 ·rintro rfl;rfl
abbrev S'(l:List Nat):an:=.str (bk l)
theorem RH(he:e<=bj.length)(v0 v2 v6 v7:FV):∀(ws:List (List Nat))(s:Nat)(v5:FV),
  (kD bj e ws s=ae->∃v3 Vz,eJ (λf=>bc aA O Wf (fu+5) [.asg 3 (.meth .find (.v 1) [.v 5,.v 3,.v 4]),.ife (.cmp .lt (.v 3) (.ki 0)) [.ret (.kb af)] [],.aug 3 .add (.bi .len [.v 5])] f) (e9 [5] ae) (ws.map S')
   [v0,.val (S' bj),v2,.val (.int s),.val (.int e),v5,v6,v7]=aa (.next,[v0,.val (S' bj),v2,v3,.val (.int e),Vz,v6,v7]))/\
  (kD bj e ws s=af->∃ff,eJ (λf=>bc aA O Wf (fu+5) [.asg 3 (.meth .find (.v 1) [.v 5,.v 3,.v 4]),.ife (.cmp .lt (.v 3) (.ki 0)) [.ret (.kb af)] [],.aug 3 .add (.bi .len [.v 5])] f) (e9 [5] ae) (ws.map S')
   [v0,.val (S' bj),v2,.val (.int s),.val (.int e),v5,v6,v7]=aa (.ret (.bool af),ff))
 |[],s,v5=>⟨λ_=>(eR _ _ rfl),λh=>by simp[kD]at h⟩
 |w::r,s,v5=>by
  have c1:gS .find (S' bj) [S' w,.int s,.int e]=aa (.int (i8 w bj s e)):=by
   show(if(decide ((0:Int)<=s)&&decide ((0:Int)<=e)&&decide ((e:Int)<=((bk bj).length :Nat)))=ae then aa (bQ (i8 _ _ (s:Int).toNat (e:Int).toNat))else ac)=_;rw[aw]
   ·simp only[jY,Qd8]
   ·simp only[bo,bl,mf];exact⟨⟨ke,ke⟩,aQ 0x1ec22c006200 Yt he⟩
  by_cases q:i8 w bj s e<0
  ·have c2:=CV q;refine⟨λh=>?_,λ_=>?_⟩
   ·rw[kD,aw q]at h;injection h
   ·refine(bC ([v0,.val (S' bj),v2,.val (.int (i8 w bj s e)),.val (.int e),.val (S' w),v6,v7]) ?_);rw[cA,eJ];simp only[e9,if_true,eC,Frm.put,dz,dC];simp only[iE,ja,jG,cQ,Frm.get,cU,cH,aV,bF,c1,Frm.put,dz,dC,iD,kj,iC,sP,gG,c2,dO,l9,xX]
  ·have c2:=CW q;obtain⟨k,hk⟩:∃k:Nat,i8 w bj s e=k:=⟨(i8 w bj s e).toNat,eY 0x3501d04528224528a08225d0452822452895ecb00027040 Yt q⟩;have ih:=RH (O:=O) (Wf:=Wf) (fu:=fu) he v0 v2 v6 v7 r (k+w.length) (.val (S' w));have e1:kD bj e (w::r) s=kD bj e r (k+w.length):=by rw[kD,az q];refine ag hk ?_;rfl
   have c3:gR .len [S' w]=aa (.int w.length):=rfl;have c4:oA .add (k:Int) (w.length:Int)=aa ((k+w.length:Nat):Int):=rfl;rw[hk]at c1 c2;have kR:bc aA O Wf (fu+5) [.asg 3 (.meth .find (.v 1) [.v 5,.v 3,.v 4]),.ife (.cmp .lt (.v 3) (.ki 0)) [.ret (.kb af)] [],.aug 3 .add (.bi .len [.v 5])] [v0,.val (S' bj),v2,.val (.int s),.val (.int e),.val (S' w),v6,v7]=aa (.next,[v0,.val (S' bj),v2,.val (.int ((k+w.length:Nat):Int)),.val (.int e),.val (S' w),v6,v7]):=by simp only[iE,ja,jG,cQ,Frm.get,cU,cH,aV,bF,c1,Frm.put,dz,dC,iD,kj,iC,sP,gG,c2,dO,md,xW,oB,iF,Frm.peek,c3,c4]
   refine ag e1 ?_;rw[cA,eJ];simp only[e9,if_true,eC,Frm.put,dz,dC,kR];exact ih
theorem Qea(a b:List Nat):dt .notin (S' a) (S' b)=aa (!ox a b):=rfl
theorem RI(hy:y.length≠0)(hx:x.length<=100000):gS .split (S' x) [S' y]=aa (.list ((gE y x).map S')):=by
 show(if((bk y).length ==0||decide (100000<(bk x).length))=ae then ac else _)=_;rw[az]
 ·rfl
 ·simp only[mf,mK,bV,bl];lia
theorem Ret.forrRet{W n:Nat}{is:List Nat}{one:Bool}{b r:List MS}{xs:List an}(h:gm T O 40 it f=aa xs)(h1:∃g,eJ (λf=>bc T O W n b f) (e9 is one) xs f=aa (.ret d,g)):Ret T O W (n+2) (.forr is one it b::r) f d:=by obtain⟨g,h1⟩:=h1;refine Ret.ret (g:=g) ?_;rw[Ba];refine ag h ?_;exact h1
theorem Qeb:∀{l:List α}{x:α},l.getLast?=aa x->∃a,l=a++[x]
 |[],_,h=>by injection h
 |a::l,x,h=>(bC ((a::l).dropLast) (by
   have h2:(a::l).getLast (by simp)=x:=by rw[List.getLast?_eq_some_getLast (by simp)]at h;exact aB h
   refine a8 h2 ?_;exact(List.dropLast_concat_getLast _).symm))
theorem RJ{Wf fu:Nat}{bj:List Nat}{s e:Nat}{ws:List (List Nat)}(he:e<=bj.length)(v0 v5 v6 v7:FV):
  Ret aA O Wf (fu+12) [.ife (.cmp .gt (.v 3) (.v 4)) [.ret (.kb af)] [],.frz 2,
 .forr [5] ae (.v 2) [.asg 3 (.meth .find (.v 1) [.v 5,.v 3,.v 4]),.ife (.cmp .lt (.v 3) (.ki 0)) [.ret (.kb af)] [],.aug 3 .add (.bi .len [.v 5])],
 .ret (.kb ae)] [v0,.val (S' bj),.own (ws.map S'),.val (.int s),.val (.int e),v5,v6,v7] (.bool (wd bj s e ws)):=by
 by_cases q:s>e
 ·rw[wd,aw q];have c:=tC (x:=(s:Int)) (y:=e) (AD q);exact Ret.ife ae (sQ rfl rfl c) (Ret.ret (rfl))
 ·rw[wd,az q];have c:=wc (x:=(s:Int)) (y:=e) (aQ 0x9ec22c026200 Yt q);refine Ret.no (sQ rfl rfl c) ?_;refine Ret.next (rfl) ?_;refine aF (RH (O:=O) (Wf:=Wf) (fu:=fu+3) he v0 (.val (.list (ws.map S'))) v6 v7 ws s v5) λh1 h2=>?_;cases z:kD bj e ws s
  ·exact Ret.forrRet rfl (h2 z)
  ·refine fi (h1 z) λv3 Vz lp=>?_;exact Ret.forr rfl lp (Ret.ret (rfl))
noncomputable def Qec:List MS:=[.ife (.cmp .gt (.v 3) (.v 4)) [.ret (.kb af)] [],.frz 2,
 .forr [5] ae (.v 2) [.asg 3 (.meth .find (.v 1) [.v 5,.v 3,.v 4]),.ife (.cmp .lt (.v 3) (.ki 0)) [.ret (.kb af)] [],.aug 3 .add (.bi .len [.v 5])],
 .ret (.kb ae)]
noncomputable def Qed:List MS:=.asg 5 (.idx (.v 2) (.neg (.ki 1)))::
 .ife (.v 5) [.ife (.meth .endswith (.v 1) [.v 5]) [.aug 4 .sub (.bi .len [.v 5]),.del 2 (-1)] [.ret (.kb af)]] []::Qec
theorem tE(l:List Nat):gR .len [S' l]=aa (.int l.length):=by show aa (bQ ((bk l).length :Nat))=_;rw[mf]
theorem CY(l:List Nat):dO (S' l)=aa (decide (l.length≠0)):=by show aa ((bk l).length !=0)=_;rw[mf];congr 1;by_cases h:l.length=0<;>simp[h]
theorem Ret.skip(c:Bool)(h:aK T O 40 t f=aa c)(h1:bc T O W n (if c then a else b) f=aa (.next,g))(h2:Ret T O W (n+1) r g d):Ret T O W (n+2) (.ife t a b::r) f d:=by
 refine Ret.next ?_ h2;rw[iD];refine ag h ?_;clear h;cases c
 ·exact h1
 ·exact h1
set_option tactic.hygienic true in
theorem RK(h:tD bj s ws=aa b)(v0 v5 v6 v7:FV):
  Ret aA O Wf (fu+20) Qed [v0,.val (S' bj),.own (ws.map S'),.val (.int s),.val (.int bj.length),v5,v6,v7] (.bool b):=by
 unfold tD at h
 split at h
 ·injection h
 ·rename_i w hw;obtain rfl:=aB h;refine aD (Qeb hw) λa am=>?_;clear hw h;subst am;have c1:hZ (.list ((a++[w]).map S')) (.int (-1))=aa (S' w):=by
   show(place (-1) _).bind _=_;rw[place,az (by decide),aw (by simp;exact bL 0x70c326c03c241 Yt)];simp;rw[zu (by simp;exact bL 0x350c326c03c24508a24508a0891ac0c326c03c240 Yt),bq,show(-1+((a.length:Int)+1)).toNat -a.length=0 from bL 0xd430c9b00f09540b030c9b00f0974114a24525d045282289149540b030c9b00f0974114a24525d0452822891495812c0b030c9b00f09 Yt];rfl
  refine Ret.next (M4 (M1 rfl rfl c1)) ?_;by_cases z:w.length=0
  ·rw[aw z];exact Ret.no (by simp only[Frm.put,dz,dC,qF,cQ,Frm.get,cU,cH,dO];exact(CY w).trans (by simp[z])) (RJ (dj _) _ _ _ _)
  ·rw[az z];have t:dO (S' w)=aa ae:=by rw[CY];simp[z]
   have c2:gS .endswith (S' bj) [S' w]=aa (.bool (w.isSuffixOf bj)):=rfl;by_cases q:w.isSuffixOf bj=ae
   ·rw[aw q];rw[q]at c2;have hl:w.length<=bj.length:=(Qgr.mp q).length_le;have c3:oA .sub (bj.length:Int) (w.length:Int)=aa ((bj.length-w.length:Nat):Int):=by
     show aa ((bj.length:Int)-(w.length:Int))=_;congr 1;exact EW hl
    have c4:place (-1) ((a++[w]).map S').length =aa a.length:=by rw[place,az (by decide),aw (by simp;exact bL 0x70c326c03c241 Yt)];congr 1;simp;exact bL 0xd430c9b00f0974114a24528225d04528914a089580b030c9b00f09 Yt
    have c5:((a++[w]).map S').eraseIdx a.length=((a++[w]).dropLast).map S':=by rw[fn,List.eraseIdx_append_of_length_le (by simp)];simp
    refine Ret.skip (g:=[v0,.val (S' bj),.own (((a++[w]).dropLast).map S'),.val (.int s),.val (.int ((bj.length-w.length:Nat):Int)),.val (S' w),v6,v7]) ae (by simp only[Frm.put,dz,dC,qF,cQ,Frm.get,cU,cH,dO];exact t) ?_ (RJ (AB) _ _ _ _);rw[aw rfl];simp only[Frm.put,dz,dC,iE,iD,MP,jG,cQ,Frm.get,cU,cH,aV,bF,c2,dO,xW,oB,iF,Frm.peek,tE,c3,FN,c4,c5,md]
   ·rw[az q];rw[Qhk.mpr q]at c2;refine Ret.ife ae (by simp only[Frm.put,dz,dC,qF,cQ,Frm.get,cU,cH,dO];exact t) ?_;rw[aw rfl];refine Ret.ife af (M0 (M3 rfl rfl c2) rfl) ?_;exact Ret.ret (rfl)
set_option tactic.hygienic true in
theorem HI(hl:eO.length<=100000)(h:ik eO bj=aa b):aL Wf (k+1) 6 [S' eO,S' bj]=aa (.bool b):=by
 rw[gx QdQ rfl];refine Ret.evF ?_ rfl;show Ret aA _ _ 200 M7.body [.val (S' eO),.val (S' bj),.un,.un,.un,.un,.un,.un] _;unfold ik at h;have c0:=Qea aU eO;by_cases q:ox aU eO=af
 ·rw[aw q]at h;obtain rfl:=aB h;rw[q]at c0;have c1:dt .eq (S' eO) (S' bj)=aa (eO==bj):=by
   show aa (bk eO==bk bj)=_;congr 1;by_cases e:eO=bj
   ·clear h;subst e;simp
   ·rw[show(eO==bj)=af by simpa using e,show(bk eO==bk bj)=af by simpa using λz=>e (Qd9.mp z)]
  refine Ret.ife ae (by simp only[kj,iC,xY,iF,Frm.peek,cH,dO];refine ag (show dt .notin (wO (bk [46,46,46])) (S' eO)=aa ae from c0) ?_;rfl) ?_;rw[aw rfl];exact Ret.ret (FP (MZ rfl rfl c1))
 ·rw[az q]at h;rw[(Bool.not_eq_false _).mp q]at c0;refine Ret.no (by simp only[kj,iC,xY,iF,Frm.peek,cH,dO];refine ag (show dt .notin (wO (bk [46,46,46])) (S' eO)=aa af from c0) ?_;rfl) ?_;have c1:=RI (x:=eO) (y:=aU) (by decide) hl;split at h;case h_2=>injection h
  rename_i w w1 r hws;rw[hws]at c1;refine Ret.next (by simp only[MX,jG,cQ,Frm.get,cH,aV,xY,bF,Frm.put,dz,dC];exact ag (show gS .split (S' eO) [wO (bk [46,46,46])]=_ from c1) rfl) ?_;have c2:gR .len [.list ((w::w1::r).map S')]=aa (.int (r.length+2:Nat)):=by show aa (bQ (((w::w1::r).map S').length :Nat))=_;rw[bq];rfl
  refine Ret.next (by simp only[MO,kj,iC,oB,aV,iF,Frm.peek,cU,cH,bF,c2,sP,gG,dO];rw[RG (by exact bL 0x1ec0d1011 Yt)];rfl) ?_;refine Ret.next rfl ?_;have c3:hZ (.list ((w::w1::r).map S')) (.int 0)=aa (S' w):=by show(place 0 _).bind _=_;rw[place,aw (by decide),aw (by simp;exact bL 0x3c324326c001 Yt)];rfl
  refine Ret.next (M4 (M1 rfl rfl c3)) ?_;by_cases z:w.length=0
  ·rw[aw z]at h;exact Ret.no (by simp only[Frm.put,dz,dC,qF,cQ,Frm.get,cU,cH,dO];exact(CY w).trans (by simp[z])) (RK h _ _ _ _)
  ·rw[az z]at h;have t:dO (S' w)=aa ae:=by rw[CY];simp[z]
   have c4:gS .startswith (S' bj) [S' w]=aa (.bool (w.isPrefixOf bj)):=rfl;by_cases e:w.isPrefixOf bj=ae
   ·rw[aw e]at h;rw[e]at c4;have c5:place 0 ((w::w1::r).map S').length =aa 0:=by
     rw[place,aw (by decide),aw (by simp;exact bL 0x3c324326c001 Yt)];rfl
    refine Ret.skip (g:=[.val (S' eO),.val (S' bj),.own ((w1::r).map S'),.val (.int w.length),.val (.int bj.length),.val (S' w),.un,.un]) ae (by simp only[Frm.put,dz,dC,qF,cQ,Frm.get,cU,cH,dO];exact t) ?_ (RK h _ _ _ _);rw[aw rfl];simp only[Frm.put,dz,dC,iE,iD,MP,jG,cQ,Frm.get,cU,cH,aV,bF,c4,dO,ja,oB,iF,Frm.peek,tE,FN,c5,md];rfl
   ·rw[az e]at h;obtain rfl:=aB h;rw[Qhk.mpr e]at c4;refine Ret.ife ae (by simp only[Frm.put,dz,dC,qF,cQ,Frm.get,cU,cH,dO];exact t) ?_;rw[aw rfl];refine Ret.ife af (M0 (M3 rfl rfl c4) rfl) ?_;exact Ret.ret (rfl)
end
section
theorem HJ(X:Nat):∀(a b:List Nat)(v:Nat),bD X (a++b) v=bD X b (bD X a v)
 |[],_,_=>rfl
 |d::a,b,v=>by rw[rN,bD,bD,HJ X a b]
theorem pK:∀(ds:List Nat),(∀d∈ds,d<X)->bD X ds 0<X^ds.length
 |[],_=>by simp[bD]
 |d::r,h=>by have h1:=h d (.head _);have ih:=pK r λx hx=>h x (.tail _ hx);rw[bD,iL,uj,gB,ce,zB];rw[fm (X^r.length)];exact hz h1 ih
theorem Qee(h:∀d∈row,d<X)(hm:m+p=row.length):bD X row 0/X^p=bD X (row.take m) 0:=by
 have e:bD X row 0=bD X (row.take m) 0*X^p+bD X (row.drop m) 0:=by
  conv=>lhs;rw[<-IV m row,HJ,iL]
  rw[show(row.drop m).length =p by simp;exact LD hm hm]
 have l:=pK (row.drop m) λd hd=>h d (pW hd);rw[show(row.drop m).length =p by simp;exact LD hm hm]at l;refine ag e ?_;rw[zy,Nat.add_mul_div_right _ _ (by exact aQ 0x38804e200 Yt l)];refine ag (Qhe l) ?_;rw[gB]
theorem Qef(h:∀d∈row,d<X)(hm:m+p=row.length):bD X row 0%X^m=bD X (row.drop p) 0:=by
 have e:bD X row 0=bD X (row.take p) 0*X^m+bD X (row.drop p) 0:=by
  conv=>lhs;rw[<-IV p row,HJ,iL]
  rw[show(row.drop p).length =m by simp;exact LF hm hm]
 have l:=pK (row.drop p) λd hd=>h d (pW hd);rw[show(row.drop p).length =m by simp;exact LF hm hm]at l;refine ag e ?_;rw[Qhl];exact ag (qg l) rfl
theorem RL:∀(a b:List Nat),a.length=b.length->(∀d∈a,d<X)->(∀d∈b,d<X)->bD X a 0=bD X b 0->a=b
 |[],[],_,_,_,_=>rfl
 |[],_::_,h,_,_,_=>by injection h
 |_::_,[],h,_,_,_=>by injection h
 |x::a,y::b,h,ha,hb,e=>by
  simp only[ce,T1]at h;have la:=pK a λd hd=>ha d (.tail _ hd);have lb:=pK b λd hd=>hb d (.tail _ hd);rw[bD,bD,iL X a,iL X b,uj,gB,gB,h]at e;rw[h]at la;have e1:=congrArg (· /X^b.length) e;have e2:=congrArg (· %X^b.length) e;simp only[Qhl,qg la,qg lb]at e2;have xy:x=y:=by rw[e2]at e;have:=Nat.add_right_cancel e;exact Nat.eq_of_mul_eq_mul_right (aQ 0x38804e200 Yt la) this
  exact ag xy (ag (RL a b h (λd hd=>ha d (.tail _ hd)) (λd hd=>hb d (.tail _ hd)) e2) rfl)
theorem RM(hf:Nat):∀(a b:List Nat),a.length=b.length->(∀d∈b,d<=hf)->(bD X a 0:Int)-bD X b 0+bD X (bz a.length hf) 0=(bD X (rT (λx y=>x+hf-y) a b) 0:Nat)
 |[],[],_,_=>rfl
 |[],_::_,h,_=>by injection h
 |_::_,[],h,_=>by injection h
 |x::a,y::b,h,hb=>by
  simp only[ce,T1]at h;have ih:=RM (X:=X) hf a b h λd hd=>hb d (.tail _ hd);have hy:=hb y (.head _);rw[ce,List.replicate_succ,DM,bD,bD,bD,bD,iL X a,iL X b,iL X (bz _ _),iL X (rT _ _ _)];simp only[uj,gB,lO,Uk, <-h,Nat.min_self];have e:(x+hf-y)*X^a.length+y*X^a.length=x*X^a.length+hf*X^a.length:=by rw[<-lP, <-lP];congr 1;exact bR 0x5400c841d04528a08224528225d0452822452895832100c02c00c8406200 Yt hy
  exact N4 0x74114a08a08224528208a257b03e000ec0f060bb03a08b038105ece03b302eca2c837b380ecc0bb28b205836100c80360d8403200 [_,_,_,_,_,_,_,_] Yt ih ih e e
theorem Qeg(h:∀d∈ds,d<2^n):fU n (bD (2^n) ds 0) ds.length=ds:=by refine RL _ _ (CR _ _ _) (RA _ _ _) h ?_;rw[HC,qg];rw[rS];exact pK ds h
theorem Qeh(hn:1<=n)(h0:1<=d)(h:∀x∈d::r,x<2^n):ee ((bD (2^n) (d::r) 0:Nat):Int) n=r.length+1:=by
 have l1:=pK _ h;rw[<-rS,ce]at l1;have l2:2^(n*r.length)<=bD (2^n) (d::r) 0:=by rw[bD,iL,uj,gB, <-rS];have:1*2^(n*r.length)<=d*2^(n*r.length):=lI _ h0;exact bR 0x183408006213009 Yt this
 generalize bD (2^n) (d::r) 0=N at*;have b1:=yU l1;have b2:=Hx N;have b3:n*r.length<dI (N:Int):=(Nat.pow_lt_pow_iff_right (by decide)).mp (I8 l2 b2);unfold ee;rw[qd,zv]at b1;refine Nat.div_eq_of_lt_le ?_ ?_
 ·rw[lP,fm];exact bR 0x1524340814228a24528228918b2434080d340900e200 Yt b3
 ·rw[lP,lP,fm];exact bu 0x1524340014a08a44508a28224e0d34090d340920b2434001902460d0200 Yt hn b1
end
section
noncomputable abbrev N'(d:Nat):an:=.int (fe d)
def cS(t:Nat×Nat×Nat):an:=.tuple [N' t.1,N' t.2.1,N' t.2.2]
def f9(signs:List Nat)(b p:Nat):List Nat:=cj signs (aa (b:Int)) (aa ((b:Int)+p))
def pL(signs:List Nat)(p b:Nat):Option Bool:=ik (aU++f9 signs b p++aU) (cj (f9 signs b p++f9 signs b p) (aa 1) (aa (-1)))
def iM(signs:List Nat)(p b:Nat):Bool:=pL signs p b==aa af
noncomputable def fk(row:List Nat)(p:Nat):List Bool:=rT (· ==·) row (row.drop p)++[af]
noncomputable def eS(ok:Nat->Bool)(p:Nat):List Bool->Nat->Nat->List (Nat×Nat×Nat)
 |[],_,_=>[]
 |true::r,place,aZ=>eS ok p r (place+1) aZ
 |false::r,place,aZ=>(if p<=place-aZ/\ok aZ=ae then[(aZ,place+p,p)]else[])++eS ok p r (place+1) (place+1)
def pM(signs row:List Nat):List (Nat×Nat×Nat):=(f0 (row.length/2)).flatMap λi=>eS (iM signs (i+1)) (i+1) (fk row (i+1)) 0 0
theorem HK{cK:Frm->Option an}{cond:Frm->Option Bool}(g h:α->an):∀(xs:List α),(∀x∈xs,cond (f.put t (.val (g x)))=aa ae/\cK (f.put t (.val (g x)))=aa (h x))->lc cK cond f t (xs.map g)=aa (xs.map h)
 |[],_=>rfl
 |x::r,H=>by refine aF (H x (.head _)) λh1 h2=>?_;rw[cA,lc];refine ag h1 (ag h2 ?_);simp only[HK g h r λy hy=>H y (.tail _ hy),bF,cA]
theorem Qei(a b:List Nat):bk a++bk b=bk (a++b):=by rw[Hd];show((bk a).cps ++(bk b).cps).toList =_;simp[bk]
theorem oU(h:a.length+b.length<=100000):bM .add (S' a) (S' b)=aa (S' (a++b)):=by show(if(bk a).length +(bk b).length <=100000 then aa (wO (bk a++bk b))else ac)=_;rw[mf,mf,aw h,Qei]
theorem yW(h:a.length+b.length<=100000):bM .add (.list a) (.list b)=aa (.list (a++b)):=by show(if a.length+b.length<=100000 then aa (ui (a++b))else ac)=_;rw[aw h]
theorem HL(hl: -2^62<l/\l<2^62)(hh: -2^62<h/\h<2^62):gF (S' a) (.int l) (.int h)=aa (S' (cj a (aa l) (aa h))):=by
 have e1:kh (.int l)=aa (aa l):=by show(if(decide (-2^62<l)&&decide (l<2^62))=ae then _ else _)=_;rw[aw (by simp only[bo,bl];exact hl)]
 have e2:kh (.int h)=aa (aa h):=by show(if(decide (-2^62<h)&&decide (h<2^62))=ae then _ else _)=_;rw[aw (by simp only[bo,bl];exact hh)]
 unfold gF;refine ag e1 (ag e2 ?_);rfl
theorem RN(a:List α)(l h:Option Int):(cj a l h).length <=a.length:=by unfold cj;rw[dL,eV];exact KV
theorem HM{l:List an}{k:Nat}(h:l[k]?=aa x):hZ (.list l) (.int k)=aa x:=by have hk:k<l.length:=(mH.mp h).1;show(place k l.length).bind _=_;rw[place,aw (by exact ke),aw (by exact AD hk)];exact h
theorem pN{a b:Nat}(h:b<=a):bM .sub (.int a) (.int b)=aa (.int ((a-b:Nat):Int)):=by rw[pJ];congr 2;exact EW h
theorem bN(h:bJ T O W n s f=aa (.next,g))(h2:bc T O W n r g=aa (.next,g2)):bc T O W (n+1) (s::r) f=aa (.next,g2):=by rw[iE];refine ag h ?_;exact h2
theorem cZ:bc T O W (n+1) [] f=aa (.next,f):=by rw[md]
theorem gK(c:Bool)(h:aK T O 40 t f=aa c)(h1:bc T O W n (if c then a else b) f=aa (.next,g)):bJ T O W (n+1) (.ife t a b) f=aa (.next,g):=by
 rw[iD];refine ag h ?_;clear h;cases c
 ·exact h1
 ·exact h1
theorem cy(h:aj T O 40 e f=aa d):bJ T O W (n+1) (.asg i e) f=aa (.next,f.put i (.val d)):=by rw[ja];exact ag h rfl
theorem CZ(h0:f[i]?=aa (.own xs))(h:aj T O 40 e f=aa d)(hl:xs.length<100000):bJ T O W (n+1) (.app i e) f=aa (.next,f.put i (.own (xs++[d]))):=by rw[FK];refine ag h (ag h0 ?_);simp only[hl,if_true]
section
variable {T:Tabs} {O:bn} {n:Nat} {f:Frm}
theorem aC(h:f[i]?=aa (.val d)):aj T O (n+1) (.v i) f=aa d:=by rw[cQ,Frm.get];exact ag h rfl
theorem aT:aj T O (n+1) (.ki i) f=aa (.int i):=by rw[gG]
theorem oV:aj T O (n+1) (.ks l) f=aa (S' l):=by rw[xY]
theorem C0(h:aj T O n e f=aa (.int i)):aj T O (n+1) (.neg e) f=aa (.int (-i)):=by rw[vh];exact ag h rfl
theorem aW(h1:aj T O n l f=aa a)(h2:aj T O n r f=aa b)(h:bM op a b=c):aj T O (n+1) (.bin op l r) f=c:=by rw[fQ];refine ag h1 (ag h2 ?_);exact h
theorem kE(h1:aj T O n o f=aa a)(h2:aj T O n l f=aa b)(h3:aj T O n h f=aa c)(hd:gF a b c=d):aj T O (n+1) (.sl o l h) f=d:=by rw[MN];refine ag h1 (ag h2 (ag h3 ?_));exact hd
theorem oW(h1:aj T O n e1 f=aa a1)(h:O g [a1]=d):aj T O (n+1) (.call g [e1]) f=d:=by rw[jF];simp only[aV,h1,bF];exact h
theorem rf(h1:aj T O n e1 f=aa a1)(h2:aj T O n e2 f=aa a2)(h:O g [a1,a2]=d):aj T O (n+1) (.call g [e1,e2]) f=d:=by rw[jF];simp only[aV,h1,h2,bF];exact h
theorem HN(h1:aj T O n e1 f=aa a1)(h2:aj T O n e2 f=aa a2)(h3:aj T O n e3 f=aa a3)(h:O g [a1,a2,a3]=d):aj T O (n+1) (.call g [e1,e2,e3]) f=d:=by rw[jF];simp only[aV,h1,h2,h3,bF];exact h
theorem bS(h:aj T O n e f=aa d)(hv:∀i,e≠.v i):eZ T O (n+1) e f=aa d:=by cases e<;>first|exact h|exact absurd rfl (hv _)
theorem eE(h:f[i]?=aa (.val d)):eZ T O (n+1) (.v i) f=aa d:=by rw[iF,Frm.peek];exact ag h rfl
theorem Qej(h:f[i]?=aa (.own xs)):eZ T O (n+1) (.v i) f=aa (.list xs):=by rw[iF,Frm.peek];exact ag h rfl
theorem gX(h1:eZ T O n o f=aa a)(h2:aj T O n i f=aa k)(h:hZ a k=d):aj T O (n+1) (.idx o i) f=d:=by rw[A8];refine ag h1 (ag h2 ?_);exact h
theorem nB(h1:aj T O n l f=aa a)(h2:eZ T O n r f=aa b)(h:dt op a b=aa c):aj T O (n+1) (.cmp op l r) f=aa (.bool c):=by rw[iC];refine ag h1 (ag h2 ?_);simp only[h,bF]
theorem dJ(h1:aj T O n l f=aa a)(h2:eZ T O n r f=aa b)(h:dt op a b=aa c):aK T O (n+2) (.cmp op l r) f=aa c:=by rw[vr rfl];refine ag (nB h1 h2 h) ?_;rfl
end
noncomputable abbrev C5:List MS:=[.ife (.nt (.idx (.v 12) (.v 14))) [.asg 15 (.sl (.v 1) (.v 13) (.bin .add (.v 13) (.v 8))),
     .ife (.bop ae [.cmp .ge (.bin .sub (.v 14) (.v 13)) (.v 8),
               .cmp .is (.call 6 [.bin .add (.bin .add (.ks [46,46,46]) (.v 15)) (.ks [46,46,46]),.sl (.bin .add (.v 15) (.v 15)) (.ki 1) (.neg (.ki 1))]) (.kb af)])
      [.app 7 (.tup [.v 13,.bin .add (.v 14) (.v 8),.v 8])] [],
     .asg 13 (.bin .add (.v 14) (.ki 1))] []]
abbrev iN(v0 v2 v3 v4 v5 v6 v9 bf cL:FV)(tl:List FV)(signs:List Nat)(acc:List (Nat×Nat×Nat))(p:Nat)(al:List Bool)(fG gC d0:FV):Frm:=v0::.val (S' signs)::v2::v3::v4::v5::v6::.own (acc.map cS)::.val (.int p)::v9::bf::cL::.val (.list (al.map .bool))::fG::gC::d0::tl
noncomputable abbrev shT:ME:=.bop ae [.cmp .ge (.bin .sub (.v 14) (.v 13)) (.v 8),
               .cmp .is (.call 6 [.bin .add (.bin .add (.ks [46,46,46]) (.v 15)) (.ks [46,46,46]),.sl (.bin .add (.v 15) (.v 15)) (.ki 1) (.neg (.ki 1))]) (.kb af)]
theorem Qel{root:List Nat}{place aZ p:Nat}(hb:aZ<=place)(lr:root.length<=1000)(H:p<=place-aZ->∃B,ik (aU++root++aU) (cj (root++root) (aa 1) (aa (-1)))=aa B/\O 6 [S' (aU++root++aU),S' (cj (root++root) (aa 1) (aa (-1)))]=aa (.bool B))
  (v0 v1 v2 v3 v4 v5 v6 v7 v9 bf cL gk:FV) (tl:List FV):aK aA O 40 shT (v0::v1::v2::v3::v4::v5::v6::v7::.val (.int p)::v9::bf::cL::gk::.val (.int aZ)::.val (.int place)::.val (S' root)::tl)=aa (decide (p<=place-aZ/\ik (aU++root++aU) (cj (root++root) (aa 1) (aa (-1)))=aa af)):=by
 have c3:=pN hb
 have c6:=oU (a:=aU) (b:=root) (by simp only[aU,ce,js];exact aH 0x182892682643003243243241182aba240 Yt lr)
 have c7:=oU (a:=aU++root) (b:=aU) (by simp only[aU,dn,ce,js];exact aH 0x1828926826430c90c90c9043003243243241182aba240 Yt lr)
 have c8:=oU (a:=root) (b:=root) (aH 0x5291182892682643000182aba240 Yt lr)
 have c9:=HL (a:=root++root) (l:=1) (h:= -1) (by decide) (by decide)
 by_cases q:p<=place-aZ
 ·refine ai (H q) λB e1 e2=>?_;have d1:=RG (x:=((place-aZ:Nat):Int)) (y:=p) (bR 0x1ec2d022c0062d0200 Yt q);have d2:dt .is (.bool B) (.bool af)=aa (B==af):=rfl;refine ag e1 ?_;have t1:∀f:Frm,f=(v0::v1::v2::v3::v4::v5::v6::v7::.val (.int p)::v9::bf::cL::gk::.val (.int aZ)::.val (.int place)::.val (S' root)::tl)->aj aA O 37 (.call 6 [.bin .add (.bin .add (.ks [46,46,46]) (.v 15)) (.ks [46,46,46]),.sl (.bin .add (.v 15) (.v 15)) (.ki 1) (.neg (.ki 1))]) f=aa (.bool B):=by
   rintro f rfl;exact rf (aW (aW oV (aC rfl) c6) oV c7) (kE (aW (aC rfl) (aC rfl) c8) aT (C0 aT) c9) e2
  have t2:=dJ (n:=37) (t1 _ rfl) (r:=.kb af) (b:=.bool af) (op:=.is) (by simp only[WC,xX]) d2;have t3:aK aA O 39 (.cmp .ge (.bin .sub (.v 14) (.v 13)) (.v 8)) (v0::v1::v2::v3::v4::v5::v6::v7::.val (.int p)::v9::bf::cL::gk::.val (.int aZ)::.val (.int place)::.val (S' root)::tl)=aa ae:=dJ (aW (aC rfl) (aC rfl) c3) (eE rfl) d1;rw[xZ];simp only[gf,t2,t3];clear e1 e2 d2 t1 t2;cases B<;>simp[q]
 ·have d1:=Qd7 (x:=((place-aZ:Nat):Int)) (y:=p) (bR 0x7ec2d022c01e2d0200 Yt q);simp only[xZ,gf,kj,iC,fQ,cQ,Frm.get,cU,cH,c3,iF,Frm.peek,d1,bF,dO,q,false_and,decide_false]
theorem Qem{Wf fu:Nat}{signs:List Nat}{p:Nat}(hs:signs.length<=1000)(hp:p<=1000)(v0 v2 v3 v4 v5 v6 v9 bf cL:FV)(tl:List FV){al:List Bool}(pf:al.length<=1000){place aZ:Nat}(hb:aZ<=place)(VA:place<al.length)
  (H:p<=place-aZ->∃B,pL signs p aZ=aa B/\O 6 [S' (aU++f9 signs aZ p++aU),S' (cj (f9 signs aZ p++f9 signs aZ p) (aa 1) (aa (-1)))]=aa (.bool B))
  (ix:hZ (.list (al.map .bool)) (.int place)=aa (.bool af)) {acc:List (Nat×Nat×Nat)} (jC:acc.length<=50000) (d0:FV):
  bc aA O Wf (fu+8) C5 (iN v0 v2 v3 v4 v5 v6 v9 bf cL tl signs acc p al (.val (.int aZ)) (.val (.int place)) d0)=
   aa (.next,iN v0 v2 v3 v4 v5 v6 v9 bf cL tl signs (acc++(if p<=place-aZ/\iM signs p aZ=ae then[(aZ,place+p,p)]else[])) p al (.val (.int ((place+1:Nat):Int))) (.val (.int place)) (.val (S' (f9 signs aZ p)))):=by
 have c1:bM .add (.int (aZ:Int)) (.int (p:Int))=aa (.int ((aZ:Int)+p)):=rfl
 have c2:=HL (a:=signs) (l:=aZ) (h:=(aZ:Int)+p) (by exact⟨EZ,k8 0x3c20820820820820820820820820820a1b10182aba24818040e200 Yt pf hb VA⟩) (by exact⟨LG,ou 0xf082082082082082082082082082082843b18b10182aba258182aba24818040e200 Yt hp pf hb VA⟩)
 have c4:bM .add (.int (place:Int)) (.int (p:Int))=aa (.int ((place+p:Nat):Int)):=rfl
 have c5:bM .add (.int (place:Int)) (.int 1)=aa (.int ((place+1:Nat):Int)):=rfl
 have lr:(f9 signs aZ p).length <=1000:=nR (RN _ _ _) hs
 have test:=Qel (O:=O) (p:=p) hb lr H v0 (.val (S' signs)) v2 v3 v4 v5 v6 (.own (acc.map cS)) v9 bf cL (.val (.list (al.map .bool))) tl
 have e3:(ik (aU++f9 signs aZ p++aU) (cj (f9 signs aZ p++f9 signs aZ p) (aa 1) (aa (-1)))=aa af)=(iM signs p aZ=ae):=by unfold iM pL;rw[bV]
 simp only[e3]at test
 have t0:aK aA O 40 (.nt (.idx (.v 12) (.v 14))) (iN v0 v2 v3 v4 v5 v6 v9 bf cL tl signs acc p al (.val (.int aZ)) (.val (.int place)) d0)=aa ae:=by have z:aj aA O 38 (.idx (.v 12) (.v 14)) (iN v0 v2 v3 v4 v5 v6 v9 bf cL tl signs acc p al (.val (.int aZ)) (.val (.int place)) d0)=aa (.bool af):=gX (eE rfl) (aC rfl) ix;show(aK aA O 39 _ _).map (!·)=_;rw[vr rfl];refine ag z ?_;rfl
 refine bN (gK ae t0 ?_) cZ
 rw[aw rfl]
 refine bN (g:=iN v0 v2 v3 v4 v5 v6 v9 bf cL tl signs acc p al (.val (.int aZ)) (.val (.int place)) (.val (S' (f9 signs aZ p)))) (cy (kE (aC rfl) (aC rfl) (aW (aC rfl) (aC rfl) c1) c2)) ?_
 refine bN (g:=iN v0 v2 v3 v4 v5 v6 v9 bf cL tl signs (acc++(if p<=place-aZ/\iM signs p aZ=ae then[(aZ,place+p,p)]else[])) p al (.val (.int aZ)) (.val (.int place)) (.val (S' (f9 signs aZ p)))) (gK _ test ?_) ?_
 ·by_cases q:p<=place-aZ/\iM signs p aZ=ae
  ·refine ag (d6 q) ?_;rw[aw q,aw rfl];have t:aj aA O 40 (.tup [.v 13,.bin .add (.v 14) (.v 8),.v 8]) (iN v0 v2 v3 v4 v5 v6 v9 bf cL tl signs acc p al (.val (.int aZ)) (.val (.int place)) (.val (S' (f9 signs aZ p))))=aa (cS (aZ,place+p,p)):=by
    exact rfl
   have z:=CZ (T:=aA) (O:=O) (W:=Wf) (n:=fu+3) (i:=7) (f:=iN v0 v2 v3 v4 v5 v6 v9 bf cL tl signs acc p al (.val (.int aZ)) (.val (.int place)) (.val (S' (f9 signs aZ p)))) (xs:=acc.map cS) rfl t (by rw[bq];exact LH jC);refine bN z ?_;rw[cZ];simp only[iN,Frm.put,dz,dC,fn,cA,tU]
  ·refine ag (eP q) ?_;rw[az q,kO];exact cZ
 ·exact bN (cy (aW (aC rfl) aT c5)) cZ
theorem Qen{Wf fu:Nat}{signs:List Nat}{p:Nat}(v0 v2 v3 v4 v5 v6 v9 bf cL:FV)(tl:List FV){al:List Bool}{place:Nat}(ix:hZ (.list (al.map .bool)) (.int place)=aa (.bool ae)){acc:List (Nat×Nat×Nat)}(fG d0:FV):
  bc aA O Wf (fu+8) C5 (iN v0 v2 v3 v4 v5 v6 v9 bf cL tl signs acc p al fG (.val (.int place)) d0)=aa (.next,iN v0 v2 v3 v4 v5 v6 v9 bf cL tl signs acc p al fG (.val (.int place)) d0):=by
 have t0:aK aA O 40 (.nt (.idx (.v 12) (.v 14))) (iN v0 v2 v3 v4 v5 v6 v9 bf cL tl signs acc p al fG (.val (.int place)) d0)=aa af:=by have z:aj aA O 38 (.idx (.v 12) (.v 14)) (iN v0 v2 v3 v4 v5 v6 v9 bf cL tl signs acc p al fG (.val (.int place)) d0)=aa (.bool ae):=gX (eE rfl) (aC rfl) ix;show(aK aA O 39 _ _).map (!·)=_;rw[vr rfl];refine ag z ?_;rfl
 exact bN (gK af t0 cZ) cZ
theorem HO{Wf fu:Nat}{signs:List Nat}{p:Nat}(hs:signs.length<=1000)(hp:p<=1000)(v0 v2 v3 v4 v5 v6 v9 bf cL:FV)(tl:List FV)(al:List Bool)(pf:al.length<=1000)
  (H:∀b,b+p<al.length->∃B,pL signs p b=aa B/\O 6 [S' (aU++f9 signs b p++aU),S' (cj (f9 signs b p++f9 signs b p) (aa 1) (aa (-1)))]=aa (.bool B)):
  ∀(bs:List Bool)(place aZ:Nat)(acc:List (Nat×Nat×Nat))(gC d0:FV),aZ<=place->(∀j,al[place+j]?=bs[j]?)->place+bs.length=al.length->acc.length+bs.length<=50000->
  ∃n9 uL uM,eJ (λf=>bc aA O Wf (fu+8) C5 f) (e9 [14] ae) ((ey place bs.length).map λk:Nat=>.int k)
   (iN v0 v2 v3 v4 v5 v6 v9 bf cL tl signs acc p al (.val (.int aZ)) gC d0)=aa (.next,iN v0 v2 v3 v4 v5 v6 v9 bf cL tl signs (acc++eS (iM signs p) p bs place aZ) p al n9 uL uM)
 |[],place,aZ,acc,gC,d0,_,_,_,_=>(Ai (.val (.int aZ)) gC d0 (by rw[eS,kO];rfl))
 |b::bs,place,aZ,acc,gC,d0,hb,VB,bh,jC=>by
  rw[ce]at bh jC;have h0:=VB 0;have ix:hZ (.list (al.map .bool)) (.int place)=aa (.bool b):=HM (by rw[dS];refine ag (show al[place]?=aa b from h0) ?_;rfl);have VC:∀j,al[place+1+j]?=bs[j]?:=λj=>by have:=VB (j+1);rw[show place+(j+1)=place+1+j from mX]at this;simpa using this
  rw[ce,TF,cA,eJ];have bd:e9 [14] ae (.int (place:Int)) (iN v0 v2 v3 v4 v5 v6 v9 bf cL tl signs acc p al (.val (.int aZ)) gC d0)=aa (iN v0 v2 v3 v4 v5 v6 v9 bf cL tl signs acc p al (.val (.int aZ)) (.val (.int place)) d0):=rfl;refine ag bd ?_;cases b with
  |true=>
   refine pj (HO (O:=O) (Wf:=Wf) (fu:=fu) hs hp v0 v2 v3 v4 v5 v6 v9 bf cL tl al pf H bs (place+1) aZ acc (.val (.int place)) d0 (mV hb) VC (ET bh bh) (LI jC)) λn9 uL uM ih=>?_
   refine⟨n9,uL,uM,?_⟩
   have kR:=Qen (O:=O) (Wf:=Wf) (fu:=fu) (signs:=signs) (p:=p) v0 v2 v3 v4 v5 v6 v9 bf cL tl ix (acc:=acc) (.val (.int aZ)) d0
   simp only[kR]
   rw[eS]
   exact ih
  |false=>
   refine pj (HO (O:=O) (Wf:=Wf) (fu:=fu) hs hp v0 v2 v3 v4 v5 v6 v9 bf cL tl al pf H bs (place+1) (place+1) (acc++(if p<=place-aZ/\iM signs p aZ=ae then[(aZ,place+p,p)]else[])) (.val (.int place)) (.val (S' (f9 signs aZ p))) (xz) VC (ET bh bh) (by split<;>simp<;>(first|exact aQ 0x1824aa2a22432032401824aa2a22430c9200 Yt jC|exact LI jC))) λn9 uL uM ih=>?_
   refine⟨n9,uL,uM,?_⟩
   have kR:=Qem (O:=O) (Wf:=Wf) (fu:=fu) (signs:=signs) (p:=p) hs hp v0 v2 v3 v4 v5 v6 v9 bf cL tl pf hb (Az bh) (λq=>H aZ (xK 0x1540814a08a28a24508a2822893a00c04062105a00c32582062d0200 Yt hb bh q)) ix (acc:=acc) (aQ 0x1824aa2a22401824aa2a22430c9200 Yt jC) d0
   simp only[kR]
   rw[eS, <-lM]
   exact ih
end
section
theorem C6{α:Type}{body:Frm->Option (Fl×Frm)}{bind:an->Frm->Option Frm}{g:α->an}{I:List α->Frm->Prop}{L:List α}(kR:∀done x fH f,L=done++x::fH->I done f->∃f1 f2,bind (g x) f=aa f1/\body f1=aa (.next,f2)/\I (done++[x]) f2):
  ∀(xs done:List α)(f:Frm),L=done++xs->I done f->∃f2,eJ body bind (xs.map g) f=aa (.next,f2)/\I L f2
 |[],done,f,e,h=>(aO f rfl (by simp only[e,kO];exact h))
 |x::xs,done,f,e,h=>by refine ay λcG=>?_;refine cY (kR done x xs f e h) λf1 f2 h1 h2 h3=>?_;refine ai (C6 kR xs (done++[x]) f2 (by rw[e];simp) h3) λf3 h4 h5=>?_;apply cG;clear cG;refine(aO f3 ?_ h5);rw[cA,eJ,h1];simp only[h2];exact h4
theorem HP(ok:Nat->Bool)(p:Nat):∀(bs:List Bool)(a b:Nat),(eS ok p bs a b).length <=bs.length
 |[],_,_=>by simp[eS]
 |true::r,a,b=>by dsimp only[eS,ce];have:=HP ok p r (a+1) b;exact mV this
 |false::r,a,b=>by simp only[eS,ce,dn];have:=HP ok p r (a+1) (a+1);split<;>simp<;>(first|exact aQ 0x1832480c0246200 Yt this|exact mV this)
theorem RO{α β γ:Type}(f:α->β->γ):∀(a:List α)(b:List β),rT f a b=rT f (a.take b.length) b
 |[],b=>by simp
 |x::a,[]=>by simp
 |x::a,y::b=>by simp only[ce,Qgo,DM,DM,RO f a b]
theorem RP{hf:Nat}:∀(a b:List Nat),(∀d∈b,d<=hf)->(rT (λx y=>x+hf-y) a b).map (λd=>d==hf)=rT (· ==·) a b
 |[],b,_=>by simp
 |x::a,[],_=>by simp
 |x::a,y::b,h=>by have hy:=h y (.head _);simp only[DM,DM,cA,RP a b λd hd=>h d (.tail _ hd)];congr 1;rw[gA,bV,bV];exact V8 hy
theorem yX{row:List Nat}{p:Nat}:(fk row p).length =row.length-p+1:=by unfold fk;simp only[dn,Uk,dL];simp only[ce,js];exact fN 0x1520034b20001d04528208914a08208974114a08228224528208208224d2c800074114a08224528208225d04528208a08914a08208a0822560c92c80030c90742c8000 Yt
theorem Qeo{row:List Nat}{wide p:Nat}(hw:18<=wide)(jD:wide<=1417)(hr:∀d∈row,d<131072)(hp:1<=p)(dZ:2*p<=row.length)(hn:row.length<=10):
  ∃N:Nat,((bD (2^wide) row 0/(2^wide)^p:Nat):Int)-((bD (2^wide) row 0%(2^wide)^(row.length-p):Nat):Int)+((bD (2^wide) (bz (row.length-p) (2^(wide-1))) 0:Nat):Int)=N/\
   yS [.int N,.int wide]=aa (.list (ii wide (N:Int) (row.length-p)))/\
   (fU wide N (row.length-p)).map (λd=>d==2^(wide-1))++[af]=fk row p:=by
 have hX:2^wide=2*2^(wide-1):=by clear jD;obtain⟨k,rfl⟩:∃k,wide=k+1:=⟨wide-1,aH 0x54900508a08974114a2452822560c92c9000180491 Yt hw⟩;dsimp only[zB];simp;exact bL 0x1d0452452564c0453440 Yt
 have hh:131072<=2^(wide-1):=by have:2^17<=2^(wide-1):=nY (by decide) (aH 0x1524014228224528228918b240291180491 Yt hw);exact this
 generalize hhf:2^(wide-1)=hf at*
 have xi:∀d∈row,d<2^wide:=λd hd=>by have:=hr d hd;exact k8 0x528a4893900364c84501880820820a1382082082840 Yt hX hh this
 have hm:row.length-p+p=row.length:=bp 0x1500814228228974114a08914a25620300b008180246213011 Yt hp dZ
 have e1:=Qee xi hm
 have e2:=Qef xi hm
 have ll:(row.take (row.length-p)).length =(row.drop p).length :=by simp
 have lt:(row.take (row.length-p)).length =row.length-p:=by simp
 have e3:=RM (X:=2^wide) hf (row.take (row.length-p)) (row.drop p) ll (λd hd=>by have:=hr d (pW hd);exact LJ hh this)
 rw[lt]at e3
 generalize cV:rT (λx y=>x+hf-y) (row.take (row.length-p)) (row.drop p)=ds at*
 have dl:ds.length=row.length-p:=by refine a8 cV ?_;simp
 have db:∀d∈ds,1<=d/\d<2^wide:=λd hd=>by rw[<-cV]at hd;obtain⟨i,hi,rfl⟩:=List.mem_iff_getElem.mp hd;rw[Qhm];have h1:=hr _ (I0 (wH (l:=row.take (row.length-p)) (n:=i) (by simp at hi;simp;exact hi)));have h2:=hr _ (pW (wH (l:=row.drop p) (n:=i) (by simp at hi;simp;exact hi)));exact V3 h1 h2 hh hX
 refine⟨bD (2^wide) ds 0,?_,?_,?_⟩
 ·refine ag e1 (ag e2 ?_);exact e3
 ·clear cV e3;obtain⟨d,r,rfl⟩:∃d r,ds=d::r:=by
   cases ds with
   |nil=>simp at dl;exact fZ (N4 0x2e041188246013211d800c82c80362c8001 [_,_] Yt hp dZ hm dl)
   |cons d r=>exact⟨d,r,rfl⟩
  have c:=Qeh (n:=wide) (E0 hw) (db d (.head _)).1 (λx hx=>(db x hx).2);dsimp only[ce]at dl;rw[dl]at c;have l1:=pK (X:=2^wide) (d::r) λx hx=>(db x hx).2;rw[<-rS]at l1;have:=RD (n:=wide) (K:=wide*(d::r).length) (E0 hw) (by have:wide*(d::r).length <=1417*10:=DN jD (by dsimp only[ce];exact k8 0x1922432401922485880d02d02162d0203240 Yt hn hm dl);exact bp 0x60a22aac890c020628ac912064d224a2b2440 Yt jD this) l1;rw[c]at this;exact this
 ·refine a8 dl (ag (Qeg λx hx=>(db x hx).2) (a8 cV ?_));rw[RP _ _ (λd hd=>by have:=hr d (pW hd);exact LJ hh this)];unfold fk;rw[RO _ row (row.drop p),dL]
theorem RQ{i:Int}{m:Nat}(h:m<=100000):bM .mul (.list [.int i]) (.int m)=aa (.list (bz m (.int i))):=by show(if(decide ((0:Int)<=m)&&decide ((m:Int)<=100000))=ae then aa (ui (bz (m:Int).toNat (.int i)))else ac)=_;rw[aw (by simp;exact LK h),jY]
theorem rh{T:Tabs}{O:bn}{n:Nat}{f:Frm}{e:ME}{d:an}{xs:List an}(h:aj T O n e f=aa d)(h2:vg d=aa xs)(tv:yb e=ae):gm T O (n+1) e f=aa xs:=by rw[Od tv,h];exact h2
abbrev RS:List MS:=[.asg 9 (.idx (.call 16 [.bin (BO.mul) (.v 6) (.v 3),.bin (BO.shl) (.v 3) (.bin (BO.mul) (.v 2) (.v 8)),.v 4]) (.ki 0)),
  .asg
   10
   (.idx
    (.call 16 [.v 6,.bin (BO.shl) (.ki 1) (.bin (BO.mul) (.v 2) (.bin (BO.sub) (.bi (BI.len) [.v 0]) (.v 8))),.v 4])
    (.ki 1)),
  .asg
   11
   (.call
    2
    [.bin
           (BO.add)
           (.bin (BO.sub) (.v 9) (.v 10))
           (.call 3 [.bin (BO.mul) (.lst [.v 5]) (.bin (BO.sub) (.bi (BI.len) [.v 0]) (.v 8)),.v 2]),
         .v 2]),
  .asg 12 (.bin (BO.add) (.comp [ac,ac,aa 5] 1 (.cmp (CO.eq) (.v 1) (.v 2)) (.rv (.v 11)) []) (.lst [.kb af])),
  .asg 13 (.ki 0),
  .forr [14] ae (.rng [.bi (BI.len) [.v 12]]) C5]
abbrev we(row signs:List Nat)(wide S way hf W:Int)(acc:List (Nat×Nat×Nat))(r:List FV):Frm:=.val (.list (row.map N'))::.val (S' signs)::.val (.int wide)::.val (.int S)::.val (.int way)::.val (.int hf)::.val (.int W)::.own (acc.map cS)::r
theorem ri{T:Tabs}{O:bn}{n i:Nat}{f:Frm}{l:List an}(h:f[i]?=aa (.val (.list l))):aj T O (n+2) (.bi .len [.v i]) f=aa (.int l.length):=by dsimp only[oB];simp only[aV,iF,Frm.peek,h,bF];rfl
theorem rj{T:Tabs}{O:bn}{W n:Nat}{is:List Nat}{one:Bool}{it:ME}{b:List MS}{f g:Frm}{xs:List an}(h:gm T O 40 it f=aa xs)(h1:eJ (λf=>bc T O W n b f) (e9 is one) xs f=aa (.next,g)):bJ T O W (n+1) (.forr is one it b) f=aa (.next,g):=by simp only[Ba,h];exact h1
theorem Qep{T:Tabs}{O:bn}{n:Nat}{e:ME}{f:Frm}{b:Nat}(h:aj T O n e f=aa (.int b))(hb:b<=100000):gm T O (n+1) (.rng [e]) f=aa ((ey 0 b).map λk:Nat=>.int k):=by show(aV (λe=>aj T O n e f) [e]).bind (λds=>(fB ds).bind xU)=_;rw[FO h M2];show(if _ then _ else _)=_;rw[aw (by simp only[bo,bl];exact⟨LK hb,LL⟩)];unfold m8;rw[g6, <-Qg5,show((b:Int)-0).toNat =b from bL 0xd4b06c01d04528914a08974114a24528225602c2c1b00 Yt];refine congrArg aa (zh λk _=>?_);show bQ (0+(k:Int))=.int k;rw[Int.zero_add]
theorem C7{T:Tabs}{O:bn}{n:Nat}{e1 e2:ME}{f:Frm}{a c:Nat}(h1:aj T O n e1 f=aa (.int a))(h2:aj T O n e2 f=aa (.int ((a+c:Nat):Int)))(hb:a+c<=100000):gm T O (n+1) (.rng [e1,e2]) f=aa ((ey a c).map λk:Nat=>.int k):=by show(aV (λe=>aj T O n e f) [e1,e2]).bind (λds=>(fB ds).bind xU)=_;rw[FO h1 (FO h2 M2)];show(if _ then _ else _)=_;rw[aw (by simp only[bo,bl];exact⟨⟨⟨⟨aQ 0x1c289268264bb00b03200182892682643200 Yt hb,LL⟩,aQ 0x3c2082082082082082082082082082089b00182892682643200 Yt hb⟩,fN 0xfb03200f02082082082082082082082082082089 Yt⟩,aQ 0x3c2082082082082082082082082082089b03200182892682643200 Yt hb⟩)];unfold m8;rw[g6,Qhn,g6,show(((a+c:Nat):Int)-a).toNat =c from fN 0xd4bb00b0320074114a24528225d04528914a089588b0bb00b03200 Yt];rfl
structure F7 where
 (a b c d e f g:FV)
noncomputable abbrev F7.l(t:F7)(tl:List FV):Frm:=t.a::t.b::t.c::t.d::t.e::t.f::t.g::tl
theorem Qeq{wf k fu:Nat}(hk:30<=k){row signs:List Nat}{wide S p:Nat}{way:Int}(hw:18<=wide)(jD:wide<=1417)(hr:∀d∈row,d<131072)(hp:1<=p)(dZ:2*p<=row.length)(hn:row.length<=10)(hs:signs.length=row.length)(hS:0<S)(Ac:S<2^7998)(sB:way=0\/way=1\/way=2\/way=3)
  (H:∀b,b+p<=row.length->∃B,pL signs p b=aa B) {acc:List (Nat×Nat×Nat)} (jC:acc.length<=40000) (t:F7) (tl:List FV):
  ∃x:F7,bc aA (aL (wf+3) (k+11)) (wf+3) (fu+16) RS (we row signs wide S way ((2^(wide-1):Nat):Int) ((bD (2^wide) row 0:Nat):Int) acc (.val (.int p)::t.l tl))=
   aa (.next,we row signs wide S way ((2^(wide-1):Nat):Int) ((bD (2^wide) row 0:Nat):Int) (acc++eS (iM signs p) p (fk row p) 0 0) (.val (.int p)::x.l tl)):=by
 refine ay λcG=>?_
 obtain⟨a9,a10,a11,da,a13,Eu,Ev⟩:=t
 refine l4 (Qeo hw jD hr hp dZ hn) λN n1 n2 n3=>?_
 have xi:∀d∈row,d<2^wide:=λd hd=>by have:=hr d hd;have h2:2^17<=2^wide:=nY (by decide) (aH 0x180291180491 Yt hw);have h3:(2:Nat)^17=131072:=rfl;exact LM this h2
 have wl:=pK (X:=2^wide) row xi
 rw[<-rS]at wl
 have wn:wide*row.length<=14170:=DN jD hn
 have Ki:bD (2^wide) row 0<2^14170:=nK wl (nY (by decide) wn)
 generalize bD (2^wide) row 0=W at*
 have wp:wide*p<=1417*5:=DN jD (bp 0x1522891a9206013211192240 Yt dZ hn)
 have wm:wide*(row.length-p)<=1417*10:=DN jD (aQ 0x54800528224508a28919224b200192240 Yt hn)
 have Xp:(2^wide)^p=2^(wide*p):=(rS 2 wide p).symm
 have Xm:(2^wide)^(row.length-p)=2^(wide*(row.length-p)):=(rS 2 wide _).symm
 rw[Xp,Xm]at n1
 apply cG;clear cG
 refine ay λcG=>?_
 have d1:=HH (wf:=wf) (k:=k) hk (a:=W*S) (b:=S*2^(wide*p)) ⟨I6 hS (jv _),by
   have h1:S*2^(wide*p)<2^7998*2^(wide*p):=Uh Ac (jv _);rw[<-jZ]at h1;exact nK h1 (nY (by decide) (aH 0x60824ba643032ea2e89193a4a2b2440 Yt wp)),by
   have h1:W*S<2^14170*2^7998:=Nat.mul_lt_mul'' Ki Ac;rw[<-jZ]at h1;exact nK h1 (nY (by decide) (by decide))⟩ sB
 have q1:W*S/(S*2^(wide*p))=W/2^(wide*p):=by refine ag (fm W S) ?_;rw[Nat.mul_div_mul_left _ _ hS]
 rw[q1]at d1
 have d2:=HH (wf:=wf) (k:=k) hk (a:=W) (b:=2^(wide*(row.length-p))) ⟨jv _,Qho (by decide) (aH 0x382092e990064d224a2b2440 Yt wm),nK Ki (nY (by decide) (by decide))⟩ sB
 have sW:di (W:Int)=ae:=ij Ki (by decide)
 have sS:di (S:Int)=ae:=ij Ac (by decide)
 have sw:di (wide:Int)=ae:=ij (k:=11) (aH 0x38208284018a2b2440 Yt jD) (by decide)
 have sp:di (p:Int)=ae:=ij (k:=11) (bp 0x548a24e0820a1206013211192240 Yt dZ hn) (by decide)
 have sm:di ((row.length-p:Nat):Int)=ae:=ij (k:=11) (aQ 0x54800528224508a28938208284b200192240 Yt hn) (by decide)
 have b1:bM .mul (.int (W:Int)) (.int (S:Int))=aa (.int ((W*S:Nat):Int)):=(rc sW sS).trans (by rw[<-mJ])
 have b2:bM .mul (.int (wide:Int)) (.int (p:Int))=aa (.int ((wide*p:Nat):Int)):=(rc sw sp).trans (by rw[<-mJ])
 have b3:=vZ (x:=S) (k:=wide*p) (aH 0x608228a8b2640193a4a2b2440 Yt wp) sS
 have b4:bM .sub (.int (((row.map N').length :Nat):Int)) (.int (p:Int))=aa (.int ((row.length-p:Nat):Int)):=by rw[bq];exact pN (aQ 0x5489188006213011 Yt dZ)
 have b5:bM .mul (.int (wide:Int)) (.int ((row.length-p:Nat):Int))=aa (.int ((wide*(row.length-p):Nat):Int)):=(rc sw sm).trans (by rw[<-mJ])
 have b6:=CP (k:=wide*(row.length-p)) (aH 0x18208a2a2c990064d224a2b2440 Yt wm)
 have b7:=pJ ((W/2^(wide*p):Nat):Int) ((W%2^(wide*(row.length-p)):Nat):Int)
 have hh:2^(wide-1)<2^wide:=Qho (by decide) (aH 0x1524014228224508a24e00b240180491 Yt hw)
 have b8:=RQ (i:=((2^(wide-1):Nat):Int)) (m:=row.length-p) (aQ 0x54800528224508a28918289268264b200192240 Yt hn)
 have b9:aL (wf+3) (k+11) 3 [.list (bz (row.length-p) (.int ((2^(wide-1):Nat):Int))),.int wide]=aa (.int ((bD (2^wide) (bz (row.length-p) (2^(wide-1))) 0:Nat):Int)):=by rw[HA (by exact E1 hk)];have:=HD (n:=wide) (ds:=bz (row.length-p) (2^(wide-1))) (λd hd=>by refine ag ((List.mem_replicate.mp hd).2) ?_;exact hh) (by rw[lO];exact aH 0x60a22aac890064d224a2b2440 Yt wm) (by rw[lO];exact aQ 0x54800528224508a28918288aab224b200192240 Yt hn);rw[I9,List.reverse_replicate]at this;exact this
 have VD:=gV (((W/2^(wide*p):Nat):Int)-((W%2^(wide*(row.length-p)):Nat):Int)) ((bD (2^wide) (bz (row.length-p) (2^(wide-1))) 0:Nat):Int)
 rw[n1]at VD
 have b11:aL (wf+3) (k+11) 2 [.int N,.int wide]=aa (.list (ii wide (N:Int) (row.length-p))):=by rw[Rv (by exact E1 hk)];exact n2
 have ln:(fk row p).length =row.length-p+1:=yX
 obtain⟨n9,uL,uM,lp⟩:=HO (O:=aL (wf+3) (k+11)) (Wf:=wf+3) (fu:=fu+1) (signs:=signs) (p:=p) (bp 0x60aae89006489216200 Yt hn hs) (bp 0x548a2460aae89206013211192240 Yt dZ hn) (.val (.list (row.map N'))) (.val (.int wide)) (.val (.int S)) (.val (.int way)) (.val (.int ((2^(wide-1):Nat):Int))) (.val (.int W)) (.val (.int ((W/2^(wide*p):Nat):Int))) (.val (.int ((W%2^(wide*(row.length-p)):Nat):Int))) (.val (.list (ii wide (N:Int) (row.length-p)))) tl (fk row p) (bu 0x55020528228224508a28a2460aae890064892160c92d0200 Yt hn ln)
  (λb hb=>by refine aD (H b (fz 0x54860528228a24508a28a24660320058324b21840e403200 Yt ln hb)) λB hB=>?_;refine(aO B hB (HI ?_ hB));have:=RN signs (aa (b:Int)) (aa ((b:Int)+p));unfold f9;simp only[aU,dn,ce,js];exact k8 0x1828926826430c90c90c9043003243243241192250590206200 Yt hn hs this) (fk row p) 0 0 acc Eu Ev (dj _) (λj=>by rw[gB]) (bL 0x1d045245256003001 Yt) (f7 0x55020528228228914228a28a246092a8a8890c06064892060822b22896160c92d0200 Yt hn jC ln)
 apply cG;clear cG
 refine(bC (⟨.val (.int ((W/2^(wide*p):Nat):Int)),.val (.int ((W%2^(wide*(row.length-p)):Nat):Int)),.val (.list (ii wide (N:Int) (row.length-p))),.val (.list ((fk row p).map .bool)),n9,uL,uM⟩) ?_)
 refine bN (cy (d:=.int ((W/2^(wide*p):Nat):Int)) (gX (bS (HN (aW (aC rfl) (aC rfl) b1) (aW (aC rfl) (aW (aC rfl) (aC rfl) b2) b3) (aC rfl) d1) (λ_ h=>by injection h)) aT rfl)) ?_
 refine bN (cy (d:=.int ((W%2^(wide*(row.length-p)):Nat):Int)) (gX (bS (HN (aC rfl) (aW aT (aW (aC rfl) (aW (ri rfl) (aC rfl) b4) b5) b6) (aC rfl) d2) (λ_ h=>by injection h)) aT rfl)) ?_
 refine bN (cy (rf (aW (aW (aC rfl) (aC rfl) b7) (rf (aW (rfl) (aW (ri rfl) (aC rfl) b4) b8) (aC rfl) b9) VD) (aC rfl) b11)) ?_
 have cm:aj aA (aL (wf+3) (k+11)) 39 (.comp [ac,ac,aa 5] 1 (.cmp (CO.eq) (.v 1) (.v 2)) (.rv (.v 11)) []) (we row signs wide S way ((2^(wide-1):Nat):Int) (W:Int) acc (.val (.int p)::.val (.int ((W/2^(wide*p):Nat):Int))::.val (.int ((W%2^(wide*(row.length-p)):Nat):Int))::.val (.list (ii wide (N:Int) (row.length-p)))::da::a13::Eu::Ev::tl))=
   aa (.list ((fU wide N (row.length-p)).map λd=>.bool (d==2^(wide-1)))):=by
  rw[FL,rh (d:=.list ((fU wide N (row.length-p)).map N')) (xs:=(fU wide N (row.length-p)).map N') _ rfl rfl]
  ·dsimp only;rw[HK N' (λd=>.bool (d==2^(wide-1)))]
   ·rfl
   ·intro x _;refine⟨rfl,?_⟩;refine nB (c:=(x==2^(wide-1))) (aC rfl) (eE rfl) ?_;refine congrArg aa ?_;rw[gA,bV,bV];exact rz
  ·rw[MQ,aC (d:=.list (ii wide (N:Int) (row.length-p))) rfl];show aa (ui _)=_;rw[RB]
 have b12:bM .add (.list ((fU wide N (row.length-p)).map λd=>.bool (d==2^(wide-1)))) (.list [.bool af])=aa (.list ((fk row p).map .bool)):=by rw[yW (by rw[bq,CR];simp;exact aQ 0x18323a692682640192240 Yt hn)];refine a8 n3 ?_;rw[fn,g6];rfl
 refine bN (cy (aW cm (rfl) b12)) ?_
 refine bN (cy aT) ?_
 refine bN (rj (xs:=(ey 0 (fk row p).length).map λk:Nat=>.int k) ?_ lp) cZ
 have lb:gR .len [.list ((fk row p).map .bool)]=aa (.int ((fk row p).length :Nat)):=by show aa (bQ (((fk row p).map Ix).length :Nat))=_;rw[bq]
 have:=Qep (T:=aA) (O:=aL (wf+3) (k+11)) (n:=39) (e:=.bi .len [.v 12]) (f:=we row signs wide S way ((2^(wide-1):Nat):Int) (W:Int) acc (.val (.int p)::.val (.int ((W/2^(wide*p):Nat):Int))::.val (.int ((W%2^(wide*(row.length-p)):Nat):Int))::.val (.list (ii wide (N:Int) (row.length-p)))::.val (.list ((fk row p).map .bool))::.val (.int 0)::Eu::Ev::tl)) (b:=(fk row p).length) ?_ (bu 0x55020528228224508a28a2460a249a0990064892160c92d0200 Yt hn ln)
 ·exact this
 ·have:=ri (T:=aA) (O:=aL (wf+3) (k+11)) (n:=37) (i:=12) (f:=we row signs wide S way ((2^(wide-1):Nat):Int) (W:Int) acc (.val (.int p)::.val (.int ((W/2^(wide*p):Nat):Int))::.val (.int ((W%2^(wide*(row.length-p)):Nat):Int))::.val (.list (ii wide (N:Int) (row.length-p)))::.val (.list ((fk row p).map .bool))::.val (.int 0)::Eu::Ev::tl)) rfl;rw[bq]at this;exact this
end
section
theorem Qer(f:α->List β)(l:List α)(x:α):(l++[x]).flatMap f=l.flatMap f++f x:=by simp
theorem RT(f:α->List β)(k:Nat):∀l:List α,(∀x∈l,(f x).length <=k)->(l.flatMap f).length <=k*l.length
 |[],_=>by simp
 |x::r,h=>by rw[Qhp,dn,ce,qd];have e1:=RT f k r λy hy=>h y (.tail _ hy);have e2:=h x (.head _);exact ag (zy _ _) (Nat.add_le_add e1 (ag (zv k) e2))
theorem Qes{wf k:Nat}(hk:30<=k){row signs:List Nat}{wide S:Nat}{way:Int}(hw:18<=wide)(jD:wide<=1417)(hr:∀d∈row,d<131072)(hn:row.length<=10)(hs:signs.length=row.length)(hS:0<S)(Ac:S<2^7998)(sB:way=0\/way=1\/way=2\/way=3)
  (H:∀p,1<=p->2*p<=row.length->∀b,b+p<=row.length->∃B,pL signs p b=aa B):
  aL (wf+3) (k+12) 17 [.list (row.map N'),S' signs,.int wide,.int S,.int way]=aa (.list ((pM signs row).map cS)):=by
 rw[gx Qd1 rfl]
 have xi:∀d∈row,d<2^wide:=λd hd=>by have:=hr d hd;have h2:2^17<=2^wide:=nY (by decide) (aH 0x180291180491 Yt hw);have h3:(2:Nat)^17=131072:=rfl;exact LM this h2
 have wn:wide*row.length<=14170:=DN jD hn
 have c1:=pN (a:=wide) (b:=1) (E0 hw)
 have c2:=CP (k:=wide-1) (l6 0x1524014228224508a28224608228a8b264b24018049118a2b2440 Yt hw jD)
 have c3:aL (wf+3) (k+11) 3 [.list (row.map N').reverse,.int wide]=aa (.int ((bD (2^wide) row 0:Nat):Int)):=by rw[HA (by exact E1 hk)];exact HD xi (aH 0x60a22aac8900649aa9a640 Yt wn) (aH 0x18288aab2240192240 Yt hn)
 refine Ret.evF ?_ rfl
 show Ret aA _ _ 200 Nj.body [.val (.list (row.map N')),.val (S' signs),.val (.int wide),.val (.int S),.val (.int way),.un,.un,.un,.un,.un,.un,.un,.un,.un,.un,.un,.un,.un,.un,.un,.un,.un] _
 refine Ret.next (cy (aW aT (aW (aC rfl) aT c1) c2)) ?_
 refine Ret.next (cy (rf (rfl) (aC rfl) c3)) ?_
 refine Ret.next (rfl) ?_
 have hf:∀p i:Nat,i<row.length/2->(eS (iM signs (i+1)) (i+1) (fk row (i+1)) 0 0).length <=11:=λp i hi=>by have h1:=HP (iM signs (i+1)) (i+1) (fk row (i+1)) 0 0;rw[yX]at h1;exact bu 0x54325020528228224508a28a2466890064892060c92c3250200 Yt hn h1
 obtain⟨f2,lp,fin⟩:=C6 (α:=Nat) (body:=λf=>bc aA (aL (wf+3) (k+11)) (wf+3) (179+16) RS f) (bind:=e9 [8] ae) (g:=λi:Nat=>.int ((i+1:Nat):Int)) (L:=f0 (row.length/2))
  (I:=λdone f=>∃(a:FV)(t:F7),f=we row signs wide S way ((2^(wide-1):Nat):Int) ((bD (2^wide) row 0:Nat):Int) (done.flatMap λi=>eS (iM signs (i+1)) (i+1) (fk row (i+1)) 0 0) (a::t.l [.un,.un,.un,.un,.un,.un]))
  (λdone x fH f hL hI=>by
   refine fi hI λa t av=>?_;clear hI;subst av;have hx:x<row.length/2:=mM.mp (by refine ag hL ?_;simp);have hd:(done.flatMap λi=>eS (iM signs (i+1)) (i+1) (fk row (i+1)) 0 0).length <=11*done.length:=RT _ 11 done λy hy=>hf 0 y (mM.mp (by refine ag hL ?_;simp[hy]));have hl:done.length<=row.length/2:=by have:=congrArg dN hL;simp at this;exact bR 0x95100508208228919b4402360c325021b440 Yt this
   refine aD (Qeq (wf:=wf) (fu:=179) hk hw jD hr (p:=x+1) (pk) (E2 hx) hn hs hS Ac sB (H (x+1) (pk) (E2 hx)) (acc:=done.flatMap λi=>eS (iM signs (i+1)) (i+1) (fk row (i+1)) 0 0) (by lia) t [.un,.un,.un,.un,.un,.un]) λy st=>?_;refine⟨_,_,rfl,st,.val (.int ((x+1:Nat):Int)),y,?_⟩;rw[Qer]) (f0 (row.length/2)) [] _ rfl (eR .un (⟨.un,.un,.un,.un,.un,.un,.un⟩) rfl)
 refine fi fin λa t av=>?_;clear fin;subst av
 have rg:((ey 1 (row.length/2)).map λk:Nat=>bQ k)=(f0 (row.length/2)).map λi:Nat=>.int ((i+1:Nat):Int):=by rw[Qhn,g6];refine zh λk _=>?_;show bQ ((1+k:Nat):Int)=.int ((k+1:Nat):Int);rw[zy]
 refine Ret.next (rj ?_ lp) ?_
 ·refine a8 rg ?_;refine C7 (a:=1) (c:=row.length/2) aT ?_ (aH 0x9510052820824891828926826436d1009192240 Yt hn);refine aW (aW (ri rfl) aT (c:=aa (.int ((row.length/2:Nat):Int))) ?_) aT ?_
  ·rw[bq];rfl
  ·show aa (bQ (((row.length/2:Nat):Int)+1))=_;congr 2;exact bL 0x95101d045245257b036d10090c9b1b440 Yt
 ·refine Ret.next (rfl) ?_;exact Ret.ret (rfl)
end
section
noncomputable def gy(x:Nat):List Nat->Nat
 |[]=>0
 |a::r=>if a=x then gy x r+1 else 0
theorem HQ(x:Nat):∀(l:List Nat),(∃y∈l,y≠x)->gy x l<l.length
 |[],h=>by refine ai h λy h _=>?_;cases h
 |a::r,h=>by
  dsimp only[gy,ce];split
  ·refine ay λcG=>?_;rename_i e;refine ai h λy hy bT=>?_;apply cG;clear cG;clear h;rcases cB.mp hy with rfl|hy
   ·exact absurd e bT
   ·have:=HQ x r (aO y hy bT);exact E3 this
  ·exact E4
def kF(v:List Int):Bool:=(ey 1 (v.length-1)).all λk=>bI v (v.drop k)
def jo(row:List Nat)(place:Nat):Int:=if(row++[0]).getD (place+1+gy (row.getD place 0) ((row++[0]).drop (place+1))) 0>row.getD place 0 then 1 else-1
def jU(v:List Int)(Ad:List Nat):Nat:=Ad.foldl (λacc s=>if kF (v.take s)then s else acc) 1
def jV(row:List Nat)(place:Nat):Nat:=jU ((row.drop place).map λx:Nat=>jo row place*(x:Int)) (ey 2 (row.length-place-1))
theorem RU{α:Type}(xs:List α)(k:Nat):cj xs (aa (k:Int)) ac=xs.drop k:=by
 delta cj i7;simp only[zg];rw[az (by exact pl)];by_cases h:k<=xs.length
 ·congr 1;exact xG h
 ·rw[wD (by exact LN h),wD (by exact aQ 0x18021e200 Yt h)]
theorem RV{α:Type}(xs:List α)(k:Nat):cj xs ac (aa (k:Int))=xs.take k:=by
 delta cj i7;simp only[IC];rw[az (by exact pl)];by_cases h:k<=xs.length
 ·congr 1;exact xG h
 ·rw[nN (by exact LN h),nN (by exact aQ 0x18021e200 Yt h)]
theorem Qet{α:Type}(xs:List α)(y:α)(k:Nat)(h:k<=xs.length):cj (xs++[y]) (aa (k:Int)) (aa (-1))=xs.drop k:=by delta cj i7;simp only[dn,ce,js];simp only[aw (show(-1:Int)<0 by decide),az (show¬((k:Int)<0)from pl),show(min (xs.length+(0+1)) (max 0 (-1+((xs.length+(0+1):Nat):Int))).toNat)=xs.length from bL 0x3d0ec0c324103c241d7b0ec0c324103c24136cec3b030c9040f090430c904074114a08228208914a08208208208208208914208208a24db3b0ec0c324103c2410c324101d04528208a08228208914a08208208208208208224508208228a082275ec3b030c9040f0904db3b0ec0c324103c2410c324101d04528208a08224528208208208a08914208208a24db3b0ec0c324103c2410c324101d04528208a08228208914a08208a08228208914208208a282089580d2cec3b030c9040f090430c9040 Yt,show min (xs.length+(0+1)) (max 0 (k:Int)).toNat =k from aQ 0xf6c001d7bb0004db3bb000430c904874114a08228208914a08208208208208208914208208a24db3bb000430c904874114a08228208a08224528208208208208208208914208208a282089d7bb0004db3bb000430c904874114a08228208914a08208208228224508208228936ceec0010c324121d04528208a08228208914a08208a08228208914208208a28208a082082089580d2ceec0010c3241206200 Yt h,List.take_left]
theorem HR{l:Int}(hl: -2^62<l/\l<2^62):kh (.int l)=aa (aa l):=by show(if(decide (-2^62<l)&&decide (l<2^62))=ae then _ else _)=_;rw[aw (by simp only[bo,bl];exact hl)]
theorem tF{k:Nat}(h:k<=1000000):kh (.int (k:Int))=aa (aa (k:Int)):=HR ⟨EZ,aH 0xf08208208208208208208208208208286c00608228a8b2640 Yt h⟩
theorem HS{xs:List an}{lo hi:an}{l h:Option Int}(e1:kh lo=aa l)(e2:kh hi=aa h):gF (.list xs) lo hi=aa (.list (cj xs l h)):=by unfold gF;refine ag e1 (ag e2 ?_);rfl
theorem C8{x:List Nat}{lo hi:an}{l h:Option Int}(e1:kh lo=aa l)(e2:kh hi=aa h):gF (S' x) lo hi=aa (S' (cj x l h)):=by unfold gF;refine ag e1 (ag e2 ?_);rfl
theorem RW{xs:List an}{k:Nat}(h:k<=1000000):gF (.list xs) (.int k) .none =aa (.list (xs.drop k)):=by rw[HS (tF h) (h:=ac) rfl,RU]
theorem RX{xs:List an}{k:Nat}(h:k<=1000000):gF (.list xs) .none (.int k)=aa (.list (xs.take k)):=by rw[HS (l:=ac) rfl (tF h),RV]
theorem nE{T:Tabs}{O:bn}{n:Nat}{f:Frm}:aj T O (n+1) .kn f=aa .none :=by rw[WB]
theorem Qeu{α:Type}(g:α->Bool)(xs:List α):xT (xs.map λx=>.bool (g x))=aa (xs.map g):=by have:=Fz (f:=qB) (g:=Ix) (λ_=>rfl) (xs.map g);rwa[g6]at this
theorem C9{T:Tabs}{O:bn}{n:Nat}{f:Frm}{cJ:List (Option Nat)}{t:Nat}{cK it:ME}{α:Type}{g h:α->an}{xs:List α}(h1:gm T O n it f=aa (xs.map g))(h2:∀x∈xs,aj T O n cK ((iB f cJ).put t (.val (g x)))=aa (h x)):aj T O (n+1) (.comp cJ t cK it []) f=aa (.list (xs.map h)):=by rw[FL];refine ag h1 ?_;dsimp only;rw[HK g h _ λx hx=>⟨rfl,h2 x hx⟩];rfl
theorem gL{T:Tabs}{O:bn}{n:Nat}{f:Frm}{b:BI}{e:ME}{d:an}{r:Option an}(h:eZ T O n e f=aa d)(h2:gR b [d]=r):aj T O (n+1) (.bi b [e]) f=r:=by dsimp only[oB];simp only[aV,h,bF];exact h2
theorem Qev{T:Tabs}{O:bn}{n:Nat}{f:Frm}{b:BI}{e:ME}{d:an}{r:Bool}(h:eZ T O n e f=aa d)(h2:gR b [d]=aa (.bool r)):aK T O (n+2) (.bi b [e]) f=aa r:=by rw[vr rfl];refine ag (gL h h2) ?_;rfl
theorem Qew{O:bn}{v:List Int}{s:Nat}(hs:v.length=s)(lV:s<=1000)(hs1:1<=s)(v0 v1 v2 v3 v4 v5:FV)(tl:List FV):
  aK aA O 40 (.bi (BI.all) [.comp [ac,ac,aa 7] 1 (.cmp (CO.lt) (.v 2) (.sl (.v 2) (.v 1) (.kn))) (.rng [.ki 1,.v 6]) []]) (v0::v1::v2::v3::v4::v5::.val (.int s)::.val (.list (v.map .int))::tl)=aa (kF v):=by
 refine Qev (d:=.list ((ey 1 (s-1)).map λk=>.bool (bI v (v.drop k)))) (bS (C9 (C7 (a:=1) (c:=s-1) aT ?_ (aH 0x54900528224508a2891828926826432c9009182aba240 Yt lV)) ?_) (λ_ h=>by injection h)) ?_
 ·simp only[show 1+(s-1)=s from LO hs1];exact aC rfl
 ·intro k hk;have hk:=nW.mp hk;refine nB (aC rfl) (bS (kE (aC rfl) (aC rfl) nE (RW (k:=k) (by obtain⟨i,h1,h2⟩:=hk;lia))) (λ_ h=>by injection h)) ?_;rw[<-rU];show(two (fB (v.map .int)) (fB ((v.drop k).map .int))).map (λp=>bI p.1 p.2)=_;simp only[yV,yV];rfl
 ·show(xT _).map _=_;simp only[Qeu,bF,List.all_map];unfold kF;refine ag hs ?_;rfl
theorem lG{row:List Nat}{k:Nat}(h:k<row.length):hZ (.list (row.map N')) (.int k)=aa (N' (row.getD k 0)):=HM (by simp only[dS,cf h,eW,cf h];rfl)
theorem RY{O:bn}{Wf fu:Nat}{tape:List Nat}{place:Nat}(hp:place<tape.length)(tl:List FV):∀(l:List Nat)(other W:Nat),tape.drop other=l->(∃y∈l,y≠tape.getD place 0)->l.length<=W->
  ek (λf=>aK aA O 40 (.cmp .eq (.idx (.v 0) (.v 2)) (.idx (.v 0) (.v 1))) f) (λf=>bc aA O Wf (fu+3) [.asg 2 (.bin .add (.v 2) (.ki 1))] f) W (.val (.list (tape.map N'))::.val (.int place)::.val (.int other)::tl)=
   aa (.next,.val (.list (tape.map N'))::.val (.int place)::.val (.int ((other+gy (tape.getD place 0) l:Nat):Int))::tl)
 |[],other,W,e,h,_=>by refine ai h λy h _=>?_;cases h
 |a::r,other,W,e,h,hW=>by
  obtain⟨W,rfl⟩:∃k,W=k+1:=⟨W-1,by dsimp only[ce]at hW;exact aQ 0x54921d04528224528a08225d04528914a08958324b248206203240 Yt hW⟩;have lt:other<tape.length:=by have:=congrArg dN e;simp only[dL,ce]at this;exact Am this
  have ea:tape.getD other 0=a:=by have:=congrArg (·[0]?) e;simp only[tV,rV]at this;simp only[eW,this];rfl
  have i1:=lG lt;rw[ea]at i1;have t:aK aA O 40 (.cmp .eq (.idx (.v 0) (.v 2)) (.idx (.v 0) (.v 1))) (.val (.list (tape.map N'))::.val (.int place)::.val (.int other)::tl)=aa (decide (a=tape.getD place 0)):=by refine dJ (gX (eE rfl) (aC rfl) i1) (bS (gX (eE rfl) (aC rfl) (lG hp)) (λ_ h=>by injection h)) ?_;refine congrArg aa ?_;rw[gA,bV,bl];exact rz
  rw[ek];refine ag t ?_;rw[gy];by_cases q:a=tape.getD place 0
  ·refine ag (d6 q) ?_;rw[aw q];have st:bc aA O Wf (fu+3) [.asg 2 (.bin .add (.v 2) (.ki 1))] (.val (.list (tape.map N'))::.val (.int place)::.val (.int other)::tl)=aa (.next,.val (.list (tape.map N'))::.val (.int place)::.val (.int ((other+1:Nat):Int))::tl):=
    bN (cy (aW (aC rfl) aT (c:=aa (.int ((other+1:Nat):Int))) rfl)) cZ
   simp only[st];have e2:tape.drop (other+1)=r:=by rw[<-ze];refine ag e ?_;rfl
   refine ai h λy hy bT=>?_;have hy:y∈r:=by
    clear e h ea i1 t;rcases cB.mp hy with rfl|hy
    ·exact absurd q bT
    ·exact hy
   rw[RY hp tl r (other+1) W e2 (aO y hy bT) (by rw[ce]at hW;exact aQ 0x1880060c9203240 Yt hW)];rw[show other+1+gy (tape.getD place 0) r=other+(gy (tape.getD place 0) r+1)from Al]
  ·refine ag (eP q) ?_;rw[az q,rV];try rfl
theorem Ret.retE{T:Tabs}{O:bn}{W n:Nat}{e:ME}{r:List MS}{f:Frm}{d:an}(h:aj T O 40 e f=aa d):Ret T O W (n+2) (.ret e::r) f d:=Ret.ret (g:=f) (by simp only[l9,h])
theorem Qex{Wf k:Nat}(hW:20<=Wf){row:List Nat}{place:Nat}(hp:place<row.length)(hn:row.length<=10)(hr:∀d∈row,0<d/\d<131072):
  aL Wf (k+1) 18 [.list ((row++[0]).map N'),.int place]=aa (.int (jV row place:Nat)):=by
 rw[gx Qd2 rfl]
 have hx:0<row.getD place 0:=by simp only[eW,cf hp];exact(hr _ (wH hp)).1
 have hg:(row++[0]).getD place 0=row.getD place 0:=by simp only[eW,eW,zt hp]
 have bT:∃y∈(row++[0]).drop (place+1),y≠(row++[0]).getD place 0:=by refine(aO 0 ?_ (bp 0x14228a27e001388076200 Yt hx hg));rw[Qhq (by exact xF hp)];simp
 have sl:=HQ _ _ bT
 simp only[dL]at sl
 have lp:=RY (O:=aL Wf k) (Wf:=Wf) (fu:=195) (tape:=row++[0]) (place:=place) (by simp;exact aQ 0x38324800e200 Yt hp) [.un,.un,.un,.un,.un,.un,.un,.un] _ (place+1) Wf rfl bT (by simp;exact bu 0x60d0200188891192240 Yt hW hn)
 have tn:aj aA (aL Wf k) 40 (.ite (.cmp (CO.gt) (.idx (.v 0) (.v 2)) (.idx (.v 0) (.v 1))) (.ki 1) (.neg (.ki 1))) (.val (.list ((row++[0]).map N'))::.val (.int place)::.val (.int ((place+1+gy ((row++[0]).getD place 0) ((row++[0]).drop (place+1)):Nat):Int))::[.un,.un,.un,.un,.un,.un,.un,.un])=aa (.int (jo row place)):=by
  have t:=dJ (T:=aA) (O:=aL Wf k) (n:=37) (op:=.gt) (l:=.idx (.v 0) (.v 2)) (r:=.idx (.v 0) (.v 1)) (f:=.val (.list ((row++[0]).map N'))::.val (.int place)::.val (.int ((place+1+gy ((row++[0]).getD place 0) ((row++[0]).drop (place+1)):Nat):Int))::[.un,.un,.un,.un,.un,.un,.un,.un]) (gX (eE rfl) (aC rfl) (lG (by exact bR 0x150c940814a08224508a2893880c00c940e2c3250200 Yt sl))) (bS (gX (eE rfl) (aC rfl) (lG (k:=place) (by simp;exact aQ 0x38324800e200 Yt hp))) (λ_ h=>by injection h)) (c:=decide ((row++[0]).getD (place+1+gy (row.getD place 0) ((row++[0]).drop (place+1))) 0>row.getD place 0)) (by refine ag hg ?_;refine congrArg aa ?_;rw[gA,bl,bl];exact tN);rw[A9];refine ag t ?_;unfold jo;split
  ·rename_i h;rw[aw (bl.mp (aB h))];exact aT
  ·rename_i h;rw[az (decide_eq_false_iff_not.mp (aB h))];exact C0 aT
  ·rename_i h;injection h
 refine Ret.evF ?_ rfl
 show Ret aA _ _ 200 Nk.body (.val (.list ((row++[0]).map N'))::.val (.int place)::.un ::[.un,.un,.un,.un,.un,.un,.un,.un]) _
 refine Ret.next (cy (aW (aC rfl) aT (c:=aa (.int ((place+1:Nat):Int))) rfl)) ?_
 refine Ret.whl lp ?_
 refine Ret.next (cy tn) ?_
 generalize hT:jo row place=tr
 have wV:tr=1\/tr= -1:=by refine a8 hT ?_;unfold jo;split<;>simp
 have vl:aj aA (aL Wf k) 40 (.comp [ac,ac,aa 3] 1 (.bin (BO.mul) (.v 2) (.v 1)) (.sl (.v 0) (.v 1) (.neg (.ki 1))) []) (.val (.list ((row++[0]).map N'))::.val (.int place)::.val (.int ((place+1+gy ((row++[0]).getD place 0) ((row++[0]).drop (place+1)):Nat):Int))::.val (.int tr)::[.un,.un,.un,.un,.un,.un,.un])=aa (.list ((row.drop place).map λx:Nat=>.int (tr*(x:Int)))):=by
  refine C9 (g:=N') (rh (d:=.list ((row.drop place).map N')) (kE (aC rfl) (aC rfl) (C0 aT) ?_) rfl rfl) ?_
  ·rw[HS (tF (by exact bp 0x18208a2a2c9920e008192240 Yt hp hn)) (HR (by decide)),fn];show aa (ui (cj (row.map N'++[N' 0]) (aa (place:Int)) (aa (-1))))=_;rw[Qet _ _ _ (by rw[bq];exact qv hp), <-rU]
  ·intro x hx;have:=hr x (pW hx);refine aW (aC (d:=.int tr) rfl) (aC (d:=N' x) rfl) ?_;refine rc ?_ (ij (k:=17) (aH 0x382082082840382082082840 Yt this.2) (by decide));clear hT;rcases wV with rfl|rfl<;>decide
 refine Ret.next (cy vl) ?_
 refine Ret.next (cy aT) ?_
 refine ay λcG=>?_
 have vv:((row.drop place).map λx:Nat=>bQ (tr*(x:Int)))=((row.drop place).map λx:Nat=>tr*(x:Int)).map .int :=by rw[g6];rfl
 have ll:((row.drop place).map λx:Nat=>tr*(x:Int)).length =row.length-place:=by simp
 generalize hv:((row.drop place).map λx:Nat=>tr*(x:Int))=v at*
 obtain⟨f2,lp2,fin⟩:=C6 (α:=Nat) (body:=λf=>bc aA (aL Wf k) Wf 193 [.asg 7 (.sl (.v 4) (.kn) (.v 6)),
  .ife (.bi (BI.all) [.comp [ac,ac,aa 7] 1 (.cmp (CO.lt) (.v 2) (.sl (.v 2) (.v 1) (.kn))) (.rng [.ki 1,.v 6]) []]) [.asg 5 (.v 6)] []] f) (bind:=e9 [6] ae) (g:=λi:Nat=>.int (i:Int)) (L:=ey 2 (row.length-place-1))
  (I:=λdone f=>∃a6 a7,f=[.val (.list ((row++[0]).map N')),.val (.int place),.val (.int ((place+1+gy ((row++[0]).getD place 0) ((row++[0]).drop (place+1)):Nat):Int)),.val (.int tr),.val (.list (v.map .int)),.val (.int ((jU v done:Nat):Int)),a6,a7,.un,.un,.un])
  (λdone x fH f hL hI=>by
   refine fi hI λa6 a7 av=>?_;clear hI;subst av;have hx:=nW.mp (show x∈ey 2 (row.length-place-1) by refine ag hL ?_;simp);refine ai hx λi hi hx=>?_;refine⟨_,[.val (.list ((row++[0]).map N')),.val (.int place),.val (.int ((place+1+gy ((row++[0]).getD place 0) ((row++[0]).drop (place+1)):Nat):Int)),.val (.int tr),.val (.list (v.map .int)),.val (.int ((jU v (done++[x]):Nat):Int)),.val (.int (x:Int)),.val (.list ((v.take x).map .int)),.un,.un,.un],rfl,?_,_,_,rfl⟩;refine bN (cy (kE (aC rfl) nE (aC rfl) (RX (k:=x) (ou 0x55840508a0895492d840528208208208914228228a08a28918208a2a2c9900e41819225038b24b6102160d3209440 Yt hp hn hi hx)))) ?_;rw[<-wU];refine bN (gK (kF (v.take x)) (Qew (by rw[eV];exact sH 0x36001524b61014a08208208208208974114a08208228224528228208228208228a25561014228208208208974114a0820822452820820822560348003906362d842038b24b6102160d3209440 Yt hp ll hi hx) (ou 0x1561014228225524b61014a08208208224508a08a28228a2460aae8900e41819225038b24b6102160d3209440 Yt hp hn hi hx) (aQ 0x1802760d3209440 Yt hx) _ _ _ _ _ _ _) ?_) cZ;have e:jU v (done++[x])=if kF (v.take x)then x else jU v done:=by unfold jU;rw[Ul];rfl
   refine ag e ?_;cases kF (v.take x)
   ·exact cZ
   ·exact bN (cy (aC rfl)) cZ) _ [] _ rfl (eR .un .un rfl)
 refine fi fin λa6 a7 av=>?_;clear fin;subst av
 apply cG;clear cG
 refine ag vv ?_
 refine Ret.next (rj (xs:=(ey 2 (row.length-place-1)).map λk:Nat=>.int (k:Int)) ?_ lp2) ?_
 ·refine C7 (a:=2) (c:=row.length-place-1) aT ?_ (bp 0x54800508a0895492c800528208224508a08a2822460a249a0990cb24b20044e008192240 Yt hp hn);refine aW (ri rfl) aT ?_;rw[bq];refine ag ll ?_;rw[gV];refine congrArg (λz=>aa (bQ z)) ?_;exact aQ 0x54020508a0895492c021d04528224528a08a08225d04528914a0895ec0cb24b00844326c2c020e200 Yt hp
 ·unfold jV;refine ag hT (ag hv ?_);exact Ret.retE (aC rfl)
end
section
noncomputable def eF(row:List Nat)(p:Nat):Nat->Nat
 |0=>0
 |b+1=>if row.getD b 0=row.getD (b+p) 0 then eF row p b else b+1
noncomputable def eL(row:List Nat)(p:Nat):Nat->Nat->Nat
 |0,e=>e
 |k+1,e=>if e<row.length/\row.getD e 0=row.getD (e-p) 0 then eL row p k (e+1)else e
def jW(row:List Nat)(place:Nat):Nat:=if row.getD (place-1) 0=row.getD place 0 then 1 else jV row place
def ef(row:List Nat)(place:Nat):Nat×Nat×Nat:=(eF row (jW row place) place,eL row (jW row place) row.length (place+jW row place),jW row place)
def jp(row:List Nat)(place:Nat):Bool:=decide ((ef row place).1<place)&&decide (2*(ef row place).2.2<=(ef row place).2.1-(ef row place).1)
def mq(row Ae:List Nat):List (Nat×Nat×Nat):=Ae.foldl (λacc place=>if jp row place=ae/\ef row place∉acc then acc++[ef row place]else acc) []
def wg(row:List Nat):List (Nat×Nat×Nat):=mq row (ey 1 (row.length-1))
theorem RZ(v:List Int)(m:Nat):∀(Ad:List Nat)(a:Nat),1<=a->a<=m->(∀s∈Ad,1<=s/\s<=m)->1<=Ad.foldl (λacc s=>if kF (v.take s)then s else acc) a/\Ad.foldl (λacc s=>if kF (v.take s)then s else acc) a<=m
 |[],a,h1,h2,_=>⟨h1,h2⟩
 |s::r,a,h1,h2,h=>by rw[tT];have:=h s (.head _);refine RZ v m r _ ?_ ?_ λx hx=>h x (.tail _ hx)<;>(split<;>lia)
theorem Qey{row:List Nat}{place:Nat}(h:place<row.length):1<=jV row place/\jV row place<=row.length-place:=by unfold jV jU;refine RZ _ _ _ 1 (by lia) (LQ h) λs hs=>?_;refine ai (nW.mp hs) λi hi av=>?_;clear hs;subst av;exact⟨bL 0x60d3009449 Yt,bR 0x1524b40814a08224508a28918b4080d300944e2c92d0200 Yt hi⟩
theorem R0{row:List Nat}{place:Nat}(h:place<row.length):1<=jW row place/\jW row place<=row.length-place:=by
 unfold jW;split
 ·exact⟨i5 0x6249 Yt,LQ h⟩
 ·exact Qey h
theorem R1(row:List Nat)(p:Nat):∀b,eF row p b<=b
 |0=>by simp[eF]
 |b+1=>by rw[eF];split;have:=R1 row p b;exact mV this;exact xz
theorem R2(row:List Nat)(p:Nat):∀k e,e<=eL row p k e
 |0,e=>by simp[eL]
 |k+1,e=>by rw[eL];split;have:=R2 row p k (e+1);exact oq this;exact AH
theorem R3(row Ae:List Nat):(mq row Ae).length <=Ae.length:=by
 unfold mq;have:∀(ps:List Nat)(acc:List (Nat×Nat×Nat)),(ps.foldl (λacc place=>if jp row place=ae/\ef row place∉acc then acc++[ef row place]else acc) acc).length <=acc.length+ps.length:=by
  intro ps;induction ps with
  |nil=>intro acc;simp
  |cons x r ih=>
   intro acc
   rw[tT]
   refine nR (ih _) ?_
   split<;>simp<;>exact fN 0x60c3248003203240 Yt
 have:=this Ae [];simpa using this
theorem Qez(row ps:List Nat)(x:Nat):mq row (ps++[x])=if jp row x=ae/\ef row x∉mq row ps then mq row ps++[ef row x]else mq row ps:=by unfold mq;rw[Ul];rfl
theorem R4(t:Nat×Nat×Nat):iA (cS t)=ae:=by simp[iA,cS,Um,wG,DO,wF]
theorem QeA(a b:Nat×Nat×Nat):m6 (cS a) (cS b)=decide (a=b):=by
 obtain⟨a1,a2,a3⟩:=a;obtain⟨b1,b2,b3⟩:=b;have e:∀x y:Nat,(fe x==fe y)=decide (x=y):=λx y=>by rw[gA,bV,bl];exact rz
 simp only[m6,cS,tQ,DP,e,Bool.and_true];rw[gA];simp only[bo,bl,zx]
theorem QeB(a:Nat×Nat×Nat)(l:List (Nat×Nat×Nat)):dt .notin (cS a) (.list (l.map cS))=aa (decide (a∉l)):=by
 show(if(iA (cS a)&&(l.map cS).all iA)=ae then aa ((l.map cS).any λy=>m6 y (cS a))else ac).map (!·)=_;rw[aw]
 ·refine congrArg aa ?_;show(!((l.map cS).any λy=>m6 y (cS a)))=_;rw[List.any_map];refine ag (show((λy=>m6 y (cS a))∘cS)=λx=>decide (x=a)from funext λx=>QeA x a) ?_;induction l with
  |nil=>simp
  |cons x r ih=>
   simp only[List.any_cons];by_cases q:x=a
   ·clear ih;subst q;simp
   ·have q':¬a=x:=λz=>q z.symm;simp only[q,decide_false,Bool.false_or];refine ag ih ?_;simp[q']
 ·rw[R4,Bool.true_and,List.all_map];exact eA.mpr λx _=>R4 x
theorem tG:aK T O (n+1) (.bop ae es) f=gf (λe=>aK T O n e f) es:=by rw[xZ]
theorem R5(v1 v2:FV)(tl:List FV):∀(b W:Nat),b+p<=row.length->b<W->
  ek (λf=>aK aA O 40 (.bop ae [.cmp (CO.gt) (.v 4) (.ki 0),.cmp (CO.eq) (.idx (.v 0) (.bin (BO.sub) (.v 4) (.ki 1))) (.idx (.v 0) (.bin (BO.add) (.bin (BO.sub) (.v 4) (.ki 1)) (.v 3)))]) f) (λf=>bc aA O Wf (fu+3) [.asg 4 (.bin (BO.sub) (.v 4) (.ki 1))] f) W
   (.val (.list (row.map N'))::v1::v2::.val (.int p)::.val (.int b)::tl)=aa (.next,.val (.list (row.map N'))::v1::v2::.val (.int p)::.val (.int ((eF row p b:Nat):Int))::tl)
 |0,W,_,hW=>by obtain⟨W,rfl⟩:∃k,W=k+1:=⟨W-1,aH 0x54901d04528224528a08225d04528914a08958324b24000e001 Yt hW⟩;have t:aK aA O 39 (.cmp (CO.gt) (.v 4) (.ki 0)) (.val (.list (row.map N'))::v1::v2::.val (.int p)::.val (.int ((0:Nat):Int))::tl)=aa af:=dJ (aC rfl) (bS aT (λ_ h=>by injection h)) (wc (by decide));rw[ek,tG,gf];refine ag t ?_;rfl
 |b+1,W,h,hW=>by
  obtain⟨W,rfl⟩:∃k,W=k+1:=⟨W-1,aQ 0x1524814228225d04528914a08958324b24820e203240 Yt hW⟩;have t1:aK aA O 39 (.cmp (CO.gt) (.v 4) (.ki 0)) (.val (.list (row.map N'))::v1::v2::.val (.int p)::.val (.int ((b+1:Nat):Int))::tl)=aa ae:=dJ (aC rfl) (bS aT (λ_ h=>by injection h)) (tC (bL 0x3ec0c9001 Yt));have s1:bM .sub (.int ((b+1:Nat):Int)) (.int 1)=aa (.int (b:Int)):=by rw[pJ];refine congrArg (λz=>aa (bQ z)) ?_;exact bL 0x1d045245257b002c9b03240 Yt
  have t2:aK aA O 39 (.cmp (CO.eq) (.idx (.v 0) (.bin (BO.sub) (.v 4) (.ki 1))) (.idx (.v 0) (.bin (BO.add) (.bin (BO.sub) (.v 4) (.ki 1)) (.v 3)))) (.val (.list (row.map N'))::v1::v2::.val (.int p)::.val (.int ((b+1:Nat):Int))::tl)=aa (decide (row.getD b 0=row.getD (b+p) 0)):=by refine dJ (gX (eE rfl) (aW (aC rfl) aT s1) (lG (bR 0x390006403203240 Yt h))) (bS (gX (eE rfl) (aW (aW (aC rfl) aT s1) (aC rfl) (c:=aa (.int ((b+p:Nat):Int))) rfl) (lG (bR 0x3900c8006403203240 Yt h))) (λ_ h=>by injection h)) ?_;refine congrArg aa ?_;rw[gA,bV,bl];exact rz
  rw[ek,tG,gf];refine ag t1 ?_;simp only[gf,t2];rw[eF];by_cases q:row.getD b 0=row.getD (b+p) 0
  ·refine ag (d6 q) ?_;rw[aw q];have st:bc aA O Wf (fu+3) [.asg 4 (.bin (BO.sub) (.v 4) (.ki 1))] (.val (.list (row.map N'))::v1::v2::.val (.int p)::.val (.int ((b+1:Nat):Int))::tl)=aa (.next,.val (.list (row.map N'))::v1::v2::.val (.int p)::.val (.int (b:Int))::tl):=bN (cy (aW (aC rfl) aT s1)) cZ;simp only[st];exact R5 v1 v2 tl b W (E5 h) (uY hW)
  ·refine ag (eP q) ?_;rw[az q]
theorem QeC(v1 v2 v4:FV)(tl:List FV):∀(k e W:Nat),p<=e->e<=row.length->row.length-e<=k->row.length-e<W->
  ek (λf=>aK aA O 40 (.bop ae [.cmp (CO.lt) (.v 5) (.bi (BI.len) [.v 0]),.cmp (CO.eq) (.idx (.v 0) (.v 5)) (.idx (.v 0) (.bin (BO.sub) (.v 5) (.v 3)))]) f) (λf=>bc aA O Wf (fu+3) [.asg 5 (.bin (BO.add) (.v 5) (.ki 1))] f) W
   (.val (.list (row.map N'))::v1::v2::.val (.int p)::v4::.val (.int e)::tl)=aa (.next,.val (.list (row.map N'))::v1::v2::.val (.int p)::v4::.val (.int ((eL row p k e:Nat):Int))::tl):=by
 intro k
 induction k using Nat.strongRecOn with
 |_ k ih=>
   intro e W hp he hk hW
   obtain⟨W,rfl⟩:∃k,W=k+1:=⟨W-1,bR 0x54941d04528224528a08225d04528914a08958324b25040e40b200 Yt hW⟩
   have t1:aK aA O 39 (.cmp (CO.lt) (.v 5) (.bi (BI.len) [.v 0])) (.val (.list (row.map N'))::v1::v2::.val (.int p)::v4::.val (.int e)::tl)=aa (decide (e<row.length)):=by refine dJ (aC rfl) (bS (ri rfl) (λ_ h=>by injection h)) ?_;rw[bq];refine congrArg aa ?_;rw[gA,bl,bl];exact tN
   by_cases l:e<row.length
   ·obtain⟨k,rfl⟩:∃j,k=j+1:=⟨k-1,bu 0x54941500814228208208974114a08208914a28228208a25500814228208208974114a0822452820822560c92c94101902c020e200 Yt hk l⟩;rw[d6 l]at t1;have t2:aK aA O 39 (.cmp (CO.eq) (.idx (.v 0) (.v 5)) (.idx (.v 0) (.bin (BO.sub) (.v 5) (.v 3)))) (.val (.list (row.map N'))::v1::v2::.val (.int p)::v4::.val (.int e)::tl)=aa (decide (row.getD e 0=row.getD (e-p) 0)):=by
     refine dJ (gX (eE rfl) (aC rfl) (lG l)) (bS (gX (eE rfl) (aW (aC rfl) (aC rfl) (pN hp)) (lG (bR 0x1540014a08a24508a2893882d000e200 Yt l))) (λ_ h=>by injection h)) ?_;refine congrArg aa ?_;rw[gA,bV,bl];exact rz
    rw[ek,tG,gf];refine ag t1 ?_;simp only[gf,t2];rw[eL];by_cases q:row.getD e 0=row.getD (e-p) 0
    ·refine ag (d6 q) ?_;rw[aw ⟨l,q⟩];have st:bc aA O Wf (fu+3) [.asg 5 (.bin (BO.add) (.v 5) (.ki 1))] (.val (.list (row.map N'))::v1::v2::.val (.int p)::v4::.val (.int e)::tl)=aa (.next,.val (.list (row.map N'))::v1::v2::.val (.int p)::v4::.val (.int ((e+1:Nat):Int))::tl):=bN (cy (aW (aC rfl) aT (c:=aa (.int ((e+1:Nat):Int))) rfl)) cZ;simp only[st];exact ih k (TX k) (e+1) W (mV hp) (xF l) (bu 0x54324800528225520014228208224528208a28224640b0c92003802060c940b200 Yt l hk) (bu 0x150c900854020508a08208224528228228a25500814228208208914a08228a24e40b0c90083832502c020e200 Yt hW l)
    ·refine ag (eP q) ?_;rw[az (λz=>q z.2)]
   ·rw[eP l]at t1;rw[ek,tG,gf];refine ag t1 ?_;have:eL row p k e=e:=by cases k with
     |zero=>rfl
     |succ k=>rw[eL,az (λz=>l z.1)]
    exact ag this rfl
theorem Da(h1:ek (λf=>aK T O 40 t f) (λf=>bc T O W n b f) W f=aa (.next,g)):bJ T O W (n+1) (.whl t b) f=aa (.next,g):=by rw[MY];exact h1
theorem QeD{Wf k:Nat}(hW:20<=Wf){row:List Nat}(hn:row.length<=10)(xh:1<=row.length)(hr:∀d∈row,0<d/\d<131072):
  aL Wf (k+2) 19 [.list (row.map N')]=aa (.list ((wg row).map cS)):=by
 rw[gx Qd3 rfl]
 refine Ret.evF ?_ rfl
 show Ret aA _ _ 200 Nl.body [.val (.list (row.map N')),.un,.un,.un,.un,.un,.un,.un,.un] _
 refine Ret.next (rfl) ?_
 obtain⟨f2,lp,fin⟩:=C6 (α:=Nat) (body:=λf=>bc aA (aL Wf (k+1)) Wf 197 [
  .asg 3 (.ite (.cmp (CO.eq) (.idx (.v 0) (.bin (BO.sub) (.v 2) (.ki 1))) (.idx (.v 0) (.v 2))) (.ki 1) (.call 18 [.bin (BO.add) (.v 0) (.lst [.ki 0]),.v 2])),
  .asg 4 (.v 2),
  .whl (.bop ae [.cmp (CO.gt) (.v 4) (.ki 0),.cmp (CO.eq) (.idx (.v 0) (.bin (BO.sub) (.v 4) (.ki 1))) (.idx (.v 0) (.bin (BO.add) (.bin (BO.sub) (.v 4) (.ki 1)) (.v 3)))]) [.asg 4 (.bin (BO.sub) (.v 4) (.ki 1))],
  .asg 5 (.bin (BO.add) (.v 2) (.v 3)),
  .whl (.bop ae [.cmp (CO.lt) (.v 5) (.bi (BI.len) [.v 0]),.cmp (CO.eq) (.idx (.v 0) (.v 5)) (.idx (.v 0) (.bin (BO.sub) (.v 5) (.v 3)))]) [.asg 5 (.bin (BO.add) (.v 5) (.ki 1))],
  .ife (.bop ae [.cmp (CO.lt) (.v 4) (.v 2),.cmp (CO.ge) (.bin (BO.sub) (.v 5) (.v 4)) (.bin (BO.mul) (.ki 2) (.v 3)),.cmp (CO.notin) (.tup [.v 4,.v 5,.v 3]) (.v 1)]) [.app 1 (.tup [.v 4,.v 5,.v 3])] []] f) (bind:=e9 [2] ae) (g:=λi:Nat=>.int (i:Int)) (L:=ey 1 (row.length-1))
  (I:=λdone f=>∃a2 a3 a4 a5,f=[.val (.list (row.map N')),.own ((mq row done).map cS),a2,a3,a4,a5,.un,.un,.un])
  (λdone x fH f hL hI=>by
   refine uR hI λa2 a3 a4 a5 fM=>?_;clear hI;subst fM;obtain⟨i,hi,hx⟩:=nW.mp (show x∈ey 1 (row.length-1) by refine ag hL ?_;simp);have Af:x<row.length:=bu 0x1525014a08224508a28a24e40038b2502160d3209240 Yt hi hx;have Ek:1<=x:=aQ 0x1802760d3209240 Yt hx;have dl:done.length<=10:=by have:=congrArg dN hL;simp at this;exact bu 0x54900528208224508a28a2464892064890360c325020b240 Yt hn this
   have dl2:=R3 row done;refine aF (R0 Af) λVE Kj=>?_;generalize sy:mq row done=acc at*;have pe:aj aA (aL Wf (k+1)) 40 (.ite (.cmp (CO.eq) (.idx (.v 0) (.bin (BO.sub) (.v 2) (.ki 1))) (.idx (.v 0) (.v 2))) (.ki 1) (.call 18 [.bin (BO.add) (.v 0) (.lst [.ki 0]),.v 2])) [.val (.list (row.map N')),.own (acc.map cS),.val (.int (x:Int)),a3,a4,a5,.un,.un,.un]=aa (.int (jW row x:Nat)):=by
    have t:aK aA (aL Wf (k+1)) 39 (.cmp (CO.eq) (.idx (.v 0) (.bin (BO.sub) (.v 2) (.ki 1))) (.idx (.v 0) (.v 2))) [.val (.list (row.map N')),.own (acc.map cS),.val (.int (x:Int)),a3,a4,a5,.un,.un,.un]=aa (decide (row.getD (x-1) 0=row.getD x 0)):=by refine dJ (gX (eE rfl) (aW (aC rfl) aT (pN (b:=1) Ek)) (lG (aQ 0x1524014a08a24508a2893882c900e200 Yt Af))) (bS (gX (eE rfl) (aC rfl) (lG Af)) (λ_ h=>by injection h)) ?_;refine congrArg aa ?_;rw[gA,bV,bl];exact rz
    rw[A9];refine ag t ?_;unfold jW;by_cases q:row.getD (x-1) 0=row.getD x 0
    ·refine ag (d6 q) ?_;rw[aw q];exact aT
    ·refine ag (eP q) ?_;rw[az q];refine rf (aW (aC rfl) (r:=.lst [.ki 0]) (b:=.list [N' 0]) (rfl) (yW (by simp;exact aH 0x1ba692682640192240 Yt hn))) (aC rfl) ?_;have:=Qex (k:=k) hW Af hn hr;rw[fn]at this;exact this
   generalize hp:jW row x=p at*;have l1:=R5 (O:=aL Wf (k+1)) (Wf:=Wf) (fu:=191) (row:=row) (p:=p) (.own (acc.map cS)) (.val (.int (x:Int))) [a5,.un,.un,.un] x Wf (AI VE Kj) (k8 0x39000642244648920e200 Yt hW hn Af);have l2:=QeC (O:=aL Wf (k+1)) (Wf:=Wf) (fu:=189) (row:=row) (p:=p) (.own (acc.map cS)) (.val (.int (x:Int))) (.val (.int ((eF row p x:Nat):Int))) [.un,.un,.un] row.length (x+p) Wf (E6) (AI VE Kj) (E7) (fz 0x150d840014a08a24508a28a24e20b0d8400188891192240 Yt hW hn);have g1:=R1 row p x;have g2:=R2 row p row.length (x+p);have dA:ef row x=(eF row p x,eL row p row.length (x+p),p):=by unfold ef;exact ag hp rfl
   refine⟨_,[.val (.list (row.map N')),.own ((mq row (done++[x])).map cS),.val (.int (x:Int)),.val (.int (p:Int)),.val (.int ((eF row p x:Nat):Int)),.val (.int ((eL row p row.length (x+p):Nat):Int)),.un,.un,.un],rfl,?_,_,_,_,_,rfl⟩;refine bN (cy pe) ?_;refine bN (cy (aC rfl)) ?_;refine bN (Da l1) ?_;refine bN (cy (aW (aC rfl) (aC rfl) (c:=aa (.int ((x+p:Nat):Int))) rfl)) ?_;refine bN (Da l2) ?_;have ok:jp row x=(decide (eF row p x<x)&&decide (2*p<=eL row p row.length (x+p)-eF row p x)):=by unfold jp;exact ag dA rfl
   have t1:aK aA (aL Wf (k+1)) 39 (.cmp (CO.lt) (.v 4) (.v 2)) [.val (.list (row.map N')),.own (acc.map cS),.val (.int (x:Int)),.val (.int (p:Int)),.val (.int ((eF row p x:Nat):Int)),.val (.int ((eL row p row.length (x+p):Nat):Int)),.un,.un,.un]=aa (decide (eF row p x<x)):=by refine dJ (aC rfl) (eE rfl) (congrArg aa ?_);rw[gA,bl,bl];exact tN
   have t2:aK aA (aL Wf (k+1)) 39 (.cmp (CO.ge) (.bin (BO.sub) (.v 5) (.v 4)) (.bin (BO.mul) (.ki 2) (.v 3))) [.val (.list (row.map N')),.own (acc.map cS),.val (.int (x:Int)),.val (.int (p:Int)),.val (.int ((eF row p x:Nat):Int)),.val (.int ((eL row p row.length (x+p):Nat):Int)),.un,.un,.un]=aa (decide (2*p<=eL row p row.length (x+p)-eF row p x)):=by
    refine dJ (aW (aC rfl) (aC rfl) (pN (fz 0x6418180606403200 Yt g1 g2))) (bS (aW aT (aC rfl) (c:=aa (.int ((2*p:Nat):Int))) ?_) (λ_ h=>by injection h)) (congrArg aa ?_)
    ·exact rc (by decide) (ij (k:=11) (bu 0x55020528228224508a28a24e0820a10064892062d0200 Yt hn Kj) (by decide))
    ·rw[gA,bl,bl];exact ry
   have tt:aj aA (aL Wf (k+1)) 38 (.tup [.v 4,.v 5,.v 3]) [.val (.list (row.map N')),.own (acc.map cS),.val (.int (x:Int)),.val (.int (p:Int)),.val (.int ((eF row p x:Nat):Int)),.val (.int ((eL row p row.length (x+p):Nat):Int)),.un,.un,.un]=aa (cS (ef row x)):=by refine ag dA ?_;exact rfl
   have tt2:aj aA (aL Wf (k+1)) 40 (.tup [.v 4,.v 5,.v 3]) [.val (.list (row.map N')),.own (acc.map cS),.val (.int (x:Int)),.val (.int (p:Int)),.val (.int ((eF row p x:Nat):Int)),.val (.int ((eL row p row.length (x+p):Nat):Int)),.un,.un,.un]=aa (cS (ef row x)):=by refine ag dA ?_;exact rfl
   have t3:aK aA (aL Wf (k+1)) 39 (.cmp (CO.notin) (.tup [.v 4,.v 5,.v 3]) (.v 1)) [.val (.list (row.map N')),.own (acc.map cS),.val (.int (x:Int)),.val (.int (p:Int)),.val (.int ((eF row p x:Nat):Int)),.val (.int ((eL row p row.length (x+p):Nat):Int)),.un,.un,.un]=aa (decide (ef row x∉acc)):=by refine dJ (n:=37) ?_ (Qej rfl) (QeB _ _);refine ag dA ?_;exact rfl
   refine bN (gK (decide (jp row x=ae/\ef row x∉acc)) ?_ ?_) cZ
   ·rw[tG];simp only[gf,t1,t2,t3,ok];by_cases q1:eF row p x<x<;>by_cases q2:2*p<=eL row p row.length (x+p)-eF row p x<;>by_cases q3:ef row x∉acc<;>simp[q1,q2,q3]
   ·rw[Qez];refine ag sy ?_;by_cases q:jp row x=ae/\ef row x∉acc
    ·refine ag (d6 q) ?_;rw[aw q,aw rfl];refine bN (CZ (xs:=acc.map cS) rfl tt2 (by rw[bq];exact bp 0xe0a249a099006489206200 Yt dl dl2)) ?_;rw[fn];exact cZ
    ·refine ag (eP q) ?_;rw[az q];exact cZ) _ [] _ rfl (EC .un .un .un .un rfl)
 refine uR fin λa2 a3 a4 a5 fM=>?_;clear fin;subst fM
 refine Ret.next (rj (xs:=(ey 1 (row.length-1)).map λk:Nat=>.int (k:Int)) ?_ lp) ?_
 ·refine C7 (a:=1) (c:=row.length-1) aT ?_ (aH 0x54900528224508a2891828926826432c9009192240 Yt hn);rw[show 1+(row.length-1)=row.length from LO xh];have:=ri (T:=aA) (O:=aL Wf (k+1)) (n:=37) (i:=0) (f:=[.val (.list (row.map N')),.own [],.un,.un,.un,.un,.un,.un,.un]) rfl;rw[bq]at this;exact this
 ·refine Ret.next (rfl) ?_;exact Ret.retE (aC rfl)
end
section
noncomputable def bw(w:Nat->Int):Nat->Nat->List Int
 |_,0=>[]
 |i,s+1=>w i::bw w (i+1) s
theorem mu(w:Nat->Int):∀s i,(bw w i s).length =s
 |0,_=>rfl
 |s+1,i=>by rw[bw,ce,mu w s]
theorem rk(w:Nat->Int)(b:Nat):∀a i,bw w i (a+b)=bw w i a++bw w (i+a) b
 |0,i=>by rw[gB];rfl
 |a+1,i=>by rw[DQ,bw,bw,rk w b a,rN,show i+1+a=i+(a+1)from Al]
theorem HT(w:Nat->Int):∀s i i',(∀j,j<s->w (i+j)=w (i'+j))->bw w i s=bw w i' s
 |0,_,_,_=>rfl
 |s+1,i,i',h=>by rw[bw,bw,HT w s (i+1) (i'+1) (λj hj=>by have:=h (j+1) (E3 hj);rwa[show i+(j+1)=i+1+j from mX,show i'+(j+1)=i'+1+j from mX]at this)];have:=h 0 (E4);rw[rV,rV]at this;exact ag this rfl
theorem R6(w:Nat->Int):∀s i i',bw w i s=bw w i' s->∀j,j<s->w (i+j)=w (i'+j)
 |0,_,_,_,j,hj=>W1 0x50895c800e040 [_] [_,_] Yt hj
 |s+1,i,i',h,j,hj=>by
  rw[bw,bw,Un]at h;cases j with
  |zero=>exact h.1
  |succ j=>
   have:=R6 w s (i+1) (i'+1) h.2 j (uY hj)
   rwa[show i+(j+1)=i+1+j from mX,show i'+(j+1)=i'+1+j from mX]
theorem R7(w:Nat->Int)(h:k<=s):(bw w i s).drop k=bw w (i+k) (s-k):=by
 conv=>lhs;rw[show s=k+(s-k)from E8 h,rk]
 rw[List.drop_append,mu,wD (by rw[mu];exact AH)];simp
theorem QeE(w:Nat->Int)(h:k<=s):(bw w i s).take k=bw w i k:=by
 conv=>lhs;rw[show s=k+(s-k)from E8 h,rk]
 rw[List.take_append,mu,nN (by rw[mu];exact AH)];simp
theorem R8(s x y:List Int):bI (s++x) (s++y)=bI x y:=by
 induction s with
 |nil=>rfl
 |cons a s ih=>rw[rN,rN,bI,aw rfl];exact ag ih rfl
theorem Db:∀(x y a b:List Int),x.length=y.length->bI x y=ae->bI (x++a) (y++b)=ae
 |[],[],_,_,_,h=>by simp[bI]at h
 |[],_::_,_,_,h,_=>by injection h
 |_::_,[],_,_,h,_=>by injection h
 |u::x,v::y,a,b,h,h2=>by
  rw[rN,rN,qQ];refine bX (qQ.mp h2) (λz=>?_) λfq=>?_
  ·exact .inl z
  ·obtain⟨z,z2⟩:=fq;exact .inr ⟨z,Db x y a b (by simpa using h) z2⟩
theorem R9(w:Nat->Int):∀m i i' s s',(∀j,j<m->w (i+j)=w (i'+j))->w (i+m)<w (i'+m)->m<s->m<s'->bI (bw w i s) (bw w i' s')=ae
 |0,i,i',s+1,s'+1,_,h,_,_=>by rw[bw,bw,qQ];exact .inl h
 |m+1,i,i',s+1,s'+1,h0,h,h1,h2=>by
  rw[bw,bw,qQ];refine .inr ⟨h0 0 (E4),R9 w m (i+1) (i'+1) s s' (λj hj=>?_) ?_ (uY h1) (uY h2)⟩
  ·have:=h0 (j+1) (E3 hj);rwa[show i+(j+1)=i+1+j from mX,show i'+(j+1)=i'+1+j from mX]at this
  ·rwa[show i+(m+1)=i+1+m from mX,show i'+(m+1)=i'+1+m from mX]at h
 |_,_,_,0,_,_,_,h,_=>by exact fZ (AA h)
 |_,_,_,_,0,_,_,_,h=>by exact fZ (AA h)
theorem Dc(w:Nat->Int)(h:m<=s)(h0:∀j,j<m->w (i+j)=w (i'+j)):bI (bw w i s) (bw w i' m)=af:=by rw[show s=m+(s-m)from E8 h,rk];refine ag (HT w m i i' h0) ?_;have:=R8 (bw w i' m) (bw w (i+m) (s-m)) [];rw[kO]at this;refine ag this ?_;cases bw w (i+m) (s-m)<;>rfl
def tH(w:Nat->Int)(i s:Nat):Prop:=∀k,1<=k->k<s->bI (bw w i s) (bw w (i+k) (s-k))=ae
theorem Sa(f:Nat->List Int):∀m,∃i,1<=i/\i<=m+1/\∀j,1<=j->j<=m+1->bI (f j) (f i)=af
 |0=>(kc 1 (by lia) (i5 0x60c9049 Yt) (λj h1 h2=>by rw[show j=1 from l6 0x74114a0822452822562401802460c9040 Yt h1 h2];exact BM _))
 |m+1=>by
  refine l4 (Sa f m) λi h1 h2 h3=>?_;by_cases q:bI (f (m+2)) (f i)=ae
  ·refine(kc (m+2) (bL 0x60d1009 Yt) (bL 0x60c90c9003440 Yt) (λj j1 j2=>?_));by_cases e:j=m+2
   ·refine ag e ?_;exact BM _
   ·cases z:bI (f j) (f (m+2))
    ·rfl
    ·have:=BN _ _ _ z q;rw[h3 j j1 (LR j2 e)]at this;injection this
  ·refine(kc i h1 (aQ 0x1832432480060c9200 Yt h2) (λj j1 j2=>?_));by_cases e:j=m+2
   ·refine ag e ?_;simpa using q
   ·exact h3 j j1 (LR j2 e)
section
variable {P:Nat->Int} {p:Nat} (hP:∀i,P (i+p)=P i)
include hP
theorem HU(s i:Nat):bw P (i+p) s=bw P i s:=HT P s _ _ λj _=>by rw[DQ];exact hP _
theorem Sb(n8:1<=p)(h0:i0<=p)(h:∀j,j<p->P (i0+j+k)=P (i0+j)):∀m,P (m+k)=P m:=by
 have VF:∀N m,m<N->i0<=m->P (m+k)=P m:=by
  intro N;induction N with
  |zero=>intro m h;exact fZ (AA h)
  |succ N ih=>
   intro m hm h1
   by_cases q:m<i0+p
   ·have:=h (m-i0) (bu 0x54800528228a24508a28224e40b20018020e0d0200 Yt h1 q);rwa[show i0+(m-i0)=m from An h1]at this
   ·have:=ih (m-p) (by lia) (bR 0x1540014228a24528228918b4002260d0200 Yt q);rw[show m=m-p+p from bR 0x55001d04528224528a08225d04528914a08958340b4000260d0200 Yt q,hP,DQ,hP];exact this
 intro m;by_cases q:i0<=m
 ·exact VF (m+1) m (xH) q
 ·have:=VF (m+p+1) (m+p) (fN 0xe0c90c8003200 Yt) (bR 0x183210006200 Yt h0);rwa[DQ,hP,hP]at this
theorem QeF(h1:1<=p)(Qjx:∀k,0<k->k<p->∃m,P (m+k)≠P m):∃i0,1<=i0/\i0<=p/\tH P i0 p:=by
 refine l4 (Sa (λi=>bw P i p) (p-1)) λi0 a1 a2 a3=>?_;rw[show p-1+1=p from LS h1]at a2 a3;refine(kc i0 a1 a2 (λk k1 k2=>?_));have min:∀j,1<=j->j<=2*p->bI (bw P j p) (bw P i0 p)=af:=λj j1 j2=>by
  by_cases q:j<=p
  ·exact a3 j j1 q
  ·have:=a3 (j-p) (aQ 0x1520014228224528228918b20025e200 Yt q) (aQ 0x54800528224508a2891882c80064c8440 Yt j2);have e:=HU hP p (j-p);rw[show j-p+p=j from aQ 0x1520014228225d0452822452895800c82c801e200 Yt q]at e;rwa[e]
 have m1:=min (i0+k) (aQ 0x183200246009 Yt a1) (bu 0x64c844301018840e200 Yt a2 k2);have m2:=min (i0+(p-k)) (bR 0x1832d0200246009 Yt a1) (bu 0x1500814228208914228a2464c84432c021018840e200 Yt a2 k2);have s1:bw P (i0+k) p=bw P (i0+k) (p-k)++bw P i0 k:=by have z:=rk P k (p-k) (i0+k);rwa[show p-k+k=p from LU k2,show i0+k+(p-k)=i0+p from bR 0x1500814228225d0452822452895832100cb0080c040e200 Yt k2,HU hP]at z
 have s2:bw P i0 p=bw P i0 (p-k)++bw P (i0+(p-k)) k:=by have z:=rk P k (p-k) i0;rwa[show p-k+k=p from LU k2]at z
 have s3:bw P (i0+(p-k)) p=bw P (i0+(p-k)) k++bw P i0 (p-k):=by have z:=rk P (p-k) k (i0+(p-k));rwa[show k+(p-k)=p from EU k2,show i0+(p-k)+k=i0+p from bR 0x1500814228225d0452822452895832100c00cb00840e200 Yt k2,HU hP]at z
 have s4:bw P i0 p=bw P i0 k++bw P (i0+k) (p-k):=by have z:=rk P (p-k) k i0;rwa[show k+(p-k)=p from EU k2]at z
 by_cases c:bw P i0 (p-k)=bw P (i0+k) (p-k)
 ·exfalso;rw[s1,s2,c,R8]at m1;rw[s3,s4,c]at m2;by_cases t:bw P i0 k=bw P (i0+(p-k)) k
  ·refine aD (Qjx k (qu k1) k2) λm hm=>?_;refine hm (Sb hP h1 a2 (k:=k) (λj hj=>?_) m);have e:bw P (i0+k) p=bw P i0 p:=by exact ag s1 (ag s2 (ag c (ag t rfl)))
   have:=R6 P p _ _ e j hj;rwa[DQ]at this
  ·refine bX (BP _ _ t) (λz=>?_) λz=>?_
   ·rw[z]at m1;injection m1
   ·rw[Db _ _ _ _ (by rw[mu,mu]) z]at m2;injection m2
 ·refine bX (BP _ _ c) (λz=>?_) λz=>?_
  ·have:=Db _ _ (bw P (i0+(p-k)) k) [] (by rw[mu,mu]) z;rw[kO, <-s2]at this;exact this
  ·rw[s1,s2,Db _ _ _ _ (by rw[mu,mu]) z]at m1;injection m1
end
end
section
theorem Sc:∀(l:List Nat)(x:Nat),(∀j,j<l.length->f (x+j)=g (l.getD j 0))->l.map g=bw f x l.length
 |[],_,_=>rfl
 |a::l,x,h=>by
  rw[cA,ce,bw,Sc l (x+1) λj hj=>?_]
  ·have:=h 0 (by simp);rw[rV]at this;refine ag this ?_;rfl
  ·have:=h (j+1) (by simpa using hj);rw[show x+1+j=x+(j+1)from Al];refine ag this ?_;rfl
noncomputable def wv(row:List Nat)(tau:Int)(i:Nat):Int:=tau*((row.getD i 0:Nat):Int)
theorem HV(row:List Nat)(x j:Nat):(row.drop x).getD j 0=row.getD (x+j) 0:=by rw[eW,tV,eW]
theorem Sd(s:Nat)(h:x+s<=row.length):((row.drop x).map λy:Nat=>tau*(y:Int)).take s=bw (wv row tau) x s:=by
 rw[Sc (f:=wv row tau) (row.drop x) x λj hj=>?_]
 ·rw[QeE _ (by rw[dL];exact bR 0x1501014228a24528228918b010206403200 Yt h)]
 ·rw[HV];rfl
theorem Se:kF (bw w x s)=ae↔tH w x s:=by
 unfold kF tH;rw[eA,mu];constructor
 ·intro h k h1 h2;have:=h k (nW.mpr (aO (k-1) (LV h1 h2) (LW h1)));rwa[R7 _ (by exact qv h2)]at this
 ·intro h k hk;refine ai (nW.mp hk) λi h1 av=>?_;clear hk;subst av;rw[R7 _ (by exact aQ 0x1524814a08224508a2891880d300924e2c9200 Yt h1)];exact h _ (bL 0x60d3009249 Yt) (LX h1)
theorem Sf(v:List Int):∀m,(jU v (ey 2 m)=1\/(2<=jU v (ey 2 m)/\jU v (ey 2 m)<2+m/\kF (v.take (jU v (ey 2 m)))=ae))/\∀s,jU v (ey 2 m)<s->2<=s->s<2+m->kF (v.take s)=af
 |0=>⟨.inl rfl,λs _ h1 h2=>by exact fZ (l6 0x2e04118044e0c1440 Yt h1 h2)⟩
 |m+1=>by
  obtain⟨h1,h2⟩:=Sf v m;have e:jU v (ey 2 (m+1))=if kF (v.take (2+m))then 2+m else jU v (ey 2 m):=by unfold jU;rw[List.range'_concat,Ul,zA];rfl
  refine ag e ?_;by_cases q:kF (v.take (2+m))=ae
  ·rw[aw q];exact⟨.inr ⟨bL 0x60c0451 Yt,bL 0xe0c3240443011 Yt,q⟩,λs a b c=>by exact fZ (bp 0x2e0413800c844e0c3248440 Yt a c)⟩
  ·rw[az q];refine⟨?_,λs a b c=>?_⟩
   ·refine bX h1 (λh1=>?_) λfq=>?_
    ·exact .inl h1
    ·obtain⟨a,b,c⟩:=fq;exact .inr ⟨a,aQ 0x3830c921100e0c8440 Yt b,c⟩
   ·by_cases z:s=2+m
    ·refine ag z ?_;simpa using q
    ·exact h2 s a b (bp 0x75114a08914a24e0c84403830c921103e0c8440 Yt c z)
theorem Sg(x:Nat):∀l:List Nat,(∀j,j<gy x l->l.getD j 0=x)/\(gy x l<l.length->l.getD (gy x l) 0≠x)
 |[]=>⟨λj h=>by simp[gy]at h,λh=>by simp at h⟩
 |a::r=>by
  obtain⟨h1,h2⟩:=Sg x r;rw[gy];by_cases q:a=x
  ·rw[aw q];refine⟨λj hj=>?_,λh=>?_⟩
   ·cases j with
    |zero=>exact q
    |succ j=>exact h1 j (uY hj)
   ·exact h2 (by rw[ce]at h;exact uY h)
  ·rw[az q];exact⟨λj hj=>by lia,λ_=>q⟩
theorem HW(row:List Nat)(i:Nat):(row++[0]).getD i 0=row.getD i 0:=by
 rw[eW,eW];by_cases h:i<row.length
 ·rw[zt h]
 ·rw[zu (by exact mW h),lJ (show row.length<=i by exact mW h)];cases i-row.length with
  |zero=>rfl
  |succ k=>rfl
theorem Dd{row:List Nat}(hr:∀d∈row,0<d)(h:i<row.length):0<row.getD i 0:=by rw[eW];refine ag (cf h) ?_;exact hr _ (wH h)
theorem HX{row:List Nat}(h:row.length<=i):row.getD i 0=0:=by rw[eW];refine ag (lJ h) ?_;rfl
theorem QeG{row:List Nat}(hr:∀d∈row,0<d)(hx:x<row.length)(h1:x<m)(hm:m<=row.length)(h2:∀j,x<j->j<m->row.getD j 0=row.getD x 0)(h3:row.getD m 0≠row.getD x 0):jo row x=if row.getD m 0>row.getD x 0 then 1 else-1:=by
 unfold jo;rw[HW];refine aF (Sg (row.getD x 0) ((row++[0]).drop (x+1))) λs1 s2=>?_;have sl:=HQ (row.getD x 0) ((row++[0]).drop (x+1)) (aO 0 (by rw[Qhq (by exact xF hx)];simp) (by have:=Dd hr hx;exact E9 this));have s2:=s2 sl;rw[HV,HW]at s2;have:x+1+gy (row.getD x 0) ((row++[0]).drop (x+1))=m:=by
  generalize gy (row.getD x 0) ((row++[0]).drop (x+1))=k at*;by_cases a:x+1+k<m
  ·exact absurd (h2 _ (fN 0xe0c80c9000 Yt) a) s2
  ·by_cases b:m<x+1+k
   ·have:=s1 (m-(x+1)) (bu 0x54324800528228a24508a28224e40b0c920038020e0d00c9200 Yt h1 b);rw[HV,HW,show x+1+(m-(x+1))=m from aQ 0x54324021d04528a08224528225d0452822452895880cb0c90080c900e200 Yt h1]at this;exact absurd this h3
   ·exact bu 0x74114a0822452822560034032489800d00c92260d00c9200 Yt a b
 exact ag this rfl
theorem HY(row:List Nat)(p:Nat):∀x,eF row p x<=x/\(∀j,eF row p x<=j->j<x->row.getD j 0=row.getD (j+p) 0)/\(eF row p x=0\/row.getD (eF row p x-1) 0≠row.getD (eF row p x-1+p) 0)
 |0=>⟨dj _,λj h1 h2=>by lia,.inl rfl⟩
 |b+1=>by
  refine eQ (HY row p b) λh1 h2 h3=>?_;rw[eF];by_cases q:row.getD b 0=row.getD (b+p) 0
  ·rw[aw q];refine⟨mV h1,λj a c=>?_,h3⟩;by_cases e:j=b
   ·refine ag e ?_;exact q
   ·exact h2 j a (LY c e)
  ·rw[az q];exact⟨dj _,λj a c=>fz 0x508a2566101800c920e0c9200 Yt a c,.inr (by rw[zD];exact q)⟩
theorem HZ{row:List Nat}(hr:∀d∈row,0<d)(hp:1<=p):∀k e,row.length-e<=k->e<=row.length->p<=e->e<=eL row p k e/\eL row p k e<=row.length/\(∀j,e<=j->j<eL row p k e->row.getD j 0=row.getD (j-p) 0)/\row.getD (eL row p k e) 0≠row.getD (eL row p k e-p) 0
 |0,e,h1,h2,h3=>by have:e=row.length:=bp 0x54021d04528208208914a08974114a08208224528a0822562001812c0206200 Yt h1 h2;clear h1 h2;subst this;rw[eL];refine⟨dj _,dj _,λj a b=>fz 0x508a25661018020e200 Yt a b,?_⟩;rw[HX (dj _)];have:=Dd hr (i:=row.length-p) (LZ hp h3);exact E9 this
 |k+1,e,h1,h2,h3=>by
  rw[eL];by_cases q:e<row.length/\row.getD e 0=row.getD (e-p) 0
  ·rw[aw q];refine og (HZ hr hp k (e+1) (bu 0x54324020528225500814228208208914a08228a24640b0c90081832502c020e200 Yt h1 q.1) (xF q.1) (mV h3)) λa b c d=>?_;refine⟨oq a,b,λj j1 j2=>?_,d⟩;by_cases z:j=e
   ·refine ag z ?_;exact q.2
   ·exact c j (xu j1 z) j2
  ·rw[az q];refine⟨dj _,h2,λj a b=>fz 0x508a25661018020e200 Yt a b,?_⟩;by_cases z:e<row.length
   ·exact λy=>q ⟨z,y⟩
   ·rw[HX (by exact mW z)];have:=Dd hr (i:=e-p) (k8 0x54020528228a28914228a2893902c0206009190206200 Yt hp h2 h3);exact E9 this
structure Run(row:List Nat)(b e p:Nat):Prop where
 p1:1<=p
 len:b+2*p<=e
 en:e<=row.length
 per:∀j,b<=j->j+p<e->row.getD j 0=row.getD (j+p) 0
 left:b=0\/row.getD (b-1) 0≠row.getD (b-1+p) 0
 right:row.getD e 0≠row.getD (e-p) 0
 prim:∀k,0<k->k<p->∃j,j<p/\row.getD (b+(j+k)%p) 0≠row.getD (b+j) 0
def mw(row:List Nat)(tau:Int)(b p i:Nat):Int:=wv row tau (b+i%p)
theorem H0(row:List Nat)(tau:Int)(b p i:Nat):mw row tau b p (i+p)=mw row tau b p i:=by unfold mw;rw[Nat.add_mod_right]
theorem De(hp:1<=p)(h:∀j,b<=j->j+p<e->row.getD j 0=row.getD (j+p) 0):∀N i,i<N->b+i<e->wv row tau (b+i)=mw row tau b p i
 |0,_,h,_=>by lia
 |N+1,i,hN,hi=>by
  by_cases q:i<p
  ·unfold mw;exact ag (qg q) rfl
  ·have:=De (tau:=tau) hp h N (i-p) (k8 0x54800528228a28914228a2893902c8006209383250026200 Yt hp hN q) (sG 0x1560814a08a24508a2893900cb60800e403200 Yt hi);rw[show i=i-p+p from aQ 0x54801d04528224528a08225d04528914a08958320b200026200 Yt q,H0];refine a8 this ?_;unfold wv;rw[h (b+(i-p)) (sI 0x60cb408000 Yt) (fz 0x1520014a08a28914228a24e6032032c80103980c0426200 Yt hi q),show b+(i-p+p)=b+(i-p)+p from sI 0x1d0452452560d00cb4080030d02d0200 Yt]
theorem wh(ht:tau=1\/tau= -1):wv row tau i=wv row tau j↔row.getD i 0=row.getD j 0:=by
 unfold wv;rcases ht with rfl|rfl
 ·exact Wj
 ·exact Wi
theorem Sh(hx:x<row.length):(jV row x=1\/(2<=jV row x/\x+jV row x<=row.length/\tH (wv row (jo row x)) x (jV row x)))/\∀s,jV row x<s->2<=s->x+s<=row.length->¬tH (wv row (jo row x)) x s:=by
 unfold jV;refine aF (Sf ((row.drop x).map λy:Nat=>jo row x*(y:Int)) (row.length-x-1)) λh1 h2=>?_;refine⟨?_,λs a b c=>?_⟩
 ·refine bX h1 (λh1=>?_) λfq=>?_
  ·exact .inl h1
  ·obtain⟨a,b,c⟩:=fq;refine .inr ⟨a,L2 a b,?_⟩;rw[Sd _ (by exact L2 a b)]at c;exact Se.mp c
 ·have:=h2 s a b (bu 0x150101422822895492c040508a28208a24528228228224e0cb24b010448188446403200 Yt b c);rw[Sd _ c]at this;intro z;rw[Se.mpr z]at this;injection this
theorem QeH(hr:∀d∈row,0<d)(h1:1<=x)(hx:x<row.length)(ok:jp row x=ae):Run row (ef row x).1 (ef row x).2.1 (ef row x).2.2:=by
 unfold jp at ok;simp only[bo,bl]at ok;refine aF ok λEw ok2=>?_;refine aF (R0 hx) λp1 p2=>?_;unfold ef at*;dsimp only at*;generalize hp:jW row x=p at*;refine eQ (HY row p x) λl1 l2 l3=>?_;refine og (HZ hr p1 row.length (x+p) (E7) (AI p1 p2) (E6)) λr1 r2 r3 r4=>?_;generalize eF row p x=b at*;generalize eL row p row.length (x+p)=e at*;have per:∀j,b<=j->j+p<e->row.getD j 0=row.getD (j+p) 0:=λj a c=>by
  by_cases q:j<x
  ·exact l2 j a q
  ·have:=r3 (j+p) (bR 0x1834000d0226200 Yt q) c;rw[zD]at this;exact this.symm
 refine⟨p1,bu 0x55020528209224508a2822462034c04501802462d0213011 Yt p1 ok2,r2,per,l3,r4,λk k1 k2=>?_⟩;have lp:jV row x=p:=by
  unfold jW at hp;split at hp
  ·exact k8 0x508a28958040e201380236009 Yt k1 k2 hp
  ·exact hp
 have ly:tH (wv row (jo row x)) x p:=by
  refine bX ((Sh hx).1) (λz=>?_) λfq=>?_
  ·exact fZ (N4 0x2e04139004e210d88016240 [_,_,_] Yt k1 k2 lp z)
  ·obtain⟨_,_,z⟩:=fq;rw[lp]at z;exact z
 apply ay;intro hn;have hn:∀j,j<p->row.getD (b+(j+k)%p) 0=row.getD (b+j) 0:=λj hj=>ay λz=>hn ⟨j,hj,z⟩;have al:∀m,mw row (jo row x) b p (m+k)=mw row (jo row x) b p m:=Sb (H0 row (jo row x) b p) p1 (i0:=0) (Ay) (λj hj=>by rw[gB];unfold mw wv;exact ag (hn j hj) (ag (qg hj) rfl));have lt:=ly k k1 k2;have pi:=De (tau:=jo row x) p1 per;rw[Dc _ (by exact aQ 0x54020508a0891422891882c020e200 Yt k2) (λj hj=>?_)]at lt
 ·injection lt
 ·have e1:=pi (x-b+j+1) (x-b+j) (sI 0xe0c90d02c800340b200 Yt) (N3 0x15a1814228225540814a08208208224508a08a2822893a00c300ba18a0e6281a00c860e2d0200 [_,_,_,_,_,_] Yt Ew r1 hj);have e2:=pi (x-b+j+k+1) (x-b+j+k) (N0 0xe0c90d80d02c800360340b200 [_,_,_,_] Yt) (N3 0x15a1814228225540814a08208208224508a08a2822893a00c340300ba18a0e6281a00c860e2d0200 [_,_,_,_,_,_] Yt Ew r1 hj);rw[show b+(x-b+j)=x+j from bR 0x1500814228225d0452822452895834080c340b00800e200 Yt Ew]at e1;rw[show b+(x-b+j+k)=x+k+j from sG 0x1500814228225d0452822452895834036080c360340b00800e200 Yt Ew]at e2;refine ag e1 (ag e2 ?_);rw[al]
end
section
theorem QeI(h1:b<=x)(h2:∀j,b<=j->j<x->row.getD j 0=row.getD (j+p) 0)(h3:b=0\/row.getD (b-1) 0≠row.getD (b-1+p) 0):eF row p x=b:=by
 refine eQ (HY row p x) λl1 l2 l3=>?_;generalize eF row p x=c at*;by_cases a:c<b
 ·refine bX h3 (λz=>?_) λz=>?_
  ·exact bp 0x508a256008380216040 Yt a z
  ·exact absurd (l2 (b-1) (xE a) (L3 h1 a)) z
 ·by_cases d:b<c
  ·refine bX l3 (λz=>?_) λz=>?_
   ·exact bp 0x508a256200380216040 Yt d z
   ·exact absurd (h2 (c-1) (xE d) (L3 l1 d)) z
  ·exact Fa a d
theorem QeJ(hr:∀d∈row,0<d)(hp:1<=p)(hk:row.length-e0<=k)(h0:p<=e0)(h1:e0<=e)(he:e<=row.length)(h2:∀j,e0<=j->j<e->row.getD j 0=row.getD (j-p) 0)(h3:row.getD e 0≠row.getD (e-p) 0):eL row p k e0=e:=by
 refine og (HZ hr hp k e0 hk (bu 0x6210180406200 Yt h1 he) h0) λr1 r2 r3 r4=>?_;generalize eL row p k e0=c at*;by_cases a:c<e
 ·exact absurd (h2 c r1 a) r4
 ·by_cases d:e<c
  ·exact absurd (r3 e h1 d) h3
  ·exact Fa a d
theorem QeK(hr:∀d∈row,0<d)(R:Run row b e p):∃x,b<x/\x<=b+p/\jW row x=p:=by
 have p1:=R.p1;have len:=R.len;have en:=R.en;by_cases hp:p=1
 ·clear p1;subst hp;refine⟨b+1,xH,xz,?_⟩;unfold jW;rw[aw];rw[zD];exact R.per b (dj _) (aQ 0x3880c90062034c9440 Yt len)
 ·refine ay λcG=>?_;obtain⟨tau,ht,bK⟩:∃tau:Int,(tau=1\/tau= -1)/\wv row tau e<wv row tau (e-p):=by
   have:=R.right;by_cases q:row.getD e 0<row.getD (e-p) 0
   ·exact⟨1,.inl rfl,by unfold wv;exact aQ 0x3d3b08253b0024e200 Yt q⟩
   ·exact⟨-1,.inr rfl,by unfold wv;lia⟩
  have pi:=De (tau:=tau) p1 R.per;obtain⟨i0,a1,a2,ly⟩:=QeF (H0 row tau b p) p1 (λk k1 k2=>by refine ai (R.prim k k1 k2) λj hj bT=>?_;refine(bC j (λz=>bT ?_));unfold mw at z;simp only[qg hj]at z;exact(wh ht).mp z);apply cG;clear cG;refine⟨b+i0,aQ 0x383008206009 Yt a1,bR 0x1832100c0406200 Yt a2,?_⟩;have W:∀i,i<e-b->wv row tau (b+i)=mw row tau b p i:=λi hi=>pi (i+1) i (xH) (Fb hi);have xj:tH (wv row tau) (b+i0) p:=λk k1 k2=>by
   have h:=ly k k1 k2;have mv:∀s i,i+s<=e-b->bw (wv row tau) (b+i) s=bw (mw row tau b p) i s:=by
    intro s;induction s with
    |zero=>intro i _;rfl
    |succ s ih=>intro i hi;rw[bw,bw,W i (sG 0x38b6100062d84030c9200 Yt hi),Uj,ih (i+1) (sG 0x18b6100c80c90062d84030c9200 Yt hi)]
   rw[mv p i0 (f7 0x55060508a09224528228228918b4180c80062091980d3211406200 Yt p1 len a2),Uj,mv (p-k) (i0+k) (sH 0x55880508a09225500814228208208208914228a08a08a2462d88032c02030101882468034c845818840e200 Yt p1 len a2 k2)];exact h
  have xl:b+i0<row.length:=sH 0xe6030201882464034c8460198406200 Yt p1 len en a2;have Qjz:∃j,1<=j/\j<p/\row.getD (b+i0+j) 0≠row.getD (b+i0) 0:=by
   apply ay;intro hn;have hn:∀j,j<p->row.getD (b+i0+j) 0=row.getD (b+i0) 0:=λj hj=>by
    by_cases z:j=0
    ·clear hj;subst z;rfl
    ·exact ay λy=>hn (kc j (L4 z) hj y)
   have:=xj 1 (dj _) (by exact l6 0x75114a24528224e00918027e240 Yt p1 hp);rw[Dc _ (by exact bL 0x54900528224508a24600b240 Yt) (λj hj=>(wh ht).mpr (by rw[hn j (by exact aQ 0x1524814a08224508a28938800e2c9200 Yt hj),show b+i0+1+j=b+i0+(j+1) by exact sI 0x1d0452452560c32500c8003403243200 Yt,hn (j+1) (by exact aQ 0x1524814a08224508a2893880c900e2c9200 Yt hj)]))]at this;injection this
  obtain⟨m,m1,m2,m3,m4⟩:∃m,1<=m/\m<p/\(∀j,j<m->row.getD (b+i0+j) 0=row.getD (b+i0) 0)/\row.getD (b+i0+m) 0≠row.getD (b+i0) 0:=by
   refine l4 Qjz λj j1 j2 j3=>?_;have:∀N,∀j,j<N->1<=j->j<p->row.getD (b+i0+j) 0≠row.getD (b+i0) 0->∃m,1<=m/\m<p/\(∀j,j<m->row.getD (b+i0+j) 0=row.getD (b+i0) 0)/\row.getD (b+i0+m) 0≠row.getD (b+i0) 0:=by
    intro N;induction N with
    |zero=>intro j h;lia
    |succ N ih=>
     intro j hN h1 h2 h3
     by_cases q:∃i,1<=i/\i<j/\row.getD (b+i0+i) 0≠row.getD (b+i0) 0
     ·refine l4 q λi i1 i2 i3=>?_;exact ih i (bu 0xe40038325020e200 Yt hN i2) i1 (AC h2 i2) i3
     ·refine(oh j h1 h2 (λi hi=>?_) h3);by_cases z:i=0
      ·clear hi;subst z;rfl
      ·exact ay λy=>q (kc i (L4 z) hi y)
   exact this (j+1) j (xH) j1 j2 j3
  have tn:jo row (b+i0)=tau:=by
   rw[QeG hr xl (m:=b+i0+m) (bR 0x3830034080d0206009 Yt m1) (N4 0x68030034281980d3211a0681818840e200 [_,_,_,_,_,_] Yt len en a2 m2) (λj h1 h2=>by have:=m3 (j-(b+i0)) (fz 0x150d020014a08a24508a28224e60b0d020019824e0d80d0200 Yt m1 h2);rwa[show b+i0+(j-(b+i0))=j from bR 0x150c801014228225d0452822452895900cb0c80100c800e403200 Yt h1]at this) m4];have h:=xj m m1 m2;have e1:bw (wv row tau) (b+i0) p=wv row tau (b+i0)::bw (wv row tau) (b+i0+1) (p-1):=by
    conv=>lhs;rw[show p=p-1+1 from aH 0x54901d04528224528a08225d04528914a08958324b240006009 Yt p1]
    rfl
   have e2:bw (wv row tau) (b+i0+m) (p-m)=wv row tau (b+i0+m)::bw (wv row tau) (b+i0+m+1) (p-m-1):=by
    conv=>lhs;rw[show p-m=p-m-1+1 from aQ 0x54020508a0895492c021d04528224528a08a08225d04528914a08958324b24b0082c020e200 Yt m2]
    rfl
   rw[e1,e2,qQ]at h;have h:wv row tau (b+i0)<wv row tau (b+i0+m):=by
    refine bX h (λh=>?_) λh=>?_
    ·exact h
    ·exact absurd ((wh ht).mp h.1).symm m4
   unfold wv at h;refine bX ht (λg9=>?_) λfq=>?_
   ·clear ht bK pi ly W xj e1 e2;subst g9;rw[aw (by exact aQ 0x38800f4ec2094ec009 Yt h)]
   ·clear ht bK pi ly W xj e1 e2;subst fq;rw[az (by lia)]
  have ahead:row.getD (b+i0-1) 0≠row.getD (b+i0) 0:=by intro z;have per:=R.per (b+i0-1) (aQ 0x1524300814228a24528228918b243008206009 Yt a1) (f7 0x1524301014a08a28a24508a28a0893980c82c90c04066034c8450180246200 Yt len a1 a2);have h:=xj (p-1) (l6 0x1524075114a08914a08208975114a2822452820822462c900918027e240 Yt p1 hp) (Aw p1);rw[Dc _ (by exact bL 0x54b24000528224508a24600b2c9000 Yt) (λj hj=>(wh ht).mpr (by rw[show j=0 by exact bp 0x5492152c920814228a08225d04528228228208914954b24820508a08974114a08a28208224525604018824e2cb248200 Yt p1 hj,rV,rV,show b+i0+(p-1)=b+i0-1+p by exact bu 0x1524301054921d04528a08228224528228a08208974114a08a08914a28228208225524874114a28228208914a08a08974114a08a24528a0822560c82c90c04032c9203010188246009 Yt p1 a1];exact a8 per (ag z rfl)))]at h;injection h
  unfold jW;rw[az ahead];refine aF (Sh xl) λs1 s2=>?_;rw[tn]at s1 s2;have le:jV row (b+i0)<=p:=by
   apply ay;intro hn;refine bX s1 (λs1=>?_) λfq=>?_
   ·exact N3 0xb81046209788016240 [_,_] Yt p1 hn s1
   ·obtain⟨_,hl,s1⟩:=fq;generalize jV row (b+i0)=s at*;have h:=s1 p p1 (aQ 0x38021e200 Yt hn);by_cases q:b+i0+s<=e
    ·rw[Dc _ (by exact AB) (λj hj=>(wh ht).mpr (by
      rw[show b+i0+p+j=b+i0+j+p from L5];exact R.per _ (by exact sI 0x60d00c8000 Yt) (by exact N2 0x55020528208224508a28a24ea034030038181a80c80e060e2d0200 [_,_,_,_,_,_] Yt q hj)))]at h
     injection h
    ·have l:=R9 (wv row tau) (e-p-(b+i0)) (b+i0+p) (b+i0) (s-p) s (λj hj=>(wh ht).mpr (by
      rw[show b+i0+p+j=b+i0+j+p from L5];exact(R.per _ (sI 0x60d00c8000 Yt) (N1 0x154085438182d020528208208914228a0822550e060b40814a08208224508a08a2893880d00c00e060e2c38182d0200 [_,_,_,_,_] Yt hj)).symm)) (by rw[show b+i0+p+(e-p-(b+i0))=e from fz 0x5486150c040b21874114a28208208a24528208225d04528228a0822452820822550c040b21874114a28208208a24528228974114a08a08914a2822566032c30102c86032030101980d3211406200 Yt len a2,show b+i0+(e-p-(b+i0))=e-p from f7 0x152181422822895430102c861d04528a08a08208a24528225d04528224528958b2180cb0c040b2180c04062091980d3211406200 Yt p1 len a2];exact bK) (N2 0x158101422822558185432002e060528208228228914228a08a08a2550c800b81814a08208a08a24508a08a28228224e2e040b0c800b8187a041e603403200 [_,_,_,_,_] Yt hn q) (N2 0x5606150c800b81814a08208a24508a2822822550c800b81814a08208a24508a08a28224e40b0c800b81819045e603403200 [_,_,_,_,_] Yt left q)
     rw[GC h]at l;injection l
  apply ay;intro hn;exact s2 p (bp 0x75114a08914a24e20018803e200 Yt le hn) (l6 0x75114a24528224601118027e240 Yt p1 hp) (xK 0x1980c80c08064034c8460198406200 Yt len en a2) xj
theorem QeL(hr:∀d∈row,0<d)(R:Run row b e p):∃x,1<=x/\x<row.length/\jp row x=ae/\ef row x=(b,e,p):=by
 refine ay λcG=>?_;refine l4 (QeK hr R) λx x1 x2 x3=>?_;have p1:=R.p1;have len:=R.len;have en:=R.en;have gl:eF row p x=b:=QeI (qv x1) (λj h1 h2=>R.per j h1 (xK 0x3a00d80060d84081a00d361140e200 Yt x2 len h2)) R.left;have gr:eL row p row.length (x+p)=e:=QeJ hr p1 (E7) (E6) (fz 0x64032181832006064034c8440 Yt x2 len) en (λj h1 h2=>by have:=R.per (j-p) (fz 0x54840508a08a24528228a2462c8418380606403200 Yt x1 h1) (xK 0x55800508a08a24508a2820893880d82d800e4201800d840e200 Yt x1 h1 h2);rw[Tk (by exact bR 0x190206403200 Yt h1)]at this;exact this.symm) R.right;have d:ef row x=(b,e,p):=by unfold ef;exact ag x3 (ag gl (ag gr rfl))
 apply cG;clear cG;refine(oh x (aQ 0x18824e200 Yt x1) (sH 0x528a48a24e2203a04060d84201800d3611406200 Yt x1 x2 len en) ?_ d);unfold jp;refine ag d ?_;simp only[bo,bl];exact⟨aQ 0x38800e200 Yt x1,bR 0x1501014228a24528228918b0104c84464034c8440 Yt len⟩
theorem Si(row:List Nat)(t:Nat×Nat×Nat):∀(ps:List Nat)(acc:List (Nat×Nat×Nat)),t∈ps.foldl (λacc place=>if jp row place=ae/\ef row place∉acc then acc++[ef row place]else acc) acc↔t∈acc\/∃x∈ps,jp row x=ae/\t=ef row x
 |[],acc=>by simp
 |x::ps,acc=>by
  simp only[tT,Si row t ps];by_cases q:jp row x=ae/\ef row x∉acc
  ·rw[aw q,gZ,o0];constructor
   ·rintro((h|h)|⟨y,h1,h2⟩)
    ·exact .inl h
    ·exact .inr (kc x (.head _) q.1 h)
    ·exact .inr (aO y (.tail _ h1) h2)
   ·rintro(h|⟨y,h1,h2⟩)
    ·exact .inl (.inl h)
    ·refine bX (cB.mp h1) (λg9=>?_) λh1=>?_
     ·clear h1;subst g9;exact .inl (.inr h2.2)
     ·exact .inr (aO y h1 h2)
  ·rw[az q];constructor
   ·rintro(h|⟨y,h1,h2⟩)
    ·exact .inl h
    ·exact .inr (aO y (.tail _ h1) h2)
   ·rintro(h|⟨y,h1,h2⟩)
    ·exact .inl h
    ·refine bX (cB.mp h1) (λg9=>?_) λh1=>?_
     ·clear h1;subst g9;by_cases z:ef row y∈acc
      ·refine ag h2.2 ?_;exact .inl z
      ·exact absurd ⟨h2.1,z⟩ q
     ·exact .inr (aO y h1 h2)
theorem Sj(row:List Nat):∀(ps:List Nat)(acc:List (Nat×Nat×Nat)),acc.Nodup->(ps.foldl (λacc place=>if jp row place=ae/\ef row place∉acc then acc++[ef row place]else acc) acc).Nodup
 |[],acc,h=>h
 |x::ps,acc,h=>by
  dsimp only[tT];refine Sj row ps _ ?_;by_cases q:jp row x=ae/\ef row x∉acc
  ·rw[aw q];rw[IQ];refine⟨h,by simp,λa ha b hb=>?_⟩;simp only[o0.mp hb];intro e;exact q.2 (e▸ha)
  ·rw[az q];exact h
theorem QeM(hr:∀d∈row,0<d)(b e p:Nat):(b,e,p)∈wg row↔Run row b e p:=by
 delta wg mq;rw[Si];constructor
 ·rintro(h|⟨x,h1,h2,h3⟩)
  ·cases h
  ·refine ay λcG=>?_;refine ay λcG=>?_;refine ai (nW.mp h1) λi hi av=>?_;clear h1;subst av;have:=QeH hr (by exact bL 0x60d3009249 Yt) (by exact LX hi) h2;rw[<-h3]at this;apply cG;clear cG;apply cG;clear cG;exact this
 ·intro R;refine ay λcG=>?_;refine fy (QeL hr R) λx h1 h2 h3 h4=>?_;apply cG;clear cG;exact .inr (kc x (nW.mpr (aO (x-1) (LV h1 h2) (LW h1))) h3 h4.symm)
theorem QeN(row:List Nat):(wg row).Nodup :=Sj row _ [] .nil
end
section
theorem QeO{row:List Nat}(hr:∀d∈row,0<d){p j:Nat}(hp:1<=p)(jA:p<=row.length)(hj:j<=row.length-p):(fk row p)[j]?=aa (decide (row.getD j 0=row.getD (j+p) 0)):=by
 unfold fk;have zl:(rT (λx1 x2:Nat=>x1==x2) row (row.drop p)).length =row.length-p:=by simp only[Uk,dL];exact bp 0xd2c020874114a08224528208225500814a08208208a08a24508a0820822822562c02342c0208180246200 Yt hp jA
 by_cases q:j<row.length-p
 ·rw[zt (by lia),cf (by lia),Qhm,List.getElem_drop];refine congrArg aa ?_;rw[eW,eW,cf (by lia),cf (show j+p<row.length by lia)];simp only[T9,zy p j];rw[gA,bV,bl]
 ·have:j=row.length-p:=by exact bu 0x74114a08914a0822562d020018b4080262d0200 Yt hj q
  clear hj q;subst this;rw[zu (by exact bR 0x18b4080162d0200 Yt zl)];refine ag zl ?_;rw[Nat.sub_self];have:=Dd hr (i:=row.length-p) (by exact LZ hp jA);rw[HX (i:=row.length-p+p) (by exact fN 0x54800508a2452822460c82c8000 Yt),eP (by exact aH 0x14a089f8100e001 Yt this)];rfl
theorem H3{ok:Nat->Bool}{p:Nat}(hp:1<=p)(S:Nat->Bool):∀(bs:List Bool)(place aZ:Nat),(∀i,i<bs.length->bs[i]?=aa (S (place+i)))->aZ<=place->(∀j,aZ<=j->j<place->S j=ae)->(aZ=0\/S (aZ-1)=af)->
  ∀b e q,(b,e,q)∈eS ok p bs place aZ↔q=p/\ok b=ae/\∃t,e=t+p/\place<=t/\t<place+bs.length/\S t=af/\b+p<=t/\(∀j,b<=j->j<t->S j=ae)/\(b=0\/S (b-1)=af)
 |[],place,aZ,_,_,_,_,b,e,q=>by simp only[eS,j0,false_iff,not_and,not_exists];intro _ _ t _ h1 h2;simp at h2;exact fZ (EK h1 h2)
 |true::bs,place,aZ,hb,pb,h1,h2,b,e,q=>by
  have s0:=hb 0 (by simp);simp only[cH,rV,IS]at s0;simp only[eS,H3 hp S bs (place+1) aZ (λi hi=>by have:=hb (i+1) (by simpa using hi);rwa[cU,show place+(i+1)=place+1+i by exact mX]at this) (by exact mV pb) (λj a c=>by
   by_cases z:j=place
   ·refine ag z ?_;exact s0.symm
   ·exact h1 j a (by exact LY c z)) h2 b e q]
  dsimp only[ce];constructor
  ·rintro⟨a,o,t,b1,b2,b3,b4,b5⟩;exact⟨a,o,t,b1,by exact oq b2,by exact bR 0x3830c940800e0d00c9200 Yt b3,b4,b5⟩
  ·rintro⟨a,o,t,b1,b2,b3,b4,b5⟩;refine⟨a,o,t,b1,?_,by exact bR 0x38340324800e0c3250200 Yt b3,b4,b5⟩;by_cases z:t=place
   ·rw[z, <-s0]at b4;injection b4
   ·exact xu b2 z
 |false::bs,place,aZ,hb,pb,h1,h2,b,e,q=>by
  have s0:=hb 0 (by simp);simp only[cH,rV,IS]at s0;rw[eS,gZ,H3 hp S bs (place+1) (place+1) (λi hi=>by have:=hb (i+1) (by simpa using hi);rwa[cU,show place+(i+1)=place+1+i by exact mX]at this) (by exact xz) (λj a c=>by exact fZ (bp 0x2e0411800c920e0c9200 Yt a c)) (.inr (by rw[zD];exact s0.symm)) b e q];rw[ce];constructor
  ·rintro(h|⟨a,o,t,b1,b2,b3,b4,b5⟩)
   ·split at h
    ·rename_i c;simp only[o0,zx]at h;clear pb;obtain⟨rfl,rfl,rfl⟩:=h;exact⟨rfl,c.2,place,rfl,by exact AH,by exact fN 0xe0c3248000 Yt,s0.symm,by exact AI hp c.1,h1,h2⟩
    ·cases h
   ·exact⟨a,o,t,b1,by exact oq b2,by exact bR 0x3830c940800e0d00c9200 Yt b3,b4,b5⟩
  ·rintro⟨a,o,t,b1,b2,b3,b4,b5,b6,b7⟩;by_cases z:t=place
   ·left;clear hb s0 b2 b3;subst z;have eb:b=aZ:=by
     by_cases u:b<aZ
     ·refine bX h2 (λh2=>?_) λh2=>?_
      ·exact bp 0x508a256008380216040 Yt u h2
      ·rw[b6 (aZ-1) (by exact xE u) (by exact f7 0x54900528228a24508a2820893882c90066091880d8406200 Yt hp b5 pb)]at h2;injection h2
     ·by_cases v:aZ<b
      ·refine bX b7 (λb7=>?_) λb7=>?_
       ·exact bp 0x508a256200380216040 Yt v b7
       ·rw[h1 (b-1) (by exact xE v) (by exact bu 0x54900528228a24508a28224e40b240188246403200 Yt hp b5)]at b7;injection b7
      ·exact Fa u v
    clear h2 pb h1;subst eb;rw[aw ⟨by exact bu 0x54040508a08a2452822822462c0408188246403200 Yt hp b5,o⟩];simp only[o0,zx];exact⟨trivial,b1,a⟩
   ·right;exact⟨a,o,t,b1,by exact xu b2 z,by exact bR 0x38340324800e0c3250200 Yt b3,b4,b5,b6,b7⟩
theorem Df{ok:Nat->Bool}{p:Nat}:∀(bs:List Bool)(place aZ:Nat),∀t∈eS ok p bs place aZ,place+p<=t.2.1/\t.2.2=p
 |[],_,_,t,h=>by simp[eS]at h
 |true::bs,place,aZ,t,h=>by dsimp only[eS]at h;have:=Df bs _ _ t h;exact⟨E5 this.1,L6 this.2 this.2⟩
 |false::bs,place,aZ,t,h=>by
  simp only[eS,gZ]at h;refine bX h (λh=>?_) λh=>?_
  ·split at h
   ·refine ag (o0.mp h) ?_;exact⟨dj _,rfl⟩
   ·cases h
  ·have:=Df bs _ _ t h;exact⟨E5 this.1,L6 this.2 this.2⟩
theorem H4{ok:Nat->Bool}{p:Nat}:∀(bs:List Bool)(place aZ:Nat),(eS ok p bs place aZ).Nodup
 |[],_,_=>by simp[eS]
 |true::bs,place,aZ=>by dsimp only[eS];exact H4 bs _ _
 |false::bs,place,aZ=>by
  rw[eS,IQ];refine⟨by split<;>simp,H4 bs _ _,λa ha b hb=>?_⟩;split at ha
  ·refine ag (o0.mp ha) ?_;intro e;have:=(Df bs _ _ b hb).1;rw[<-e]at this;dsimp only at this;exact aQ 0xb810460c8003203240 Yt this
  ·cases ha
theorem Sk{β:Type}{f:Nat->List β}(g:β->Nat):∀l:List Nat,l.Nodup->(∀i∈l,(f i).Nodup /\∀t∈f i,g t=i)->(l.flatMap f).Nodup
 |[],_,_=>by simp
 |i::l,hn,h=>by rw[Qhp,IQ];refine ay λcG=>?_;refine aF (h i (.head _)) λh1 h2=>?_;apply cG;clear cG;refine⟨h1,Sk g l (rC.mp hn).2 λj hj=>h j (.tail _ hj),λa ha b hb=>?_⟩;refine ai (Uo.mp hb) λj hj hb=>?_;intro e;have e1:=h2 a ha;have e2:=(h j (.tail _ hj)).2 b hb;rw[<-e,e1]at e2;exact(rC.mp hn).1 (e2▸hj)
theorem QeP(signs row:List Nat):(pM signs row).Nodup :=by unfold pM;refine Sk (λt=>t.2.2-1) _ QgW λi _=>⟨H4 _ _ _,λt ht=>?_⟩;have:=(Df _ _ _ t ht).2;exact bp 0x1524074114a24528228208974114a08a08914a28208225620b2405832480360c9200 Yt this this
def H5(signs row:List Nat):Prop:=∀p b,1<=p->2*p<=row.length->b+p<=row.length->(iM signs p b=ae↔∀k,0<k->k<p->∃j,j<p/\row.getD (b+(j+k)%p) 0≠row.getD (b+j) 0)
theorem Sl{signs row:List Nat}(hr:∀d∈row,0<d)(D:H5 signs row)(b e p:Nat):(b,e,p)∈pM signs row↔Run row b e p:=by
 unfold pM;rw[Uo];have sm:∀i,i<row.length/2->((b,e,p)∈eS (iM signs (i+1)) (i+1) (fk row (i+1)) 0 0↔_):=λi hi=>H3 (p:=i+1) (by exact pk) (λj=>decide (row.getD j 0=row.getD (j+(i+1)) 0)) (fk row (i+1)) 0 0 (λj hj=>by simp only[yX]at hj;rw[gB];exact QeO hr (by exact pk) (by exact aQ 0x9512052820824911880c900e6d1200 Yt hi) (by exact bR 0x18b0c940800e0c92c3250200 Yt hj)) (dj _) (λj h1 h2=>by lia) (.inl rfl) b e p;constructor
 ·rintro⟨i,h1,h2⟩;have hi:=mM.mp h1;obtain⟨rfl,ok,t,rfl,t1,t2,t3,t4,t5,t6⟩:=(sm i hi).mp h2;rw[yX]at t2;have pr:=(D (i+1) b (by exact pk) (by exact E2 hi) (by exact fz 0x54324860528208a24508a28a2466030c92003830c92c32486014064030c9200 Yt t2 t4)).mp ok;refine⟨by exact pk,by exact bR 0x1830c92100d30c92110064030c9200 Yt t4,by exact bu 0x2544854325020548228208249244508a0820822822462030c940039b44840e0c324b0c9408040 Yt hi t2,λj a c=>of_decide_eq_true (t5 j a (by exact bR 0x39000e0c32484030c9200 Yt c)),?_,?_,pr⟩
  ·refine bX t6 (λt6=>?_) λt6=>?_
   ·exact .inl t6
   ·exact .inr (of_decide_eq_false t6)
  ·rw[zD];exact λz=>of_decide_eq_false t3 z.symm
 ·intro R;have p1:=R.p1;have len:=R.len;have en:=R.en;have hp:p-1+1=p:=by exact LS p1
  refine⟨p-1,mM.mpr (by exact L7 len en hp),(sm (p-1) (by exact L7 len en hp)).mpr ?_⟩;refine ag hp ?_;refine⟨rfl,(D p b p1 (by exact fz 0x62136111800d3611406200 Yt len en) (by exact fz 0x62036101800d3611406200 Yt len en)).mpr R.prim,e-p,by exact bu 0x1521014228228974114a2452822560c82c84101882464034c8440 Yt p1 len,by exact fN 0x62c8001 Yt,by rw[yX];exact f7 0x55820508a08a28955800528208224508a2822820893830c92d82012d80066091800d3611406200 Yt p1 len en,?_,by exact bR 0x1521014228a24528228918b2100c80064034c8440 Yt len,λj h1 h2=>d6 (R.per j h1 (by exact bR 0x1540814a08224508a2893880d000e2d0200 Yt h2)),?_⟩
  ·refine eP ?_;rw[show e-p+p=e by exact bu 0x1521014228228974114a08914a25640320b2101882464034c8440 Yt p1 len];exact λz=>R.right z.symm
  ·refine bX R.left (λl=>?_) λl=>?_
   ·exact .inl l
   ·exact .inr (eP l)
theorem QeQ{signs row:List Nat}(hr:∀d∈row,0<d)(D:H5 signs row)(t:Nat×Nat×Nat):t∈pM signs row↔t∈wg row:=by obtain⟨b,e,p⟩:=t;rw[Sl hr D,QeM hr]
end
section
section
variable {f:Nat->Nat} (hf:∀x y,f x=f y->x=y)
include hf
theorem QeR(a b:List Nat):(a.map f==b.map f)=(a==b):=by
 rw[gA,bV,bV];constructor
 ·intro h;induction a generalizing b with
  |nil=>cases b with
   |nil=>rfl
   |cons y b=>injection h
  |cons x a ih=>cases b with
   |nil=>injection h
   |cons y b=>rw[cA,cA,Un]at h;exact ag (hf _ _ h.1) (ag (ih b h.2) rfl)
 ·rintro rfl;rfl
theorem yY:∀a b:List Nat,(a.map f).isPrefixOf (b.map f)=a.isPrefixOf b
 |[],b=>by simp
 |x::a,[]=>by simp
 |x::a,y::b=>by rw[cA,cA,Qhr,Qhr];refine ag (yY a b) ?_;congr 1;rw[gA,bV,bV];exact⟨hf _ _,λh=>by exact ag h rfl⟩
theorem QeS(a b:List Nat):(a.map f).isSuffixOf (b.map f)=a.isSuffixOf b:=by unfold List.isSuffixOf;rw[<-zp, <-zp,yY hf]
theorem Sm(w g:List Nat)(j:Nat):∀n k,pu (w.map f) (g.map f) j n k=pu w g j n k
 |0,_=>rfl
 |n+1,k=>by rw[pu,pu,bq, <-rU,yY hf];exact ag (Sm w g j n (k+1)) rfl
theorem Sn(w g:List Nat)(i j:Nat):i8 (w.map f) (g.map f) i j=i8 w g i j:=Sm hf w g j _ _
theorem QeT(w g:List Nat):ox (w.map f) (g.map f)=ox w g:=by unfold ox;rw[bq,Sn hf]
theorem H6(bZ:List Nat):∀n eB x,fA (bZ.map f) n (eB.map f) (x.map f)=(fA bZ n eB x).map λl=>l.map f
 |0,eB,x=>by simp[fA]
 |n+1,eB,[]=>by simp[fA]
 |n+1,eB,c::x=>by
  rw[cA,fA,fA, <-cA,yY hf,bq, <-rU];by_cases q:bZ.isPrefixOf (c::x)=ae
  ·rw[aw q,aw q,cA];have:=H6 bZ n [] ((c::x).drop bZ.length);rw[tU]at this;exact ag this rfl
  ·rw[az q,az q];have:=H6 bZ n (eB++[c]) x;rw[fn]at this;exact this
theorem H7(bj:List Nat)(e:Nat):∀ws s,kD (bj.map f) e (ws.map λl=>l.map f) s=kD bj e ws s
 |[],_=>rfl
 |w::r,s=>by rw[cA,kD,kD,Sn hf,bq,H7 bj e r]
theorem So(bj:List Nat)(s:Nat)(ws:List (List Nat)):tD (bj.map f) s (ws.map λl=>l.map f)=tD bj s ws:=by
 unfold tD;rw[List.getLast?_map];cases ws.getLast? with
 |none=>rfl
 |some w=>
  simp only[bF,bq,QeS hf]
  congr 1
  unfold wd
  rw[H7 hf, <-List.map_dropLast,H7 hf]
theorem H8(hO:f 46=46)(eO bj:List Nat):ik (eO.map f) (bj.map f)=ik eO bj:=by
 have hd:aU.map f=aU:=by simp[aU,hO]
 unfold ik;have e1:=QeT hf aU eO;rw[hd]at e1;refine ag e1 ?_;rw[QeR hf];have e2:=H6 hf aU (eO.length+1) [] eO;rw[hd,tU]at e2;have e3:gE aU (eO.map f)=(gE aU eO).map λl=>l.map f:=by unfold gE;rw[bq];exact e2
 refine ag e3 ?_;by_cases q:ox aU eO=af
 ·rw[aw q,aw q]
 ·rw[az q,az q];match gE aU eO with
  |[]=>rfl
  |[_]=>rfl
  |w::w1::r=>simp only[cA,bq,yY hf];have a:=So hf bj 0 (w::w1::r);have b:=So hf bj w.length (w1::r);simp only[cA]at a b;exact ag a (ag b rfl)
end
noncomputable def jq:Nat->List (List Nat)
 |0=>[[]]
 |n+1=>(jq n).flatMap λr=>[0::r,1::r,2::r]
theorem H9:∀(r:List Nat),(∀x∈r,x<3)->r∈jq r.length
 |[],_=>by simp[jq]
 |x::r,h=>by have hx:=h x (.head _);rw[ce,jq,Uo];refine(aO r (H9 r λy hy=>h y (.tail _ hy)) ?_);have this:=Fh hx;clear h hx;rcases this with rfl|rfl|rfl<;>simp
noncomputable def pO(r:List Nat):Bool:=(ey 1 (r.length-1)).all λk=>r.drop k++r.take k !=r
def wi(r:List Nat):Bool:=ik (aU++r++aU) (cj (r++r) (aa 1) (aa (-1)))==aa (!pO r)
theorem QeU:(jq 1).all wi=ae:=by kernel_rfl
theorem QeV:(jq 2).all wi=ae:=by kernel_rfl
theorem QeW:(jq 3).all wi=ae:=by kernel_rfl
theorem QeX:(jq 4).all wi=ae:=by kernel_rfl
theorem QeY:(jq 5).all wi=ae:=by kernel_rfl
noncomputable def nF(r:List Nat)(m:Nat):List Nat:=(f0 m).map λi=>r.getD (i%r.length) 0
def kI(u:List Nat)(p:Nat):List (List Nat×Bool):=
 let root:=u.take p
 let last:=u.drop (u.length-p)
 let uN:=u.length/p
 let left:=u.length%p
 [(dh aU (bz uN root)++aU,ae),
   (dh aU (bz (uN+1) root)++aU,af),
   (aU++dh aU (bz uN last),ae),
   (aU++dh aU (bz (uN+1) last),af),
   (dh aU (bz uN root),left==0),
   (dh aU (bz uN last),left==0),
   (dh aU (bz uN root++[last]),af),
   (u,ae),
   (root,af),
   (aU++((root++root.take 1++aU)++(root++root.take 1++aU)),decide (3*p<u.length)),
   (u.drop p++root,left==0),
   (root.take 1++[46]++u.drop 2,af)]
def tI(p:Nat)(r:List Nat):Bool:= !pO r||(ey (2*p) (11-2*p)).all λm=>(kI (nF r m) p).all (λt=>ik t.1 (nF r m)==aa t.2)&&ik ((nF r m).take p++aU++(nF r m).take p) ((nF r m).take p)==aa af
theorem QeZ:(jq 1).all (tI 1)=ae:=by kernel_rfl
theorem Qe0:(jq 2).all (tI 2)=ae:=by kernel_rfl
end
section
theorem Qe1:(jq 3).all (tI 3)=ae:=by kernel_rfl
end
section
theorem Qe2:(jq 4).all (tI 4)=ae:=by kernel_rfl
theorem Qe3:(jq 5).all (tI 5)=ae:=by kernel_rfl
end
section
theorem Qe4(f:α->β)(x:List α)(l h:Option Int):cj (x.map f) l h=(cj x l h).map f:=by unfold cj;rw[bq,rU,wU]
theorem Sp{α:Type}(x:List α){b e:Nat}(h:e<=x.length):cj x (aa (b:Int)) (aa (e:Int))=(x.take e).drop b:=by
 unfold cj i7;simp only;rw[az (show¬((b:Int)<0)from pl),az (show¬((e:Int)<0)from pl),show min x.length (max 0 (e:Int)).toNat =e from xG h];by_cases q:b<=x.length
 ·rw[show min x.length (max 0 (b:Int)).toNat =b from xG q]
 ·rw[wD (by rw[eV];exact bR 0xf6c00114208208a08936ceec001235eec00114228208208208a08208224508a08208208a08a08208224d21014208a08208208a0820820822450822822820822820820820891b4b3bb00048d0841e200 Yt q),wD (by rw[eV];exact bR 0xd21014208a08228914208a08a289180d0841e200 Yt q)]
theorem Qe5{signs:List Nat}{b p:Nat}(h:b+p<=signs.length):f9 signs b p=(signs.take (b+p)).drop b:=by unfold f9;rw[show(b:Int)+p=((b+p:Nat):Int)from fN 0x7411491495ec0c8003b08b00 Yt,Sp _ h]
theorem Sq(h1:1<=p)(h5:p<=5):(jq p).all wi=ae/\(jq p).all (tI p)=ae:=by
 have this:=V6 h1 h5;clear h1 h5;rcases this with rfl|rfl|rfl|rfl|rfl
 ·exact⟨QeU,QeZ⟩
 ·exact⟨QeV,Qe0⟩
 ·exact⟨QeW,Qe1⟩
 ·exact⟨QeX,Qe2⟩
 ·exact⟨QeY,Qe3⟩
theorem yZ{cw:List Nat}(h:b+p<=cw.length)(hi:i<p):((cw.take (b+p)).drop b).getD i 0=cw.getD (b+i) 0:=by rw[eW,tV,ue,aw (by exact bR 0x3832100c040e200 Yt hi),eW]
theorem Sr(hl:r.length=p):pO r=ae↔∀k,0<k->k<p->∃j,j<p/\r.getD ((j+k)%p) 0≠r.getD j 0:=by
 unfold pO;rw[eA];have key:∀k,0<k->k<p->((r.drop k++r.take k !=r)=ae↔∃j,j<p/\r.getD ((j+k)%p) 0≠r.getD j 0):=λk k1 k2=>by
  have g:∀j,j<p->(r.drop k++r.take k).getD j 0=r.getD ((j+k)%p) 0:=λj hj=>by
   rw[eW,eW];by_cases q:j<p-k
   ·rw[zt (by rw[dL];exact fz 0x55061540814a08208208914228228228955020528208208224508a28228a24e2d0600d8860e2d0200 Yt hl q),tV,qg (by exact bu 0x1540814228224508a28224e20340038840e2d0200 Yt k2 q),zy]
   ·rw[zu (by rw[dL];exact fz 0x55060528225540814228228a24528208a28a24600b4185886262d0200 Yt hl q),dL,ue,aw (by exact ou 0x55060508a08a08954b41800528208228224508a28228a08224e40b2d0600d8860e40138840e200 Yt hl k1 k2 hj),Nat.mod_eq_sub_mod (by exact bu 0x154081422822452822822460d00083884262d0200 Yt k2 q),qg (by exact bu 0x1520340014a08a24508a28a24e20b20340038840e200 Yt k2 hj)];congr 2;exact f7 0x1520301854040508a08208228954b01061d04528914a08208225d04528228a08228208914a08208225501014228208208a2552c041874114a24528228228228225d04528228a08a08208914a28208a08a08958b2030182cb010616210d8840e200 Yt hl hl k2
  rw[bne_iff_ne];constructor
  ·intro h;apply ay;intro hn;refine h (rE λj=>?_);by_cases q:j<p
   ·have e:r.getD ((j+k)%p) 0=r.getD j 0:=ay λz=>hn (aO j q z);rw[<-g j q]at e;rw[eW,eW]at e;rw[cf (by simp;exact f7 0xd61014208228228a08955060508a08208208228914a08208228228a089383d1840b41803621838840e200 Yt hl k2 q),cf (by exact xB hl q)]at e⊢;exact congrArg aa e
   ·rw[lJ (by simp;exact ou 0xd61014208208a08228955060528208228208a08228914228208a08228a082246003d1840b418588636218388426200 Yt hl hl k2 q),lJ (by exact bu 0x6010588426200 Yt hl q)]
  ·rintro⟨j,hj,bT⟩ e;rw[<-g j hj,e]at bT;exact bT rfl
 constructor
 ·intro h k k1 k2;exact(key k k1 k2).mp (h k (nW.mpr (aO (k-1) (k8 0x1525014228228a25524014a08a08a28a24508a28228a08938b2502c903621038004e200 Yt hl k1 k2) (aH 0x54901d04528224528a08225d04528914a0895834cb24024900e001 Yt k1))))
 ·intro h k hk;refine ai (nW.mp hk) λi hi av=>?_;clear hk;subst av;exact(key _ (bL 0xe0d3009241 Yt) (L8 hl hi)).mpr (h _ (bL 0xe0d3009241 Yt) (L8 hl hi))
section
variable {f g:Nat->Nat} (hf:∀x y,f x=f y->x=y) (hO:f 46=46) (hg:∀x y,x<3->y<3->g x=g y->x=y) {cw:List Nat} (hc:∀x∈cw,x<3)
theorem wj(h:i<cw.length):(cw.map g).getD i 0=g (cw.getD i 0):=by rw[eW,eW,dS];refine ag (cf h) ?_;rfl
include hc in
theorem Dg(h:i<cw.length):cw.getD i 0<3:=by rw[eW];refine ag (cf h) ?_;exact hc _ (wH h)
include hf hO hc
theorem Ss(h1:1<=p)(h5:p<=5)(hb:b+p<=cw.length):pL (cw.map f) p b=aa (!pO ((cw.take (b+p)).drop b)):=by
 have hd:aU.map f=aU:=by simp[aU,hO]
 generalize hr:(cw.take (b+p)).drop b=r;have lr:r.length=p:=by refine a8 hr ?_;rw[dL,eV];exact Fc h1 hb
 have rr:f9 (cw.map f) b p=r.map f:=by rw[Qe5 (by rw[bq];exact hb)];refine a8 hr ?_;rw[rU,wU]
 unfold pL;refine ag rr ?_;have e:=H8 hf hO (aU++r++aU) (cj (r++r) (aa 1) (aa (-1)));rw[fn,fn,hd, <-Qe4,fn]at e;refine ag e ?_;have w:=H9 r λx hx=>hc x (I0 (pW (hr▸hx)));rw[lr]at w;have:=eA.mp (Sq h1 h5).1 r w;exact bV.mp this
include hg
theorem Qe6(hn:cw.length<=10):H5 (cw.map f) (cw.map g):=λp b h1 h2 h3=>by
 rw[bq]at h2 h3;unfold iM;rw[Ss hf hO hc h1 (L9 hn h2) h3];rw[show((aa (!pO ((cw.take (b+p)).drop b))==aa af)=ae)=(pO ((cw.take (b+p)).drop b)=ae) by cases pO ((cw.take (b+p)).drop b)<;>simp];rw[Sr (p:=p) (by rw[dL,eV];exact Fc h1 h3)];have key:∀i j,i<p->j<p->(((cw.take (b+p)).drop b).getD i 0≠((cw.take (b+p)).drop b).getD j 0↔(cw.map g).getD (b+i) 0≠(cw.map g).getD (b+j) 0):=λi j hi hj=>by
  refine ag (yZ h3 hi) (ag (yZ h3 hj) ?_);rw[wj (by exact AJ h3 hi),wj (by exact AJ h3 hj)];constructor
  ·exact λh e=>h (hg _ _ (Dg hc (AJ h3 hi)) (Dg hc (AJ h3 hj)) e)
  ·exact λh e=>h (by exact ag e rfl)
 constructor
 ·intro h k k1 k2;refine ai (h k k1 k2) λj hj bT=>?_;exact(aO j hj ((key _ _ (im _ (qu h1)) hj).mp bT))
 ·intro h k k1 k2;refine ai (h k k1 k2) λj hj bT=>?_;exact(aO j hj ((key _ _ (im _ (qu h1)) hj).mpr bT))
omit hg
omit hf hc
theorem Su(ls:List (List Nat)):dh aU (ls.map λl=>l.map f)=(dh aU ls).map f:=by
 have hd:aU.map f=aU:=by simp[aU,hO]
 induction ls with
 |nil=>rfl
 |cons x r ih=>cases r with
  |nil=>rfl
  |cons y r=>have j3:∀(x y:List Nat)(r:List (List Nat)),dh aU (x::y::r)=x++aU++dh aU (y::r):=λ_ _ _=>rfl;rw[cA,cA,j3,j3,fn,fn];refine ag hd (a8 ih ?_);rw[cA]
theorem Qe7(u:List Nat)(p:Nat):kI (u.map f) p=(kI u p).map λt=>(t.1.map f,t.2):=by
 have hd:aU.map f=aU:=by simp[aU,hO]
 have r1:∀(k:Nat)(x:List Nat),bz k (x.map f)=(bz k x).map λl=>l.map f:=λk x=>by rw[I9]
 have j2:∀(k:Nat)(x y:List Nat),dh aU (bz k (x.map f)++[y.map f])=(dh aU (bz k x++[y])).map f:=λk x y=>by rw[r1, <-Su hO,fn];rfl
 unfold kI;simp only[bq, <-wU, <-rU,j2];simp only[r1,Su hO,cA,tU,fn,hd,hO]
include hf hg hc
theorem Qe8(hn:cw.length<=10){b e p:Nat}(R:Run (cw.map g) b e p):(∀t∈kI (((cw.map f).take e).drop b) p,ik t.1 (((cw.map f).take e).drop b)=aa t.2)/\
  ik ((((cw.map f).take e).drop b).take p++aU++(((cw.map f).take e).drop b).take p) ((((cw.map f).take e).drop b).take p)=aa af:=by
 have hd:aU.map f=aU:=by simp[aU,hO]
 have p1:=R.p1
 have len:=R.len
 have en:=R.en
 rw[bq]at en
 have hb:b+p<=cw.length:=fz 0x62036101800d3611406200 Yt len en
 generalize hr:(cw.take (b+p)).drop b=r
 have lr:r.length=p:=by refine a8 hr ?_;rw[dL,eV];exact Fc p1 hb
 have w:=H9 r λx hx=>hc x (I0 (pW (hr▸hx)))
 rw[lr]at w
 have pr:pO r=ae:=by rw[Sr lr];intro k k1 k2;refine ai (R.prim k k1 k2) λj hj bT=>?_;refine(aO j hj (λz=>bT ?_));have m:=im (j+k) (show 0<p from qu p1);rw[<-hr,yZ hb m,yZ hb hj]at z;rw[wj (by exact AL len en m),wj (by exact AL len en hj)];exact ag z rfl
 have ur:(cw.take e).drop b=nF r (e-b):=by
  refine rE λi=>?_;unfold nF;rw[dS];by_cases q:i<e-b
  ·refine ag (DB q) ?_;rw[bF];refine ag lr (a8 hr ?_);rw[yZ hb (im _ (by exact qu p1)),tV,ue,aw (by exact Fb q)];have pi:=De (row:=cw.map g) (tau:=1) p1 R.per (i+1) i (xH) (Fb q);unfold mw wv at pi;have m:=im i (show 0<p from qu p1);have e2:(cw.map g).getD (b+i) 0=(cw.map g).getD (b+i%p) 0:=bp 0x74114a08914a0822562005d3b08253b002774ec2094ec009 Yt pi pi;rw[wj (by exact Fd en q),wj (by exact AL len en m)]at e2;rw[<-hg _ _ (Dg hc (by exact Fd en q)) (Dg hc (by exact AL len en m)) e2,eW,cf (by exact Fd en q)];rfl
  ·rw[lJ (by rw[dL,eV];exact sG 0xd608550d1820528208208208955020508a08a08228228914a08228208a08a289550d1820528208208208955020508a08a08228208914a08228208a0822891802d0d182262d0200 Yt q),lJ (by rw[TL];exact bR 0x1802d02262d0200 Yt q)];rfl
 have um:((cw.map f).take e).drop b=(nF r (e-b)).map f:=by refine a8 ur ?_;rw[rU,wU]
 refine ag um ?_
 have ak:=eA.mp (Sq p1 (f7 0x15228a246a581922481800d3611406200 Yt hn len en)).2 r w
 unfold tI at ak
 rw[pr,Bool.not_true,Bool.false_or]at ak
 have ak:=eA.mp ak (e-b) (nW.mpr (aO (e-b-2*p) (by exact f7 0x55361168914228228a2554005536112d000528208a28228224508a2822822554d844b40014a08208a08a28a24508a08a28228a08938b4d845a24b4d844b4001922481800d3611406200 Yt hn len en) (by exact bu 0x150101422824895532112c041d04528224528a08a08208974114a2452822560d32d32112c04094c844b0101882464034c8440 Yt p1 len)))
 refine aF (eg.mp ak) λk1 k2=>?_
 refine⟨λt ht=>?_,?_⟩
 ·rw[Qe7 hO]at ht;refine ai (gi.mp ht) λt0 h0 av=>?_;clear ht;subst av;have:=eA.mp k1 t0 h0;rw[H8 hf hO];exact bV.mp this
 ·have e3:=H8 hf hO ((nF r (e-b)).take p++aU++(nF r (e-b)).take p) ((nF r (e-b)).take p);rw[fn,fn,hd,wU]at e3;refine ag e3 ?_;exact bV.mp k2
end
end
section
noncomputable def Sv:List Nat:=[40,32,41,32,91,32,93,32,58,32,44,32,59,32,43,32,45,32,42,32,47,32,124,32,38,32,60,32,62,32,61,32,46,32,37,32,123,32,125,32,61,61,32,33,61,32,60,61,32,62,61,32,126,32,94,32,60,
    60,32,62,62,32,42,42,32,43,61,32,45,61,32,42,61,32,47,61,32,37,61,32,38,61,32,124,61,32,94,61,32,60,60,61,32,62,62,61,32,42,42,61,32,47,47,32,47,47,61,32,64,32,64,61,32,45,62,
    32,46,46,46,32,58,61,32,33]
noncomputable def rm:List (List Nat):=[[40],[41],[91],[93],[58],[44],[59],[43],[45],[42],[47],[124],[38],[60],[62],[61],[46],[37],[123],[125],[61,61],[33,61],[60,61],[62,61],[126],[94],[60,60],[62,62],[42,42],[43,61],[45,61],[42,61],[47,61],[37,61],[38,61],[124,61],[94,61],[60,60,61],[62,62,61],[42,42,61],[47,47],[47,47,61],[64],[64,61],[45,62],[46,46,46],[58,61],[33]]
theorem Qe9:gE [32] Sv=rm:=by kernel_rfl
def nG(a:Nat):List Nat:=rm.getD a []
noncomputable def y0(c:Nat):Bool:=[40,41,91,93,58,44,59,43,45,42,47,124,38,60,62,61,46,37,123,125,126,94,64,33].contains c
theorem Qfa:fS.all (λe=>e.1.all y0)=ae:=by kernel_rfl
theorem Sw:(f0 48).all (λa=>fS.lookup (nG a)==aa ((7+a:Nat):Int)&&(nG a).length !=0&&decide ((nG a).length <=3))=ae:=by kernel_rfl
noncomputable def Dh:List Nat:=[173,847,6150,6155,6156,6157,8203,8204,8205,8288,65279]
def mx(k:Nat):Nat:=if k>10 then 65013+k else Dh.getD k 0
theorem Ia:(f0 27).all (λk=> !y0 (mx k)&&oR.contains (mx k:Int)&&decide (mx k<1114112))=ae:=by kernel_rfl
noncomputable def tJ:List Nat:=[0,1,2,4,7,8,9,10,11,12]
def nH(c way:Nat):Nat:=if c>122\/way=0 then c else if way=1 then c-32 else 119711+c+52*tJ.getD (way-2) 0
noncomputable def pP:List Nat:=[172,174,846,848,6149,6151,6154,6158,8202,8206,8287,8289,65023,65040,65278,65280]
def fV(k:Nat):Nat:=if k<26 then 97+k else pP.getD (k-26) 0
def Di(z:Nat):List Nat:=match CD.lookup (z:Int)with
 |some l=>l
 |none=>(ww (bk [z])).cps.toList
def pQ(z:Nat)(l:List Nat):Bool:= !y0 z&& !oR.contains (z:Int)&&decide (z<1114112)&&Di z==l
theorem Ib:pQ 64256 [102,102]=ae/\pQ 13261 [107,107]=ae/\pQ 223 [115,115]=ae:=by refine⟨?_,?_,?_⟩<;>kernel_rfl
theorem Qfb:(f0 26).all (λk=>(f0 12).all λway=>pQ (nH (97+k) way) [97+k])=ae:=by kernel_rfl
theorem Qfc:pP.all (λc=>pQ c [c])=ae:=by kernel_rfl
end
section
theorem Ic(z:Nat):gR .ord [S' [z]]=aa (N' z):=rfl
theorem Qfd(i:Int):gR .chr [.int i]=(if 0<=i&&i<1114112 then aa (.str (bk [i.toNat]))else ac):=rfl
theorem Qfe(x:ar):gS .lower (.str x) []=(if ae&&decide ((ww x).length <=100000)then aa (.str (ww x))else ac):=rfl
theorem Qff{T:Tabs}{O:bn}{n:Nat}{f:Frm}{m:MM}{o:ME}{x:an}{r:Option an}(h:aj T O n o f=aa x)(h2:gS m x []=r):aj T O (n+1) (.meth m o []) f=r:=by rw[jG];refine ag h ?_;simp only[aV];exact h2
theorem tK{z:Nat}(h:z<1114112):gR .chr [.int (z:Int)]=aa (S' [z]):=by rw[Qfd,aw (by simp only[bo,bl];exact⟨ke,aH 0xf08208209286c00e082082092840 Yt h⟩),jY]
theorem Sx{Wf k:Nat}(z:Nat):aL Wf (k+1) 7 [S' [z]]=aa (.bool (oR.contains (z:Int))):=by rw[gx QdR rfl];refine Ret.evF ?_ rfl;show Ret aA _ _ 200 M8.body [.val (S' [z]),.un,.un] _;refine Ret.retE ?_;rw[FJ,gL (b:=.ord) (eE (d:=S' [z]) rfl) (Ic z)];show aa (Ix (oR.contains (z:Int)!=af))=_;rw[Bool.bne_false]
theorem Qfg{Wf k z:Nat}{l:List Nat}(h:Di z=l)(hl:l.length<=100000):aL Wf (k+1) 8 [S' [z]]=aa (S' l):=by
 rw[gx QdS rfl];have g:aj aA (aL Wf k) 40 (.gget (TB.b3) (.bi (BI.ord) [.v 0])) [.val (S' [z]),.un,.un,.un]=aa (match CD.lookup (z:Int)with|some l=>S' l|none=>.none):=by rw[MU,gL (b:=.ord) (eE (d:=S' [z]) rfl) (Ic z)];rfl
 refine Ret.evF ?_ rfl;show Ret aA _ _ 200 M9.body [.val (S' [z]),.un,.un,.un] _;refine Ret.next (cy g) ?_;unfold Di at h;cases q:CD.lookup (z:Int)with
 |some l'=>
  rw[q]at h
  dsimp only at h
  clear hl;subst h
  have t:aK aA (aL Wf k) 40 (.cmp (CO.isnt) (.v 1) (.kn)) [.val (S' [z]),.val (S' l'),.un,.un]=aa ae:=dJ (aC rfl) (bS nE (λ_ h=>by injection h)) rfl
  exact Ret.ife ae t (Ret.retE (aC rfl))
 |none=>
  rw[q]at h
  dsimp only at h
  have t:aK aA (aL Wf k) 40 (.cmp (CO.isnt) (.v 1) (.kn)) [.val (S' [z]),.val .none,.un,.un]=aa af:=dJ (aC rfl) (bS nE (λ_ h=>by injection h)) rfl
  refine Ret.no t ?_
  have e:ww (bk [z])=bk l:=Hd.mpr h
  refine Ret.retE (Qff (aC rfl) ?_)
  rw[Qfe];refine ag e ?_;rw[mf];refine ag (d6 hl) ?_;rfl
theorem Qfh{Wf k p:Nat}(h:p<27):aL Wf (k+1) 12 [.int (p:Int)]=aa (S' [mx p]):=by
 rw[gx QdW rfl];refine Ret.evF ?_ rfl;show Ret aA _ _ 200 Nd.body [.val (.int (p:Int)),.un] _;unfold mx;by_cases q:p>10
 ·rw[aw q];have t:aK aA (aL Wf k) 40 (.cmp (CO.gt) (.v 0) (.ki 10)) [.val (.int (p:Int)),.un]=aa ae:=dJ (aC rfl) (bS aT (λ_ h=>by injection h)) (tC (aH 0xfb00489380489 Yt q));refine Ret.ife ae t (Ret.retE ?_);refine gL (bS (aW aT (aC rfl) (c:=aa (.int ((65013+p:Nat):Int))) ?_) (λ_ h=>by injection h)) (tK (aH 0x3820820824a10c0ab2eb2e8939a640 Yt h));rw[gV];refine congrArg (λz=>aa (bQ z)) ?_;exact bL 0x1d045245257b0302acbacba243b00ab2eb2e89 Yt
 ·rw[az q];have t:aK aA (aL Wf k) 40 (.cmp (CO.gt) (.v 0) (.ki 10)) [.val (.int (p:Int)),.un]=aa af:=dJ (aC rfl) (bS aT (λ_ h=>by injection h)) (wc (aH 0x27b00489980489 Yt q));refine Ret.no t (Ret.retE ?_);have hp:p<Dh.length:=by show p<11;exact aH 0x39a240980489 Yt q
  have ub:Dh.getD p 0<1114112:=by have:=eA.mp Ia p (mM.mpr h);simp only[bo,bl]at this;have:=this.2;unfold mx at this;rwa[az q]at this
  refine gL (bS (gX (a:=.list (Dh.map N')) (bS (rfl) (λ_ h=>by injection h)) (aC rfl) (lG hp)) (λ_ h=>by injection h)) (tK ub)
theorem Qfi{Wf k c way:Nat}(hc:c<1114112)(wX:97<=c)(hw:way<12):aL Wf (k+1) 13 [.int (c:Int),.int (way:Int)]=aa (S' [nH c way]):=by
 rw[gx QdX rfl];refine Ret.evF ?_ rfl;show Ret aA _ _ 200 Nf.body [.val (.int (c:Int)),.val (.int (way:Int)),.un] _;unfold nH;have t1:aK aA (aL Wf k) 40 (.bop af [.cmp (CO.gt) (.v 0) (.ki 122),.cmp (CO.eq) (.v 1) (.ki 0)]) [.val (.int (c:Int)),.val (.int (way:Int)),.un]=aa (decide (c>122\/way=0)):=by
  have a:aK aA (aL Wf k) 39 (.cmp (CO.gt) (.v 0) (.ki 122)) [.val (.int (c:Int)),.val (.int (way:Int)),.un]=aa (decide (c>122)):=dJ (aC rfl) (bS aT (λ_ h=>by injection h)) (by
   by_cases q:c>122
   ·rw[tC (by exact aH 0xfb004ba24e012e89 Yt q)];exact ag (d6 q) rfl
   ·rw[wc (by exact aH 0x27b004ba266012e89 Yt q)];exact ag (eP q) rfl)
  have b:aK aA (aL Wf k) 39 (.cmp (CO.eq) (.v 1) (.ki 0)) [.val (.int (c:Int)),.val (.int (way:Int)),.un]=aa (decide (way=0)):=dJ (aC rfl) (bS aT (λ_ h=>by injection h)) (by
   by_cases q:way=0
   ·rw[HF (by exact aH 0x1d04528224525706c016040 Yt q)];exact ag (d6 q) rfl
   ·rw[HG (by exact aH 0x75114a24527f06c03e040 Yt q)];exact ag (eP q) rfl)
  rw[MV];simp only[qC,a,b];by_cases q1:c>122<;>by_cases q2:way=0<;>simp[q1,q2]
 by_cases q:c>122\/way=0
 ·rw[aw q];rw[d6 q]at t1;refine Ret.ife ae t1 (Ret.retE (gL (eE rfl) (tK hc)))
 ·rw[az q];rw[eP q]at t1;refine Ret.no t1 ?_;by_cases q2:way=1
  ·rw[aw q2];have t:aK aA (aL Wf k) 40 (.cmp (CO.eq) (.v 1) (.ki 1)) [.val (.int (c:Int)),.val (.int (way:Int)),.un]=aa ae:=dJ (aC rfl) (bS aT (λ_ h=>by injection h)) (HF (l6 0x1d0452822452820895c9b00589036240 Yt q2 q2));exact Ret.ife ae t (Ret.retE (gL (bS (aW (aC rfl) aT (pN (b:=32) (aH 0x600284600a889 Yt wX))) (λ_ h=>by injection h)) (tK (l6 0x150a100508a08224508a2893820820824a12c28403820820824a100600a889 Yt hc wX))))
  ·rw[az q2];have t:aK aA (aL Wf k) 40 (.cmp (CO.eq) (.v 1) (.ki 1)) [.val (.int (c:Int)),.val (.int (way:Int)),.un]=aa af:=dJ (aC rfl) (bS aT (λ_ h=>by injection h)) (HG (aH 0x75114a24528227f26c03e240 Yt q2));refine Ret.no t (Ret.retE ?_);have jD:way-2<tJ.length:=by show way-2<10;exact aH 0x55100528224508a28939224b4403a2240 Yt hw
   have wb:tJ.getD (way-2) 0<=12:=by
    have:∀i,i<10->tJ.getD i 0<=12:=by decide
    exact this _ jD
   refine gL (bS (aW (aW aT (aC rfl) (c:=aa (.int ((119711+c:Nat):Int))) (by rw[gV];refine congrArg (λz=>aa (bQ z)) ?_;exact bL 0x1d045245257b0303a6b22aa643b00e9ac8aa99 Yt)) (aW aT (gX (a:=.list (tJ.map N')) (bS (rfl) (λ_ h=>by injection h)) (aW (aC rfl) aT (pN (b:=2) (by lia))) (lG jD)) (c:=aa (.int ((52*tJ.getD (way-2) 0:Nat):Int))) ?_) (c:=aa (.int ((119711+c+52*tJ.getD (way-2) 0:Nat):Int))) ?_) (λ_ h=>by injection h)) (tK (by lia))
   ·exact rc (by decide) (ij (k:=5) (aH 0x3828401a2240 Yt wb) (by decide))
   ·rw[gV];refine congrArg (λz=>aa (bQ z)) ?_;exact fN 0x7411491495ec0d3222c4303a6b22aa643b13222c6c0c0e9ac8aa99 Yt
end
section
noncomputable def y5(c:Nat):Nat:=if c=102 then 64256 else if c=107 then 13261 else 223
def iP(c:Nat)(x:Int):List Nat:=
 if x%4=3/\(c=102\/c=107\/c=115)/\x/4%2=0 then[y5 c]else
 if x%4=3 then[nH c (x/4%12).toNat]++[nH c (x/4%12).toNat]else[nH c (x/4%12).toNat]
def eT(x:Int):Nat:=mx (x/48%27).toNat
def fX(a b c:Nat)(x:Int):List Nat:=if x%4=0 then nG a++[eT x]else if x%4=1 then nG b++[eT x]else iP c x++(if x/1296%2=1 then[eT x]else[])
noncomputable def eU(x:Int):List Nat:=if x%4=0 then[0]else if x%4=1 then[1]else if x%4=2 then[2]else[2,2]
noncomputable def gW(a b c k:Nat):Nat:=if k=0 then 7+a else if k=1 then 7+b else 159+c
noncomputable def iQ(a b c:Nat):List Int->List Nat->List Nat->List Nat×List Nat
 |[],t,k=>(t,k)
 |x::r,t,k=>if k.length>8 then(t,k)else iQ a b c r (t++fX a b c x) (k++eU x)
theorem wk(x:Int)(h0:0<k)(h:k<2^30):bM .fdiv (.int x) (.int k)=aa (.int (x/k)):=by show(if(decide (0<k)&&decide (k<2^30))=ae then aa (bQ (x/k))else ac)=_;rw[aw (by simp only[bo,bl];exact⟨h0,h⟩)]
theorem kJ(x:Int)(h0:0<k):bM .mod (.int x) (.int k)=aa (.int (x%k)):=by show(if 0<k then aa (bQ (x%k))else ac)=_;rw[aw h0]
noncomputable abbrev wo:List MS:=[.ife (.cmp (CO.gt) (.bi (BI.len) [.v 7]) (.ki 8)) [.brk] [],
  .asg 9 (.call 12 [.bin (BO.mod) (.bin (BO.fdiv) (.v 8) (.ki 48)) (.ki 27)]),
  .ife
   (.cmp (CO.lt) (.bin (BO.mod) (.v 8) (.ki 4)) (.ki 2))
   [.asg
         6
         (.bin (BO.add) (.bin (BO.add) (.v 6) (.idx (.v 1) (.idx (.lst [.v 3,.v 4]) (.bin (BO.mod) (.v 8) (.ki 4))))) (.v 9)),
       .app 7 (.bin (BO.add) (.ki 7) (.idx (.lst [.v 3,.v 4]) (.bin (BO.mod) (.v 8) (.ki 4))))]
   [.asg 10 (.call 13 [.v 5,.bin (BO.mod) (.bin (BO.fdiv) (.v 8) (.ki 4)) (.ki 12)]),
       .ife
         (.bop
           ae
           [.cmp (CO.eq) (.bin (BO.mod) (.v 8) (.ki 4)) (.ki 3),
      .cmp (CO.isin) (.v 5) (.tup [.ki 102,.ki 107,.ki 115]),
      .cmp (CO.eq) (.bin (BO.mod) (.bin (BO.fdiv) (.v 8) (.ki 4)) (.ki 2)) (.ki 0)])
         [.asg 10 (.bi (BI.chr) [.dget [(102,64256),(107,13261),(115,223)] (.v 5)])]
         [.ife (.cmp (CO.eq) (.bin (BO.mod) (.v 8) (.ki 4)) (.ki 3)) [.asg 10 (.bin (BO.add) (.v 10) (.v 10))] []],
       .asg 6 (.bin (BO.add) (.v 6) (.v 10)),
       .ife (.cmp (CO.eq) (.bin (BO.mod) (.bin (BO.fdiv) (.v 8) (.ki 1296)) (.ki 2)) (.ki 1)) [.asg 6 (.bin (BO.add) (.v 6) (.v 9))] [],
       .ext 7 (.bin (BO.mul) (.lst [.bin (BO.add) (.ki 159) (.v 5)]) (.bin (BO.sub) (.bin (BO.mod) (.v 8) (.ki 4)) (.ki 1)))]]
abbrev dQ(v0 v2:FV)(a b c:Nat)(t k:List Nat)(v8 v9 bf:FV)(tl:List FV):Frm:=v0::.val (.list (rm.map S'))::v2::.val (.int (a:Int))::.val (.int (b:Int))::.val (.int (c:Int))::.val (S' t)::.own ((k.map (gW a b c)).map N')::v8::v9::bf::tl
theorem Qfj{a:Nat}(h:a<48):hZ (.list (rm.map S')) (.int (a:Int))=aa (S' (nG a)):=HM (by have:a<rm.length:=h;simp only[dS,cf this];unfold nG;simp only[eW,cf this];rfl)
theorem Ie(h:a<48):(nG a).length <=3:=by have:=eA.mp Sw a (mM.mpr h);simp only[bo,bl]at this;exact this.2
theorem Dj(h:aj T O (n+2) e f=aa (.int x)):aK T O (n+4) (.cmp (CO.eq) e (.ki y)) f=aa (decide (x=y)):=by
 refine dJ (n:=n+2) h (bS aT (λ_ h=>by cases h)) ?_;by_cases q:x=y
 ·rw[HF q,d6 q]
 ·rw[HG q,eP q]
theorem Sy(h:f[i]?=aa (.own l)):aj T O (n+2) (.bi .len [.v i]) f=aa (.int l.length):=by dsimp only[oB];simp only[aV,iF,Frm.peek,h,bF];rfl
section
variable {wf kk fu:Nat} {a b c:Nat} (ha:a<48) (hb:b<48) (hc:97<=c) (iY:c<1114112)
variable (v0 v2:FV) (tl:List FV)
theorem Qfk(hk:k.length<=8)(v8 v9 bf:FV):bJ aA O Wf (fu+3) (.ife (.cmp (CO.gt) (.bi (BI.len) [.v 7]) (.ki 8)) [.brk] []) (dQ v0 v2 a b c t k v8 v9 bf tl)=aa (.next,dQ v0 v2 a b c t k v8 v9 bf tl):=by have t1:aK aA O 40 (.cmp (CO.gt) (.bi (BI.len) [.v 7]) (.ki 8)) (dQ v0 v2 a b c t k v8 v9 bf tl)=aa af:=dJ (Sy rfl) (bS aT (λ_ h=>by injection h)) (by rw[bq,bq];exact wc (aH 0x27b00089182240 Yt hk));exact gK af t1 cZ
theorem Qfl(hk:8<k.length)(v8 v9 bf:FV):bc aA O Wf (fu+5) wo (dQ v0 v2 a b c t k v8 v9 bf tl)=aa (.brk,dQ v0 v2 a b c t k v8 v9 bf tl):=by have t1:aK aA O 40 (.cmp (CO.gt) (.bi (BI.len) [.v 7]) (.ki 8)) (dQ v0 v2 a b c t k v8 v9 bf tl)=aa ae:=dJ (Sy rfl) (bS aT (λ_ h=>by injection h)) (by rw[bq,bq];exact tC (aH 0xfb00089380089 Yt hk));rw[bc,iD];refine ag t1 ?_;dsimp only[iE,WE,md,ja,iD]
theorem Qfm(v9 bf:FV):bJ aA (aL wf (kk+1)) wf (fu+2) (.asg 9 (.call 12 [.bin (BO.mod) (.bin (BO.fdiv) (.v 8) (.ki 48)) (.ki 27)])) (dQ v0 v2 a b c t k (.val (.int x)) v9 bf tl)=aa (.next,dQ v0 v2 a b c t k (.val (.int x)) (.val (S' [eT x])) bf tl):=by have h:((x/48%27).toNat :Int)=x/48%27:=gP 0x2d0b102d6996c2c40d636996c2c4074114a28208208914a08974114a2452822578da65b0b102cb236996c2c40 Yt;have u:=Qfh (Wf:=wf) (k:=kk) (p:=(x/48%27).toNat) (eY 0xb42c40b5a65b0b100508228208208228939a66c8da65b0b10178da65b0b102cb236996c2c40 Yt h);rw[h]at u;exact cy (oW (aW (aW (aC rfl) aT (wk x (by decide) (by decide))) aT (kJ _ (by decide))) u)
include ha hb in
theorem Sz{t k:List Nat}(hx:x%4=0\/x%4=1)(ht:t.length<=1000)(hk:k.length<=8)(bf:FV):
  bJ aA (aL wf (kk+1)) wf (fu+6) (wo.getD 2 .brk) (dQ v0 v2 a b c t k (.val (.int x)) (.val (S' [eT x])) bf tl)=aa (.next,dQ v0 v2 a b c (t++fX a b c x) (k++eU x) (.val (.int x)) (.val (S' [eT x])) bf tl):=by
 refine ay λcG=>?_
 obtain⟨s,hs,QjA,hT,hK⟩:∃s:Nat,s<48/\hZ (.list [.int (a:Int),.int (b:Int)]) (.int (x%4))=aa (.int (s:Int))/\fX a b c x=nG s++[eT x]/\(eU x).map (gW a b c)=[7+s]:=by
  rcases hx with h|h
  ·refine(oh a ha ?_ ?_ ?_)
   ·refine ag h ?_;rfl
   ·unfold fX;rw[aw h]
   ·unfold eU;rw[aw h];rfl
  ·refine(oh b hb ?_ ?_ ?_)
   ·refine ag h ?_;rfl
   ·unfold fX;rw[az (by exact AM h),aw h]
   ·unfold eU;rw[az (by exact AM h),aw h];rfl
 have t1:aK aA (aL wf (kk+1)) 40 (.cmp (CO.lt) (.bin (BO.mod) (.v 8) (.ki 4)) (.ki 2)) (dQ v0 v2 a b c t k (.val (.int x)) (.val (S' [eT x])) bf tl)=aa ae:=dJ (aW (aC rfl) aT (kJ x (by decide))) (bS aT (λ_ h=>by injection h)) (CV (by lia))
 have wl:=Ie hs
 have VG:∀(n:Nat)(t:List Nat),aj aA (aL wf (kk+1)) (n+8) (.idx (.lst [.v 3,.v 4]) (.bin (BO.mod) (.v 8) (.ki 4))) (dQ v0 v2 a b c t k (.val (.int x)) (.val (S' [eT x])) bf tl)=aa (.int (s:Int)):=λn t=>gX (bS (by rw[xV];simp only[aV,aC (T:=aA) (O:=aL wf (kk+1)) (n:=n+4) (f:=dQ v0 v2 a b c t k (.val (.int x)) (.val (S' [eT x])) bf tl) (i:=3) (d:=.int (a:Int)) rfl,aC (T:=aA) (O:=aL wf (kk+1)) (n:=n+4) (f:=dQ v0 v2 a b c t k (.val (.int x)) (.val (S' [eT x])) bf tl) (i:=4) (d:=.int (b:Int)) rfl,bF]) (λ_ h=>by injection h)) (aW (aC rfl) aT (kJ x (by decide))) QjA
 apply cG;clear cG
 refine gK ae t1 ?_
 rw[aw rfl]
 refine bN (g:=dQ v0 v2 a b c (t++fX a b c x) k (.val (.int x)) (.val (S' [eT x])) bf tl) (cy (aW (aW (aC rfl) (gX (eE rfl) (VG 29 t) (Qfj hs)) (oU (bp 0x60a249a0990c02060aae89206640 Yt ht wl))) (aC rfl) ?_)) ?_
 ·rw[oU (by simp only[dn,ce,js];exact bp 0x60a249a0990c32410c02060aae89206640 Yt ht wl)];refine ag hT ?_;rw[lM]
 ·refine bN (CZ (xs:=(k.map (gW a b c)).map N') (d:=N' (7+s)) rfl (aW aT (VG 31 _) ?_) (by rw[bq,bq];exact aH 0x382892682640182240 Yt hk)) ?_
  ·rw[gV];refine congrArg (λz=>aa (bQ z)) ?_;show(7:Int)+s=((7+s:Nat):Int);exact bL 0x1d045245257b030390ec039 Yt
  ·rw[cZ];show aa (Fl.next,dQ v0 v2 a b c (t++fX a b c x) k (.val (.int x)) (.val (S' [eT x])) bf tl|>.put 7 _)=_;have e:(k.map (gW a b c)).map N'++[N' (7+s)]=((k++eU x).map (gW a b c)).map N':=by rw[fn];refine ag hK ?_;rw[fn];rfl
   refine ag e ?_;rfl
theorem Qfn(c:Nat):dt .isin (.int (c:Int)) (.tuple [.int 102,.int 107,.int 115])=aa (decide (c=102\/c=107\/c=115)):=by show(if(iA (.int (c:Int))&&[bQ 102,.int 107,.int 115].all iA)=ae then aa ([bQ 102,.int 107,.int 115].any λy=>m6 y (.int (c:Int)))else ac)=_;rw[aw (by rfl)];refine congrArg aa ?_;simp only[List.any_cons,List.any_nil,m6,tQ,Bool.or_false];rw[gA];simp only[mK,bV,bl];exact or_congr (ci 102 c) (or_congr (ci 107 c) (ci 115 c))
theorem Qfo(h5:f[5]?=aa (.val (.int (c:Int))))(h:c=102\/c=107\/c=115):aj aA O 40 (.bi (BI.chr) [.dget [(102,64256),(107,13261),(115,223)] (.v 5)]) f=aa (S' [y5 c]):=by
 refine gL (d:=.int (y5 c:Int)) (bS ?_ (λ_ h=>by injection h)) (tK ?_)
 ·rw[MR,aC h5];clear h5;rcases h with rfl|rfl|rfl<;>rfl
 ·unfold y5;split<;>(try split)<;>decide
theorem SA(x:Int):(iP c x).length <=2:=by
 unfold iP;split
 ·simp
 ·split<;>simp
include hc iY in
theorem SD(hx:x%4=2\/x%4=3)(ht:t.length<=1000)(hk:k.length<=8)(bf:FV):∃sC,
  bJ aA (aL wf (kk+1)) wf (fu+12) (wo.getD 2 .brk) (dQ v0 v2 a b c t k (.val (.int x)) (.val (S' [eT x])) bf tl)=aa (.next,dQ v0 v2 a b c (t++fX a b c x) (k++eU x) (.val (.int x)) (.val (S' [eT x])) sC tl):=by
 have t1:aK aA (aL wf (kk+1)) 40 (.cmp (CO.lt) (.bin (BO.mod) (.v 8) (.ki 4)) (.ki 2)) (dQ v0 v2 a b c t k (.val (.int x)) (.val (S' [eT x])) bf tl)=aa af:=dJ (aW (aC rfl) aT (kJ x (by decide))) (bS aT (λ_ h=>by injection h)) (CW (by lia))
 refine⟨.val (S' (iP c x)),gK af t1 ?_⟩
 rw[az (by decide)]
 have hw:((x/4%12).toNat :Int)=x/4%12:=gP 0xb6102d8896e10358e225b84074114a28208208914a08974114a2452822578e225b840b2c8e225b840 Yt
 have sp:=Qfi (Wf:=wf) (k:=kk) (c:=c) (way:=(x/4%12).toNat) iY hc (eY 0x2d840b6225b84014208a08208208a24e889b238896e10178e225b840b2c8e225b840 Yt hw)
 rw[hw]at sp
 have ll:=SA (c:=c) x
 refine bN (g:=dQ v0 v2 a b c t k (.val (.int x)) (.val (S' [eT x])) (.val (S' [nH c (x/4%12).toNat])) tl) (cy (rf (aC rfl) (aW (aW (aC rfl) aT (wk x (by decide) (by decide))) aT (kJ _ (by decide))) sp)) ?_
 refine bN (g:=dQ v0 v2 a b c t k (.val (.int x)) (.val (S' [eT x])) (.val (S' (iP c x))) tl) ?_ ?_
 ·generalize hF:dQ v0 v2 a b c t k (.val (.int x)) (.val (S' [eT x])) (.val (S' [nH c (x/4%12).toNat])) tl=F;have f8:F[8]?=aa (.val (.int x)):=by refine a8 hF ?_;rfl
  have f5:F[5]?=aa (.val (.int (c:Int))):=by refine a8 hF ?_;rfl
  have VH:F[10]?=aa (.val (S' [nH c (x/4%12).toNat])):=by refine a8 hF ?_;rfl
  have e1:aK aA (aL wf (kk+1)) 39 (.cmp (CO.eq) (.bin (BO.mod) (.v 8) (.ki 4)) (.ki 3)) F=aa (decide (x%4=3)):=Dj (aW (aC f8) aT (kJ x (by decide)));have JP:aK aA (aL wf (kk+1)) 40 (.cmp (CO.eq) (.bin (BO.mod) (.v 8) (.ki 4)) (.ki 3)) F=aa (decide (x%4=3)):=Dj (aW (aC f8) aT (kJ x (by decide)));have e2:aK aA (aL wf (kk+1)) 39 (.cmp (CO.isin) (.v 5) (.tup [.ki 102,.ki 107,.ki 115])) F=aa (decide (c=102\/c=107\/c=115)):=dJ (aC f5) (bS (rfl) (λ_ h=>by injection h)) (Qfn c);have e3:aK aA (aL wf (kk+1)) 39 (.cmp (CO.eq) (.bin (BO.mod) (.bin (BO.fdiv) (.v 8) (.ki 4)) (.ki 2)) (.ki 0)) F=aa (decide (x/4%2=0)):=Dj (aW (aW (aC f8) aT (wk x (by decide) (by decide))) aT (kJ _ (by decide)));have T:aK aA (aL wf (kk+1)) 40 (.bop ae [.cmp (CO.eq) (.bin (BO.mod) (.v 8) (.ki 4)) (.ki 3),.cmp (CO.isin) (.v 5) (.tup [.ki 102,.ki 107,.ki 115]),.cmp (CO.eq) (.bin (BO.mod) (.bin (BO.fdiv) (.v 8) (.ki 4)) (.ki 2)) (.ki 0)]) F=aa (decide (x%4=3/\(c=102\/c=107\/c=115)/\x/4%2=0)):=by simp only[tG];simp only[gf,e1,e2,e3];by_cases q1:x%4=3<;>by_cases q2:c=102\/c=107\/c=115<;>by_cases q3:x/4%2=0<;>simp[q1,q2,q3]
  refine gK _ T ?_;unfold iP;by_cases q:x%4=3/\(c=102\/c=107\/c=115)/\x/4%2=0
  ·refine ag (d6 q) ?_;rw[aw q,aw rfl];refine bN (cy (Qfo f5 q.2.1)) ?_;rw[cZ];refine a8 hF ?_;rfl
  ·refine ag (eP q) ?_;rw[az q,az (by decide)];refine bN (gK _ JP ?_) cZ;by_cases q2:x%4=3
   ·refine ag (d6 q2) ?_;rw[aw q2,aw rfl];refine bN (cy (aW (aC VH) (aC VH) (oU (by simp)))) ?_;rw[cZ];refine a8 hF ?_;rfl
   ·refine ag (eP q2) ?_;rw[az q2,az (by decide),cZ];exact a8 hF rfl
 refine bN (g:=dQ v0 v2 a b c (t++iP c x) k (.val (.int x)) (.val (S' [eT x])) (.val (S' (iP c x))) tl) (cy (aW (aC rfl) (aC rfl) (oU (bp 0x60a249a0990c02060aae89206440 Yt ht ll)))) ?_
 have hT:fX a b c x=iP c x++(if x/1296%2=1 then[eT x]else[]):=by unfold fX;rw[az (by lia),az (by lia)]
 refine bN (g:=dQ v0 v2 a b c (t++fX a b c x) k (.val (.int x)) (.val (S' [eT x])) (.val (S' (iP c x))) tl) ?_ ?_
 ·have e1:aK aA (aL wf (kk+1)) 40 (.cmp (CO.eq) (.bin (BO.mod) (.bin (BO.fdiv) (.v 8) (.ki 1296)) (.ki 2)) (.ki 1)) (dQ v0 v2 a b c (t++iP c x) k (.val (.int x)) (.val (S' [eT x])) (.val (S' (iP c x))) tl)=aa (decide (x/1296%2=1)):=Dj (aW (aW (aC rfl) aT (wk x (by decide) (by decide))) aT (kJ _ (by decide)));refine gK _ e1 ?_;refine ag hT ?_;by_cases q:x/1296%2=1
  ·refine ag (d6 q) ?_;rw[aw q,aw rfl, <-lM];refine bN (cy (aW (aC rfl) (aC rfl) (oU (by simp;exact bp 0x6e9a49a0990c02060aae89206440 Yt ht ll)))) ?_;rw[cZ];rfl
  ·refine ag (eP q) ?_;rw[az q,az (by decide),kO,cZ]
 ·refine ay λcG=>?_;have hm:∃m:Nat,x%4-1=(m:Int)/\m<=2/\(eU x).map (gW a b c)=bz m (159+c):=by
   rcases hx with h|h
   ·refine(kc 1 (Z2 0xb6101d0452820820822452820820820895ec24b2638405d18e1037463840 [_] Yt h h) (EO) ?_);unfold eU;rw[az (by exact eY 0x2d84014208208a089fc18e1037463840 Yt h),az (by exact eY 0x2d84014208208a089fc98e1037463840 Yt h),aw h];rfl
   ·refine(kc 2 (eY 0x2d84074114a082245282082082257b112c98e1037663840 Yt h) (i5 0x6451 Yt) ?_);unfold eU;rw[az (by exact eY 0x2d84014208208a089fc18e1037663840 Yt h),az (by exact eY 0x2d84014208208a089fc98e1037663840 Yt h),az (by exact Ma h)];rfl
  refine l4 hm λm m1 m2 m3=>?_;have ex:aj aA (aL wf (kk+1)) 40 (.bin (BO.mul) (.lst [.bin (BO.add) (.ki 159) (.v 5)]) (.bin (BO.sub) (.bin (BO.mod) (.v 8) (.ki 4)) (.ki 1))) (dQ v0 v2 a b c (t++fX a b c x) k (.val (.int x)) (.val (S' [eT x])) (.val (S' (iP c x))) tl)=aa (.list (bz m (.int ((159+c:Nat):Int)))):=by
   refine aW (a:=.list [.int ((159+c:Nat):Int)]) ?_ (aW (aW (aC rfl) aT (kJ x (by decide))) aT (pJ _ _)) ?_
   ·rw[xV];simp only[aV,aW (T:=aA) (O:=aL wf (kk+1)) (n:=37) (f:=dQ v0 v2 a b c (t++fX a b c x) k (.val (.int x)) (.val (S' [eT x])) (.val (S' (iP c x))) tl) (aT (i:=159)) (aC (i:=5) (d:=.int (c:Int)) rfl) (gV _ _),bF];rfl
   ·refine ag m1 ?_;exact RQ (qx 0xb61005082282289182892682640dec00b263840 Yt m1)
  apply cG;clear cG;refine bN (g:=dQ v0 v2 a b c (t++fX a b c x) (k++eU x) (.val (.int x)) (.val (S' [eT x])) (.val (S' (iP c x))) tl) ?_ cZ;rw[FM];refine ag ex ?_;show(if((k.map (gW a b c)).map N').length +(bz m (bQ ((159+c:Nat):Int))).length <=100000 then _ else _)=_;rw[aw (by rw[bq,bq,lO];exact W2 0x2d84014208a08a289182892682643008182248dec00b263840 [_,_] [_] Yt hk m1)];have e:(k.map (gW a b c)).map N'++bz m (bQ ((159+c:Nat):Int))=((k++eU x).map (gW a b c)).map N':=by rw[fn];refine ag m3 ?_;rw[fn,I9];rfl
  refine ag e ?_;rfl
end
end
section
theorem Dk(x:Int):1<=(eU x).length /\(eU x).length <=2:=by
 unfold eU;split
 ·simp
 ·split
  ·simp
  ·split<;>simp
theorem Ig(ha:a<48)(hb:b<48)(x:Int):(fX a b c x).length <=4*(eU x).length :=by
 have wa:=Ie ha;have wb:=Ie hb;have h:=(Dk x).1;unfold fX;split
 ·simp;lia
 ·split
  ·simp;exact bp 0x528a8464c0843248199206009 Yt wb h
  ·have:=SA (c:=c) x;rw[dn];split<;>simp<;>(first|exact bp 0x52a22464c8843240188246440 Yt h this|exact bp 0x52a22464c8840188246440 Yt h this)
theorem SF(ha:a<48)(hb:b<48)(hc:97<=c)(iY:c<1114112)(v0 v2:FV)(tl:List FV):∀(xs:List Int)(t k:List Nat)(v8 v9 bf:FV),t.length<=4*k.length->k.length<=10->
  ∃x8 x9 sC,eJ (λf=>bc aA (aL wf (kk+1)) wf (fu+16) wo f) (e9 [8] ae) (xs.map .int) (dQ v0 v2 a b c t k v8 v9 bf tl)=aa (.next,dQ v0 v2 a b c (iQ a b c xs t k).1 (iQ a b c xs t k).2 x8 x9 sC tl)
 |[],t,k,v8,v9,bf,_,_=>(Ai v8 v9 bf rfl)
 |x::xs,t,k,v8,v9,bf,ht,hk=>by
  have bd:e9 [8] ae (.int x) (dQ v0 v2 a b c t k v8 v9 bf tl)=aa (dQ v0 v2 a b c t k (.val (.int x)) v9 bf tl):=rfl;rw[cA,eJ];refine ag bd ?_;by_cases q:8<k.length
  ·have st:=Qfl (fu:=fu+11) (a:=a) (b:=b) (c:=c) v0 v2 tl (t:=t) (k:=k) (O:=aL wf (kk+1)) (Wf:=wf) q (.val (.int x)) v9 bf;simp only[st];rw[iQ,aw q];exact⟨_,_,_,rfl⟩
  ·rw[iQ,az q];have k2:=Dk x;have t2:=Ig (c:=c) ha hb x;have s1:=Qfk (fu:=fu+12) (a:=a) (b:=b) (c:=c) v0 v2 tl (t:=t) (k:=k) (O:=aL wf (kk+1)) (Wf:=wf) (xI q) (.val (.int x)) v9 bf;have s2:=Qfm (wf:=wf) (kk:=kk) (fu:=fu+12) (a:=a) (b:=b) (c:=c) v0 v2 tl (t:=t) (k:=k) (x:=x) v9 bf;obtain⟨sC,s3⟩:∃sC,bJ aA (aL wf (kk+1)) wf (fu+13) (wo.getD 2 .brk) (dQ v0 v2 a b c t k (.val (.int x)) (.val (S' [eT x])) bf tl)=aa (.next,dQ v0 v2 a b c (t++fX a b c x) (k++eU x) (.val (.int x)) (.val (S' [eT x])) sC tl):=by
    rcases Fg x with h|h|h|h
    ·exact⟨bf,Sz (fu:=fu+7) ha hb v0 v2 tl (.inl h) (AN ht q) (xI q) bf⟩
    ·exact⟨bf,Sz (fu:=fu+7) ha hb v0 v2 tl (.inr h) (AN ht q) (xI q) bf⟩
    ·exact SD (fu:=fu+1) hc iY v0 v2 tl (.inl h) (AN ht q) (xI q) bf
    ·exact SD (fu:=fu+1) hc iY v0 v2 tl (.inr h) (AN ht q) (xI q) bf
   have st:bc aA (aL wf (kk+1)) wf (fu+16) wo (dQ v0 v2 a b c t k (.val (.int x)) v9 bf tl)=aa (.next,dQ v0 v2 a b c (t++fX a b c x) (k++eU x) (.val (.int x)) (.val (S' [eT x])) sC tl):=bN s1 (bN s2 (bN s3 cZ));simp only[st];exact SF ha hb hc iY v0 v2 tl xs _ _ _ _ _ (by rw[dn,dn];exact Mb ht t2) (by rw[dn];exact bp 0x64890c0226202246440 Yt q k2.2)
noncomputable def ga(xs:List Int):Int:=xs.sum+12585
def iR(xs:List Int):Nat:=(ga xs%48).toNat
def nJ(xs:List Int):Nat:=if(iR xs:Int)<=ga xs/48%47 then(ga xs/48%47).toNat +1 else(ga xs/48%47).toNat
def jX(xs:List Int):Nat:=fV (ga xs/2256%42).toNat
noncomputable def pR(xs:List Int):List Int:=xs.take 8++[0,1,48,97,4,3].drop xs.length
def my(xs:List Int):List Nat×List Nat:=iQ (iR xs) (nJ xs) (jX xs) (pR xs) [] []
theorem Ih(xs:List Int):iR xs<48/\nJ xs<48/\iR xs≠nJ xs:=by
 have:(iR xs:Int)=ga xs%48:=by unfold iR;exact gP 0x2d0b10358c2c4074114a28208208914a08974114a2452822578c2c40b2c8c2c40 Yt
 unfold nJ;split
 ·exact We this (by assumption)
 ·exact Wg this (by assumption)
theorem Qfp:(f0 42).all (λk=>decide (97<=fV k)&&decide (fV k<1114112)&&decide (97<=fV k/\fV k<131072-159))=ae:=by decide
theorem SG(xs:List Int):97<=jX xs/\jX xs<1114112/\159+jX xs<131072:=by have:=eA.mp Qfp (ga xs/2256%42).toNat (mM.mpr (Mc));simp only[bo,bl]at this;unfold jX;exact⟨aH 0x1802a224600a889 Yt this.1.1,⟨aH 0x3820820824a100e082082092840 Yt this.1.2,aH 0x57a6910820820a114224508a28938208208284303a69138be9a442082082840 Yt this.2.2⟩⟩
theorem Qfq(hl:xs.length<=63):aL wf (kk+2) 14 [.list (xs.map .int)]=aa (.tuple [S' (my xs).1,.list (((my xs).2.map (gW (iR xs) (nJ xs) (jX xs))).map N')]):=by
 rw[gx QdY rfl];refine eQ (Ih xs) λha hb lZ=>?_;refine eQ (SG xs) λhc iY _=>?_;refine Ret.evF ?_ rfl;show Ret aA _ _ 200 Ng.body [.val (.list (xs.map .int)),.un,.un,.un,.un,.un,.un,.un,.un,.un,.un,.un,.un,.un,.un,.un] _;have w:=RI (x:=Sv) (y:=[32]) (by decide) (by decide);rw[Qe9]at w;refine Ret.next (cy (d:=.list (rm.map S')) (by simp only[jG,xY,aV,bF];exact w)) ?_;have sm:gR .sum [.list (xs.map .int)]=aa (.int xs.sum):=by show(fB (xs.map .int)).map _=_;rw[yV];rfl
 refine Ret.next (cy (d:=.int (ga xs)) (aW (gL (eE rfl) sm) aT (gV _ _))) ?_;have e1:ga xs%48=(iR xs:Int):=by unfold iR;exact gP 0x2d0b10358c2c4074114a08914a28208208974114a08914a257b2c8c2c408c2c40 Yt
 refine Ret.next (cy (d:=.int (iR xs:Int)) (aW (aC rfl) aT ((kJ _ (by decide)).trans (by exact ag e1 rfl)))) ?_;refine Ret.next (cy (aW (aW (aC rfl) aT (wk _ (by decide) (by decide))) aT (kJ _ (by decide)))) ?_;refine Ret.next (g:=[.val (.list (xs.map .int)),.val (.list (rm.map S')),.val (.int (ga xs)),.val (.int (iR xs:Int)),.val (.int (nJ xs:Int)),.un,.un,.un,.un,.un,.un,.un,.un,.un,.un,.un]) (gK (decide ((iR xs:Int)<=ga xs/48%47)) (dJ (aC rfl) (eE rfl) rfl) ?_) ?_
 ·unfold nJ;by_cases q:(iR xs:Int)<=ga xs/48%47
  ·refine ag (d6 q) ?_;rw[aw q,aw rfl];refine bN (cy (d:=.int (((ga xs/48%47).toNat +1:Nat):Int)) (aW (aC rfl) aT ((gV _ _).trans ?_))) cZ;refine congrArg (λz=>aa (bQ z)) ?_;exact gP 0x2d0b102dea96c2c40d63ea96c2c4074114a08914a28208208974114a08914a257b0326c8faa5b0b1003263ea96c2c40 Yt
  ·refine ag (eP q) ?_;rw[az q,az (by decide),cZ];have:ga xs/48%47=(((ga xs/48%47).toNat :Nat):Int):=gP 0x2d0b102dea96c2c40d63ea96c2c4074114a08914a28208208974114a08914a257b2c8faa5b0b1023ea96c2c40 Yt;refine a8 this ?_;rfl
 have e2:ga xs/2256%42=((ga xs/2256%42).toNat :Int):=gP 0x2d0926a102d4a96c249a840d634a96c249a84074114a08914a28208208974114a08914a257b2c8d2a5b0926a10234a96c249a840 Yt;have e3:(ga xs/2256%42).toNat <42:=eY 0xb4249a840b52a5b0926a1005082282082082289392a6c8d2a5b0926a1037b2c8d2a5b0926a10234a96c249a840 Yt e2;have g8:fV (ga xs/2256%42).toNat =jX xs:=rfl;generalize (ga xs/2256%42).toNat =m at e2 e3 g8;refine Ret.next (cy (d:=.int ((97+m:Nat):Int)) (aW aT (aW (aW (aC rfl) aT (wk _ (by decide) (by decide))) aT (kJ _ (by decide))) ((gV _ _).trans (by refine ag e2 ?_;refine congrArg (λz=>aa (bQ z)) ?_;exact bL 0x1d045245257b0300a8890ec00a889 Yt)))) ?_;refine Ret.next (g:=[.val (.list (xs.map .int)),.val (.list (rm.map S')),.val (.int (ga xs)),.val (.int (iR xs:Int)),.val (.int (nJ xs:Int)),.val (.int (jX xs:Int)),.un,.un,.un,.un,.un,.un,.un,.un,.un,.un]) (gK (decide (((97+m:Nat):Int)>122)) (dJ (aC rfl) (bS aT (λ_ h=>by injection h)) rfl) ?_) ?_
 ·refine a8 g8 ?_;unfold fV;by_cases q:m<26
  ·rw[eP (by exact aH 0x9ec0c02a2252e89392640 Yt q),az (by decide),aw q];rw[cZ];rfl
  ·rw[d6 (by exact aH 0x3ec0c02a2252e89992640 Yt q),aw rfl,az q];have hm:m-26<pP.length:=by show m-26<16;exact qx 0x2d0926a102d4a96c249a84055264014a08208208208208914228208a08208208a24e0912d2640dec0234a96c249a840 Yt e2
   refine bN (cy (gX (a:=.list (pP.map N')) (bS (rfl) (λ_ h=>by injection h)) (aW (aC rfl) aT ((pJ _ _).trans (show _=aa (bQ ((m-26:Nat):Int))from ?_))) (lG hm))) cZ;refine congrArg (λz=>aa (bQ z)) ?_;exact aH 0x1549901d04528224528a08225d04528914a0895ec2d26402dae89b0300a889992640 Yt q
 refine Ret.next (cy oV) ?_;refine Ret.next (rfl) ?_;refine pj (SF (wf:=wf) (kk:=kk) (fu:=174) ha hb hc iY (.val (.list (xs.map .int))) (.val (.int (ga xs))) [.un,.un,.un,.un,.un] (pR xs) [] [] .un .un .un (by simp) (by simp)) λx8 x9 sC lp=>?_;refine Ret.next (rj (rh (d:=.list ((pR xs).map .int)) (aW (kE (aC rfl) nE aT (RX (k:=8) (by decide))) (kE (a:=.list ([0,1,48,97,4,3].map .int)) (rfl) (ri rfl) nE (RW (by rw[bq];exact aH 0x608228a8b26401bae40 Yt hl))) (yW (by simp;exact bL 0x540c4d00224508228228a08914208a08228224d00224508228208228914208a08208a2460a249a0990cb031d00089 Yt)|>.trans ?_)) rfl rfl) lp) ?_
 ·unfold pR;rw[bq,fn,wU,rU]
 refine Ret.next (rfl) ?_;exact Ret.retE (rfl)
end
section
def gz(r:List Nat):Nat:=if(fS.lookup (r.take 3)).isSome then 3 else if(fS.lookup (r.take 2)).isSome then 2 else 1
def SH(r t o:List Nat):Prop:=t=r.take (gz r)/\o.length<=10/\((∃v:Nat,fS.lookup t=aa (v:Int)/\o=[v])\/(fS.lookup t=ac/\∃z,t=[z]/\((oR.contains (z:Int)=ae/\o=[])\/(oR.contains (z:Int)=af/\∃l,Di z=l/\o=l.map λs=>159+s))))
inductive Chain:List Nat->List Nat->Prop
 |nil:Chain [] []
 |cons {t r o os:List Nat}:SH (t++r) t o->t≠[]->Chain r os->Chain (t++r) (o++os)
theorem Qfr{text r:List Nat}{at_ s:Nat}(h:text.drop at_=r):cj text (aa (at_:Int)) (aa ((at_:Int)+s))=r.take s:=by
 unfold cj i7;simp only;rw[az (show¬((at_:Int)<0)from pl),az (show¬((at_:Int)+s<0)from fN 0x27043b08b00 Yt)];refine a8 h ?_;refine rE λi=>?_;simp only[tV,ue,ue,tV];by_cases q:at_<=text.length
 ·rw[show min text.length (max 0 (at_:Int)).toNat =at_ from xG q];by_cases z:i<s
  ·rw[aw z];by_cases y:at_+i<text.length
   ·rw[aw (by exact fz 0xf43b18b00045082082282275ec3b18b0004508a08a08208224db3b0ec62c00140508208a08228208a08208a24508208a08208208208208a0893b4b3b0ec62c00140320039820e403200 Yt z y)]
   ·rw[lJ (by exact bR 0x183200426403200 Yt y)];split<;>rfl
  ·rw[az z,az (by exact sG 0xf43b08b10075ec3b08b1004db3b0ec22c40160508228208a08208208224508228228a08208208224db3b0ec22c40160508228208a08228208208914208a08a28208a082082275ec3b08b1004db3b0ec22c40160508228208a08208208224508228228a08208208224db3b0ec22c40160508228208a08228208208a24508228228a08228208208a266d2cec3b08b100580c0426200 Yt z)]
 ·rw[lJ (show text.length<=at_+i from bR 0x18340021e200 Yt q),lJ (show text.length<=min text.length (max 0 (at_:Int)).toNat +i from bR 0x3db00045082082282275eec00114228228208208936ceec00120508208228228208a08208224508208a082082082082089183434b3bb0004821e200 Yt q)];split<;>split<;>rfl
theorem Qfs{text r:List Nat}{at_ s:Nat}(h:text.drop at_=r)(h1:at_<=1000)(h2:s<=3):gF (S' text) (.int (at_:Int)) (.int ((at_:Int)+s))=aa (S' (r.take s)):=by have e:=HL (a:=text) (l:=at_) (h:=(at_:Int)+s) (by exact⟨EZ,aH 0x3c20820820820820820820820820820a1b00182aba240 Yt h1⟩) (by exact⟨LG,bp 0x3c20820820820820820820820820820a10ec02c2060aae89206640 Yt h1 h2⟩);rw[Qfr h]at e;exact e
noncomputable abbrev Ii:ME:=.bop ae [.cmp (CO.gt) (.v 3) (.ki 1),.gIn (TB.tok) ae (.sl (.v 0) (.v 2) (.bin (BO.add) (.v 2) (.v 3)))]
theorem SJ{O:bn}{n:Nat}{text r:List Nat}{at_ s:Nat}(h:text.drop at_=r)(h1:at_<=1000)(h2:s<=3)(v1:FV)(tl:List FV):aj aA O (n+3) (.sl (.v 0) (.v 2) (.bin (BO.add) (.v 2) (.v 3))) (.val (S' text)::v1::.val (.int (at_:Int))::.val (.int (s:Int))::tl)=aa (S' (r.take s)):=by have c1:bM .add (.int (at_:Int)) (.int (s:Int))=aa (.int ((at_:Int)+s)):=rfl;have c2:=Qfs h h1 h2;exact kE (aC rfl) (aC rfl) (aW (aC rfl) (aC rfl) c1) c2
theorem SK{O:bn}{n:Nat}{neg:Bool}{e:ME}{f:Frm}{t:List Nat}(h:aj aA O n e f=aa (S' t)):aK aA O (n+2) (.gIn (TB.tok) neg e) f=aa ((fS.lookup t).isSome !=neg):=by rw[vr rfl,FJ];refine ag h ?_;rfl
theorem Qft{O:bn}{text:List Nat}{at_ s:Nat}(v1:FV)(tl:List FV):aK aA O 39 (.cmp (CO.gt) (.v 3) (.ki 1)) (.val (S' text)::v1::.val (.int (at_:Int))::.val (.int (s:Int))::tl)=aa (decide (1<s)):=dJ (aC rfl) (bS aT (λ_ h=>by injection h)) (by
  by_cases q:1<s
  ·rw[tC (by exact aH 0xfb0024e009 Yt q)];exact ag (d6 q) rfl
  ·rw[wc (by exact aH 0x27b00266009 Yt q)];exact ag (eP q) rfl)
theorem Qfu{O:bn}{text r:List Nat}{at_ s:Nat}(h:text.drop at_=r)(h1:at_<=1000)(h2:s<=3)(v1:FV)(tl:List FV):aK aA O 39 (.gIn (TB.tok) ae (.sl (.v 0) (.v 2) (.bin (BO.add) (.v 2) (.v 3)))) (.val (S' text)::v1::.val (.int (at_:Int))::.val (.int (s:Int))::tl)=aa ((fS.lookup (r.take s)).isSome !=ae):=SK (neg:=ae) (SJ (O:=O) (n:=34) h h1 h2 v1 tl)
theorem Qfv{a b:ME}{T:Tabs}{O:bn}{n:Nat}{f:Frm}{x y:Bool}(h1:aK T O n a f=aa x)(h2:aK T O n b f=aa y):aK T O (n+1) (.bop ae [a,b]) f=aa (x&&y):=by simp only[tG];simp only[gf,h1,h2];clear h1;cases x<;>(clear h2;cases y)<;>rfl
theorem Qfw(s:Nat)(q:Bool):(decide (1<s)&&(q !=ae))=decide (1<s/\q=af):=by by_cases h:1<s<;>cases q<;>simp[h]
theorem Ij{O:bn}{text r:List Nat}{at_ s:Nat}(h:text.drop at_=r)(h1:at_<=1000)(h2:s<=3)(v1:FV)(tl:List FV):aK aA O 40 Ii (.val (S' text)::v1::.val (.int (at_:Int))::.val (.int (s:Int))::tl)=aa (decide (1<s/\(fS.lookup (r.take s)).isSome =af)):=(Qfv (Qft v1 tl) (Qfu h h1 h2 v1 tl)).trans (congrArg aa (Qfw s _))
theorem SL{O:bn}{Wf fu:Nat}{text:List Nat}{at_:Nat}(v1:FV)(tl:List FV)(s:Nat)(hs:1<=s):bc aA O Wf (fu+3) [.asg 3 (.bin (BO.sub) (.v 3) (.ki 1))] (.val (S' text)::v1::.val (.int (at_:Int))::.val (.int (s:Int))::tl)=aa (.next,.val (S' text)::v1::.val (.int (at_:Int))::.val (.int ((s-1:Nat):Int))::tl):=bN (cy (aW (aC rfl) aT (pN (b:=1) hs))) cZ
theorem Ik{t:Frm->Option Bool}{b:Frm->Option (Fl×Frm)}{W:Nat}{f g:Frm}{r:Option (Fl×Frm)}(h1:t f=aa ae)(h2:b f=aa (.next,g))(h3:ek t b W g=r):ek t b (W+1) f=r:=by simp only[ek,h1];simp only[h2];exact h3
theorem Dl{t:Frm->Option Bool}{b:Frm->Option (Fl×Frm)}{W:Nat}{f:Frm}(h1:t f=aa af):ek t b (W+1) f=aa (.next,f):=by simp only[ek,h1]
theorem Qfx{O:bn}{Wf fu W:Nat}{text r:List Nat}{at_:Nat}(h:text.drop at_=r)(h1:at_<=1000)(v1:FV)(tl:List FV):
  ek (λf=>aK aA O 40 Ii f) (λf=>bc aA O Wf (fu+3) [.asg 3 (.bin (BO.sub) (.v 3) (.ki 1))] f) (W+3) (.val (S' text)::v1::.val (.int (at_:Int))::.val (.int ((3:Nat):Int))::tl)=aa (.next,.val (S' text)::v1::.val (.int (at_:Int))::.val (.int ((gz r:Nat):Int))::tl):=by
 have t3:=Ij (O:=O) (s:=3) h h1 (by decide) v1 tl
 have t2:=Ij (O:=O) (s:=2) h h1 (by decide) v1 tl
 have t1:=Ij (O:=O) (s:=1) h h1 (by decide) v1 tl
 have s3:=SL (O:=O) (Wf:=Wf) (fu:=fu) (text:=text) (at_:=at_) v1 tl 3 (by decide)
 have s2:=SL (O:=O) (Wf:=Wf) (fu:=fu) (text:=text) (at_:=at_) v1 tl 2 (by decide)
 unfold gz
 generalize (fS.lookup (r.take 3)).isSome =q3 at t3⊢
 generalize (fS.lookup (r.take 2)).isSome =q2 at t2⊢
 generalize (fS.lookup (r.take 1)).isSome =q1 at t1
 cases q3
 ·refine Ik t3 s3 ?_;cases q2
  ·exact Ik t2 s2 (Dl (t1.trans rfl))
  ·exact Dl t2
 ·exact Dl t3
theorem Qfy{O:bn}{n i:Nat}{f:Frm}{t:List Nat}(h:f[i]?=aa (.val (S' t))):aK aA O (n+3) (.gIn (TB.tok) af (.v i)) f=aa ((fS.lookup t).isSome):=by rw[SK (aC h)];generalize (fS.lookup t).isSome =q;cases q<;>rfl
abbrev SM:List MS:=[.asg 3 (.ki 3),
  .whl Ii [.asg 3 (.bin (BO.sub) (.v 3) (.ki 1))],
  .asg 4 (.sl (.v 0) (.v 2) (.bin (BO.add) (.v 2) (.v 3))),
  .ife
   (.gIn (TB.tok) af (.v 4))
   [.app 1 (.gGet (TB.tok) (.v 4))]
   [.ife
         (.cmp (CO.isnt) (.call 7 [.v 4]) (.kb ae))
         [.ext 1 (.comp [ac,ac,ac] 1 (.bin (BO.add) (.ki 159) (.bi (BI.ord) [.v 1])) (.bin (BO.add) (.ks []) (.call 8 [.v 4])) [])]
         []],
  .asg 2 (.bin (BO.add) (.v 2) (.bi (BI.len) [.v 4]))]
abbrev gY(text acc:List Nat)(at_:Nat)(v3 v4:FV):Frm:=[.val (S' text),.own (acc.map N'),.val (.int (at_:Int)),v3,v4,.un,.un,.un,.un]
theorem Qfz{wf kk fu:Nat}{text r t o acc:List Nat}{at_:Nat}(h:text.drop at_=r)(h1:at_<=1000)(S:SH r t o)(jC:acc.length<=50000)(v3 v4:FV):
  ∃x3 x4,bc aA (aL (wf+3) (kk+1)) (wf+3) (fu+14) SM (gY text acc at_ v3 v4)=aa (.next,gY text (acc++o) (at_+t.length) x3 x4):=by
 refine ay λcG=>?_
 obtain⟨s1,s2,s3⟩:=S
 apply cG;clear cG
 have szb:gz r<=3:=by unfold gz;split<;>(try split)<;>(first|exact i5 0x6659 Yt|exact i5 0x6651 Yt|exact i5 0x6649 Yt)
 refine⟨.val (.int ((gz r:Nat):Int)),.val (S' t),?_⟩
 refine bN (g:=gY text acc at_ (.val (.int 3)) v4) (cy aT) ?_
 refine bN (g:=gY text acc at_ (.val (.int ((gz r:Nat):Int))) v4) (Da (Qfx (fu:=fu+8) (W:=wf) h h1 _ _)) ?_
 refine bN (g:=gY text acc at_ (.val (.int ((gz r:Nat):Int))) (.val (S' t))) (cy ((SJ h h1 szb _ _).trans (by exact a8 s1 rfl))) ?_
 have fin:bc aA (aL (wf+3) (kk+1)) (wf+3) (fu+10) [.asg 2 (.bin (BO.add) (.v 2) (.bi (BI.len) [.v 4]))] (gY text (acc++o) at_ (.val (.int ((gz r:Nat):Int))) (.val (S' t)))=aa (.next,gY text (acc++o) (at_+t.length) (.val (.int ((gz r:Nat):Int))) (.val (S' t))):=by have ln:aj aA (aL (wf+3) (kk+1)) 39 (.bi (BI.len) [.v 4]) (gY text (acc++o) at_ (.val (.int ((gz r:Nat):Int))) (.val (S' t)))=aa (.int (t.length:Nat)):=gL (eE rfl) (tE t);exact bN (cy (aW (aC rfl) ln (c:=aa (.int ((at_+t.length:Nat):Int))) rfl)) cZ
 refine bN (g:=gY text (acc++o) at_ (.val (.int ((gz r:Nat):Int))) (.val (S' t))) ?_ fin
 have tk:=Qfy (O:=aL (wf+3) (kk+1)) (n:=37) (i:=4) (f:=gY text acc at_ (.val (.int ((gz r:Nat):Int))) (.val (S' t))) (t:=t) rfl
 clear fin;rcases s3 with⟨v,l1,rfl⟩|⟨l1,z,rfl,l2⟩
 ·rw[l1]at tk;refine gK ae tk ?_;rw[aw rfl];have ge:aj aA (aL (wf+3) (kk+1)) 40 (.gGet (TB.tok) (.v 4)) (gY text acc at_ (.val (.int ((gz r:Nat):Int))) (.val (S' t)))=aa (N' v):=by
   rw[MT,aC (d:=S' t) rfl];show(fS.lookup t).map bQ=_;refine ag l1 ?_;rfl
  refine bN (CZ (xs:=acc.map N') rfl ge (by rw[bq];exact LH jC)) ?_;rw[cZ];have e:acc.map N'++[N' v]=(acc++[v]).map N':=by simp only[fn];rfl
  refine ag e ?_;rfl
 ·rw[l1]at tk;refine gK af tk ?_;rw[az (by decide)];rcases l2 with⟨b1,rfl⟩|⟨b1,l,fl,rfl⟩
  ·have t:aK aA (aL (wf+3) (kk+1)) 40 (.cmp (CO.isnt) (.call 7 [.v 4]) (.kb ae)) (gY text acc at_ (.val (.int ((gz r:Nat):Int))) (.val (S' [z])))=aa af:=dJ (b:=.bool ae) (oW (aC rfl) ((Sx z).trans (by exact ag b1 rfl))) (bS (by rw[xX]) (λ_ h=>by injection h)) rfl;refine bN (gK af t ?_) cZ;rw[az (by decide),kO];exact cZ
  ·have t:aK aA (aL (wf+3) (kk+1)) 40 (.cmp (CO.isnt) (.call 7 [.v 4]) (.kb ae)) (gY text acc at_ (.val (.int ((gz r:Nat):Int))) (.val (S' [z])))=aa ae:=dJ (b:=.bool ae) (oW (aC rfl) ((Sx z).trans (by exact ag b1 rfl))) (bS (by rw[xX]) (λ_ h=>by injection h)) rfl;rw[bq]at s2;refine bN (gK ae t ?_) cZ;rw[aw rfl];have ex:aj aA (aL (wf+3) (kk+1)) 40 (.comp [ac,ac,ac] 1 (.bin (BO.add) (.ki 159) (.bi (BI.ord) [.v 1])) (.bin (BO.add) (.ks []) (.call 8 [.v 4])) []) (gY text acc at_ (.val (.int ((gz r:Nat):Int))) (.val (S' [z])))=aa (.list (l.map λs=>N' (159+s))):=by
    refine C9 (g:=λs=>S' [s]) (rh (d:=S' l) (aW (a:=S' []) oV (oW (aC rfl) (Qfg fl (aH 0x182892682640192240 Yt s2))) (oU (by simp;exact aH 0x182892682640192240 Yt s2))) rfl rfl) ?_;intro s _;refine aW aT (gL (eE (d:=S' [s]) rfl) (Ic s)) ((gV _ _).trans ?_);refine congrArg (λz=>aa (bQ z)) ?_;show(159:Int)+(s:Int)=((159+s:Nat):Int);exact bL 0x1d045245257b0303a6910ec03a691 Yt
   refine bN (g:=gY text (acc++l.map λs=>159+s) at_ (.val (.int ((gz r:Nat):Int))) (.val (S' [z]))) ?_ cZ;rw[FM];refine ag ex ?_;show(if(acc.map N').length +(l.map λs=>N' (159+s)).length <=100000 then _ else _)=_;rw[aw (by rw[bq,bq];exact bp 0x1828926826430081824aa2a2248192240 Yt jC s2)];have e:acc.map N'++(l.map λs=>N' (159+s))=(acc++l.map λs=>159+s).map N':=by rw[fn,g6];rfl
   refine ag e ?_;rfl
set_option tactic.hygienic true in
theorem QfA{wf kk fu:Nat}{text:List Nat}:∀{r os:List Nat},Chain r os->∀(W at_:Nat)(acc:List Nat)(v3 v4:FV),text.drop at_=r->at_+r.length=text.length->text.length<=1000->r.length<W->acc.length+10*r.length<=40000->
  ∃x2 x3 x4,ek (λf=>aK aA (aL (wf+3) (kk+1)) 40 (.cmp (CO.lt) (.v 2) (.bi (BI.len) [.v 0])) f) (λf=>bc aA (aL (wf+3) (kk+1)) (wf+3) (fu+14) SM f) W (gY text acc at_ v3 v4)=aa (.next,gY text (acc++os) x2 x3 x4):=by
 intro r os C
 induction C with
 |nil=>
  intro W at_ acc v3 v4 h h1 h2 hW jC
  obtain⟨W,rfl⟩:∃k,W=k+1:=⟨W-1,aQ 0x54921d04528224528a08225d04528914a08958324b24820e200 Yt hW⟩
  have t:aK aA (aL (wf+3) (kk+1)) 40 (.cmp (CO.lt) (.v 2) (.bi (BI.len) [.v 0])) (gY text acc at_ v3 v4)=aa af:=dJ (aC rfl) (bS (gL (eE rfl) (tE text)) (λ_ h=>by injection h)) (CW (by simp at h1;exact aQ 0x9ec22c036200 Yt h1))
  refine⟨at_,v3,v4,?_⟩
  rw[kO]
  exact Dl t
 |cons S bT C ih=>
  rename_i t r o os
  intro W at_ acc v3 v4 h h1 h2 hW jC
  refine ay λcG=>?_
  have tl:1<=t.length:=by cases t with
   |nil=>exact absurd rfl bT
   |cons _ _=>simp
  have ol:o.length<=10:=S.2.1
  rw[dn]at h1 hW jC
  obtain⟨W,rfl⟩:∃k,W=k+1:=⟨W-1,bu 0x1525014228228974114a2452822560c92c94103900c8006009 Yt hW tl⟩
  have tt:aK aA (aL (wf+3) (kk+1)) 40 (.cmp (CO.lt) (.v 2) (.bi (BI.len) [.v 0])) (gY text acc at_ v3 v4)=aa ae:=dJ (aC rfl) (bS (gL (eE rfl) (tE text)) (λ_ h=>by injection h)) (CV (fz 0xfb18b085980c3400206009 Yt h1 tl))
  refine fi (Qfz (wf:=wf) (kk:=kk) (fu:=fu) h (fz 0x60aae892160030d8408182aba240 Yt h1 h2) S (acc:=acc) (bR 0x6092a8a8890060822b22890d30d0212240 Yt jC) v3 v4) λx3 x4 st=>?_
  refine pj (ih W (at_+t.length) (acc++o) x3 x4 (by rw[<-ze,h,List.drop_left]) (fz 0x74114a08914a0822566034032005980c34080366030d0200 Yt h1 h1) h2 (bu 0xe40818024e0c9403200 Yt tl hW) (by clear h;rw[dn];lia)) λy2 y3 y4 e=>?_
  apply cG;clear cG
  refine(Ai y2 y3 y4 ?_)
  rw[<-lM]
  exact Ik tt st e
theorem QfB{wf kk:Nat}{text os:List Nat}(C:Chain text os)(hl:text.length<=60)(hw:60<=wf):aL (wf+3) (kk+2) 15 [S' text]=aa (.list (os.map N')):=by rw[gx QdZ rfl];refine ay λcG=>?_;refine pj (QfA (wf:=wf) (kk:=kk) (fu:=182) (text:=text) C (wf+3) 0 [] .un .un rfl (bL 0x1d045245256003001 Yt) (aH 0x182aba2401a2e40 Yt hl) (bp 0xe0d90081a2e481808b9 Yt hl hw) (by simp;lia)) λx2 x3 x4 lp=>?_;apply cG;clear cG;refine Ret.evF ?_ rfl;show Ret aA _ _ 200 Nh.body [.val (S' text),.un,.un,.un,.un,.un,.un,.un,.un] _;refine Ret.next (rfl) ?_;refine Ret.next (cy aT) ?_;refine Ret.next (Da lp) ?_;refine Ret.next (rfl) ?_;exact Ret.retE (aC rfl)
end
section
theorem tL(h:z∈t)(hz:y0 z=af):fS.lookup t=ac:=by
 cases e:fS.lookup t with
 |none=>rfl
 |some v=>
  refine d7 (List.lookup_eq_some_iff.mp e) λl1 l2 q _=>?_
  have m:(t,v)∈fS:=by refine ag q ?_;simp
  have:=eA.mp (eA.mp Qfa _ m) z h
  rw[hz]at this;injection this
theorem SN(hz:y0 z=af):gz ([z]++r)=1:=by unfold gz;rw[tL (t:=([z]++r).take 3) (z:=z) (by simp) hz,tL (t:=([z]++r).take 2) (z:=z) (by simp) hz];rfl
theorem SO{r os:List Nat}(hk:k<27)(C:Chain r os):Chain ([mx k]++r) os:=by have q:=eA.mp Ia k (mM.mpr hk);simp only[bo,rI,bl]at q;refine Chain.cons (o:=[]) ⟨?_,by simp,.inr ⟨tL (z:=mx k) (by simp) q.1.1,mx k,rfl,.inl ⟨q.1.2,rfl⟩⟩⟩ (by simp) C;rw[SN q.1.1];rfl
theorem Dm{l r os:List Nat}(h:pQ z l=ae)(hl:l.length<=10)(C:Chain r os):Chain ([z]++r) (l.map (λs=>159+s)++os):=by unfold pQ at h;simp only[bo,rI,bl,bV]at h;refine Chain.cons ⟨?_,by rw[bq];exact hl,.inr ⟨tL (z:=z) (by simp) h.1.1.1,z,rfl,.inr ⟨h.1.1.2,l,h.2,rfl⟩⟩⟩ (by simp) C;rw[SN h.1.1.1];rfl
theorem SP{r os:List Nat}(ha:a<48)(hk:k<27)(C:Chain r os):Chain (nG a++([mx k]++r)) ([7+a]++os):=by
 have q:=eA.mp Ia k (mM.mpr hk);simp only[bo,rI,bl]at q;have w:=eA.mp Sw a (mM.mpr ha);simp only[bo,bl,bV,bne_iff_ne]at w;refine aF w λaM w3=>?_;obtain⟨w1,w2⟩:=aM;have hu:=q.1.1;refine Chain.cons (o:=[7+a]) ⟨?_,by simp,.inl (aO (7+a) w1 rfl)⟩ (by intro e;rw[e]at w2;exact w2 rfl) (SO hk C);generalize nG a=w at w1 w2 w3;generalize mx k=u at hu;unfold gz;match w,w1,w2,w3 with
 |[],_,h,_=>exact absurd rfl h
 |[x],w1,_,_=>
  rw[tL (t:=([x]++([u]++r)).take 3) (z:=u) (by simp) hu,tL (t:=([x]++([u]++r)).take 2) (z:=u) (by simp) hu]
  rfl
 |[x,y],w1,_,_=>
  rw[tL (t:=([x,y]++([u]++r)).take 3) (z:=u) (by simp) hu]
  refine ag (show([x,y]++([u]++r)).take 2=[x,y]from rfl) (ag w1 ?_)
  rfl
 |[x,y,z],w1,_,_=>
  refine ag (show([x,y,z]++([u]++r)).take 3=[x,y,z]from rfl) (ag w1 ?_)
  rfl
theorem QfC:pP.all (λc=>decide (122<c))=ae:=by decide
theorem QfD(hm:m<42)(hw:way<12):pQ (nH (fV m) way) [fV m]=ae:=by
 unfold fV;by_cases q:m<26
 ·rw[aw q];exact eA.mp (eA.mp Qfb m (mM.mpr q)) way (mM.mpr hw)
 ·rw[az q];have hi:m-26<pP.length:=by show m-26<16;exact aH 0x55264014a08914228a24e0912d2640392a40 Yt hm
  have e:pP.getD (m-26) 0∈pP:=by rw[eW];refine ag (cf hi) ?_;exact wH hi
  have b:=eA.mp QfC _ e;have l:=eA.mp Qfc _ e;generalize pP.getD (m-26) 0=c at b l;unfold nH;rw[aw (.inl (by simpa using b))];exact l
theorem QfE{r os:List Nat}(hm:m<42)(h:x%4=2\/x%4=3)(C:Chain r os):Chain (iP (fV m) x++r) ((eU x).map (gW a b (fV m))++os):=by
 have sp:=QfD (m:=m) (way:=(x/4%12).toNat) hm (gP 0x2d840b6225b840d638896e100528208208208208224528208208a0820820893a226c8e225b840 Yt);unfold iP eU;rw[az (show¬x%4=0 by lia),az (show¬x%4=1 by lia)];refine bX h (λh=>?_) λh=>?_
 ·rw[az (by lia),az (by exact eY 0x2d840142082082289fd98e1017463840 Yt h),aw h];exact Dm sp (by simp) C
 ·rw[az (show¬x%4=2 from Ma h),aw h];by_cases q:x%4=3/\(fV m=102\/fV m=107\/fV m=115)/\x/4%2=0
  ·rw[aw q];have lg:pQ (y5 (fV m)) [fV m,fV m]=ae:=by
    rcases q.2.1 with e|e|e<;>refine ag e ?_
    ·exact Ib.1
    ·exact Ib.2.1
    ·exact Ib.2.2
   exact Dm lg (by simp) C
  ·rw[az q,lM];exact Dm sp (by simp) (Dm sp (by simp) C)
theorem QfF{r os:List Nat}(ha:a<48)(hb:b<48)(hm:m<42)(C:Chain r os):Chain (fX a b (fV m) x++r) ((eU x).map (gW a b (fV m))++os):=by
 have hu:(x/48%27).toNat <27:=gP 0x2d0b102d6996c2c40d636996c2c4014a08208208208208914a08208228208208224e699b236996c2c40 Yt;have:=Fg x;unfold fX;rcases this with h|h|h
 ·rw[aw h,lM];unfold eU;rw[aw h];exact SP ha hu C
 ·rw[az (by exact AM h),aw h,lM];unfold eU;rw[az (by exact AM h),aw h];exact SP hb hu C
 ·rw[az (by lia),az (by lia),lM];refine QfE hm h ?_;split
  ·exact SO hu C
  ·exact C
theorem SQ(ha:a<48)(hb:b<48)(hm:m<42):∀(xs:List Int)(t k:List Nat),∃t' k',iQ a b (fV m) xs t k=(t++t',k++k')/\Chain t' (k'.map (gW a b (fV m)))
 |[],t,k=>(hU ([]) ([]) (by rw[iQ,kO,kO]) Chain.nil)
 |x::r,t,k=>by
  rw[iQ];by_cases q:k.length>8
  ·rw[aw q];exact(hU ([]) ([]) (by rw[kO,kO]) Chain.nil)
  ·rw[az q];refine d7 (SQ ha hb hm r (t++fX a b (fV m) x) (k++eU x)) λt' k' e C=>?_;refine(hU (fX a b (fV m) x++t') (eU x++k') (by refine ag e ?_;rw[lM,lM]) ?_);rw[fn];exact QfF ha hb hm C
theorem Il(ha:a<48)(hb:b<48):∀(xs:List Int)(t k:List Nat),t.length<=4*k.length->k.length<=10->
  (iQ a b c xs t k).1.length <=4*(iQ a b c xs t k).2.length /\(iQ a b c xs t k).2.length <=10/\k.length<=(iQ a b c xs t k).2.length
 |[],t,k,h1,h2=>⟨h1,h2,dj _⟩
 |x::r,t,k,h1,h2=>by
  rw[iQ];by_cases q:k.length>8
  ·rw[aw q];exact⟨h1,h2,dj _⟩
  ·rw[az q];have k2:=Dk x;have t2:=Ig (c:=c) ha hb x;have:=Il (c:=c) ha hb r (t++fX a b c x) (k++eU x) (by rw[dn,dn];exact Mb h1 t2) (by rw[dn];exact bp 0x64890c0226202246440 Yt q k2.2);refine⟨this.1,this.2.1,nR ?_ this.2.2⟩;rw[dn];exact As
theorem QfG:∀d∈eU x,d<3:=by
 unfold eU;intro d h;split at h
 ·simp at h;exact aH 0x399016040 Yt h
 ·split at h
  ·simp at h;exact aH 0x399016240 Yt h
  ·split at h<;>simp at h<;>exact aH 0x399016440 Yt h
theorem SS:∀(xs:List Int)(t k:List Nat),(∀d∈k,d<3)->∀d∈(iQ a b c xs t k).2,d<3
 |[],t,k,h=>h
 |x::r,t,k,h=>by
  rw[iQ];by_cases q:k.length>8
  ·rw[aw q];exact h
  ·rw[az q];refine SS r _ _ λd hd=>?_;refine bX (gZ.mp hd) (λz=>?_) λz=>?_
   ·exact h d z
   ·exact QfG d z
theorem QfH(xs:List Int):Chain (my xs).1 ((my xs).2.map (gW (iR xs) (nJ xs) (jX xs)))/\(my xs).1.length <=40/\(my xs).2.length <=10/\1<=(my xs).2.length /\∀d∈(my xs).2,d<3:=by
 have ab:=Ih xs;have hm:(ga xs/2256%42).toNat <42:=Mc;refine d7 (SQ ab.1 ab.2.1 hm (pR xs) [] []) λt' k' e C=>?_;have l:=Il (c:=jX xs) ab.1 ab.2.1 (pR xs) [] [] (by simp) (by simp);refine⟨?_,?_,?_,?_,?_⟩
 ·unfold my jX;refine ag e ?_;exact C
 ·exact nR l.1 (by have:=l.2.1;exact aH 0x52a1182a53021192240 Yt l.2.1)
 ·exact l.2.1
 ·unfold my;have:pR xs≠[]:=by
   intro z;have q:=congrArg dN z;unfold pR at q;rw[dn,eV,dL]at q;rw[show([0,1,48,97,4,3]:List Int).length =6 from rfl,js]at q;exact aH 0x540c4d00224508208a08228914208228208224d00224508208a08a08914208228208226e0415810cb031d00089 Yt q
  cases e:pR xs with
  |nil=>exact absurd e this
  |cons x r=>
   rw[iQ,az (by simp)]
   have k2:=Dk x
   have t2:=Ig (c:=jX xs) ab.1 ab.2.1 x
   have:=(Il (c:=jX xs) ab.1 ab.2.1 r ([]++fX (iR xs) (nJ xs) (jX xs) x) ([]++eU x) (by rw[dn,dn];simpa using t2) (by rw[dn];simp;exact aH 0x6489006440 Yt k2.2)).2.2
   rw[dn]at this
   simp only[js]at this
   exact bp 0x6209180246203001 Yt k2.1 this
 ·exact SS _ _ _ (by simp)
end
section
theorem SU:∀{xs:List an},(∀x∈xs,x.canLay0=ae/\x.depth<=7/\tQ x x=ae)->dt .ne (.list xs) (.list xs)=aa af:=λ{xs} h=>by
 have a:wG xs=ae/\wF xs<=7/\DP xs xs=ae:=by
  induction xs with
  |nil=>exact⟨rfl,tW _,rfl⟩
  |cons x r ih=>
   refine eQ (h x (fD ..)) λh1 h2 h3=>?_
   refine eQ (ih λy hy=>h y (eh _ hy)) λi1 i2 i3=>?_
   refine⟨?_,?_,?_⟩
   ·rw[wG];refine ag h1 (ag i1 ?_);rfl
   ·rw[wF];exact bp 0xd00814a08208228914a082082282246e7b0081b9206e40 Yt h2 i2
   ·rw[DP];refine ag h3 (ag i3 ?_);rfl
 have fl:iA (.list xs)=ae:=by unfold iA;rw[Um];refine ag a.1 ?_;rw[DO,d6 (by exact aH 0x60890c9006e40 Yt a.2.1)];rfl
 show(if(ae&&iA (.list xs)&&iA (.list xs))=ae then aa (m6 (.list xs) (.list xs))else ac).map (!·)=_;refine ag fl ?_;rw[m6,tQ];refine ag a.2.2 ?_;rfl
theorem QfI(l:List Nat):dt .ne (.list (l.map N')) (.list (l.map N'))=aa af:=SU λx h=>by refine ai (gi.mp h) λk _ av=>?_;subst av;refine⟨rfl,by rw[DO];exact i5 0x6e41 Yt,by simp[tQ]⟩
theorem SV:∀k:List Int,wG (k.map .int)=ae/\wF (k.map .int)<=6/\DP (k.map .int) (k.map .int)=ae
 |[]=>⟨rfl,tW _,rfl⟩
 |x::r=>by
  refine eQ (SV r) λi1 i2 i3=>?_;refine⟨?_,?_,?_⟩
  ·rw[cA,wG];refine ag i1 ?_;rfl
  ·rw[cA,wF,DO];exact aH 0x34004528208208914a0820822891b1ec0046c40 Yt i2
  ·rw[cA,DP];refine ag i3 ?_;simp[tQ]
theorem QfJ(l:List (List Int)):dt .ne (.list (l.map λx=>.tuple (x.map .int))) (.list (l.map λx=>.tuple (x.map .int)))=aa af:=SU λx h=>by refine ai (gi.mp h) λk _ av=>?_;subst av;have a:=SV k;exact⟨by rw[Um];exact a.1,by rw[DO];exact aH 0x1b90c9006c40 Yt a.2.1,by rw[tQ];exact a.2.2⟩
theorem QfK(s:Int):aL Wf (k+1) 9 [.int s]=aa (.bool (decide (s<256))):=by rw[gx QdT rfl];refine Ret.evF ?_ rfl;show Ret aA _ _ 200 Na.body [.val (.int s),.un] _;exact Ret.retE (nB (aC rfl) (bS aT (λ_ h=>by injection h)) rfl)
theorem QfL(s:Int):aL Wf (k+1) 10 [.int s]=aa (.bool (decide (s>=256))):=by rw[gx QdU rfl];refine Ret.evF ?_ rfl;show Ret aA _ _ 200 Nb.body [.val (.int s),.un] _;exact Ret.retE (nB (aC rfl) (bS aT (λ_ h=>by injection h)) rfl)
theorem QfM(s:Int):aL Wf (k+1) 11 [.int s]=aa (.bool (s==0)):=by rw[gx QdV rfl];refine Ret.evF ?_ rfl;show Ret aA _ _ 200 Nc.body [.val (.int s),.un] _;exact Ret.retE (nB (aC rfl) (bS aT (λ_ h=>by injection h)) rfl)
theorem QfN:aK T O (n+1) (.bop af es) f=qC (λe=>aK T O n e f) es:=by rw[MV]
theorem y6(h1:aj T O n l f=aa (.bool b))(h2:eZ T O n r f=aa (.bool b)):aK T O (n+2) (.cmp (CO.isnt) l r) f=aa af:=dJ h1 h2 (by clear h1 h2;cases b<;>rfl)
noncomputable abbrev SW:List MS:=[.ife
   (.bop
    af
    [.cmp (CO.isnt) (.call 9 [.v 3]) (.cmp (CO.lt) (.v 3) (.ki 256)),
         .cmp (CO.isnt) (.call 10 [.v 3]) (.cmp (CO.gt) (.v 3) (.ki 255)),
         .cmp (CO.isnt) (.call 11 [.v 3]) (.cmp (CO.eq) (.v 3) (.ki 0))])
   [.ret (.kb af)]
   []]
theorem QfO(v0 v1 v2:FV)(tl:List FV)(s:Int):bc aA (aL Wf (k+1)) Wf (fu+4) SW (v0::v1::v2::.val (.int s)::tl)=aa (.next,v0::v1::v2::.val (.int s)::tl):=by
 refine bN (gK af ?_ ?_) cZ
 ·rw[QfN];have a:aK aA (aL Wf (k+1)) 39 (.cmp (CO.isnt) (.call 9 [.v 3]) (.cmp (CO.lt) (.v 3) (.ki 256))) (v0::v1::v2::.val (.int s)::tl)=aa af:=y6 (oW (aC rfl) (QfK s)) (bS (nB (aC rfl) (bS aT (λ_ h=>by injection h)) rfl) (λ_ h=>by injection h));have b:aK aA (aL Wf (k+1)) 39 (.cmp (CO.isnt) (.call 10 [.v 3]) (.cmp (CO.gt) (.v 3) (.ki 255))) (v0::v1::v2::.val (.int s)::tl)=aa af:=y6 (oW (aC rfl) (QfL s)) (bS (nB (aC rfl) (bS aT (λ_ h=>by injection h)) (show aa (decide (s>255))=_ from rfl)) (λ_ h=>by injection h));have c:aK aA (aL Wf (k+1)) 39 (.cmp (CO.isnt) (.call 11 [.v 3]) (.cmp (CO.eq) (.v 3) (.ki 0))) (v0::v1::v2::.val (.int s)::tl)=aa af:=y6 (oW (aC rfl) (QfM s)) (bS (nB (aC rfl) (bS aT (λ_ h=>by injection h)) rfl) (λ_ h=>by injection h));simp only[qC,a,b,c]
 ·rw[az (by decide)];exact cZ
theorem SX(v0 v1 v2:FV)(tl:List FV):∀(l:List Int)(v3:FV),∃x3,eJ (λf=>bc aA (aL Wf (k+1)) Wf (fu+4) SW f) (e9 [3] ae) (l.map .int) (v0::v1::v2::v3::tl)=aa (.next,v0::v1::v2::x3::tl)
 |[],v3=>⟨v3,rfl⟩
 |s::r,v3=>by obtain⟨x3,e⟩:=SX (fu:=fu) (k:=k) (Wf:=Wf) v0 v1 v2 tl r (.val (.int s));have bd:e9 [3] ae (.int s) (v0::v1::v2::v3::tl)=aa (v0::v1::v2::.val (.int s)::tl):=rfl;refine⟨x3,?_⟩;rw[cA,eJ];refine ag bd ?_;simp only[QfO];exact e
noncomputable def kK(s:Nat):Nat:=if s>255 then 10 else 300+s
theorem QfP(ss:List (List Nat)):xR (ss.map S')=aa ss:=by
 induction ss with
 |nil=>rfl
 |cons x r ih=>
  rw[cA]
  show(xR (r.map S')).map ((bk x).cps.toList ::·)=_
  refine ag ih ?_;rfl
theorem SY(h1:x.length<=100000)(h2:(dh x ss).length <=100000):gS .join (S' x) [.list (ss.map S')]=aa (S' (dh x ss)):=by
 show(xR (ss.map S')).bind (λss=>if((bk x).length <=100000&&decide ((dh (bk x).cps.toList ss).length <=100000))=ae then aa (wO (bk (dh (bk x).cps.toList ss)))else ac)=_;rw[QfP,IZ,aw]
 ·rfl
 ·rw[mf];simp only[bo,bl];exact⟨h1,h2⟩
theorem Im:∀ss:List (List Nat),dh [] ss=ss.flatten
 |[]=>rfl
 |[x]=>by simp[dh]
 |x::y::r=>by rw[dh];refine ag (Im (y::r)) ?_;simp;exact λz=>by injection z
theorem SZ(f:Nat->Nat)(l:List Nat):(l.map λs=>[f s]).flatten =l.map f:=by
 induction l with
 |nil=>rfl
 |cons x r ih=>rw[cA,List.flatten_cons];refine ag ih ?_;rfl
theorem QfQ(c:Bool)(h:aK T O n t f=aa c)(h2:aj T O n (if c then a else b) f=aa d):aj T O (n+1) (.ite t a b) f=aa d:=by rw[A9];refine ag h ?_;clear h;cases c<;>exact h2
theorem S0(h:aj T O n o f=aa x)(h1:aj T O n e f=aa d)(h2:gS m x [d]=r):aj T O (n+1) (.meth m o [e]) f=r:=by rw[jG];refine ag h ?_;simp only[aV,h1,bF];exact h2
theorem QfR{row:List Nat}(h:f[2]?=aa (.val (.list (row.map N'))))(hn:row.length<=1000):aj aA O (n+12) (.meth
     (MM.join)
     (.ks [])
     [.comp [ac,ac,ac] 1 (.ite (.cmp (CO.gt) (.v 1) (.ki 255)) (.ks [10]) (.bi (BI.chr) [.bin (BO.add) (.ki 300) (.v 1)])) (.v 2) []]) f=aa (S' (row.map kK)):=by
 have c:aj aA O (n+11) (.comp [ac,ac,ac] 1 (.ite (.cmp (CO.gt) (.v 1) (.ki 255)) (.ks [10]) (.bi (BI.chr) [.bin (BO.add) (.ki 300) (.v 1)])) (.v 2) []) f=aa (.list ((row.map λs=>[kK s]).map S')):=by
  rw[g6];refine C9 (g:=N') (h:=S'∘λs=>[kK s]) (rh (aC h) rfl rfl) ?_;intro s _;refine QfQ (decide (((s:Nat):Int)>255)) (dJ (aC rfl) (bS aT (λ_ h=>by injection h)) rfl) ?_;show _=aa (S' [kK s]);unfold kK;by_cases q:s>255
  ·rw[d6 (by exact aH 0xfb00eba64e03ae99 Yt q),aw q,aw rfl];exact oV
  ·rw[eP (by exact aH 0x27b00eba66603ae99 Yt q),az q,az (by decide)];have e:bM .add (.int 300) (N' s)=aa (.int ((300+s:Nat):Int)):=(gV _ _).trans (by refine congrArg (λz=>aa (bQ z)) ?_;show(300:Int)+(s:Int)=_;exact bL 0x1d045245257b03022aa10ec022aa1 Yt);exact gL (bS (aW aT (aC rfl) e) (λ_ h=>by injection h)) (tK (aH 0x3820820824a10c08aa86603ae99 Yt q))
 refine(S0 (oV) c (SY (by simp) ?_)).trans ?_
 ·rw[Im,SZ,bq];exact Fe hn
 ·rw[Im,SZ]
end
section
theorem QfS{α:Type}(xs:List α){p:Nat}(h:1<=p):cj xs (aa (-(p:Int))) ac=xs.drop (xs.length-p):=by unfold cj i7;simp only;rw[aw (show-(p:Int)<0 from aH 0x3c1f2c006009 Yt h),zg,V4]
theorem S1{x:List Nat}{k:Nat}(h:k<=1000):gF (S' x) .none (.int (k:Int))=aa (S' (x.take k)):=(C8 (l:=ac) (h:=aa (k:Int)) rfl (tF (Ff h))).trans (by rw[RV])
theorem S2{x:List Nat}{k:Nat}(h:k<=1000):gF (S' x) (.int (k:Int)) .none =aa (S' (x.drop k)):=(C8 (l:=aa (k:Int)) (h:=ac) (tF (Ff h)) rfl).trans (by rw[RU])
theorem sln{x:List Nat}{p:Nat}(h1:1<=p)(h:p<=1000):gF (S' x) (.int (-(p:Int))) .none =aa (S' (x.drop (x.length-p))):=by have e:kh (.int (-(p:Int)))=aa (aa (-(p:Int))):=HR ⟨aH 0x3fcb00f020820820820820820820820820820a1182aba240 Yt h,bL 0xf08208208208208208208208208208287cb00 Yt⟩;exact(C8 (l:=aa (-(p:Int))) (h:=ac) e rfl).trans (by rw[QfS _ h1])
theorem slm{x:List Nat}{b e:Nat}(hb:b<=1000)(he:e<=x.length)(hx:x.length<=1000):gF (S' x) (.int (b:Int)) (.int (e:Int))=aa (S' ((x.take e).drop b)):=(C8 (l:=aa (b:Int)) (h:=aa (e:Int)) (tF (Ff hb)) (tF (bp 0x18208a2a2c99206008182aba240 Yt he hx))).trans (by rw[Sp _ he])
theorem QfV{x:List Nat}{m:Nat}(h:m<=1000):bM .mul (.list [S' x]) (.int (m:Int))=aa (.list ((bz m x).map S')):=by show(if(decide ((0:Int)<=m)&&decide ((m:Int)<=100000))=ae then aa (ui (bz (m:Int).toNat (.str (bk x))))else ac)=_;rw[aw (by simp;exact aH 0x70a249a099b00182aba240 Yt h),jY,I9]
theorem Dn:∀ss:List (List Nat),(∀x∈ss,x.length<=10)->(dh aU ss).length <=13*ss.length
 |[],_=>by simp[dh]
 |[x],h=>by have:=h x (by simp);simp[dh];exact aH 0x1aa240192240 Yt this
 |x::y::r,h=>by have h1:=h x (by simp);have h2:=Dn (y::r) λz hz=>h z (eh _ hz);have e:dh aU (x::y::r)=x++aU++dh aU (y::r):=rfl;have d:aU.length=3:=rfl;simp only[e,dn,dn,d];simp only[ce]at*;exact bu 0x1930c90c922a2430036501922501930c922a240 Yt h1 h2
theorem ro{x:List Nat}{m:Nat}(hx:x.length<=10)(hm:m<=12):(dh aU (bz m x)).length <=156:=by
 have:=Dn (bz m x) λz hz=>by refine ag (DH hz) ?_;exact hx
 simp only[lO]at this;lia
section
variable {O:bn} {n:Nat} {f:Frm}
theorem mz{a b:ME}{x y:an}(h1:aj aA O n a f=aa x)(h2:aj aA O n b f=aa y):aj aA O (n+1) (.tup [a,b]) f=aa (.tuple [x,y]):=by simp only[qE];simp only[aV,h1,h2,bF]
theorem S3{a:ME}{x:an}(h1:aj aA O n a f=aa x):aj aA O (n+1) (.lst [a]) f=aa (.list [x]):=by simp only[xV];simp only[aV,h1,bF]
theorem oX{b:Bool}:aj aA O (n+1) (.kb b) f=aa (.bool b):=by rw[xX]
theorem mA{a b:ME}{x y:List Nat}(h1:aj aA O n a f=aa (S' x))(h2:aj aA O n b f=aa (S' y))(h:x.length+y.length<=1000):aj aA O (n+1) (.bin .add a b) f=aa (S' (x++y)):=aW h1 h2 (oU (aQ 0x182892682643200182aba243200 Yt h))
theorem y7{i m:Nat}{c:ME}{x:List Nat}(h:f[i]?=aa (.val (S' x)))(hc:aj aA O (n+2) c f=aa (.int (m:Int)))(hm:m<=1000):aj aA O (n+3) (.bin .mul (.lst [.v i]) c) f=aa (.list ((bz m x).map S')):=aW (S3 (aC h)) hc (QfV hm)
theorem y8{e:ME}{ss:List (List Nat)}(h:aj aA O (n+1) e f=aa (.list (ss.map S')))(hl:(dh aU ss).length <=1000):aj aA O (n+2) (.meth .join (.ks [46,46,46]) [e]) f=aa (S' (dh aU ss)):=S0 oV h (SY (x:=aU) (by decide) (Fe hl))
theorem Io{l:Nat}(h:f[14]?=aa (.val (.int (l:Int)))):aj aA O (n+3) (.cmp (CO.eq) (.v 14) (.ki 0)) f=aa (.bool (l==0)):=nB (aC h) (bS aT (λ_ h=>by injection h)) (by show aa ((l:Int)==0)=_;congr 1;rw[gA,bV,bV];lia)
end
def wq(t:List Nat×Bool):an:=.tuple [S' t.1,.bool t.2]
noncomputable abbrev S4:ME:=.lst
    [.tup [.bin (BO.add) (.meth (MM.join) (.ks [46,46,46]) [.bin (BO.mul) (.lst [.v 11]) (.v 13)]) (.ks [46,46,46]),.kb ae],
         .tup
           [.bin (BO.add) (.meth (MM.join) (.ks [46,46,46]) [.bin (BO.mul) (.lst [.v 11]) (.bin (BO.add) (.v 13) (.ki 1))]) (.ks [46,46,46]),
      .kb af],
         .tup [.bin (BO.add) (.ks [46,46,46]) (.meth (MM.join) (.ks [46,46,46]) [.bin (BO.mul) (.lst [.v 12]) (.v 13)]),.kb ae],
         .tup
           [.bin (BO.add) (.ks [46,46,46]) (.meth (MM.join) (.ks [46,46,46]) [.bin (BO.mul) (.lst [.v 12]) (.bin (BO.add) (.v 13) (.ki 1))]),
      .kb af],
         .tup [.meth (MM.join) (.ks [46,46,46]) [.bin (BO.mul) (.lst [.v 11]) (.v 13)],.cmp (CO.eq) (.v 14) (.ki 0)],
         .tup [.meth (MM.join) (.ks [46,46,46]) [.bin (BO.mul) (.lst [.v 12]) (.v 13)],.cmp (CO.eq) (.v 14) (.ki 0)],
         .tup [.meth (MM.join) (.ks [46,46,46]) [.bin (BO.add) (.bin (BO.mul) (.lst [.v 11]) (.v 13)) (.lst [.v 12])],.kb af],
         .tup [.v 10,.kb ae],
         .tup [.v 11,.kb af],
         .tup
           [.bin
       (BO.add)
       (.ks [46,46,46])
       (.bin (BO.mul) (.bin (BO.add) (.bin (BO.add) (.v 11) (.sl (.v 11) (.kn) (.ki 1))) (.ks [46,46,46])) (.ki 2)),
      .cmp (CO.gt) (.bi (BI.len) [.v 10]) (.bin (BO.mul) (.ki 3) (.v 9))],
         .tup [.bin (BO.add) (.sl (.v 10) (.v 9) (.kn)) (.v 11),.cmp (CO.eq) (.v 14) (.ki 0)],
         .tup [.bin (BO.add) (.bin (BO.add) (.sl (.v 11) (.kn) (.ki 1)) (.ks [46])) (.sl (.v 10) (.ki 2) (.kn)),.kb af]]
theorem QfW{u:List Nat}{p:Nat}(hu:u.length<=10)(hp:1<=p):∀t∈kI u p,t.1.length<=1000:=by
 have ho:u.length/p<=10:=nR (Nat.div_le_self _ _) hu;have l1:(u.take p).length <=10:=by rw[eV];exact Md hu
 have l2:(u.drop (u.length-p)).length <=10:=by rw[dL];exact Me hu
 have r1:=ro l1 (m:=u.length/p) (AO ho);have r2:=ro l1 (m:=u.length/p+1) (AP ho);have r3:=ro l2 (m:=u.length/p) (AO ho);have r4:=ro l2 (m:=u.length/p+1) (AP ho);have r5:(dh aU (bz (u.length/p) (u.take p)++[u.drop (u.length-p)])).length <=156:=by
  have:=Dn (bz (u.length/p) (u.take p)++[u.drop (u.length-p)]) λz hz=>by
   rcases gZ.mp hz with z1|z1
   ·refine ag (DH z1) ?_;exact l1
   ·refine ag (o0.mp z1) ?_;exact l2
  simp only[dn,lO,Qhs]at this;lia
 have d:aU.length=3:=rfl;unfold kI;intro t ht;simp only[cB,j0,or_false]at ht;rcases ht with rfl|rfl|rfl|rfl|rfl|rfl|rfl|rfl|rfl|rfl|rfl|rfl;all_goals simp only[dn,d]
 all_goals first|lia|skip
 all_goals(try simp only[eV,dL,ce,js])<;>(first|exact aQ 0xd008374008245082482882082082245082482082092082291374008245082482882082082245082482082092092291182aba2430c3643d340082740080d90f4d00209d00219192240 Yt hu|exact aQ 0xd00854800528208228208a24508a08228208a45520014a08208a08a28914228208a082289182aba243d0020b200192240 Yt hu|exact aQ 0x1544037400824508228228a08914208a08228224dd0020914208a08a08a28914208a08208a289182aba2432d10030c9074d00209192240 Yt hu)
theorem QfX{O:bn}{f:Frm}{u:List Nat}{p:Nat}(hu:u.length<=10)(hp:1<=p)(dZ:p<=10)(h9:f[9]?=aa (.val (.int (p:Int))))(Ex:f[10]?=aa (.val (S' u)))(uO:f[11]?=aa (.val (S' (u.take p))))(Kk:f[12]?=aa (.val (S' (u.drop (u.length-p)))))
  (Ey:f[13]?=aa (.val (.int ((u.length/p:Nat):Int)))) (Kl:f[14]?=aa (.val (.int ((u.length%p:Nat):Int)))):aj aA O 40 S4 f=aa (.list ((kI u p).map wq)):=by
 have ho:u.length/p<=10:=nR (Nat.div_le_self _ _) hu
 have l1:(u.take p).length <=10:=by rw[eV];exact Md hu
 have l2:(u.drop (u.length-p)).length <=10:=by rw[dL];exact Me hu
 have r1:=ro l1 (m:=u.length/p) (AO ho)
 have r2:=ro l1 (m:=u.length/p+1) (AP ho)
 have r3:=ro l2 (m:=u.length/p) (AO ho)
 have r4:=ro l2 (m:=u.length/p+1) (AP ho)
 have r5:(dh aU (bz (u.length/p) (u.take p)++[u.drop (u.length-p)])).length <=156:=by
  have:=Dn (bz (u.length/p) (u.take p)++[u.drop (u.length-p)]) λz hz=>by
   rcases gZ.mp hz with z1|z1
   ·refine ag (DH z1) ?_;exact l1
   ·refine ag (o0.mp z1) ?_;exact l2
  simp only[dn,lO,Qhs]at this;lia
 have d:aU.length=3:=rfl
 have ks:∀n,aj aA O (n+1) (.ks [46,46,46]) f=aa (S' aU):=λn=>oV
 have c1:∀n,aj aA O (n+2) (.bin (BO.add) (.v 13) (.ki 1)) f=aa (.int ((u.length/p+1:Nat):Int)):=λn=>aW (aC Ey) aT (gV _ _)
 have j1:∀n,aj aA O (n+4) (.meth (MM.join) (.ks [46,46,46]) [.bin (BO.mul) (.lst [.v 11]) (.v 13)]) f=_:=λn=>y8 (y7 uO (aC Ey) (qw ho)) (xJ r1)
 have j2:∀n,aj aA O (n+4) (.meth (MM.join) (.ks [46,46,46]) [.bin (BO.mul) (.lst [.v 11]) (.bin (BO.add) (.v 13) (.ki 1))]) f=_:=λn=>y8 (y7 uO (c1 n) (aH 0x182aba243240192240 Yt ho)) (xJ r2)
 have j3:∀n,aj aA O (n+4) (.meth (MM.join) (.ks [46,46,46]) [.bin (BO.mul) (.lst [.v 12]) (.v 13)]) f=_:=λn=>y8 (y7 Kk (aC Ey) (qw ho)) (xJ r3)
 have j4:∀n,aj aA O (n+4) (.meth (MM.join) (.ks [46,46,46]) [.bin (BO.mul) (.lst [.v 12]) (.bin (BO.add) (.v 13) (.ki 1))]) f=_:=λn=>y8 (y7 Kk (c1 n) (aH 0x182aba243240192240 Yt ho)) (xJ r4)
 have j5:∀n,aj aA O (n+5) (.meth (MM.join) (.ks [46,46,46]) [.bin (BO.add) (.bin (BO.mul) (.lst [.v 11]) (.v 13)) (.lst [.v 12])]) f=aa (S' (dh aU (bz (u.length/p) (u.take p)++[u.drop (u.length-p)]))):=λn=>y8 (aW (y7 uO (aC Ey) (qw ho)) (S3 (aC Kk)) ((yW (by rw[bq,lO];simp;exact aH 0x1ba692682640192240 Yt ho)).trans (by rw[fn];rfl))) (xJ r5)
 have s1:∀n,aj aA O (n+2) (.sl (.v 11) (.kn) (.ki 1)) f=aa (S' ((u.take p).take 1)):=λn=>kE (aC uO) nE aT (S1 (k:=1) (by decide))
 have s2:∀n,aj aA O (n+2) (.sl (.v 10) (.v 9) (.kn)) f=aa (S' (u.drop p)):=λn=>kE (aC Ex) (aC h9) nE (S2 (qw dZ))
 have s3:∀n,aj aA O (n+2) (.sl (.v 10) (.ki 2) (.kn)) f=aa (S' (u.drop 2)):=λn=>kE (aC Ex) aT nE (S2 (k:=2) (by decide))
 have m2:∀{x:List Nat},x.length<=100->bM .mul (S' x) (.int 2)=aa (S' (x++x)):=λ{x} hx=>by show(if(decide ((0:Int)<=2)&&decide ((2:Int)<=100000)&&decide (2*((bk x).length :Int)<=100000))=ae then aa (wO (bk (bz (2:Int).toNat x).flatten))else ac)=_;rw[aw (by rw[mf];simp;exact aH 0x52911c2892682653b004468a2240 Yt hx)];rw[show(bz (2:Int).toNat x).flatten =x++x by simp[bz]]
 have t1:=mz (O:=O) (n:=38) (mA (j1 33) (ks 36) (Mf r1 d)) (oX (n:=37) (b:=ae))
 have t2:=mz (O:=O) (n:=38) (mA (j2 33) (ks 36) (Mf r2 d)) (oX (n:=37) (b:=af))
 have t3:=mz (O:=O) (n:=38) (mA (ks 36) (j3 33) (Mg r3 d)) (oX (n:=37) (b:=ae))
 have t4:=mz (O:=O) (n:=38) (mA (ks 36) (j4 33) (Mg r4 d)) (oX (n:=37) (b:=af))
 have t5:=mz (O:=O) (n:=38) (j1 34) (Io (n:=35) Kl)
 have t6:=mz (O:=O) (n:=38) (j3 34) (Io (n:=35) Kl)
 have t7:=mz (O:=O) (n:=38) (j5 33) (oX (n:=37) (b:=af))
 have t8:=mz (O:=O) (f:=f) (n:=38) (aC (n:=37) (T:=aA) Ex) (oX (n:=37) (b:=ae))
 have t9:=mz (O:=O) (f:=f) (n:=38) (aC (n:=37) (T:=aA) uO) (oX (n:=37) (b:=af))
 have g1:aj aA O 38 (.cmp (CO.gt) (.bi (BI.len) [.v 10]) (.bin (BO.mul) (.ki 3) (.v 9))) f=aa (.bool (decide (3*p<u.length))):=by refine nB (gL (eE Ex) (tE u)) (bS (aW aT (aC h9) (rc (by decide) (ij (k:=4) (aH 0x382440192240 Yt dZ) (by decide)))) (λ_ h=>by injection h)) ?_;show aa (decide ((u.length:Int)>3*p))=_;congr 1;rw[decide_eq_decide];exact⟨λh=>by lia,λh=>by lia⟩
 have t10:=mz (O:=O) (n:=38) (mA (ks 36) (aW (mA (mA (aC (n:=33) uO) (s1 32) (by rw[eV (i:=1)];exact aH 0x34024508228248914208a082289182aba243d00240192240 Yt l1)) (ks 34) (by rw[dn,eV (i:=1)];exact bp 0x34824508228248a08914208a08228a2460aae890c00f4209206489216640 Yt l1 d)) (aT (n:=35)) (m2 (by rw[dn,dn,eV (i:=1)];exact bp 0xd20914208a09228224508228208a2891a28890c00f4209206489216640 Yt l1 d))) (by simp only[dn];rw[eV (i:=1)];exact bp 0x34824508248288a0991420920822926460aae890c30c00f4209203003d08248006489216640 Yt l1 d)) g1
 have t11:=mz (O:=O) (n:=38) (mA (s2 35) (aC (n:=36) uO) (by rw[dL];exact bu 0x1540814a08a08914228a289182aba24300b408192248192240 Yt hu l1)) (Io (n:=35) Kl)
 have t12:=mz (O:=O) (n:=38) (mA (mA (s1 34) (oV (n:=35) (l:=[46])) (by rw[eV (i:=1)];simp;exact fN 0xdd0800914208a08a2450822820891ba8ba274d08009 Yt)) (s3 35) (by rw[dn,eV (i:=1),dL];simp;exact aQ 0x1544037400824508228228a08914208a08228224dd0020914208a08a08a28914208a08208a289182aba2432d1003274d00209192240 Yt hu)) (oX (n:=37) (b:=af))
 rw[xV]
 simp only[aV,t1,t2,t3,t4,t5,t6,t7,t8,t9,t10,t11,t12,bF]
 rfl
end
section
noncomputable abbrev Ip:List MS:=[.ife (.cmp (CO.isnt) (.call 6 [.v 16,.v 10]) (.v 17)) [.ret (.kb af)] []]
noncomputable abbrev rF(v0 v1 v2 v3 v4 v5 v6 v7 v8 v9 bf cL gk fG gC d0 kY kZ:FV)(tl:List FV):Frm:=v0::v1::v2::v3::v4::v5::v6::v7::v8::v9::bf::cL::gk::fG::gC::d0::kY::kZ::tl
theorem S5(v0 v1 v2 v3 v4 v5 v6 v7 v8 v9 cL gk fG gC d0:FV)(tl:List FV):∀(L:List (List Nat×Bool)),(∀t∈L,O 6 [S' t.1,S' u]=aa (.bool t.2))->∀kY kZ:FV,
  ∃Ag Ah,eJ (λf=>bc aA O Wf (fu+4) Ip f) (e9 [16,17] af) (L.map wq) (rF v0 v1 v2 v3 v4 v5 v6 v7 v8 v9 (.val (S' u)) cL gk fG gC d0 kY kZ tl)=aa (.next,rF v0 v1 v2 v3 v4 v5 v6 v7 v8 v9 (.val (S' u)) cL gk fG gC d0 Ag Ah tl)
 |[],_,kY,kZ=>(eR kY kZ rfl)
 |t::r,h,kY,kZ=>by
  refine fi (S5 (fu:=fu) (Wf:=Wf) v0 v1 v2 v3 v4 v5 v6 v7 v8 v9 cL gk fG gC d0 tl r (λy hy=>h y (eh _ hy)) (.val (S' t.1)) (.val (.bool t.2))) λAg Ah e=>?_;have bd:e9 [16,17] af (wq t) (rF v0 v1 v2 v3 v4 v5 v6 v7 v8 v9 (.val (S' u)) cL gk fG gC d0 kY kZ tl)=aa (rF v0 v1 v2 v3 v4 v5 v6 v7 v8 v9 (.val (S' u)) cL gk fG gC d0 (.val (S' t.1)) (.val (.bool t.2)) tl):=rfl;have st:bc aA O Wf (fu+4) Ip (rF v0 v1 v2 v3 v4 v5 v6 v7 v8 v9 (.val (S' u)) cL gk fG gC d0 (.val (S' t.1)) (.val (.bool t.2)) tl)=aa (.next,rF v0 v1 v2 v3 v4 v5 v6 v7 v8 v9 (.val (S' u)) cL gk fG gC d0 (.val (S' t.1)) (.val (.bool t.2)) tl):=by refine bN (gK af (y6 (rf (aC rfl) (aC rfl) (h t (fD ..))) (eE rfl)) ?_) cZ;rw[az (by decide)];exact cZ
  refine⟨Ag,Ah,?_⟩;rw[cA,eJ];refine ag bd ?_;simp only[st];exact e
theorem QfY{body:Frm->Option (Fl×Frm)}{bind:an->Frm->Option Frm}{r:List an}(h1:bind x f=aa f1)(h2:body f1=aa (.next,f2))(h3:eJ body bind r f2=res):eJ body bind (x::r) f=res:=by rw[eJ];refine ag h1 ?_;simp only[h2];exact h3
theorem S6(h:aj T O 40 e f=aa (.tuple ds))(h2:eC f is ds=aa g):bJ T O W (n+1) (.unp is e) f=aa (.next,g):=by rw[m9];refine ag h ?_;simp only[h2,bF]
theorem S7(h:x<=10)(hk:4<=k):x<2^k:=nK (I8 h (by decide:10<2^4)) (nY (by decide) hk)
abbrev S8:List MS:=[.asg 10 (.sl (.v 5) (.v 7) (.v 8)),
  .asg 11 (.sl (.v 10) (.kn) (.v 9)),
  .asg 12 (.sl (.v 10) (.neg (.v 9)) (.kn)),
  .unp [13,14] (.call 16 [.bi (BI.len) [.v 10],.v 9,.v 4]),
  .asg 15 S4,
  .forr [16,17] af (.v 15) Ip,
  .ife
   (.cmp (CO.isnt) (.call 6 [.bin (BO.add) (.bin (BO.add) (.v 11) (.ks [46,46,46])) (.v 11),.v 11]) (.kb af))
   [.ret (.kb af)]
   []]
structure F8 where
 (a b c d e f g h:FV)
structure F11 where
 (p q r:FV)
 t:F8
abbrev rG(v0 v1 v2 v3 v4 v5 v6 v7 v8 v9:FV)(t:F8)(tl:List FV):Frm:=rF v0 v1 v2 v3 v4 v5 v6 v7 v8 v9 t.a t.b t.c t.d t.e t.f t.g t.h tl
theorem QfZ(hk:30<=k){signs u:List Nat}(hn:signs.length<=10)(sB:way=0\/way=1\/way=2\/way=3)(he:e<=signs.length)(hb:b<=1000)(hp:1<=p)(dZ:p<=10)(hu:(signs.take e).drop b=u)
  (A:∀t∈kI u p,ik t.1 u=aa t.2) (B:ik (u.take p++aU++u.take p) (u.take p)=aa af) (v0 v1 v2 v3 v6:FV) (t:F8) (tl:List FV):
  ∃x:F8,bc aA (aL (wf+3) (k+11)) (wf+3) (fu+20) S8 (rG v0 v1 v2 v3 (.val (.int way)) (.val (S' signs)) v6 (.val (N' b)) (.val (N' e)) (.val (N' p)) t tl)
   =aa (.next,rG v0 v1 v2 v3 (.val (.int way)) (.val (S' signs)) v6 (.val (N' b)) (.val (N' e)) (.val (N' p)) x tl):=by
 obtain⟨bf,cL,gk,fG,gC,d0,kY,kZ⟩:=t
 have ul:u.length<=10:=by refine a8 hu ?_;rw[dL,eV];exact bR 0xd008550d0020528208208208914228208a082289550d0020528208208208914228208a08a28919224b434008192240 Yt hn
 refine fi (S5 (O:=aL (wf+3) (k+11)) (Wf:=wf+3) (fu:=fu+9) (u:=u) v0 v1 v2 v3 (.val (.int way)) (.val (S' signs)) v6 (.val (N' b)) (.val (N' e)) (.val (N' p)) (.val (S' (u.take p))) (.val (S' (u.drop (u.length-p)))) (.val (N' (u.length/p))) (.val (N' (u.length%p))) (.val (.list ((kI u p).map wq))) tl (kI u p)
  (λt ht=>HI (by have:=QfW ul hp t ht;exact Fe this) (A t ht)) kY kZ) λAg Ah lp=>?_
 refine⟨⟨.val (S' u),.val (S' (u.take p)),.val (S' (u.drop (u.length-p))),.val (N' (u.length/p)),.val (N' (u.length%p)),.val (.list ((kI u p).map wq)),Ag,Ah⟩,?_⟩
 refine bN (g:=rF v0 v1 v2 v3 (.val (.int way)) (.val (S' signs)) v6 (.val (N' b)) (.val (N' e)) (.val (N' p)) (.val (S' u)) cL gk fG gC d0 kY kZ tl) (cy (kE (aC rfl) (aC rfl) (aC rfl) ((slm hb he (qw hn)).trans (by exact ag hu rfl)))) ?_
 refine bN (g:=rF v0 v1 v2 v3 (.val (.int way)) (.val (S' signs)) v6 (.val (N' b)) (.val (N' e)) (.val (N' p)) (.val (S' u)) (.val (S' (u.take p))) gk fG gC d0 kY kZ tl) (cy (kE (aC rfl) nE (aC rfl) (S1 (qw dZ)))) ?_
 refine bN (g:=rF v0 v1 v2 v3 (.val (.int way)) (.val (S' signs)) v6 (.val (N' b)) (.val (N' e)) (.val (N' p)) (.val (S' u)) (.val (S' (u.take p))) (.val (S' (u.drop (u.length-p)))) fG gC d0 kY kZ tl) (cy (kE (aC rfl) (C0 (aC rfl)) nE (sln hp (qw dZ)))) ?_
 refine bN (g:=rF v0 v1 v2 v3 (.val (.int way)) (.val (S' signs)) v6 (.val (N' b)) (.val (N' e)) (.val (N' p)) (.val (S' u)) (.val (S' (u.take p))) (.val (S' (u.drop (u.length-p)))) (.val (N' (u.length/p))) (.val (N' (u.length%p))) d0 kY kZ tl)
  (S6 (HN (gL (eE rfl) (tE u)) (aC rfl) (aC rfl) (HH hk ⟨qu hp,S7 dZ (by decide),S7 ul (by decide)⟩ sB)) rfl) ?_
 refine bN (g:=rF v0 v1 v2 v3 (.val (.int way)) (.val (S' signs)) v6 (.val (N' b)) (.val (N' e)) (.val (N' p)) (.val (S' u)) (.val (S' (u.take p))) (.val (S' (u.drop (u.length-p)))) (.val (N' (u.length/p))) (.val (N' (u.length%p))) (.val (.list ((kI u p).map wq))) kY kZ tl)
  (cy (QfX ul hp dZ rfl rfl rfl rfl rfl rfl)) ?_
 refine bN (rj (rh (aC rfl) rfl rfl) lp) ?_
 have d:aU.length=3:=rfl
 refine bN (gK af (y6 (rf (mA (mA (aC rfl) oV (by rw[eV];show _+3<=_;exact aQ 0xd20014208a08a28914208a082289182aba243674200192240 Yt dZ)) (aC rfl) (by rw[dn,eV];show _+3+_<=_;exact aQ 0xd200142092092291142092082291182aba243d08003674200192240 Yt dZ)) (aC rfl) (HI ?_ B)) (bS oX (λ_ h=>by injection h))) ?_) cZ
 ·rw[dn,dn,eV];show _+3+_<=_;exact aQ 0xd200142092092291142092082291182892682643d08003674200192240 Yt dZ
 ·rw[az (by decide)];exact cZ
def S9(signs:List Nat)(t:Nat×Nat×Nat):Prop:=t.2.1<=signs.length/\t.1<=1000/\1<=t.2.2/\t.2.2<=10/\(∀q∈kI ((signs.take t.2.1).drop t.1) t.2.2,ik q.1 ((signs.take t.2.1).drop t.1)=aa q.2)/\ik (((signs.take t.2.1).drop t.1).take t.2.2++aU++((signs.take t.2.1).drop t.1).take t.2.2) (((signs.take t.2.1).drop t.1).take t.2.2)=aa af
abbrev rH(v0 v1 v2 v3 v4 v5 v6:FV)(x:F11)(tl:List FV):Frm:=rG v0 v1 v2 v3 v4 v5 v6 x.p x.q x.r x.t tl
theorem Qf0(hk:30<=k){signs:List Nat}(hn:signs.length<=10)(sB:way=0\/way=1\/way=2\/way=3)(v0 v1 v2 v3 v6:FV)(tl:List FV)(ts:List (Nat×Nat×Nat)):(∀t∈ts,S9 signs t)->∀v:F11,
  ∃x:F11,eJ (λf=>bc aA (aL (wf+3) (k+11)) (wf+3) (fu+20) S8 f) (e9 [7,8,9] af) (ts.map cS) (rH v0 v1 v2 v3 (.val (.int way)) (.val (S' signs)) v6 v tl)
   =aa (.next,rH v0 v1 v2 v3 (.val (.int way)) (.val (S' signs)) v6 x tl):=by
 induction ts with
 |nil=>exact λ_ v=>⟨v,rfl⟩
 |cons t r ih=>
  intro h v
  obtain⟨b,e,p⟩:=t
  obtain⟨h1,h2,h3,h4,h5,h6⟩:=h _ (fD ..)
  refine aD (QfZ (wf:=wf) (fu:=fu) hk hn sB h1 h2 h3 h4 rfl h5 h6 v0 v1 v2 v3 v6 v.t tl) λy st=>?_
  refine aD (ih (λy hy=>h y (eh _ hy)) ⟨.val (N' b),.val (N' e),.val (N' p),y⟩) λx e2=>?_
  exact⟨x,QfY rfl st e2⟩
end
section
noncomputable def fW(a b x:Nat):Nat:=if x=0 then 307+a else if x=1 then 307+b else if x=2 then 10 else if x=46 then 46 else x+1000000
noncomputable def fI(a b v:Nat):Nat:=if v=307+a then 0 else if v=307+b then 1 else if v=10 then 2 else if v=46 then 46 else v-1000000
theorem Ta(ha:a<48)(hb:b<48)(lZ:a≠b)(z:Nat):fI a b (fW a b z)=z:=by
 unfold fI fW;by_cases h0:z=0
 ·rw[aw h0,aw rfl];exact ag h0 rfl
 by_cases h1:z=1
 ·rw[az h0,aw h1,az (by exact aQ 0x1d445282245289f8301aca10c86b287e200 Yt lZ),aw rfl];exact ag h1 rfl
 by_cases h2:z=2
 ·rw[az h0,az h1,aw h2,az (by exact bL 0x5089f8301aca1489 Yt),az (by exact bL 0x5089f8301aca1489 Yt),aw rfl];exact ag h2 rfl
 by_cases h3:z=46
 ·rw[az h0,az h1,az h2,aw h3,az (by exact bL 0x5089f8301aca1ca9 Yt),az (by exact bL 0x5089f8301aca1ca9 Yt),az (by decide),aw rfl];exact ag h3 rfl
 rw[az h0,az h1,az h2,az h3,az (by exact Mh ha),az (by exact Mh hb),az (by exact bL 0x149f9224308228a8b2640 Yt),az (by exact bL 0x149fb2a4308228a8b2640 Yt),zD]
theorem Qf1(ha:a<48)(hb:b<48)(lZ:a≠b)(x y:Nat)(h:fW a b x=fW a b y):x=y:=by exact a8 (Ta ha hb lZ x) (a8 (Ta ha hb lZ y) (ag h rfl))
theorem Tc(a b c z:Nat)(h:z<3):(z=0/\gW a b c z=7+a)\/(z=1/\gW a b c z=7+b)\/(z=2/\gW a b c z=159+c):=by
 rcases Fh h with rfl|rfl|rfl
 ·exact .inl ⟨rfl,rfl⟩
 ·exact .inr (.inl ⟨rfl,rfl⟩)
 ·exact .inr (.inr ⟨rfl,rfl⟩)
theorem Qf2(ha:a<48)(hb:b<48)(lZ:a≠b)(hc:97<=c)(x y:Nat)(hx:x<3)(hy:y<3)(h:gW a b c x=gW a b c y):x=y:=by
 have p:=Tc a b c x hx;have q:=Tc a b c y hy;rw[<-h]at q;clear h hx hy;rcases p with⟨rfl,p⟩|⟨rfl,p⟩|⟨rfl,p⟩<;>rcases q with⟨rfl,q⟩|⟨rfl,q⟩|⟨rfl,q⟩
 ·rfl
 ·exact absurd (Qht (p.symm.trans q)) lZ
 ·exact fZ (by lia)
 ·exact absurd (Qht (q.symm.trans p)) lZ
 ·rfl
 ·exact fZ (by lia)
 ·exact fZ (by lia)
 ·exact fZ (by lia)
 ·rfl
theorem Qf3(ha:a<48)(hb:b<48)(hc:97<=c)(hx:x<3):kK (gW a b c x)=fW a b x:=by
 rcases Fh hx with rfl|rfl|rfl
 ·show kK (7+a)=307+a;unfold kK;rw[az (by exact aH 0x260c0e7ae99382c40 Yt ha)];exact Mi
 ·show kK (7+b)=307+b;unfold kK;rw[az (by exact aH 0x260c0e7ae99382c40 Yt hb)];exact Mi
 ·show kK (159+c)=10;unfold kK;rw[aw (by exact aH 0x38303a691eba64600a889 Yt hc)]
noncomputable def rq(t:Nat×Nat×Nat):List Int:=[(t.1:Int),(t.2.1:Int),(t.2.2:Int)]
theorem Td:∀ts:List (Nat×Nat×Nat),xS (ts.map cS)=aa (ts.map rq)
 |[]=>rfl
 |t::r=>by show(xS (r.map cS)).map (rq t::·)=_;refine ag (Td r) ?_;rfl
theorem Qf4(a b:Nat×Nat×Nat)(h:rq a=rq b):a=b:=by obtain⟨a1,a2,a3⟩:=a;obtain⟨b1,b2,b3⟩:=b;simp only[rq,Un,and_true,Int.natCast_inj]at h;obtain⟨rfl,rfl,rfl⟩:=h;rfl
theorem Te{ts:List (Nat×Nat×Nat)}(h:ts.Nodup):(ts.map rq).Nodup :=by
 induction ts with
 |nil=>exact .nil
 |cons t r ih=>
  refine aF (rC.mp h) λh1 h2=>?_
  refine rC.mpr ⟨λz=>?_,ih h2⟩
  refine ai (gi.mp z) λy hy e=>?_
  exact h1 (Qf4 _ _ e▸hy)
theorem Qf5{xs ys:List (Nat×Nat×Nat)}(nx:xs.Nodup)(ny:ys.Nodup)(hm:∀t,t∈xs↔t∈ys)(hl:xs.length<64):∃z:List (List Int),gR .sorted [.list (xs.map cS)]=aa (.list (z.map λx=>.tuple (x.map .int)))/\gR .sorted [.list (ys.map cS)]=aa (.list (z.map λx=>.tuple (x.map .int))):=by
 obtain⟨z,e1,e2,_⟩:=Qav (Te nx) (Te ny) (λx=>by
  constructor
  ·intro h;refine ai (gi.mp h) λt ht av=>?_;clear h;subst av;exact gi.mpr (aO t ((hm t).mp ht) rfl)
  ·intro h;refine ai (gi.mp h) λt ht av=>?_;clear h;subst av;exact gi.mpr (aO t ((hm t).mpr ht) rfl)) (by rw[bq];exact hl) (λx hx=>by refine ai (gi.mp hx) λt _ av=>?_;clear hx;subst av;simp[rq])
 have s:∀{ts:List (Nat×Nat×Nat)},qz (ts.map rq)=aa z->gR .sorted [.list (ts.map cS)]=aa (.list (z.map λx=>.tuple (x.map .int))):=λ{ts} h=>by show(xS (ts.map cS)).bind (λxs=>(qz xs).map λys:List (List Int)=>ui (ys.map λx:List Int=>.tuple (x.map .int)))=_;rw[Td,IZ];refine ag h ?_;rfl
 exact⟨z,s e1,s e2⟩
theorem Qf6(h1:aj T O n e1 f=aa a1)(h2:aj T O n e2 f=aa a2)(h3:aj T O n e3 f=aa a3)(h4:aj T O n e4 f=aa a4)(h5:aj T O n e5 f=aa a5)(h:O g [a1,a2,a3,a4,a5]=d):aj T O (n+1) (.call g [e1,e2,e3,e4,e5]) f=d:=by rw[jF];simp only[aV,h1,h2,h3,h4,h5,bF];exact h
theorem Qf7(h:0<=e)(h2:e<4000):bM .pow (.int 3) (.int e)=aa (.int ((3^e.toNat:Nat):Int)):=by
 show(if(decide (0<=e)&&decide (e<=1000000)&&decide ((3:Int).natAbs <16))=ae then aa (bQ ((3:Int)^e.toNat))else ac)=_;rw[aw]
 ·rw[wT];rfl
 ·refine ag (d6 h) ?_;rw[d6 (by exact eY 0x708228a8b26403c28b2e40 Yt h2)];rfl
theorem Qf8(h:e<4000):0<3^e/\3^e<2^7998:=by
 refine⟨Nat.pow_pos (by decide),?_⟩;have a:3^e<=3^3999:=nY (by decide) (aH 0x1ba6b2e403828b2e40 Yt h);have b:3^3999<4^3999:=Nat.pow_lt_pow_left (by decide) (by decide);have c:(4:Nat)^3999=2^7998:=by refine ag (show(4:Nat)=2^2 from rfl) ?_;rw[<-rS]
 exact I8 a (c▸b)
theorem Qf9{xs:List Int}(h:f[0]?=aa (.val (.list (xs.map .int)))):aj aA O (n+2) (.bi (BI.sum) [.v 0]) f=aa (.int xs.sum):=gL (eE h) (by show(fB (xs.map .int)).map (λxs=>bQ xs.sum)=_;rw[yV];rfl)
theorem Iq{xs:List Int}(hk:0<k)(h:f[0]?=aa (.val (.list (xs.map .int)))):aj aA O (n+3) (.bin (BO.mod) (.bi (BI.sum) [.v 0]) (.ki k)) f=aa (.int (xs.sum%k)):=aW (Qf9 h) aT (kJ _ hk)
theorem Qga(row:List Nat):(row.map N')++[.int (-1),.int 0,.int 255,.int 256]=((row.map λd:Nat=>(d:Int))++[-1,0,255,256]).map bQ:=by rw[fn,g6];rfl
theorem Qgb:aj aA O (n+3) (.lst [.neg (.ki 1),.ki 0,.ki 255,.ki 256]) f=aa (.list [.int (-1),.int 0,.int 255,.int 256]):=by simp only[xV,aV,vh,gG,bF]
theorem Qgc:Hy 103 60 200 80:=by
 intro m hm xs hl;rw[Ru]at hm;obtain rfl:=aB hm;refine eQ (Ih xs) λha hb lZ=>?_;refine eQ (SG xs) λhc _ VI=>?_;refine Kn (QfH xs) λC tl kl k1 k3=>?_;have dr:=Qfq (wf:=103) (kk:=58) hl;generalize htx:(my xs).1=text at C tl dr;generalize hcw:(my xs).2=cw at C kl k1 k3 dr;generalize iR xs=a at ha lZ C dr;generalize nJ xs=b at hb lZ C dr;generalize jX xs=c at hc VI C dr;have rd:=QfB (wf:=100) (kk:=58) C (aH 0x1a2e40182a40 Yt tl) (by decide);have sg:(cw.map (gW a b c)).map kK=cw.map (fW a b):=by rw[g6];exact zh λx hx=>Qf3 ha hb hc (k3 x hx)
 have rl:(cw.map (gW a b c)).length =cw.length:=bq ..;have r0:∀d∈cw.map (gW a b c),0<d/\d<131072:=λd hd=>by
  refine ai (gi.mp hd) λx _ av=>?_;clear hd;subst av;unfold gW;split
  ·exact⟨bL 0xe0c0e41 Yt,Mj ha⟩
  ·split<;>(first|exact⟨bL 0xe0c0e41 Yt,Mj hb⟩|exact⟨bL 0xe0c0e9a441 Yt,aH 0x38208208284303a69138208208284303a691 Yt VI⟩)
 have hf:=Qf1 ha hb lZ;have hO:fW a b 46=46:=rfl;have hg:=Qf2 ha hb lZ hc;have DT:=Qe6 hf hO hg k3 kl;have AK:=λ{b0 e p:Nat}(R:Run (cw.map (gW a b c)) b0 e p)=>Qe8 hf hO hg k3 kl R;have EL:∀p,1<=p->2*p<=(cw.map (gW a b c)).length ->∀b0,b0+p<=(cw.map (gW a b c)).length ->∃B,pL (cw.map (fW a b)) p b0=aa B:=λp h1 h2 b0 h3=>by rw[rl]at h2 h3;exact(bC _ (Ss hf hO k3 h1 (L9 kl h2) h3))
 have Km:(cw.map (fW a b)).length =(cw.map (gW a b c)).length :=by rw[bq,bq]
 rw[<-rl]at kl k1;have VJ:=Fg xs.sum;have p3:=Qf8 (e:=(xs.sum%4000).toNat) (gP 0xb428b2e40d630a2cb900528208208224528208208a0893828b2e6c8c28b2e40 Yt);have sh:=Qes (wf:=100) (k:=48) (by decide) (row:=cw.map (gW a b c)) (signs:=cw.map (fW a b)) (wide:=18+(xs.sum%1400).toNat) (S:=3^(xs.sum%4000).toNat) (way:=xs.sum%4) (gP 0x2d0baa910050820822460ec8c2eaa440491491 Yt) (gP 0x2d0baa910358c2eaa44014a08208208914a08208228224628ac910ec8c2eaa440491 Yt) (λd hd=>(r0 d hd).2) kl Km p3.1 p3.2 VJ EL;have du:=QeD (Wf:=103) (k:=58) (by decide) kl k1 r0;have re:=QeQ (λd hd=>(r0 d hd).1) DT;have ms:∀t∈pM (cw.map (fW a b)) (cw.map (gW a b c)),S9 (cw.map (fW a b)) t:=λt ht=>by obtain⟨b0,e,p⟩:=t;have R:=(Sl (λd hd=>(r0 d hd).1) DT b0 e p).mp ht;have q:=AK R;have r1:=R.p1;have r2:=R.len;have r3:=R.en;exact⟨by refine ag Km ?_;exact r3,by show b0<=1000;exact f7 0x182aba2501922481800d3611406200 Yt kl r2 r3,r1,by show p<=10;exact f7 0x548a2891922581922481800d3611406200 Yt kl r2 r3,q.1,q.2⟩
 have nx:=QeP (cw.map (fW a b)) (cw.map (gW a b c));have ny:=QeN (cw.map (gW a b c));have ln:(pM (cw.map (fW a b)) (cw.map (gW a b c))).length <64:=by refine ag (((Qg1 nx ny).mpr re).length_eq) ?_;have:=R3 (cw.map (gW a b c)) (ey 1 ((cw.map (gW a b c)).length -1));rw[List.length_range']at this;exact I8 this (aH 0x1524014a08914228a24e08224b240192240 Yt kl)
 refine ai (Qf5 nx ny re ln) λz z1 z2=>?_;rw[g6]at sg;generalize QjF:cw.map (gW a b c)=row at*;generalize Qka:cw.map (fW a b)=signs at*;have sg2:row.map kK=signs:=by refine a8 QjF ?_;rw[g6];exact sg
 generalize pM signs row=ts at*;generalize wg row=ds at*;show Ret aA (aL 103 60) 103 200 Nm.body (.val (.list (xs.map .int))::.un ::.un ::.un ::.un ::.un ::.un ::.un ::.un ::.un ::.un ::.un ::.un ::.un ::.un ::.un ::.un ::.un ::bz 12 .un) (.bool ae);generalize bz 12 FV.un=uP;refine Ret.next (g:=rF (.val (.list (xs.map .int))) (.val (S' text)) (.val (.list (row.map N'))) .un .un .un .un .un .un .un .un .un .un .un .un .un .un .un uP) (S6 (oW (aC rfl) dr) rfl) ?_;refine Ret.no (dJ (oW (aC rfl) rd) (eE rfl) (QfI row)) ?_;refine aD (SX (Wf:=103) (k:=59) (fu:=190) (.val (.list (xs.map .int))) (.val (S' text)) (.val (.list (row.map N'))) (.un ::.un ::.un ::.un ::.un ::.un ::.un ::.un ::.un ::.un ::.un ::.un ::.un ::.un ::uP) ((row.map λd:Nat=>(d:Int))++[-1,0,255,256]) .un) λx3 kl3=>?_;refine Ret.next (g:=rF (.val (.list (xs.map .int))) (.val (S' text)) (.val (.list (row.map N'))) x3 .un .un .un .un .un .un .un .un .un .un .un .un .un .un uP) (rj (rh (aW (aC rfl) Qgb ((yW (by rw[bq];show _+4<=_;exact aH 0x182892682643840192240 Yt kl)).trans (by rw[Qga]))) rfl rfl) kl3) ?_;refine Ret.next (g:=rF (.val (.list (xs.map .int))) (.val (S' text)) (.val (.list (row.map N'))) x3 (.val (.int (xs.sum%4))) .un .un .un .un .un .un .un .un .un .un .un .un .un uP) (cy (Iq (by decide) rfl)) ?_;refine Ret.next (g:=rF (.val (.list (xs.map .int))) (.val (S' text)) (.val (.list (row.map N'))) x3 (.val (.int (xs.sum%4))) (.val (S' signs)) .un .un .un .un .un .un .un .un .un .un .un .un uP) (cy ((QfR (row:=row) rfl (qw kl)).trans (by exact ag sg2 rfl))) ?_;refine Ret.next (g:=rF (.val (.list (xs.map .int))) (.val (S' text)) (.val (.list (row.map N'))) x3 (.val (.int (xs.sum%4))) (.val (S' signs)) (.val (.list (ts.map cS))) .un .un .un .un .un .un .un .un .un .un .un uP) (cy (Qf6 (aC rfl) (aC rfl)
  (aW aT (Iq (k:=1400) (by decide) rfl) ((gV _ _).trans (show _=aa (bQ ((18+(xs.sum%1400).toNat :Nat):Int))from by refine congrArg (λz=>aa (bQ z)) ?_;exact gP 0x2d0baa910358c2eaa44074114a08914a28208208974114a08914a257b03b230baa910124438c2eaa440491 Yt)))
  (aW aT (Iq (k:=4000) (by decide) rfl) (Qf7 (gP 0xb428b2e401420822891e30a2cb9001 Yt) (gP 0x2d0a2cb900508228224f0a2cb98c28b2e40 Yt))) (aC rfl) sh)) ?_
 refine Ret.no (dJ (gL (eE rfl) z1) (bS (gL (bS (oW (aC rfl) du) (λ_ h=>by injection h)) z2) (λ_ h=>by injection h)) (QfJ z)) ?_;refine aD (Qf0 (wf:=100) (k:=49) (fu:=170) (by decide) (signs:=signs) (bp 0x6489006489216200 Yt kl Km) VJ (.val (.list (xs.map .int))) (.val (S' text)) (.val (.list (row.map N'))) x3 (.val (.list (ts.map cS))) uP ts ms ⟨.un,.un,.un,⟨.un,.un,.un,.un,.un,.un,.un,.un⟩⟩) λx lp=>?_;refine Ret.next (rj (rh (aC rfl) rfl rfl) lp) ?_;exact Ret.retE oX
theorem law1_holds:PySem.Challenge.rw_uc0059_01.Holds:=QdN (by decide) Qgc (by refine ag Ru ?_;rfl)
end
end Mine
end
open PySem PySem.W
theorem PySem.Challenge.cw_uc0059_01_holds : PySem.Challenge.rw_uc0059_01.Holds :=
 Mine.law1_holds
