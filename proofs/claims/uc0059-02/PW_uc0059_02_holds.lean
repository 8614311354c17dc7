import PyProof.Rows.All
import KE.KItem
import KE.KNest
import Wide.FinOn
import OpenK.AllK
import Wide.All
import Lean
import PySem.Challenge.RW_uc0059_02
set_option Elab.async false
set_option linter.all false
set_option genSizeOfSpec false
set_option bootstrap.genMatcherCode false
set_option genCtorIdx false
set_option backward.match.sparseCases false
set_option genSizeOf false
set_option genInjectivity false
set_option tactic.hygienic false
set_option maxRecDepth 100000
set_option maxHeartbeats 8000000
open Option renaming some->aa,none->ab,bind_eq_some_iff->bO,map_some->b7,map_eq_some_iff->cv,ite_none_right_eq_some->mQ,isSome_iff_exists->vh,map->EZ,bind_some->WH,some_inj->Qlu
open Bool renaming true->ac,false->ae,and_eq_true->bo,and_eq_true_iff->fP,rec->gu,noConfusion->gC,eq_iff_iff->iu,or_eq_true->n7,not_eq_true'->oh,false_eq_true->AP,true_and->KR,eq_false_iff->LB,or_eq_true_iff->Wn,or_false->WT
open PySem renaming Addr->aj,PyData->ak,Str->ao,Value->aq,Expr->au,Shared->aC,wpAny->aI,model->aR,Params->aT,Pos->aY,Obj->bp,Env->bu,wpAny_bind->bI,Heap->bL,sizeLine->cH,Sem->cL,Around->cX,Stmt->de,NameKind->dn,wpAny_pure->d6,World->d9,sizeLine_eq->eu,DictEntry->eB,Scope->fH,Tok->gm,starEach->iN,cellsFrom->ja,backTo->kj,Flow->kW,mainGlobals->l4,wpAny_execs_cons->mU,Comprehension->n5,assign->oj,execs->om,bindArgs->oq,treeTable->ot,Program->pu,wpAny_mono->qu,FuncData->qv,standAt->qw,codeAny->qA,relabel->qB,getItem->rH,wpAny_standAt->s7,pyIter->te,hashInt->tj,builtinsNs->u9,call_meets->ve,wpAny_Name->vl,spliced->vm,rawInt->vq,closureFor->vr,OsState->vy,UnaryOp->xQ,compareOp->xW,numAt->xX,strValues->xZ,fromIndex->ya,typeIs_str->yb,wpAny_Call_ofName->yd,swapsWith->yf,wpAny_execs_nil->yg,bootBuiltins->AO,binaryOp->AS,storeName->AZ,assignEach->A0,interactive->A1,Keyword->EX,Arguments->EY,wpAny_holding->E7,holding->E8,wpAny_assign_Name->Fe,placesWithHash->Fh,intKind->Fi,typeIs_int->KO,Builtin->KP,intItems->KV,wpAny_loadName_cell->KZ,wpAny_loadName_free->K0,wpAny_Call_method_lateS->K4,compTurn->K7,wpAny_storeName_local->K8,wpAny_storeName_cell->K9,name_of_addr->La,wpAny_Assign_Name->Ld,wpAny_If->Lj,dictDisplay->Lp,strKind->Ls,wpAny_getItem_list->V8,slicePicked->Wa,wpAny_Constant_int->Wb,wpAny_UnaryOp->We,behindInMarks->Wg,wpAny_truthy_bool->Wh,wpAny_IfExp->Wi,callWith_type->Wj,foldedSetIterable->Wl,letOwnedTupleGo->Wm,newFunctionEnv->Wo,wpAny_newObj_type->Wq,swappedStores->Wv,wpAny_Return_some->Ww,wpAny_Expr_any->Wx,getitemInPython_of_ne->Qk4,wpAny_letTemporaryGo->Qk5,wpAny_loadName_local->Qk6,wpAny_isTrue_Compare1->Qk8,wpAny_list_append_plain->Qlf,wpAny_comprehension_free->Qlh,wpAny_Assign_Subscript->Qlm
open Option.some renaming inj->aw,injEq->vA
open Classical renaming byContradiction->aE,not_not->KF
open PySem.Str renaming ofString->aK,length->vd
open List renaming range->bv,mem_cons_of_mem->bB,mem_cons->bF,length_map->b8,length_append->cw,replicate->cR,getElem?_cons_zero->dq,all_eq_true->du,getElem?_cons_succ->dD,map_cons->dF,length->dG,mem_cons_self->dU,set_cons_succ->dW,set_cons_zero->dX,getElem?_eq_getElem->ee,length_cons->eK,mem_append->eO,mem_singleton->eW,mem_range->eY,map_map->fg,getElem?_map->fW,length_drop->fX,mem_map->gk,isPrefixOf->i9,not_mem_nil->jb,map_append->jD,mem_of_getElem?->kf,length_nil->kg,map->km,length_take->l6,nodup_cons->mR,getElem?_eq_some_iff->mS,append_assoc->mT,isEmpty_iff->n8,size_toArray->og,mem_filter->pv,append_nil->py,length_set->qo,mem_append_right->qp,nil_append->qC,getElem_of_mem->rF,take_of_length_le->rG,lookup_cons->sX,mem_append_left->sY,range'->vf,drop_zero->vg,sum_cons->vi,isPrefixOf_iff_prefix->vj,mem_filterMap->vt,cons_append->vu,replicate_succ->vv,reverse_cons->xS,take_length->xY,filter_cons->yi,getD_eq_getElem?_getD->yj,length_eq_zero_iff->AR,drop_eq_nil_of_le->AT,drop_drop->AU,isSuffixOf_iff_suffix->AV,mem_of_mem_drop->AY,dropLast_concat_getLast->A2,count_cons->A6,head?_cons->A7,forIn_cons->E4,length_range->E6,map_eq_nil_iff->E9,mem_reverse->Fb,mem_map_of_mem->Fc,drop_eq_getElem_cons->Fd,length_replicate->Ff,rec->KA,map_nil->KQ,toArray->KS,all_cons->KT,map_fst_zip->KU,mem_of_find?_eq_some->KW,map_congr_left->KX,length_reverse->K5,map_reverse->Lg,getElem?_take->Lk,getLast?_eq_some_getLast->Ll,flatten_cons->Lm,isSuffixOf->Lo,take_append_drop->Lq,mem_of_getLast?->LF,filter->LH,getElem?_set->VX,foldl_cons->VZ,length_eq_one_iff->V0,take->V1,getElem?_drop->V3,ext_getElem->V5,countP_cons->V6,drop_take->V7,forIn_nil->Wp,nodup_nil->Ws,getElem_mem->Wt,getElem?_set_ne->Wu,ext_getElem?->Wy,getElem?_zip_eq_some->Wz,append_inj'->WC,mem_of_mem_take->WF,contains_iff_mem->WG,getElem_cons_zero->WK,getElem_cons_succ->WM,getElem?_eq_none->WX,mem_of_mem_head?->W8,mem_range'_1->QkW,range'_succ->QkX,drop_suffix->QkY,find?_some->Qk1,eq_nil_of_length_eq_zero->Qk3,getElem?_range->Qlb,lookup_append->Qle,drop_length->Qlg,getElem?_set_self->Qll,take_sublist->Qlp,getElem?_append_right->Qlq,eq_of_mem_replicate->Qlr,getLast?_concat->Qlt,singleton_inj->Qlv,suffix_append->Qlw,filter_congr->Qly,find?_cons->Qlz,pairwise_cons->QlC,getElem?_replicate_of_lt->QlG,length_zip->QlI,range_succ->QlK,flatMap_cons->QlM,length_filter_le->QlN,lookup_eq_some_iff->QlO,count_singleton->QlP,getLast?_cons_cons->QlQ,count_le_length->QlU,filter_eq_nil_iff->QlV
open Array renaming mk->bx,toList_inj->AQ,toList->E2,getElem?_toList->V4,toList_append->Qk2,toList_setIfInBounds->Qlo,mem_toList_iff->QlA,find?_toList->QlB,empty_append->QlJ
open PySem.PyData renaming int->bQ,casesOn->n6,list->tq,str->vp,eqv->AN,depthAll->AW,canLayAll0->AX,eqvAll->LC,depth->LD,canLay0->QlL
open PySem.W renaming boot_o_0->bV,boot_o_2->cf,boot_o_6->cg,boot_o_10->ch,boot_o_1->dw,boot_o_4->eX,mg_of->fh,boot_o_5->fC,topFrame->gv,boot_o_9->gE,boot_o_8->hU,boot_o_7->iP,segRunT->pz,Frag->pA,looks_pair->rI,WShape->rK,topRun->th,boot_heap->vz,deadEnd->yh,restOf->yk,segRun_of->Fg,WellAll->Fj
open Prod.mk renaming inj->dc,injEq->WN
open Nat renaming mul_comm->eQ,le_refl->eR,le_trans->fV,mul_assoc->fY,beq->gj,pow_add->g9,not_lt_zero->jB,pow_le_pow_right->jF,zero_le->kh,succ->kU,lt_of_lt_of_le->lZ,mul_le_mul_left->l7,div_add_mod->mN,mod_lt->mO,mul_le_mul_right->mP,two_pow_pos->mV,zero_add->n9,eq_zero_or_pos->pB,lt_irrefl->qr,lt_of_le_of_lt->qt,add_mul->qE,mul_left_comm->qG,mul_le_mul->qH,div_lt_iff_lt_mul->rJ,mul_add->to,mul_pos->tw,add_comm->vx,pow_succ->vB,pow_mul->vC,log2_lt->xV,two_mul->yn,rec->AL,div_eq_of_lt->A3,one_mul->A4,mod_eq_of_lt->A5,sub_add_cancel->EU,not_lt->E1,add_le_add->E5,ne_of_lt->Fa,succ_mul->KI,mod_two_eq_zero_or_one->KM,le_of_lt->KN,mul_one->Lu,sub_mul->Lw,le_mul_of_pos_left->Ly,div_mod_unique->Lz,zero_mul->LA,mul_add_mod->LG,le_total->VS,min_eq_left->VU,add_le_add_left->WA,le_zero->WB,one_ne_zero->WD,sub_le->WE,reduceAdd->WI,zero_lt_succ->WJ,reduceLT->WL,le_mul_of_pos_right->WP,and_two_pow_sub_one_eq_mod->WS,add_assoc->WU,zero_mod->WV,add_zero->WY,pow_pos->WZ,mul_add_div->W7,pow_lt_pow_right->W9,pos_of_ne_zero->QkJ,min_eq_right->QkM,le_of_lt_succ->QkO,div_le_div_right->QkP,lt_log2_self->QkU,lt_succ_self->Qlk,add_le_add_right->Qls,le_of_ble_eq_true->Qlx,eq_of_testBit_eq->QlD,testBit_div_two_pow->QlE,testBit_mod_two_pow->QlF,mul_lt_mul_of_pos_right->QlH,eq_sub_of_add_eq->QlR,add_right_cancel->QlS,add_mul_div_right->QlT
open Prod renaming rec->eV
open Or renaming elim->fI
open Int renaming ofNat->fO,natCast_mul->iq,toNat_natCast->jE,le_of_lt->n3,natCast_pow->pC,add_mul->rE,eq_ofNat_of_zero_le->tu,mul_comm->uY,le_of_eq->uZ,natCast_nonneg->u7,ofNat_le->u8,le_trans->xP,pow_succ->yl,natAbs_natCast->ym,one_mul->AM,le_refl->ET,ofNat_lt->EV,ofNat_inj->EW,pow_pos->E0,toNat_of_nonneg->E3,natCast_add->Fk,natAbs_mul->Fm,mul_assoc->KB,mul_one->KC,max_eq_right->KG,natAbs_of_nonneg->KJ,pow_add->Lv,neg_one_mul->VO,add_zero->VP,mul_nonneg->VQ,zero_mul->VR,max_eq_left->VT,emod_lt_of_pos->VV,emod_nonneg->VW,sub_mul->WO,natCast_ediv->WQ,natCast_emod->WR,lt_or_le->W6,negSucc_lt_zero->QkK,min_eq_right->QkL,le_sub_one_of_lt->QkN,natAbs_sub_le->QkQ,mul_le_mul_of_nonneg_right->QkV
open Ne renaming symm->gD
open True renaming intro->i8
open PySem.Heap renaming SameBut->jC,get?_push_size->kT,lt_size->l5,get?_push_of_some->qn,size_push->V9,get?_update_self->Qlj
open False renaming elim->pr
open PySem.Builtin.Str renaming strKind->sZ,strSliceIndices->KY
open PySem.NameKind renaming cell->ta,free->vk
open PySem.Value.ref renaming inj->tc
open PySem.Value renaming isInt->tm,ref->ye,isStrOf->Lr
open PySem.Txt renaming lower->xR
open PySem.Builtin.Int renaming intBits->xT
open PySem.Builtin renaming bitNot->xU,bitAnd->VY,bitOr->QkR,bitXor->QkS,divisionGoesByPylong->QkT
open PySem.Expr renaming casesOn->yc,ListComp->KL
open Eq renaming symm->KD
open Nat.succ renaming inj->KH
open PySem.Calls renaming callWith_function->K3,spliced_nil->Qk9,callWith_builtin->Qla
open ForInStep renaming yield->K6
open List.cons renaming inj->Lb
open PySem.Obj renaming mapSeq->Lh
open PySem.Heap.SameBut renaming update->Li
open PySem.StrLaws renaming partsFrom->V2
open Function renaming comp_def->WW,comp->Qld
open PySem.SeqAt renaming compareEq_reads->QkZ,compareNe_reads->Qk0
open PyProof.Rows renaming neg_int->Qk7
open PySem.ScopeKind renaming function->Qlc
open PySem.Data.dict renaming inj->Qli
open PySem.IsL renaming update->Qln
open PySem.PyData.list renaming inj->Qol
open PySem.Data.fields renaming inj->Qom
noncomputable section
open PySem PySem.W PyProof.Rows
namespace Mine.Internal
theorem ar{c:Prop}{h:Decidable c}(A:c){α:Sort _}{t e:α}:ite c t e=t:=if_pos A
theorem av{c:Prop}{h:Decidable c}(A:¬c){α:Sort _}{t e:α}:ite c t e=e:=if_neg A
theorem bH{p:Prop}[Decidable p]:(decide p=ac)=p:=decide_eq_true_eq
theorem bJ{α:Type _}[BEq α][LawfulBEq α]{a b:α}:(a==b)=ac<->a=b:=beq_iff_eq
theorem df{p:Prop}[h:Decidable p](k:p):decide p=ac:=decide_eq_true k
theorem fM{p:Prop}[h:Decidable p](k:¬p):decide p=ae:=decide_eq_false k
section
inductive Lx where|v (i:Nat)|k (c:Nat)|b (o:Nat) (e f:Lx)
structure Lc where
 t:Bool
 r:Nat
 e:Lx
 f:Lx
inductive Tr where|leaf (m:Nat)|sub (x y:Lx) (l r:Tr)|ne (j:Nat) (l r:Tr)|dm (b:Bool) (x:Lx) (c:Nat) (t:Tr)|tn (x:Lx) (l r:Tr)|mm (b:Bool) (x y:Lx) (l r:Tr)
noncomputable def Lx.isk:Lx->Option Nat
 | .k c=>aa c
 |_=>ab
noncomputable def Lx.sk:Nat->Lx
 |0=>.k 0
 |n+1=>.k (n+1)
noncomputable def Lx.dig(b:Nat):Lx->Lx
 | .k c=>sk (8*c+b)
 |e=>e
noncomputable def Lx.kof:Lx->Nat
 | .k c=>c
 |_=>0
noncomputable abbrev yL:=List Lx
noncomputable abbrev pL:=List Lc×List Tr
noncomputable def Lx.p1(k:Lx->yL->pL):yL->pL
 |[]=>([],[])
 |x::t=>k x t
noncomputable def Lx.p2(k:Lx->Lx->yL->pL)(s:yL):pL:=p1 (λy t=>p1 (λx t=>k x y t) t) s
noncomputable def Lx.q1(k:Tr->List Tr->pL):List Tr->pL
 |[]=>([],[])
 |x::t=>k x t
noncomputable def Lx.q2(k:Tr->Tr->List Tr->pL)(s:List Tr):pL:=q1 (λr t=>q1 (λl t=>k l r t) t) s
noncomputable def Lx.run:Nat->Nat->yL->List Lc->List Tr->pL
 |0,_,_,o,ts=>(o,ts)
 |j+1,z,st,o,ts=>
  cond (z==0) (o,ts)<|
  cond (z%8==0) (run j (z/64) (.v (z/8%8)::st) o ts)<|
  cond (z%8==1) (run j (z/64) (.k (z/8%8)::st) o ts)<|
  cond (z%8==2) (p1 (λc st=>run j (z/64) (dig (z/8%8) c::st) o ts) st)<|
  cond (z%8==3) (p2 (λx y st=>run j (z/64) (.b (z/8%8) x y::st) o ts) st)<|
  cond (z%8==6) (p2 (λx y st=>run j (z/64) st (⟨ac,z/8%8,x,y⟩::o) ts) st)<|
  cond (z%8==7) (p2 (λx y st=>run j (z/64) st (⟨ae,z/8%8,x,y⟩::o) ts) st)<|
  cond (z%8==4) (cond (z/8%8==5) (p1 (λx st=>run j (z/64) (.b 6 x (.k 0)::st) o ts) st)<|
   cond (z/8%8==6) (p2 (λx y st=>run j (z/64) (.b 8 x y::st) o ts) st)<|
   cond (z/8%8==7) (p1 (λx st=>run j (z/64) (.b 5 x (.k 0)::st) o ts) st)
    (run j (z/64) (.v (8+z/8%8)::st) o ts))<|
  cond (z/8%8==0) (p1 (λx st=>run j (z/64) st o (.leaf (kof x)::ts)) st)<|
  cond (z/8%8==1) (p2 (λx y st=>q2 (λl r ts=>run j (z/64) st o (.mm ac x y l r::ts)) ts) st)<|
  cond (z/8%8==2) (p2 (λx y st=>q2 (λl r ts=>run j (z/64) st o (.sub x y l r::ts)) ts) st)<|
  cond (z/8%8==3) (p1 (λx st=>q2 (λl r ts=>run j (z/64) st o (.ne (kof x) l r::ts)) ts) st)<|
  cond (z/8%8==4) (p2 (λx y st=>q1 (λt ts=>run j (z/64) st o (.dm ac x (kof y) t::ts)) ts) st)<|
  cond (z/8%8==5) (p2 (λx y st=>q1 (λt ts=>run j (z/64) st o (.dm ae x (kof y) t::ts)) ts) st)<|
  cond (z/8%8==6) (p1 (λx st=>q2 (λl r ts=>run j (z/64) st o (.tn x l r::ts)) ts) st)
   (p2 (λx y st=>q2 (λl r ts=>run j (z/64) st o (.mm ae x y l r::ts)) ts) st)
noncomputable def Lx.dec(n:Nat):pL:=Lx.run 500 n [] [] []
noncomputable def Lx.nth{α:Type}(z:α):List α->Nat->α
 |[],_=>z
 |x::t,i=>match i with|0=>x|i+1=>nth z t i
noncomputable def Lx.val(l:List Nat)(m:List Int)(e:Lx):Nat×Int:=
 @Lx.rec (λ_=>Nat×Int) (λi=>((@KA Nat (λ_=>Nat->Nat) (λ_=>0) (λx _ ih i=>@AL (λ_=>Nat) x (λj _=>ih j) i) l i),(@KA Int (λ_=>Nat->Int) (λ_=>0) (λx _ ih i=>@AL (λ_=>Int) x (λj _=>ih j) i) m i)))
  (λc=>(c,fO c))
  (λo _ _ x y=>((@gu (λ_=>Nat) (@gu (λ_=>Nat) (@gu (λ_=>Nat) (@gu (λ_=>Nat) (@gu (λ_=>Nat) (@gu (λ_=>Nat) (@gu (λ_=>Nat) (min (@eV Nat Int (λ_=>Nat) (λa _=>a) x) (@eV Nat Int (λ_=>Nat) (λa _=>a) y)) (max (@eV Nat Int (λ_=>Nat) (λa _=>a) x) (@eV Nat Int (λ_=>Nat) (λa _=>a) y)) (gj o 7)) (Int.toNat (@eV Nat Int (λ_=>Int) (λ_ b=>b) x)) (gj o 6)) ((@eV Nat Int (λ_=>Nat) (λa _=>a) x)%(@eV Nat Int (λ_=>Nat) (λa _=>a) y)) (gj o 4)) ((@eV Nat Int (λ_=>Nat) (λa _=>a) x)/(@eV Nat Int (λ_=>Nat) (λa _=>a) y)) (gj o 3)) ((@eV Nat Int (λ_=>Nat) (λa _=>a) x)*(@eV Nat Int (λ_=>Nat) (λa _=>a) y)) (gj o 2)) ((@eV Nat Int (λ_=>Nat) (λa _=>a) x)-(@eV Nat Int (λ_=>Nat) (λa _=>a) y)) (gj o 1)) ((@eV Nat Int (λ_=>Nat) (λa _=>a) x)+(@eV Nat Int (λ_=>Nat) (λa _=>a) y)) (gj o 0)),
   (@gu (λ_=>Int) (@gu (λ_=>Int) (@gu (λ_=>Int) (@gu (λ_=>Int) (@gu (λ_=>Int) (@gu (λ_=>Int) (@gu (λ_=>Int) (@gu (λ_=>Int) (min (@eV Nat Int (λ_=>Int) (λ_ b=>b) x) (@eV Nat Int (λ_=>Int) (λ_ b=>b) y)) (max (@eV Nat Int (λ_=>Int) (λ_ b=>b) x) (@eV Nat Int (λ_=>Int) (λ_ b=>b) y)) (gj o 7)) ((@eV Nat Int (λ_=>Nat) (λa _=>a) x):Int) (gj o 6)) (-(@eV Nat Int (λ_=>Int) (λ_ b=>b) x)) (gj o 5)) ((@eV Nat Int (λ_=>Int) (λ_ b=>b) x)%(@eV Nat Int (λ_=>Int) (λ_ b=>b) y)) (gj o 4)) ((@eV Nat Int (λ_=>Int) (λ_ b=>b) x)/(@eV Nat Int (λ_=>Int) (λ_ b=>b) y)) (gj o 3)) ((@eV Nat Int (λ_=>Int) (λ_ b=>b) x)*(@eV Nat Int (λ_=>Int) (λ_ b=>b) y)) (gj o 2)) ((@eV Nat Int (λ_=>Int) (λ_ b=>b) x)-(@eV Nat Int (λ_=>Int) (λ_ b=>b) y)) (gj o 1)) ((@eV Nat Int (λ_=>Int) (λ_ b=>b) x)+(@eV Nat Int (λ_=>Int) (λ_ b=>b) y)) (gj o 0)))) e
noncomputable def Lx.nv(l:List Nat)(m:List Int)(e:Lx):Nat:=(@eV Nat Int (λ_=>Nat) (λa _=>a) (val l m e))
noncomputable def Lx.iv(l:List Nat)(m:List Int)(e:Lx):Int:=(@eV Nat Int (λ_=>Int) (λ_ b=>b) (val l m e))
def Lx.rel{α:Type}[LE α][LT α](r:Nat)(x y:α):Prop:=(@gu (λ_=>Prop) (@gu (λ_=>Prop) (@gu (λ_=>Prop) (@gu (λ_=>Prop) (@gu (λ_=>Prop) (@gu (λ_=>Prop) (@gu (λ_=>Prop) (x≠y) (x=y) (gj r 6)) False (gj r 5)) (¬x<y) (gj r 4)) (¬x<=y) (gj r 3)) (x=y) (gj r 2)) (x<y) (gj r 1)) (x<=y) (gj r 0))
noncomputable def Lx.beq:Lx->Lx->Bool
 | .v i,y=>match y with| .v j=>i==j|_=>ae
 | .k i,y=>match y with| .k j=>i==j|_=>ae
 | .b o e f,y=>match y with| .b p g h=>o==p&&beq e g&&beq f h|_=>ae
noncomputable abbrev LP:=List ((Bool×Lx)×Int)
noncomputable def Lx.beqk(x y:Bool×Lx):Bool:=x.1==y.1&&x.2.beq y.2
noncomputable def vZ(x:Bool×Lx)(c:Int):LP->LP
 |[]=>[(x,c)]
 |y::p=>cond (Lx.beqk x y.1) ((y.1,y.2+c)::p) (y::vZ x c p)
noncomputable def jM:LP->LP->LP
 |[],q=>q
 |x::p,q=>vZ x.1 x.2 (jM p q)
noncomputable def jN(c:Int):LP->LP
 |[]=>[]
 |x::p=>(x.1,c*x.2)::jN c p
def nj(p q:LP):LP:=jM p (jN (-1) q)
noncomputable def Lx.lin(e:Lx)(fq:Bool):LP:=match e with
 | .v i=>[((fq,.v i),1)]
 | .k c=>[((ac,.k 1),c)]
 | .b o e f=>cond (o==0) (jM (lin e fq) (lin f fq))<|
  cond (o==1&& !fq) (nj (lin e fq) (lin f fq))<|
  cond (o==5&& !fq) (jN (-1) (lin e fq))<|
  cond (o==6&& !fq) (lin e ac)<|
  cond (o==2) (match isk e with
   |some c=>jN c (lin f fq)
   |none=>match isk f with
    |some c=>jN c (lin e fq)
    |none=>[((fq,.b o e f),1)]) [((fq,.b o e f),1)]
noncomputable def Lx.kone:Bool×Lx:=(ac,.k 1)
noncomputable def Lx.one:LP:=[(kone,1)]
def Lc.d(c:Lc):LP:=nj (c.e.lin c.t) (c.f.lin c.t)
def Lc.d'(c:Lc):LP:=nj (c.f.lin c.t) (c.e.lin c.t)
def Lc.lo(c:Lc):LP:=
 cond (c.r==0||c.r==2) c.d<|
 cond (c.r==1) (jM Lx.one c.d)<|
 cond (c.r==3) (jM Lx.one c.d')<|
 cond (c.r==4||c.r==6) c.d' []
noncomputable def Lc.negs(c:Lc):List Lc:=
 cond (c.r==0) [⟨c.t,3,c.e,c.f⟩]<|cond (c.r==1) [⟨c.t,4,c.e,c.f⟩]<|cond (c.r==3) [⟨c.t,0,c.e,c.f⟩]<|
 cond (c.r==4) [⟨c.t,1,c.e,c.f⟩]<|cond (c.r==2||c.r==6) [⟨c.t,7,c.e,c.f⟩]<|cond (c.r==5) [] [⟨c.t,2,c.e,c.f⟩,⟨c.t,6,c.e,c.f⟩]
noncomputable def Lx.all1:LP->Bool
 |[]=>ac
 |x::p=>cond (beqk kone x.1) (decide (0<x.2)) (cond x.1.1 (decide (0<=x.2)) (decide (x.2=0)))&&all1 p
noncomputable def Lx.any1:LP->Bool
 |[]=>ae
 |x::p=>beqk kone x.1||any1 p
noncomputable def Lx.comb:List LP->Nat->LP
 |[],_=>[]
 |p::ks,m=>jM (jN ((m%8:Nat):Int) p) (comb ks (m/8))
noncomputable def Lx.z0:Lc:=⟨ac,5,.k 0,.k 0⟩
def Lx.eq2(p q:LP)(ks:List LP):List LP:=nj p q::nj q p::ks
noncomputable def Lx.k0:Lx:=.k 0
noncomputable def Tr.chk(o:List Lc):Tr->List LP->Bool
 | .leaf m,ks=>Lx.all1 (Lx.comb ks m)&&Lx.any1 (Lx.comb ks m)
 | .sub x y l r,ks=>chk o l (Lx.eq2 (x.lin ac) (jM ((Lx.b 1 x y).lin ac) (y.lin ac)) ks)&&chk o r ((Lx.b 1 x y).lin ac::nj (x.lin ac) (y.lin ac)::ks)
 | .ne j l r,ks=>(Lx.nth Lx.z0 o j).r ==7&&(chk o l (jM Lx.one (Lx.nth Lx.z0 o j).d ::ks)&&chk o r (jM Lx.one (Lx.nth Lx.z0 o j).d' ::ks))
 | .dm b x c t,ks=> !(c==0)&&chk o t (Lx.eq2 (jM (jN c ((Lx.b 3 x (.k c)).lin b)) ((Lx.b 4 x (.k c)).lin b)) (x.lin b) (nj ((Lx.b 4 x (.k c)).lin b) [(Lx.kone,(c:Int)-1)]::jN (-1) ((Lx.b 4 x (.k c)).lin b)::ks))
 | .tn x l r,ks=>chk o l (Lx.eq2 ((Lx.b 6 x Lx.k0).lin ac) (x.lin ae) (jN (-1) (x.lin ae)::ks))&&chk o r ((Lx.b 6 x Lx.k0).lin ac::x.lin ae::ks)
 | .mm b x y l r,ks=>chk o l (Lx.eq2 ((Lx.b 7 x y).lin b) (y.lin b) (Lx.eq2 ((Lx.b 8 x y).lin b) (x.lin b) (nj (x.lin b) (y.lin b)::ks)))
   &&chk o r (Lx.eq2 ((Lx.b 7 x y).lin b) (x.lin b) (Lx.eq2 ((Lx.b 8 x y).lin b) (y.lin b) (nj (y.lin b) (x.lin b)::ks)))
noncomputable def Lx.los:List Lc->List LP
 |[]=>[]
 |c::o=>c.lo::los o
noncomputable def Lx.ap:List Lc->List Lc->List Lc
 |[],q=>q
 |x::p,q=>x::ap p q
noncomputable def Tr.top:List Tr->Tr
 |[]=>.leaf 1317624576693539401
 |t::_=>t
noncomputable def Lx.hd:List Lc->Lc
 |[]=>z0
 |c::_=>c
noncomputable def Lx.tl:List Lc->List Lc
 |[]=>[]
 |_::o=>o
noncomputable def Lx.chk(n:Nat):Bool:=(Tr.top (dec n).2).chk (ap (hd (dec n).1).negs (tl (dec n).1)) (los (ap (hd (dec n).1).negs (tl (dec n).1)))
structure Vok(w:Bool->Lx->Int):Prop where
 k:∀b c,w b (.k c)=c
 a:∀b e f,w b (.b 0 e f)=w b e+w b f
 m:∀b e f,w b (.b 2 e f)=w b e*w b f
 s:∀e f,w ae (.b 1 e f)=w ae e-w ae f
 g:∀e f,w ae (.b 5 e f)= -w ae e
 c:∀e f,w ae (.b 6 e f)=w ac e
 p:∀e,0<=w ac e
 t:∀e f,(w ac e=w ac (.b 1 e f)+w ac f)\/(w ac (.b 1 e f)<=0/\w ac e<=w ac f)
 z:∀e f,(w ac (.b 6 e f)=w ae e/\0<=w ae e)\/(w ac (.b 6 e f)<=0/\w ae e<=0)
 x:∀b e f,(w b e<=w b f/\w b (.b 7 e f)=w b f/\w b (.b 8 e f)=w b e)\/(w b f<=w b e/\w b (.b 7 e f)=w b e/\w b (.b 8 e f)=w b f)
 d:∀b e(c:Nat),0<c->(c:Int)*w b (.b 3 e (.k c))+w b (.b 4 e (.k c))=w b e/\w b (.b 4 e (.k c))<=(c:Int)-1/\0<=w b (.b 4 e (.k c))
noncomputable def cS(w:Bool->Lx->Int):LP->Int
 |[]=>0
 |x::p=>x.2*w x.1.1 x.1.2+cS w p
theorem YG:∀(x y:Lx),x.beq y=ac->x=y:=by
 intro x;induction x with
 |v i=>intro y h;cases y with
  |v j=>rw[eq_of_beq (show(i==j)=ac from h)]
  |k j=>exact gC h
  |b o e f=>exact gC h
 |k i=>intro y h;cases y with
  |k j=>rw[eq_of_beq (show(i==j)=ac from h)]
  |v j=>exact gC h
  |b o e f=>exact gC h
 |b o e f B A=>intro y h;cases y with
  |v j=>exact gC h
  |k j=>exact gC h
  |b p g k=>have h':(o==p&&e.beq g&&f.beq k)=ac:=h;have a:=(fP.1 h');have b:=(fP.1 a.1);rw[eq_of_beq b.1,B g b.2,A k a.2]
theorem M0(x y:Bool×Lx)(h:Lx.beqk x y=ac):x=y:=by have a:=fP.1 h;exact Prod.ext (eq_of_beq a.1)<|YG _ _ a.2
section
variable {w:Bool->Lx->Int}
theorem YH(x:Bool×Lx)(c:Int):∀p,cS w (vZ x c p)=c*w x.1 x.2+cS w p:=by
 intro p;induction p with
 |nil=>rfl
 |cons y p A=>
  show cS w (cond (Lx.beqk x y.1) ((y.1,y.2+c)::p)<|y::vZ x c p)=c*w x.1 x.2+(y.2*w y.1.1 y.1.2+cS w p);cases h:Lx.beqk x y.1 with
  |true=>show(y.2+c)*w y.1.1 y.1.2+cS w p=_;rw[M0 x y.1 h,rE,Int.add_comm (y.2*_),Int.add_assoc]
  |false=>show y.2*w y.1.1 y.1.2+cS w (vZ x c p)=_;rw[A,Int.add_left_comm]
theorem wa(q:LP):∀p,cS w (jM p q)=cS w p+cS w q:=by
 intro p;induction p with
 |nil=>exact(Int.zero_add _).symm
 |cons x p A=>show cS w (vZ x.1 x.2 (jM p q))=x.2*w x.1.1 x.1.2+cS w p+cS w q;rw[YH,A,Int.add_assoc]
theorem tP(c:Int):∀p,cS w (jN c p)=c*cS w p:=by
 intro p;induction p with
 |nil=>exact(Int.mul_zero c).symm
 |cons x p A=>show c*x.2*w x.1.1 x.1.2+cS w (jN c p)=c*(x.2*w x.1.1 x.1.2+cS w p);rw[A,Int.mul_add,KB]
theorem Gq(p q:LP):cS w (nj p q)=cS w p-cS w q:=by show cS w (jM p<|jN (-1) q)=_;rw[wa,tP,VO,Int.sub_eq_add_neg]
theorem Gr(V:Vok w)(c:Int):cS w [(Lx.kone,c)]=c:=by show c*w ac (.k 1)+0=c;rw[V.k];exact(VP _).trans<|KC c
theorem rW(b:Bool)(e:Lx):cS w [((b,e),1)]=w b e:=(VP _).trans<|AM _
theorem M1{e:Lx}{c:Nat}(h:e.isk=aa c):e=.k c:=by
 cases e with
 |k d=>exact congrArg Lx.k (aw h)
 |v i=>exact nomatch h
 |b o e f=>exact nomatch h
set_option tactic.hygienic true in
theorem fj(V:Vok w):∀(e:Lx)(A:Bool),cS w (e.lin A)=w A e:=by
 intro e;induction e with
 |v i=>exact λA=>rW _ _
 |k c=>exact λA=>(Gr V c).trans (V.k A c).symm
 |b o e f i j=>
  intro A;rcases o with _|_|_|_|_|_|_|o
  ·exact(wa _ _).trans<|(congr (congrArg HAdd.hAdd<|i A) (j A)).trans (V.a A e f).symm
  ·cases A
   ·exact(Gq _ _).trans<|(congr (congrArg HSub.hSub<|i ae) (j ae)).trans (V.s e f).symm
   ·exact rW _ _
  ·show cS w (match Lx.isk e with
    |some c=>jN c (f.lin A)
    |none=>match Lx.isk f with
     |some c=>jN c (e.lin A)
     |none=>[((A,.b 2 e f),1)])=w A (.b 2 e f)
   split
   ·next c B=>rw[tP,j,V.m,M1 B,V.k]
   ·split
    ·next c B=>rw[tP,i,V.m,M1 B,V.k,uY]
    ·exact rW _ _
  ·exact rW _ _
  ·exact rW _ _
  ·cases A
   ·exact(tP _ _).trans<|(congrArg _<|i ae).trans<|(VO _).trans (V.g e f).symm
   ·exact rW _ _
  ·cases A
   ·exact(i ac).trans (V.c e f).symm
   ·exact rW _ _
  ·exact rW _ _
theorem YI(V:Vok w):cS w Lx.one=1:=Gr V 1
def Lc.hold(w:Bool->Lx->Int)(c:Lc):Prop:=Lx.rel c.r (w c.t c.e) (w c.t c.f)
theorem M2(V:Vok w)(c:Lc):cS w c.d=w c.t c.e-w c.t c.f:=by show cS w (nj (c.e.lin c.t)<|c.f.lin c.t)=_;rw[Gq,fj V,fj V]
theorem M3{a b:Int}(h:a<=b):a-b<=0:=Int.sub_nonpos_of_le h
theorem YJ{a b:Int}(h:a<b):1+(a-b)<=0:=by omega
theorem Gs(V:Vok w)(c:Lc)(h:w c.t c.e<w c.t c.f):cS w (jM Lx.one c.d)<=0:=by rw[wa,YI V,M2 V];exact YJ h
theorem M4(V:Vok w)(c:Lc)(h:w c.t c.f<w c.t c.e):cS w (jM Lx.one c.d')<=0:=Gs V ⟨c.t,c.r,c.f,c.e⟩ h
theorem Gu(V:Vok w)(c:Lc)(h:w c.t c.e<=w c.t c.f):cS w c.d<=0:=by rw[M2 V];exact M3 h
theorem M5(V:Vok w)(c:Lc)(h:w c.t c.f<=w c.t c.e):cS w c.d'<=0:=Gu V ⟨c.t,c.r,c.f,c.e⟩ h
theorem YK(V:Vok w)(c:Lc)(h:c.hold w):cS w c.lo<=0:=by
 obtain⟨t,r,e,f⟩:=c;rcases r with _|_|_|_|_|_|_|r
 ·exact Gu V ⟨t,0,e,f⟩ h
 ·exact Gs V ⟨t,0,e,f⟩ h
 ·exact Gu V ⟨t,0,e,f⟩<|uZ h
 ·exact M4 V ⟨t,0,e,f⟩<|Int.not_le.1 h
 ·exact M5 V ⟨t,0,e,f⟩<|Int.not_lt.1 h
 ·exact pr h
 ·exact M5 V ⟨t,0,e,f⟩<|uZ<|KD h
 ·exact ET 0
noncomputable def Lx.alls{α:Type}(P:α->Prop):List α->Prop
 |[]=>True
 |x::o=>P x/\alls P o
theorem YL(c:Lc)(h:¬c.hold w):Lx.alls (Lc.hold w) c.negs:=by
 obtain⟨t,r,e,f⟩:=c;rcases r with _|_|_|_|_|_|_|r
 ·exact⟨h,trivial⟩
 ·exact⟨h,trivial⟩
 ·exact⟨h,trivial⟩
 ·exact⟨KF.1 h,trivial⟩
 ·exact⟨KF.1 h,trivial⟩
 ·exact trivial
 ·exact⟨h,trivial⟩
 ·exact⟨KF.1 h,KF.1 h,trivial⟩
abbrev tQ(w:Bool->Lx->Int)(p:LP):Prop:=cS w p<=0
theorem YM(V:Vok w):∀o,Lx.alls (Lc.hold w) o->Lx.alls (tQ w) (Lx.los o):=by
 intro o;induction o with
 |nil=>exact id
 |cons c o A=>exact λh=>⟨YK V c h.1,A h.2⟩
theorem YN:∀(A:List LP)(m:Nat),Lx.alls (tQ w) A->cS w (Lx.comb A m)<=0:=by
 intro A;induction A with
 |nil=>exact λ_ _=>ET 0
 |cons p A B=>intro m h;show cS w (jM (jN ((m%8:Nat):Int) p) (Lx.comb A (m/8)))<=0;rw[wa,tP];exact Int.add_nonpos (Int.mul_nonpos_of_nonneg_of_nonpos (u7 _) h.1) (B _ h.2)
theorem YO(V:Vok w):∀p,Lx.all1 p=ac->0<=cS w p/\(Lx.any1 p=ac->0<cS w p):=by
 intro p;induction p with
 |nil=>exact λ_=>⟨ET 0,λh=>gC h⟩
 |cons x p C=>
  intro h;have a:=fP.1<|show(cond (Lx.beqk Lx.kone x.1) (decide (0<x.2)) (cond x.1.1 (decide (0<=x.2))<|decide (x.2=0))&&Lx.all1 p)=ac from h;have b:=C a.2;have d:=a.1;show 0<=x.2*w x.1.1 x.1.2+cS w p/\((Lx.beqk Lx.kone x.1||Lx.any1 p)=ac->0<x.2*w x.1.1 x.1.2+cS w p);cases A:Lx.beqk Lx.kone x.1 with
  |true=>rw[A]at d;have e:=of_decide_eq_true d;rw[<-M0 _ _ A,show w Lx.kone.1 Lx.kone.2=1 from V.k ac 1,KC];exact⟨Int.add_nonneg (n3 e) b.1,λ_=>Int.add_pos_of_pos_of_nonneg e b.1⟩
  |false=>
   rw[A]at d;have e:0<=x.2*w x.1.1 x.1.2:=by
    cases B:x.1.1 with
    |true=>rw[B]at d;exact VQ (of_decide_eq_true d) (V.p _)
    |false=>rw[B]at d;rw[show x.2=0 from of_decide_eq_true d,VR];exact ET 0
   exact⟨Int.add_nonneg e b.1,λh=>Int.add_pos_of_nonneg_of_pos e<|b.2 h⟩
theorem YQ{P:Lc->Prop}(B:P Lx.z0->False):∀(o:List Lc)(j:Nat),Lx.alls P o->(Lx.nth Lx.z0 o j).r =7->P (Lx.nth Lx.z0 o j):=by
 intro o;induction o with
 |nil=>exact λj _ h=>nomatch h
 |cons c o A=>
  intro j h e;cases j with
  |zero=>exact h.1
  |succ j=>exact A j h.2 e
theorem wc{p q:LP}(h:cS w p<=cS w q):tQ w<|nj p q:=xP (uZ<|Gq p q)<|M3 h
theorem tS{p q:LP}{A:List LP}(h:cS w p=cS w q)(B:Lx.alls (tQ w) A):Lx.alls (tQ w)<|Lx.eq2 p q A:=⟨wc<|uZ h,wc<|uZ h.symm,B⟩
theorem M6{p:LP}(h:0<=cS w p):tQ w<|jN (-1) p:=by show cS w _<=0;rw[tP,VO];exact Int.neg_nonpos_of_nonneg h
theorem YR(V:Vok w)(o:List Lc)(G:Lx.alls (Lc.hold w) o):∀(t:Tr)(B:List LP),Lx.alls (tQ w) B->t.chk o B=ac->False:=by
 intro t;induction t with
 |leaf m=>intro B A h;have a:=fP.1 (show(Lx.all1 (Lx.comb B m)&&Lx.any1 (Lx.comb B m))=ac from h);exact Int.not_lt.2 (YN B m A) ((YO V _ a.1).2 a.2)
 |sub x y l r D C=>
  intro B A h;have a:=fP.1 h;rcases V.t x y with q|q
  ·refine D _ ?_ a.1;exact tS (by rw[wa,fj V,fj V,fj V];exact q) A
  ·refine C _ ?_ a.2;exact⟨xP (uZ<|fj V _ _) q.1,wc (by rw[fj V,fj V];exact q.2),A⟩
 |ne j l r D C=>
  intro B A h;have a:=fP.1 h;have b:=fP.1 a.2;have q:=YQ id o j G<|eq_of_beq a.1;unfold Lc.hold at q;rw[eq_of_beq a.1]at q;rcases Int.lt_or_gt_of_ne q with q|q
  ·refine D _ ?_ b.1;exact⟨Gs V _ q,A⟩
  ·refine C _ ?_ b.2;exact⟨M4 V _ q,A⟩
 |dm b x c t it=>
  intro B A h;have a:=fP.1 h;have H:0<c:=QkJ λe=>by rw[e]at a;exact gC a.1
  have q:=V.d b x c H;refine it _ ?_ a.2;refine tS (by rw[wa,tP,fj V,fj V,fj V];exact q.1) ⟨wc (by rw[fj V,Gr V];exact q.2.1),M6 (by rw[fj V];exact q.2.2),A⟩
 |tn x l r D C=>
  intro B A h;have a:=fP.1 h;rcases V.z x Lx.k0 with q|q
  ·refine D _ ?_ a.1;exact tS (by rw[fj V,fj V];exact q.1) ⟨M6 (by rw[fj V];exact q.2),A⟩
  ·refine C _ ?_ a.2;exact⟨xP (uZ<|fj V _ _) q.1,xP (uZ<|fj V _ _) q.2,A⟩
 |mm b x y l r D C=>
  intro B A h;have a:=fP.1 h;rcases V.x b x y with q|q
  ·refine D _ ?_ a.1;exact tS (by rw[fj V,fj V];exact q.2.1)<|tS (by rw[fj V,fj V];exact q.2.2) ⟨wc (by rw[fj V,fj V];exact q.1),A⟩
  ·refine C _ ?_ a.2;exact tS (by rw[fj V,fj V];exact q.2.1)<|tS (by rw[fj V,fj V];exact q.2.2) ⟨wc (by rw[fj V,fj V];exact q.1),A⟩
theorem YS{P:Lc->Prop}(q:List Lc):∀p,Lx.alls P p->Lx.alls P q->Lx.alls P (Lx.ap p q):=by
 intro p;induction p with
 |nil=>exact λ_ h=>h
 |cons x p A=>exact λh g=>⟨h.1,A h.2 g⟩
theorem YT(V:Vok w)(n:Nat)(h:Lx.chk n=ac)(B:Lx.alls (Lc.hold w)<|Lx.tl (Lx.dec n).1):(Lx.hd (Lx.dec n).1).hold w:=
 aE λC=>
  have A:=YS _ _ (YL _ C) B
  YR V _ A _ _ (YM V _ A) h
end
noncomputable def Lx.w(l:List Nat)(m:List Int)(b:Bool)(e:Lx):Int:=cond b ((e.nv l m):Int) ((e.iv l m))
theorem YU(l:List Nat)(m:List Int):Vok (Lx.w l m) where
 k:=λb _=>by cases b<;>rfl
 a:=λb _ _=>by cases b<;>rfl
 m:=λb _ _=>by cases b<;>rfl
 s:=λ_ _=>rfl
 g:=λ_ _=>rfl
 c:=λ_ _=>rfl
 p:=λ_=>u7 _
 t:=λe f=>(VS (f.nv l m)<|e.nv l m).elim (λh=>.inl<|congrArg fO (EU h).symm)
  λh=>.inr ⟨u8.2<|Nat.le_of_eq<|Nat.sub_eq_zero_of_le h,u8.2 h⟩
 z:=λe f=>by
  show((e.iv l m).toNat :Int)=e.iv l m/\0<=e.iv l m\/((e.iv l m).toNat :Int)<=0/\e.iv l m<=0;cases e.iv l m with
  |ofNat n=>exact .inl ⟨rfl,u7 n⟩
  |negSucc n=>exact .inr ⟨ET 0,n3 (QkK n)⟩
 x:=λb e f=>by
  cases b
  ·exact(Int.le_total (e.iv l m)<|f.iv l m).imp (λh=>⟨h,KG h,Int.min_eq_left h⟩) λh=>⟨h,VT h,QkL h⟩
  ·exact(VS (e.nv l m)<|f.nv l m).imp (λh=>⟨u8.2 h,congrArg fO<|Nat.max_eq_right h,congrArg fO<|VU h⟩)
    λh=>⟨u8.2 h,congrArg fO<|Nat.max_eq_left h,congrArg fO<|QkM h⟩
 d:=λb e c h=>by
  cases b
  ·exact⟨Int.mul_ediv_add_emod _ _,QkN<|VV _<|Int.natCast_pos.2 h,VW _<|Int.ne_of_gt<|Int.natCast_pos.2 h⟩
  ·exact⟨congrArg fO<|mN (e.nv l m) c,QkN<|EV.2<|mO (e.nv l m) h,u7 _⟩
noncomputable def Lx.at(n i:Nat):Lc:=nth z0 (dec n).1 i
def Lc.den(l:List Nat)(m:List Int)(c:Lc):Prop:=@gu (λ_=>Prop) (Lx.rel c.r (c.e.iv l m) (c.f.iv l m)) (Lx.rel c.r (c.e.nv l m) (c.f.nv l m)) c.t
def Lx.ih(l:List Nat)(m:List Int)(n i:Nat):Prop:=(Lx.at n i).den l m
theorem YV(r x y:Nat):Lx.rel r (x:Int) (y:Int)=Lx.rel r x y:=by
 rcases r with _|_|_|_|_|_|_|r
 ·exact propext u8
 ·exact propext EV
 ·exact propext EW
 ·exact congrArg Not<|propext u8
 ·exact congrArg Not<|propext EV
 ·rfl
 ·exact propext EW
 ·exact congrArg Not<|propext EW
theorem M7(l:List Nat)(m:List Int)(c:Lc):c.hold (Lx.w l m)=c.den l m:=by
 obtain⟨t,r,e,f⟩:=c;cases t
 ·rfl
 ·exact YV _ _ _
noncomputable def Lx.len:List Lc->Nat
 |[]=>0
 |_::o=>len o+1
noncomputable def Lx.ck(n i:Nat):Bool:=chk n&&len (dec n).1==i+1
theorem YW{P:Lc->Prop}:∀(o:List Lc)(k:Nat),Lx.len o=k->(∀i,i<k->P (Lx.nth Lx.z0 o i))->Lx.alls P o:=by
 intro o;induction o with
 |nil=>exact λ_ _ _=>trivial
 |cons c o A=>intro k B H;subst B;exact⟨H 0 (Nat.succ_pos _),A _ rfl (λi C=>H (i+1) (Nat.succ_lt_succ C))⟩
theorem iT(n k:Nat)(l:List Nat)(m:List Int)(h:Lx.ck n k=ac)(H:∀i,i<k->Lx.ih l m n (i+1)):Lx.ih l m n 0:=by
 have a:=fP.1 h;have q:=YT (YU l m) n a.1;have e:=eq_of_beq a.2;have H':∀i,i<k->(Lx.nth Lx.z0 (Lx.dec n).1<|i+1).hold (Lx.w l m):=λi B=>(M7 l m _).mpr<|H i B;refine(M7 l m _).mp ?_;unfold Lx.at;cases A:(Lx.dec n).1 with
 |nil=>rw[A]at e;exact nomatch e
 |cons c o=>rw[A]at q H' e;exact q (YW o k (KH e) H')
theorem cU{P:Nat->Prop}{k:Nat}(H:∀i,i<k->P (i+1))(h:P<|k+1):∀i,i<k+1->P (i+1):=λi A=>(Nat.lt_or_eq_of_le<|QkO A).elim (H i)<|λe=>e▸h
theorem N0(n:Nat)(l:List Nat)(h:Lx.ck n 0=ac):Lx.ih l [] n 0:=iT n 0 l [] h<|λ_ h=>absurd h<|jB _
theorem N1(n:Nat)(l:List Nat)(h:Lx.ck n 1=ac)(A:Lx.ih l [] n 1):Lx.ih l [] n 0:=iT n 1 l [] h<|cU (λ_ h=>absurd h<|jB _) A
theorem N2(n:Nat)(l:List Nat)(h:Lx.ck n 2=ac)(B:Lx.ih l [] n 1)(A:Lx.ih l [] n 2):Lx.ih l [] n 0:=iT n 2 l [] h<|cU (cU (λ_ h=>absurd h<|jB _) B) A
theorem N3(n:Nat)(l:List Nat)(h:Lx.ck n 3=ac)(C:Lx.ih l [] n 1)(B:Lx.ih l [] n 2)(A:Lx.ih l [] n 3):Lx.ih l [] n 0:=iT n 3 l [] h<|cU (cU (cU (λ_ h=>absurd h<|jB _) C) B) A
theorem N4(n:Nat)(l:List Nat)(h:Lx.ck n 4=ac)(D:Lx.ih l [] n 1)(C:Lx.ih l [] n 2)(B:Lx.ih l [] n 3)(A:Lx.ih l [] n 4):Lx.ih l [] n 0:=iT n 4 l [] h<|cU (cU (cU (cU (λ_ h=>absurd h<|jB _) D) C) B) A
theorem N5(n:Nat)(l:List Nat)(h:Lx.ck n 5=ac)(G:Lx.ih l [] n 1)(D:Lx.ih l [] n 2)(C:Lx.ih l [] n 3)(B:Lx.ih l [] n 4)(A:Lx.ih l [] n 5):Lx.ih l [] n 0:=iT n 5 l [] h<|cU (cU (cU (cU (cU (λ_ h=>absurd h<|jB _) G) D) C) B) A
theorem N6(n:Nat)(l:List Nat)(h:Lx.ck n 6=ac)(H:Lx.ih l [] n 1)(G:Lx.ih l [] n 2)(D:Lx.ih l [] n 3)(C:Lx.ih l [] n 4)(B:Lx.ih l [] n 5)(A:Lx.ih l [] n 6):Lx.ih l [] n 0:=iT n 6 l [] h<|cU (cU (cU (cU (cU (cU (λ_ h=>absurd h<|jB _) H) G) D) C) B) A
theorem Z0(n:Nat)(m:List Int)(h:Lx.ck n 0=ac):Lx.ih [] m n 0:=iT n 0 [] m h<|λ_ h=>absurd h<|jB _
theorem Z1(n:Nat)(m:List Int)(h:Lx.ck n 1=ac)(A:Lx.ih [] m n 1):Lx.ih [] m n 0:=iT n 1 [] m h<|cU (λ_ h=>absurd h<|jB _) A
theorem Z2(n:Nat)(m:List Int)(h:Lx.ck n 2=ac)(B:Lx.ih [] m n 1)(A:Lx.ih [] m n 2):Lx.ih [] m n 0:=iT n 2 [] m h<|cU (cU (λ_ h=>absurd h<|jB _) B) A
theorem Z3(n:Nat)(m:List Int)(h:Lx.ck n 3=ac)(C:Lx.ih [] m n 1)(B:Lx.ih [] m n 2)(A:Lx.ih [] m n 3):Lx.ih [] m n 0:=iT n 3 [] m h<|cU (cU (cU (λ_ h=>absurd h<|jB _) C) B) A
theorem Z4(n:Nat)(m:List Int)(h:Lx.ck n 4=ac)(D:Lx.ih [] m n 1)(C:Lx.ih [] m n 2)(B:Lx.ih [] m n 3)(A:Lx.ih [] m n 4):Lx.ih [] m n 0:=iT n 4 [] m h<|cU (cU (cU (cU (λ_ h=>absurd h<|jB _) D) C) B) A
theorem W0(n:Nat)(l:List Nat)(m:List Int)(h:Lx.ck n 0=ac):Lx.ih l m n 0:=iT n 0 l m h<|λ_ h=>absurd h<|jB _
theorem W1(n:Nat)(l:List Nat)(m:List Int)(h:Lx.ck n 1=ac)(A:Lx.ih l m n 1):Lx.ih l m n 0:=iT n 1 l m h<|cU (λ_ h=>absurd h<|jB _) A
theorem W2(n:Nat)(l:List Nat)(m:List Int)(h:Lx.ck n 2=ac)(B:Lx.ih l m n 1)(A:Lx.ih l m n 2):Lx.ih l m n 0:=iT n 2 l m h<|cU (cU (λ_ h=>absurd h<|jB _) B) A
theorem W3(n:Nat)(l:List Nat)(m:List Int)(h:Lx.ck n 3=ac)(C:Lx.ih l m n 1)(B:Lx.ih l m n 2)(A:Lx.ih l m n 3):Lx.ih l m n 0:=iT n 3 l m h<|cU (cU (cU (λ_ h=>absurd h<|jB _) C) B) A
theorem W4(n:Nat)(l:List Nat)(m:List Int)(h:Lx.ck n 4=ac)(D:Lx.ih l m n 1)(C:Lx.ih l m n 2)(B:Lx.ih l m n 3)(A:Lx.ih l m n 4):Lx.ih l m n 0:=iT n 4 l m h<|cU (cU (cU (cU (λ_ h=>absurd h<|jB _) D) C) B) A
theorem W5(n:Nat)(l:List Nat)(m:List Int)(h:Lx.ck n 5=ac)(G:Lx.ih l m n 1)(D:Lx.ih l m n 2)(C:Lx.ih l m n 3)(B:Lx.ih l m n 4)(A:Lx.ih l m n 5):Lx.ih l m n 0:=iT n 5 l m h<|cU (cU (cU (cU (cU (λ_ h=>absurd h<|jB _) G) D) C) B) A
theorem Yt:ac=ac:=rfl
def M8{a0 a1 a2:Nat}:=N2 0x74114a08914a0822560c84005ec40bb08b00dec40bb08b00 [a0,a1,a2] Yt
def Gv{a0 a1 a2:Nat}:=N4 0x2544074114a08a08209208914a2820820824822560c84d04405906d103641b4405888d1036223440 [a0,a1,a2] Yt
def BV{a0:Int}:=Z1 0x14a089fc100f001 [a0] Yt
def M9{a0:Int}:=Z1 0x1c0f02082082082082082082082082082082247001 [a0] Yt
def Na{a0:Int}:=Z1 0x3c20820820820820820820820820820822401c2892682640 [a0] Yt
def yM{a0:Nat}:=N1 0x6082082082082240182892682640 [a0] Yt
def Nb{a0:Int}:=Z1 0x70820820820822401c2892682640 [a0] Yt
def Nc{a0:Nat}{b0:Int}:=W2 0x70820820820820890c0b001c208a2a2c9900608228a8b2640 [a0] [b0] Yt
def BW{a0 a1:Nat}:=N1 0x188006200 [a0,a1] Yt
def Nd{a0 a1:Nat}:=N2 0x75114a24528224600324818023e200 [a0,a1] Yt
def BX{a0 a1:Nat}:=N1 0x188006203240 [a0,a1] Yt
def Gw{a0 a1:Nat}:=N1 0x183248006200 [a0,a1] Yt
def Nf{a0:Nat}:=N1 0x74114a089149581006040 [a0] Yt
def Ng{a0 a1:Nat}:=N2 0x74114a08914a0822560c92005832480c10360c9203040 [a0,a1] Yt
def Nh{a0 a1:Nat}:=N0 0x1520324054800528208224508a08954800528208224508a2822462c80c900b200 [a0,a1] Yt
def Gx{a0:Nat}:=N0 0x60c9000 [a0] Yt
def Ni{a0 a1:Nat}:=N1 0x74114a0891495812160c90030c9200 [a0,a1] Yt
def Nj{a0 a1 a2:Nat}:=N2 0x74114a08914a0822560c94032032405832500c32480360c94030c9200 [a0,a1,a2] Yt
def Nk{a0 a1:Nat}:=N1 0x54021d04528a08224528225d0452822452895880cb008006200 [a0,a1] Yt
def Nl{a0:Nat}:=N0 0x1d0452452560c90030c9001 [a0] Yt
def BY{a0 a1 a2 a3 a4:Nat}:=N2 0x36000508228228a28914208a08228a24e603d200083980e28890d3412248182240 [a0,a1,a2,a3,a4] Yt
def BZ{a0 a1 a2 a3 a4:Nat}:=N2 0x34080508228208a28914208a08a28a24e603d008032483980e28890d3412248182240 [a0,a1,a2,a3,a4] Yt
def Gy{a0 a1:Nat}:=N1 0x180236200 [a0,a1] Yt
def Nm{a0 a1:Nat}:=N2 0xf082082082082082082082082082082089b003c208208208208208208208208208208226c206200 [a0,a1] Yt
def B0{a0:Int}:=Z1 0x9c1007001 [a0] Yt
def Nn{a0:Int}:=Z1 0xf4005d04528a08208208914a08a08225d04528914a0895c0ec0047001 [a0] Yt
def yN{a0 a1:Nat}:=N0 0x60c8000 [a0,a1] Yt
def wd{a0:Nat}:=N1 0x1d24528914938007e040 [a0] Yt
def No{a0:Nat}:=N1 0x1828926826409800a249a099 [a0] Yt
def we{a0:Int}:=Z1 0x3c101f001 [a0] Yt
def Np{a0 a1 a2:Nat}{b0:Int}:=W4 0xf08208208208208208208208208208208900f082082082082082082082082082082089b1019000fb08036200 [a0,a1,a2] [b0] Yt
def Nq{a0 a1 a2:Nat}{b0:Int}:=W4 0x703c0820820820820820820820820820820893c208208208208208208208208208208226c4064001c0f2c236200 [a0,a1,a2] [b0] Yt
def Nr{a0:Nat}:=N1 0x6082082082082240182aba240 [a0] Yt
def Nt{a0:Nat}:=N1 0x6082082082082240382aba240 [a0] Yt
def Nu{a0:Int}:=Z1 0x1c0f020820820820820820820820820820a13c0f02082082082082082082082082082089 [a0] Yt
def Gz{a0:Int}:=Z1 0x3c0f020820820820820820820820820820893c0f02082082082082082082082082082089 [a0] Yt
def Nv{a0:Int}:=Z1 0x3c208208208208208208208208208208900f082082082082082082082082082082240 [a0] Yt
def Nw{a0 a1 a2:Nat}:=N2 0x54940528228a24508a24e40b250d880d000e200 [a0,a1,a2] Yt
def Nx{a0 a1 a2:Nat}:=N3 0x1525074114a28208208914a08a08225d04528228224528a0820895880cb2500c9016203400d880d000e200 [a0,a1,a2] Yt
def Ny{a0 a1 a2:Nat}:=N2 0x74114a08914a0822562005880d0026200 [a0,a1,a2] Yt
def GA{a0:Int}:=Z1 0xd401422891422822893c20820820820820820820820820820822403c208208208208208208208208208208226cb00 [a0] Yt
def Nz{a0 a1 a2 a3:Nat}:=N3 0x6082082082082243010182892682643218598416200 [a0,a1,a2,a3] Yt
def yO{a0 a1 a2:Nat}:=N2 0xe40059020e200 [a0,a1,a2] Yt
def GB{a0 a1:Nat}:=N1 0x180226200 [a0,a1] Yt
def yP{a0:Nat}:=N1 0x183240c99180c99 [a0] Yt
def qQ{a0:Nat}:=N0 0x9c1b00 [a0] Yt
def GC{a0 a1:Nat}:=N1 0x38800e200 [a0,a1] Yt
def NA{a0 a1:Nat}:=N0 0x54800528224508a24600b200 [a0,a1] Yt
def GD{a0:Nat}:=N0 0x1d045245256003001 [a0] Yt
def NB{a0 a1:Nat}:=N2 0x6eba08a8b26401bae822a2c9920e200 [a0,a1] Yt
def NC{a0 a1 a2:Int}:=Z3 0x2d44320075114a08208208914a08a2824820913d000f200fc80c901741b443200 [a0,a1,a2] Yt
def ND{a0 a1 a2:Int}:=Z2 0xb510c800528208a48a44f2103c803741b443200 [a0,a1,a2] Yt
def NE{a0 a1:Int}:=Z3 0x74914a245482089b8104f008fc00c92074532c8011 [a0,a1] Yt
def NF{a0:Int}:=Z0 0x1d0452452574d3011453453440 [a0] Yt
def NG{a0:Int}:=Z0 0x1d0452452574c0453440 [a0] Yt
def NH{a0:Nat}{b0 b1 b2:Int}:=W3 0xb510c800528208a48a4911ec0103c8007b0023741b443200 [a0] [b0,b1,b2] Yt
def NI{a0 a1:Nat}:=N2 0x6eba08a8b26401828b2a9a699206200 [a0,a1] Yt
def yQ{a0 a1:Int}:=Z1 0x1cb00804f200 [a0,a1] Yt
def NJ{a0 a1:Nat}:=N2 0x3c20820820a1b001828b2a9a699206213240 [a0,a1] Yt
def NK{a0 a1:Int}:=Z2 0x15226e0413c02072532c8011 [a0,a1] Yt
def NL{a0 a1:Nat}:=N1 0x382aba240382aba2430c90c9200 [a0,a1] Yt
def NM{a0:Nat}:=N1 0xe0aae8900e0aae890f2640 [a0] Yt
def oH{a0:Nat}:=N1 0xfb0004e001 [a0] Yt
def NN{a0:Nat}:=N1 0x14a4470820820a14cb06c011182082082440 [a0] Yt
def iU{a0:Nat}:=N0 0x1ec001 [a0] Yt
def NO{a0:Nat}:=N1 0x75114a24527e040fc1b00 [a0] Yt
def NP{a0:Nat}:=N1 0x6082082082082240182082082440 [a0] Yt
def yR{a0 a1:Nat}:=N1 0x3ec22c00e200 [a0,a1] Yt
def NQ{a0:Nat}:=N1 0x708228a8b266c00608228a8b2640 [a0] Yt
def NR{a0 a1:Int}:=Z1 0x1c32032000470d3211001 [a0,a1] Yt
def GE{a0 a1:Nat}:=N2 0x548a24e20119321100e001 [a0,a1] Yt
def B1{a0 a1:Nat}:=N2 0x6eba08a8b2640182092a8a889206200 [a0,a1] Yt
def NS{a0:Nat}:=N1 0x54901d04528224528a08225d04528914a0895ec2c900b26c00e001 [a0] Yt
def B2{a0 a1:Nat}:=N2 0x608228a8b2640182092a8a889206200 [a0,a1] Yt
def GF{a0 a1:Nat}:=N1 0x1500874114a08914a28208974114a245282257b0b0082ec02c206200 [a0,a1] Yt
def GG{a0:Nat}:=N1 0x5490052822891422893802c900e001 [a0] Yt
def NT{a0 a1:Nat}:=N1 0x1524814228a24528228918b24800e200 [a0,a1] Yt
def yS{a0 a1:Nat}:=N1 0x18800e200 [a0,a1] Yt
def yT{a0:Nat}:=N1 0x528227f06c00e001 [a0] Yt
def GH{a0:Nat}:=N1 0x14a089f8100e001 [a0] Yt
def NU{a0 a1 a2:Nat}:=N2 0x74114a08914a0822564030085900c8036403200 [a0,a1,a2] Yt
def yU{a0 a1 a2:Nat}:=N2 0xe210380406200 [a0,a1,a2] Yt
def NV{a0:Nat}:=N0 0x1d0452452564d1013440 [a0] Yt
def NW{a0 a1 a2 a3:Nat}:=N3 0x95100508228248a2891984064d84405a34402364d0443200 [a0,a1,a2,a3] Yt
def NX{a0 a1 a2 a3:Nat}:=N4 0x2544014208a09248a28918208a2a2c99406082ab20b16064d84405a34402364d0443200 [a0,a1,a2,a3] Yt
def GI{a0:Nat}:=N0 0x60c9009 [a0] Yt
def GJ{a0:Nat}:=N0 0x1d045245257b002c9f0b27cb00 [a0] Yt
def NY{a0:Nat}:=N0 0x1d045245257b03240f0b27cb00 [a0] Yt
def B3{a0:Nat}:=N0 0x70c326c03c241 [a0] Yt
def GK{a0:Nat}:=N0 0xd430c9b00f0974114a24528225d04528914a089580b030c9b00f09 [a0] Yt
def yV{a0 a1:Nat}:=N1 0xf6c001d7bb0004db3bb0004874114a08228208914a08208208208208208974114a08228228914a08208a08208208208208936ceec00121d04528208a08228208914a08208208208208208225d04528208a08a28208914a08208a082082082082082275eec00136ceec00121d04528208a08224528208208208a08974114a08228228914a08208a08208208208208936ceec00121d04528208a08228208914a08208a08228208974114a08228228a082245282082282082082082082089580d2ceec001206200 [a0,a1] Yt
def NZ{a0 a1:Nat}:=N1 0x3db00045082082282275eec00114228228208208936ceec00120508208228228208a08208224508208a0820820820820891b4b3bb0004821e200 [a0,a1] Yt
def N7{a0:Nat}:=N0 0xfb00f020820820820820820820820820820a1 [a0] Yt
def B4{a0:Nat}:=N1 0x70a249a099b00182892682640 [a0] Yt
def GL{a0:Nat}:=N0 0xfb00f02082082082082082082082082082089 [a0] Yt
def N8{a0:Nat}:=N1 0x3c2082082082082082082082082082089b00182892682640 [a0] Yt
def N9{a0:Nat}:=N1 0x1d04528224525706c016040 [a0] Yt
def GM{a0:Nat}:=N1 0x75114a24527f06c03e040 [a0] Yt
def Oa{a0:Int}:=Z0 0x2da40b6225ba40d638896e900528208208208208224528208208a0820820893a226c8e225ba40 [a0] Yt
def Ob{a0:Nat}:=N1 0x1ba692682640182aba240 [a0] Yt
def Oc{a0 a1 a2 a3:Nat}:=N3 0x528a8891930c86210c04064d8850188246840 [a0,a1,a2,a3] Yt
def wg{a0:Nat}:=N1 0x182892682640192240 [a0] Yt
def Od{a0:Nat}:=N1 0xe08208209284301aca1382c40 [a0] Yt
def GN{a0 a1 a2 a3:Nat}:=N0 0x1d0452452560c00d80d0203603403200 [a0,a1,a2,a3] Yt
def GO{a0 a1 a2 a3:Nat}:=N0 0x1d0452452560c80d80d0003603403200 [a0,a1,a2,a3] Yt
def GP{a0 a1 a2 a3:Nat}:=N0 0x1d0452452560d00d80c8003603403200 [a0,a1,a2,a3] Yt
def GQ{a0 a1 a2 a3:Nat}:=N0 0x1d0452452560d80d00c0203603403200 [a0,a1,a2,a3] Yt
def GR{a0 a1 a2 a3:Nat}:=N0 0x1d0452452560d80c80d0003603403200 [a0,a1,a2,a3] Yt
def Oe{a0:Nat}:=N1 0x54901d04528224528a08225d04528914a08958324b24000e001 [a0] Yt
def Of{a0 a1 a2 a3:Nat}:=N0 0x7411491495c3b180ec403b08b00b03603403200 [a0,a1,a2,a3] Yt
def B5{a0:Nat}:=N1 0x180246011 [a0] Yt
def GS{a0 a1 a2:Nat}:=N4 0x74114a08a08914a0822822564005832502360c94085880c9036203240 [a0,a1,a2] Yt
def Og{a0:Nat}:=N1 0x1524014228224528228938b240046011 [a0] Yt
def GT{a0 a1:Nat}:=N1 0x38324800e200 [a0,a1] Yt
def Oh{a0 a1:Nat}:=N2 0x14a8893824430132213a120e840 [a0,a1] Yt
def Oi{a0:Nat}:=N1 0x182892682643019193a89aa2240 [a0] Yt
def GU{a0 a1:Nat}:=N2 0x74114a08914a082257b08b00588036200 [a0,a1] Yt
def GV{a0 a1:Nat}:=N1 0x1d44528914a089fec22c03e200 [a0,a1] Yt
def GW:=N0 0x192241 [] Yt
def wh{a0:Nat}:=N1 0x60a249a0990068a2240 [a0] Yt
def Oj{a0 a1:Nat}:=N1 0x508a27f0ec23a6910ec039382c40 [a0,a1] Yt
def GX{a0:Nat}:=N1 0x68a2240182240 [a0] Yt
def GY{a0 a1:Nat}:=N2 0x1524814228224508a28224e200188c4e2c9200 [a0,a1] Yt
def GZ{a0 a1:Nat}:=N2 0x1524814228224508a28224e203240188c4e2c9200 [a0,a1] Yt
def Ol{a0:Nat}:=N0 0x5490c025d04528914a08974114a08914a25600b243009 [a0] Yt
def Om{a0:Nat}:=N0 0x1d0452452560c9003009 [a0] Yt
def On{a0 a1:Nat}:=N2 0x14a8891ba2430132213a120e840 [a0,a1] Yt
def Oo:=N0 0x182892682649 [] Yt
def G0{a0:Nat}:=N1 0x182892682640182240 [a0] Yt
def Op{a0:Nat}:=N2 0x1524014228208914228a2460a249a0992c9006089006031 [a0] Yt
def G1{a0:Nat}:=N1 0x180246021 [a0] Yt
def Oq{a0:Nat}:=N1 0x54900528224508a28918224b240182240 [a0] Yt
def G2{a0 a1 a2 a3:Nat}:=N1 0x6089006e43603403200 [a0,a1,a2,a3] Yt
def G3{a0 a1 a2 a3:Nat}:=N1 0x6089206e43603403200 [a0,a1,a2,a3] Yt
def G4{a0 a1 a2 a3:Nat}:=N1 0x6089406e43603403200 [a0,a1,a2,a3] Yt
def G5{a0 a1 a2 a3:Nat}:=N1 0x6089606e43603403200 [a0,a1,a2,a3] Yt
def yW{a0:Nat}:=N1 0x6089006e40 [a0] Yt
def Os{a0:Nat}:=N1 0x60a2caa69a640182892682640 [a0] Yt
def Ot{a0 a1:Nat}:=N2 0xe082082092840192e89216200 [a0,a1] Yt
def G6{a0 a1:Nat}:=N2 0x1a2889006089216200 [a0,a1] Yt
def Ou{a0:Nat}:=N1 0x182892682640182aba240 [a0] Yt
def Ov{a0 a1:Nat}:=N2 0x60aae890c8016648182240 [a0,a1] Yt
def Ow{a0:Nat}:=N2 0x54900508a08224508a2891b92c9006089006031 [a0] Yt
def pM{a0:Nat}{b0:Int}(z:Nat):=W2 z [a0] [b0]
def k9{a0 a1 a2 a3:Nat}(z:Nat):=N0 z [a0,a1,a2,a3]
def bD{a0 a1:Nat}(z:Nat):=N1 z [a0,a1]
def iB{a0 a1 a2 a3:Nat}(z:Nat):=N2 z [a0,a1,a2,a3]
def fS{a0 a1 a2:Nat}(z:Nat):=N1 z [a0,a1,a2]
def fT{a0:Int}(z:Nat):=Z1 z [a0]
def gG{a0:Int}(z:Nat):=Z0 z [a0]
def aH{a0:Nat}(z:Nat):=N1 z [a0]
def iV(z:Nat):=N0 z []
def qR{a0 a1:Int}(z:Nat):=Z2 z [a0,a1]
def jO{a0 a1 a2 a3:Nat}(z:Nat):=N3 z [a0,a1,a2,a3]
def bS{a0 a1:Nat}(z:Nat):=N2 z [a0,a1]
def ig{a0 a1:Nat}(z:Nat):=N0 z [a0,a1]
def fN{a0 a1 a2:Nat}(z:Nat):=N2 z [a0,a1,a2]
def rX{a0 a1 a2 a3:Nat}(z:Nat):=N4 z [a0,a1,a2,a3]
def cN{a0:Nat}(z:Nat):=N0 z [a0]
def wi{a0 a1 a2 a3 a4:Nat}(z:Nat):=N0 z [a0,a1,a2,a3,a4]
def nk{a0 a1 a2 a3:Nat}(z:Nat):=N1 z [a0,a1,a2,a3]
def mv{a0 a1 a2:Nat}(z:Nat):=N3 z [a0,a1,a2]
def pN{a0:Nat}{b0:Int}(z:Nat):=W1 z [a0] [b0]
def tT{a0 a1:Int}(z:Nat):=Z1 z [a0,a1]
def pO{a0:Nat}(z:Nat):=N2 z [a0]
def yX{a0 a1 a2 a3 a4:Nat}(z:Nat):=N4 z [a0,a1,a2,a3,a4]
def yY{a0 a1 a2 a3:Int}(z:Nat):=Z0 z [a0,a1,a2,a3]
end
section
@[elab_as_elim] theorem af {α:Sort _} {a b:α} {P:α->Prop} (h:a=b) (m:P b):P a:=h▸m
@[elab_as_elim] theorem bT {α:Sort _} {a b:α} {P:α->Prop} (h:a=b) (m:P a):P b:=h▸m
@[elab_as_elim] theorem oc {α:Type _} {P:Option α->Prop} (o:Option α) (h1:o=ab->P ab) (h2:∀a,o=aa a->P (aa a)):P o:=by cases o with|none=>exact h1 rfl|some a=>exact h2 a rfl
@[elab_as_elim] theorem bc {P:Bool->Prop} (o:Bool) (h1:o=ae->P ae) (h2:o=ac->P ac):P o:=by cases o with|false=>exact h1 rfl|true=>exact h2 rfl
theorem aG{P Q g:Prop}(h:P/\Q)(z:P->Q->g):g:=z h.1 h.2
theorem fx{P Q R g:Prop}(h:P/\Q/\R)(z:P->Q->R->g):g:=z h.1 h.2.1 h.2.2
theorem yZ{P Q R S g:Prop}(h:P/\Q/\R/\S)(z:P->Q->R->S->g):g:=z h.1 h.2.1 h.2.2.1 h.2.2.2
theorem YX{P Q R S T g:Prop}(h:P/\Q/\R/\S/\T)(z:P->Q->R->S->T->g):g:=z h.1 h.2.1 h.2.2.1 h.2.2.2.1 h.2.2.2.2
theorem YY{P Q R S T U g:Prop}(h:P/\Q/\R/\S/\T/\U)(z:P->Q->R->S->T->U->g):g:=z h.1 h.2.1 h.2.2.1 h.2.2.2.1 h.2.2.2.2.1 h.2.2.2.2.2
theorem aF{α:Sort _}{P:α->Prop}{g:Prop}(h:∃a,P a)(z:∀a,P a->g):g:=h.elim λa h=>z a h
theorem b9{α:Sort _}{P:α->Prop}(a:α)(A:P a):∃a,P a:=⟨a,A⟩
theorem ah{α:Sort _}{P Q:α->Prop}{g:Prop}(h:∃a,P a/\Q a)(z:∀a,P a->Q a->g):g:=h.elim λa h=>z a h.1 h.2
theorem br{α:Sort _}{P Q:α->Prop}(a:α)(B:P a)(A:Q a):∃a,P a/\Q a:=⟨a,B,A⟩
theorem nl{α:Sort _}{P Q R:α->Prop}{g:Prop}(h:∃a,P a/\Q a/\R a)(z:∀a,P a->Q a->R a->g):g:=h.elim λa h=>z a h.1 h.2.1 h.2.2
theorem Ox{α:Sort _}{P Q R:α->Prop}(a:α)(C:P a)(B:Q a)(A:R a):∃a,P a/\Q a/\R a:=⟨a,C,B,A⟩
theorem tU{α:Sort _}{P Q R S:α->Prop}{g:Prop}(h:∃a,P a/\Q a/\R a/\S a)(z:∀a,P a->Q a->R a->S a->g):g:=h.elim λa h=>z a h.1 h.2.1 h.2.2.1 h.2.2.2
theorem y5{α:Sort _}{P Q R S:α->Prop}(a:α)(D:P a)(C:Q a)(B:R a)(A:S a):∃a,P a/\Q a/\R a/\S a:=⟨a,D,C,B,A⟩
theorem kw{α β:Sort _}{P:α->β->Prop}{g:Prop}(h:∃a b,P a b)(z:∀a b,P a b->g):g:=h.elim λa h=>h.elim λb h=>z a b h
theorem gH{α β:Sort _}{P:α->β->Prop}(a:α)(b:β)(A:P a b):∃a b,P a b:=⟨a,b,A⟩
theorem eE{α β:Sort _}{P Q:α->β->Prop}{g:Prop}(h:∃a b,P a b/\Q a b)(z:∀a b,P a b->Q a b->g):g:=h.elim λa h=>h.elim λb h=>z a b h.1 h.2
theorem jh{α β:Sort _}{P Q:α->β->Prop}(a:α)(b:β)(B:P a b)(A:Q a b):∃a b,P a b/\Q a b:=⟨a,b,B,A⟩
theorem dJ{α β:Sort _}{P Q R:α->β->Prop}{g:Prop}(h:∃a b,P a b/\Q a b/\R a b)(z:∀a b,P a b->Q a b->R a b->g):g:=h.elim λa h=>h.elim λb h=>z a b h.1 h.2.1 h.2.2
theorem ji{α β:Sort _}{P Q R:α->β->Prop}(a:α)(b:β)(C:P a b)(B:Q a b)(A:R a b):∃a b,P a b/\Q a b/\R a b:=⟨a,b,C,B,A⟩
theorem pP{α β:Sort _}{P Q R S:α->β->Prop}{g:Prop}(h:∃a b,P a b/\Q a b/\R a b/\S a b)(z:∀a b,P a b->Q a b->R a b->S a b->g):g:=h.elim λa h=>h.elim λb h=>z a b h.1 h.2.1 h.2.2.1 h.2.2.2
theorem qS{α β:Sort _}{P Q R S:α->β->Prop}(a:α)(b:β)(D:P a b)(C:Q a b)(B:R a b)(A:S a b):∃a b,P a b/\Q a b/\R a b/\S a b:=⟨a,b,D,C,B,A⟩
theorem B6{α β:Sort _}{P Q R S T:α->β->Prop}{g:Prop}(h:∃a b,P a b/\Q a b/\R a b/\S a b/\T a b)(z:∀a b,P a b->Q a b->R a b->S a b->T a b->g):g:=h.elim λa h=>h.elim λb h=>z a b h.1 h.2.1 h.2.2.1 h.2.2.2.1 h.2.2.2.2
theorem G7{α β:Sort _}{P Q R S T:α->β->Prop}(a:α)(b:β)(G:P a b)(D:Q a b)(C:R a b)(B:S a b)(A:T a b):∃a b,P a b/\Q a b/\R a b/\S a b/\T a b:=⟨a,b,G,D,C,B,A⟩
theorem YZ{α β:Sort _}{P Q R S T U:α->β->Prop}{g:Prop}(h:∃a b,P a b/\Q a b/\R a b/\S a b/\T a b/\U a b)(z:∀a b,P a b->Q a b->R a b->S a b->T a b->U a b->g):g:=h.elim λa h=>h.elim λb h=>z a b h.1 h.2.1 h.2.2.1 h.2.2.2.1 h.2.2.2.2.1 h.2.2.2.2.2
theorem y6{α β γ:Sort _}{P:α->β->γ->Prop}{g:Prop}(h:∃a b c,P a b c)(z:∀a b c,P a b c->g):g:=h.elim λa h=>h.elim λb h=>h.elim λc h=>z a b c h
theorem Oy{α β γ:Sort _}{P:α->β->γ->Prop}(a:α)(b:β)(c:γ)(A:P a b c):∃a b c,P a b c:=⟨a,b,c,A⟩
theorem wj{α β γ:Sort _}{P Q:α->β->γ->Prop}{g:Prop}(h:∃a b c,P a b c/\Q a b c)(z:∀a b c,P a b c->Q a b c->g):g:=h.elim λa h=>h.elim λb h=>h.elim λc h=>z a b c h.1 h.2
theorem ky{α β γ:Sort _}{P Q R:α->β->γ->Prop}{g:Prop}(h:∃a b c,P a b c/\Q a b c/\R a b c)(z:∀a b c,P a b c->Q a b c->R a b c->g):g:=h.elim λa h=>h.elim λb h=>h.elim λc h=>z a b c h.1 h.2.1 h.2.2
theorem B7{α β γ:Sort _}{P Q R:α->β->γ->Prop}(a:α)(b:β)(c:γ)(C:P a b c)(B:Q a b c)(A:R a b c):∃a b c,P a b c/\Q a b c/\R a b c:=⟨a,b,c,C,B,A⟩
theorem dy{α β γ:Sort _}{P Q R S:α->β->γ->Prop}{g:Prop}(h:∃a b c,P a b c/\Q a b c/\R a b c/\S a b c)(z:∀a b c,P a b c->Q a b c->R a b c->S a b c->g):g:=h.elim λa h=>h.elim λb h=>h.elim λc h=>z a b c h.1 h.2.1 h.2.2.1 h.2.2.2
theorem jj{α β γ:Sort _}{P Q R S:α->β->γ->Prop}(a:α)(b:β)(c:γ)(D:P a b c)(C:Q a b c)(B:R a b c)(A:S a b c):∃a b c,P a b c/\Q a b c/\R a b c/\S a b c:=⟨a,b,c,D,C,B,A⟩
theorem Y1{α β γ:Sort _}{P Q R S T:α->β->γ->Prop}{g:Prop}(h:∃a b c,P a b c/\Q a b c/\R a b c/\S a b c/\T a b c)(z:∀a b c,P a b c->Q a b c->R a b c->S a b c->T a b c->g):g:=h.elim λa h=>h.elim λb h=>h.elim λc h=>z a b c h.1 h.2.1 h.2.2.1 h.2.2.2.1 h.2.2.2.2
theorem y7{α β γ:Sort _}{P Q R S T:α->β->γ->Prop}(a:α)(b:β)(c:γ)(G:P a b c)(D:Q a b c)(C:R a b c)(B:S a b c)(A:T a b c):∃a b c,P a b c/\Q a b c/\R a b c/\S a b c/\T a b c:=⟨a,b,c,G,D,C,B,A⟩
theorem Y2{α β γ:Sort _}{P Q R S T U:α->β->γ->Prop}{g:Prop}(h:∃a b c,P a b c/\Q a b c/\R a b c/\S a b c/\T a b c/\U a b c)(z:∀a b c,P a b c->Q a b c->R a b c->S a b c->T a b c->U a b c->g):g:=h.elim λa h=>h.elim λb h=>h.elim λc h=>z a b c h.1 h.2.1 h.2.2.1 h.2.2.2.1 h.2.2.2.2.1 h.2.2.2.2.2
theorem Y3{α β γ:Sort _}{P Q R S T U:α->β->γ->Prop}(a:α)(b:β)(c:γ)(H:P a b c)(G:Q a b c)(D:R a b c)(C:S a b c)(B:T a b c)(A:U a b c):∃a b c,P a b c/\Q a b c/\R a b c/\S a b c/\T a b c/\U a b c:=⟨a,b,c,H,G,D,C,B,A⟩
theorem B8{α β γ δ:Sort _}{P:α->β->γ->δ->Prop}{g:Prop}(h:∃a b c d,P a b c d)(z:∀a b c d,P a b c d->g):g:=h.elim λa h=>h.elim λb h=>h.elim λc h=>h.elim λd h=>z a b c d h
theorem Oz{α β γ δ:Sort _}{P:α->β->γ->δ->Prop}(a:α)(b:β)(c:γ)(d:δ)(A:P a b c d):∃a b c d,P a b c d:=⟨a,b,c,d,A⟩
theorem B9{α β γ δ:Sort _}{P Q R S:α->β->γ->δ->Prop}{g:Prop}(h:∃a b c d,P a b c d/\Q a b c d/\R a b c d/\S a b c d)(z:∀a b c d,P a b c d->Q a b c d->R a b c d->S a b c d->g):g:=h.elim λa h=>h.elim λb h=>h.elim λc h=>h.elim λd h=>z a b c d h.1 h.2.1 h.2.2.1 h.2.2.2
theorem Ca{α β γ δ:Sort _}{P Q R S:α->β->γ->δ->Prop}(a:α)(b:β)(c:γ)(d:δ)(D:P a b c d)(C:Q a b c d)(B:R a b c d)(A:S a b c d):∃a b c d,P a b c d/\Q a b c d/\R a b c d/\S a b c d:=⟨a,b,c,d,D,C,B,A⟩
theorem Y4{α β γ δ:Sort _}{P Q R S T:α->β->γ->δ->Prop}{g:Prop}(h:∃a b c d,P a b c d/\Q a b c d/\R a b c d/\S a b c d/\T a b c d)(z:∀a b c d,P a b c d->Q a b c d->R a b c d->S a b c d->T a b c d->g):g:=h.elim λa h=>h.elim λb h=>h.elim λc h=>h.elim λd h=>z a b c d h.1 h.2.1 h.2.2.1 h.2.2.2.1 h.2.2.2.2
theorem wk{α β γ δ:Sort _}{P Q R S T:α->β->γ->δ->Prop}(a:α)(b:β)(c:γ)(d:δ)(G:P a b c d)(D:Q a b c d)(C:R a b c d)(B:S a b c d)(A:T a b c d):∃a b c d,P a b c d/\Q a b c d/\R a b c d/\S a b c d/\T a b c d:=⟨a,b,c,d,G,D,C,B,A⟩
theorem Y5{α β γ δ:Sort _}{P Q R S T U V:α->β->γ->δ->Prop}{g:Prop}(h:∃a b c d,P a b c d/\Q a b c d/\R a b c d/\S a b c d/\T a b c d/\U a b c d/\V a b c d)(z:∀a b c d,P a b c d->Q a b c d->R a b c d->S a b c d->T a b c d->U a b c d->V a b c d->g):g:=h.elim λa h=>h.elim λb h=>h.elim λc h=>h.elim λd h=>z a b c d h.1 h.2.1 h.2.2.1 h.2.2.2.1 h.2.2.2.2.1 h.2.2.2.2.2.1 h.2.2.2.2.2.2
theorem Y6{α β γ δ:Sort _}{P Q R S T U V:α->β->γ->δ->Prop}(a:α)(b:β)(c:γ)(d:δ)(L:P a b c d)(H:Q a b c d)(G:R a b c d)(D:S a b c d)(C:T a b c d)(B:U a b c d)(A:V a b c d):∃a b c d,P a b c d/\Q a b c d/\R a b c d/\S a b c d/\T a b c d/\U a b c d/\V a b c d:=⟨a,b,c,d,L,H,G,D,C,B,A⟩
theorem Y7{α β γ δ ε:Sort _}{P:α->β->γ->δ->ε->Prop}{g:Prop}(h:∃a b c d e,P a b c d e)(z:∀a b c d e,P a b c d e->g):g:=h.elim λa h=>h.elim λb h=>h.elim λc h=>h.elim λd h=>h.elim λe h=>z a b c d e h
theorem Y8{α β γ δ ε:Sort _}{P:α->β->γ->δ->ε->Prop}(a:α)(b:β)(c:γ)(d:δ)(e:ε)(A:P a b c d e):∃a b c d e,P a b c d e:=⟨a,b,c,d,e,A⟩
theorem OA{α β γ δ ε ζ:Sort _}{P:α->β->γ->δ->ε->ζ->Prop}{g:Prop}(h:∃a b c d e f,P a b c d e f)(z:∀a b c d e f,P a b c d e f->g):g:=h.elim λa h=>h.elim λb h=>h.elim λc h=>h.elim λd h=>h.elim λe h=>h.elim λf h=>z a b c d e f h
theorem OB{α β γ δ ε ζ:Sort _}{P:α->β->γ->δ->ε->ζ->Prop}(a:α)(b:β)(c:γ)(d:δ)(e:ε)(f:ζ)(A:P a b c d e f):∃a b c d e f,P a b c d e f:=⟨a,b,c,d,e,f,A⟩
theorem hz{v b X d:Nat}(h:v<b)(A:d<X):v*X+d<b*X:=lZ (Nat.add_lt_add_left A _) (by rw[<-KI];exact mP X h)
theorem OC{L R M K C G:Int}(B:(L+R)/2=M)(h:2*(R-L)<=G)(A:G=2*(2*K))(D:C=2*K):2*(M-L)<=C/\2*(R-M)<=C:=⟨Z4 0xb510d88054820924a228a4470132e0a11de86d10d88074132e06115d34c84514374c8440 [_,_,_,_,_,_] Yt B h A D,(by have e:R-M<=K:=Z3 0xb510d06050924828a22891c82e041781b4434181c04cb6104574d3211440 [_,_,_,_,_] Yt B h A;clear B h A;exact Z2 0x528a4476132c8011dd341160740b200 [_,_,_,_] Yt D e)⟩
theorem OD(x:Int):x%4=0\/x%4=1\/x%4=2\/x%4=3:=by
 by_cases C:x%4=0
 ·exact .inl C
 by_cases B:x%4=1
 ·exact .inr<|.inl B
 by_cases A:x%4=2
 ·exact .inr<|.inr<|.inl A
 exact .inr<|.inr<|.inr<|Z3 0xb6101d04528208975175914a08914a25d24528914a0820820895d98e103f063840fc98e103f463840 [_] Yt C B A
theorem OE(q:n%2=1):n+1=2*((n+1)/2):=(Nat.mul_div_cancel'<|Nat.dvd_of_mod_eq_zero<|by rw[Nat.add_mod,q]).symm
theorem Y9(n:Nat):∀z:Int,min n (max 0 z).toNat =(max 0<|min z n).toNat
 | .ofNat k=>by
  show min n (max 0 (k:Int)).toNat =(max 0<|min (k:Int) n).toNat;rw[KG<|u7 k];show min n k=_;refine(VS k n).elim (λh=>?_)<|λh=>?_
  ·rw[Int.min_eq_left<|u8.mpr h,KG<|u7 k,QkM h];rfl
  ·rw[QkL<|u8.mpr h,KG<|u7 n,VU h];rfl
 | .negSucc k=>by have h:Int.negSucc k<=0:=n3 (QkK k);rw[VT h,VT (xP (Int.min_le_left _ _) h)];exact Nat.min_zero _
theorem Cb(h:x<n+1):x<n\/x=n:=Nat.lt_succ_iff_lt_or_eq.mp h
theorem Za(h:x<3):x=0\/x=1\/x=2:=(Cb h).elim (λh=>(Cb h).elim (λh=>.inl<|Nat.lt_one_iff.mp h)<|λe=>.inr<|.inl e)<|λe=>.inr<|.inr e
theorem y8(h:x<2):x=0\/x=1:=(Cb h).elim (λh=>.inl<|Nat.lt_one_iff.mp h) .inr
theorem d7(h:x<4):x=0\/x=1\/x=2\/x=3:=(Cb h).elim (λh=>(Za h).imp_right<|λh=>h.imp_right .inl)<|λe=>.inr<|.inr<|.inr e
theorem G8(h:¬x<2)(A:x<4):x=2\/x=3:=(d7 A).elim (λe=>absurd (e▸Nat.zero_lt_two) h)<|λe=>e.elim (λe=>absurd (e▸Nat.one_lt_two) h) id
theorem G9{α:Type}{w:List α}(B:1<=w.length)(A:w.length<=3):(∃x,w=[x])\/(∃x y,w=[x,y])\/∃x y z,w=[x,y,z]:=by
 cases w with
 |nil=>exact absurd B (Nat.not_succ_le_zero 0)
 |cons x r=>cases r with
  |nil=>exact .inl ⟨x,rfl⟩
  |cons y r=>cases r with
   |nil=>exact .inr (.inl ⟨x,y,rfl⟩)
   |cons z r=>cases r with
    |nil=>exact .inr (.inr ⟨x,y,z,rfl⟩)
    |cons u r=>exact absurd A (Nat.not_le_of_gt (Nat.le_add_left 4 r.length))
theorem Zb{L R:Int}{i:Nat}(B:0<=L)(e:L+1=R)(A:(i:Int)<L\/R<=i):L.toNat≠i:=A.elim (λh c=>pM 0x3500508a24508a08a26e0413c0b00580b00 Yt h c)<|λh c=>W4 0xd4014a08a28a24528208228a26e0411c00572032401ec008d80b00 [_] [_,_] Yt B e h c
theorem Zc{A B C D E F G H I:Nat}(e:(A:Int)-B=C)(T:D=2*A+E)(Q:F=2*B+G)(O:H=2*C+I)(c:(E:Int)-G=I):(D:Int)-F=H:=by have M:A=C+B:=M8 e e;have L:E=I+G:=M8 c c;subst M L T Q O;exact k9 0x7411491495ec0d04c044bb03613211b030d84130c8011 Yt
theorem Zd(l:x<y+1+4010):x/30+1<=y/30+1+150:=by have h:=QkP (c:=30)<|show x<=y+30*134 from bD 0x1834f2091c992003834aacb90c9200 Yt l;rw[Nat.add_mul_div_left _ _<|by decide]at h;exact bD 0x25c99225c99005082082082082289183c9244325bc9920325bc990060f20916f26486f2640 Yt h
theorem Ze{A B C D:Nat}(h:A+B=C+D):(A:Int)+((B:Int)-(D:Int))=(C:Int):=iB 0x74114a08914a082257b100cbb18b08b005836100c80360d8403200 Yt h h
theorem ci(k c:Nat):((k:Int)=(c:Int))↔(c=k):=⟨λh=>(Int.ofNat.inj h).symm,λh=>congrArg fO h.symm⟩
theorem Zf{y:Int}(h:0<y)(A:y<2^30):y.natAbs<1073741824:=EV.mp (by rw[KJ<|n3 h];exact A)
theorem Zg{x:Int}{y A:Nat}(e:x= -(y:Int)-1)(h:x.natAbs<A):y<A:=by obtain rfl:x=Int.negSucc y:=e.trans<|(Int.neg_add).symm.trans (Int.negSucc_eq y).symm;exact Nat.lt_of_succ_lt h
theorem OF{a b c:Nat}(h:a+b<=c):((a:Int)-(b:Int)).natAbs <=c:=fV (QkQ _ _) h
end
section
mutual
inductive BI|len|sum|ord|chr|max|list|divmod
inductive TB|b1|b3|tok
end
mutual
inductive MM|bitlen|split|startswith|endswith|find|join|lower|count
inductive BO|add|sub|mul|fdiv|mod|shl|shr|band|bor|bxor|pow
end
mutual
inductive CO|eq|ne|lt|le|gt|ge|is|isnt|isin|notin
inductive CZ|z
end
inductive ME
 |kn|kb (b:Bool)|ki (i:Int)|ks (s:List Nat)
 |v (i:Nat)
 |bin (op:BO) (l r:ME)
 |neg (e:ME)|inv (e:ME)
 |cmp (op:CO) (l r:ME)
 |ite (t a b:ME)
 |nt (t:ME)
 |bop (Hn:Bool) (es:List ME)
 |tup (es:List ME)|lst (es:List ME)
 |call (f:Nat) (es:List ME)
 |bi (b:BI) (es:List ME)
 |meth (m:MM) (o:ME) (es:List ME)
 |idx (o i:ME)
 |sl (o lo hi:ME)
 |rng (es:List ME)
 |rvd (e:ME)
 |comp (src:List (Option Nat)) (tgt:Nat) (elt it:ME) (A8:List ME)
 |comp2 (src:List (Option Nat)) (t0 t1:Nat) (elt it0 it1:ME) (A8:List ME)
 |idx2 (i:Nat) (a b:ME)
 |gIn (t:TB) (neg:Bool) (e:ME)
 |gGet (t:TB) (e:ME)
 |gget (t:TB) (e:ME)
inductive MS
 |asg (i:Nat) (e:ME)
 |own (i:Nat) (e:ME)
 |unp (is:List Nat) (e:ME)
 |aug (i:Nat) (op:BO) (e:ME)
 |ife (t:ME) (a b:List MS)
 |whl (t:ME) (b:List MS)
 |forr (is:List Nat) (one:Bool) (it:ME) (b:List MS)
 |ret (e:ME)
 |app (i:Nat) (e:ME)
 |ext (i:Nat) (e:ME)
 |rev (i:Nat)
 |del (i:Nat) (k:Int)
 |asrt (t:ME)
 |brk
 |frz (i:Nat)
 |rais
 |own2 (i:Nat) (e:ME)
 |sto (i:Nat) (a b e:ME)
structure Cx where
 names:List (ao×dn)
 own:List Nat:=[]
 own2:List Nat:=[]
noncomputable def Cx.find(c:Cx)(x:ao):Option (Nat×dn):=go 0 c.names
where go (i:Nat):List (ao×dn)->Option (Nat×dn)
 |[]=>ab
 |(n,k)::r=>if n==x then aa (i,k)else go (i+1) r
noncomputable def Cc(s:ao):List Nat:=s.cps.toList
noncomputable def tV:List ao:=["_div2n1n","_div3n2n","_int2digits","_digits2int","_divmod_pos","int_divmod","_ellipsis_match","in_table_b1","map_table_b3","ISTERMINAL","ISNONTERMINAL","ISEOF","_law_unseen","_law_spelled","_law_drawn","_law_read","_law_divided","_law_words","_law_height","_law_line","_law_trees","_law_orders","_law_rows"]
def Ha(x:ao):Option Nat:=tV.findIdx? (· ==x)
noncomputable def tW(x:ao):Option BI:=
 if x=="len" then aa .len else if x=="sum" then aa .sum else if x=="ord" then aa .ord else if x=="chr" then aa .chr
 else if x=="max" then aa .max else if x=="list" then aa .list
 else if x=="divmod" then aa .divmod else ab
noncomputable def y9(x:ao):Option MM:=
 if x=="bit_length" then aa .bitlen else if x=="split" then aa .split else if x=="startswith" then aa .startswith else if x=="endswith" then aa .endswith
 else if x=="find" then aa .find else if x=="join" then aa .join else if x=="lower" then aa .lower else if x=="count" then aa .count else ab
noncomputable def Hb(x:ao):Option TB:=if x=="b1_set" then aa .b1 else if x=="b3_exceptions" then aa .b3 else if x=="EXACT_TOKEN_TYPES" then aa .tok else ab
noncomputable def tZ(x:ao):Option ME:=if x=="_DIV_LIMIT" then aa (.ki 4000)else if x=="NT_OFFSET" then aa (.ki 256)else if x=="ENDMARKER" then aa (.ki 0)else if x=="ELLIPSIS_MARKER" then aa (.ks [46,46,46])else ab
noncomputable def Cd:Operator->Option BO
 | .Add =>aa .add | .Sub =>aa .sub | .Mult =>aa .mul | .FloorDiv =>aa .fdiv | .Mod =>aa .mod | .LShift =>aa .shl | .RShift =>aa .shr
 | .BitAnd =>aa .band | .BitOr =>aa .bor | .BitXor =>aa .bxor | .Pow =>aa .pow |_=>ab
noncomputable def OG:CmpOp->Option CO
 | .Eq =>aa .eq | .NotEq =>aa .ne | .Lt =>aa .lt | .LtE =>aa .le | .Gt =>aa .gt | .GtE =>aa .ge | .Is =>aa .is | .IsNot =>aa .isnt | .In =>aa .isin | .NotIn =>aa .notin
noncomputable def one{α:Type}:List α->Option α|[x]=>aa x|_=>ab
noncomputable def za{α:Type}:List α->Option (α×α)|[a,b]=>aa (a,b)|_=>ab
theorem lc{α:Type}{l:List α}{x:α}(h:one l=aa x):l=[x]:=by
 cases l with
 |nil=>injection h
 |cons a r=>cases r with
  |nil=>obtain rfl:=aw h;rfl
  |cons b r=>injection h
theorem oJ{α β:Type}{o:Option α}{b:Option β}{g:α->Option β}{m:β}(h:o.elim b g=aa m):(o=ab/\b=aa m)\/∃a,o=aa a/\g a=aa m:=by
 cases o with
 |none=>exact .inl ⟨rfl,h⟩
 |some a=>exact .inr ⟨a,rfl,h⟩
theorem zc{α β:Type}{o:Option α}{f:α->Option β}{m:β}(h:o.bind f=aa m):∃a,o=aa a/\f a=aa m:=bO.mp h
theorem jP{α:Type}{b:Bool}{x:Option α}{m:α}(h:(if b=ac then x else ab)=aa m):b=ac/\x=aa m:=mQ.mp h
noncomputable def Cx.glob(c:Cx)(x:ao):Bool:=(c.find x).elim ae λp=>p.2==.globalImplicit
noncomputable def cA(f:au->Option ME):List au->Option (List ME)
 |[]=>aa []
 |e::r=>match f e with|some m=>(cA f r).map (m::·)|none=>ab
theorem qU{f:au->Option ME}:cA f []=aa []:=rfl
theorem qW{f:au->Option ME}:cA f (e::r)=match f e with|some m=>(cA f r).map (m::·)|none=>ab:=rfl
noncomputable def OH(c:Cx)(n:ao)(k:dn):Option (Option Nat):=if k==.free then(c.find n).bind λp=>if p.2==.cell ||p.2==.free then aa (aa p.1)else ab else aa ab
noncomputable def iW(c:Cx):List (ao×dn)->Option (List (Option Nat))
 |[]=>aa []
 |p::r=>(iW c r).bind λs=>(OH c p.1 p.2).map (· ::s)
noncomputable def gI(sc:fH):Bool:=sc.kind==.function &&decide ((sc.names.map (·.1)).Nodup)
noncomputable def qY(e:au):Option (ao×aY):=if h:e.ctorIdx=23 then Expr.Name.elim e h (λx p=>aa (x,p))else ab
noncomputable def zd(e:au):Option (au×ao×aY):=if h:e.ctorIdx=20 then Expr.Attribute.elim e h (λo m p=>aa (o,m,p))else ab
noncomputable def Hc(e:au):Option (Option au×Option au×Option au×aY):=if h:e.ctorIdx=26 then Expr.Slice.elim e h (λa b c p=>aa (a,b,c,p))else ab
noncomputable def OI(e:au):Option (Const×Nat×aY):=if h:e.ctorIdx=19 then Expr.Constant.elim e h (λk a p=>aa (k,a,p))else ab
noncomputable def ze(e:au):Option (List au×Nat×aY):=if h:e.ctorIdx=25 then Expr.Tuple.elim e h (λes k p=>aa (es,k,p))else ab
noncomputable def OJ(e:au):Option (List au×aY):=if h:e.ctorIdx=24 then Expr.List.elim e h (λes p=>aa (es,p))else ab
noncomputable def wm(e:au):Option (au×List au×List EX×aY):=if h:e.ctorIdx=16 then Expr.Call.elim e h (λf a k p=>aa (f,a,k,p))else ab
noncomputable def OK(e:au):Option (xQ×au×aY):=if h:e.ctorIdx=3 then Expr.UnaryOp.elim e h (λo x p=>aa (o,x,p))else ab
noncomputable def t5(e:au):Option (au×au×aY):=if h:e.ctorIdx=21 then Expr.Subscript.elim e h (λo i p=>aa (o,i,p))else ab
noncomputable def Ce(e:au):Option (au×List n5×fH×aY):=if h:e.ctorIdx=8 then KL.elim e h (λa g s p=>aa (a,g,s,p))else ab
noncomputable def Hd:Const->Option Int| .int i=>aa i|_=>ab
def Cf(e:au):Option (Int×Nat×aY):=match OI e with
 |some (k,a,p)=>(Hd k).map λi=>(i,a,p)
 |none=>ab
noncomputable def OL:xQ->Bool| .USub =>ac|_=>ae
def He(e:au):Option (Int×Nat×aY×aY):=match OK e with
 |some (o,x,p)=>if OL o then(Cf x).map λ(k,a,q)=>(k,a,q,p)else ab
 |none=>ab
def Says{α:Type}(o:Option α)(P:α->Prop):Prop:=match o with|some a=>P a|none=>True
theorem Says.get{α:Type}{o:Option α}{P:α->Prop}(h:Says o P){a:α}(e:o=aa a):P a:=by subst e;exact h
theorem Says.of{α:Type}{o:Option α}{P:α->Prop}(h:∀a,o=aa a->P a):Says o P:=by cases o with|none=>trivial|some a=>exact h a rfl
theorem pQ{γ:Type}{n:Nat}{e A:au}{k:e.ctorIdx=n->Option γ}{w:γ}(h:(if q:e.ctorIdx=n then k q else ab)=aa w)(H:∀q,k q=aa w->e=A):e=A:=if q:e.ctorIdx=n then H q ((dif_pos q).symm.trans h)else(Option.some_ne_none w<|h.symm.trans<|dif_neg q).elim
theorem t6{e:au}{x:ao}{p:aY}(h:qY e=aa (x,p)):e=.Name x p:=pQ h λq=>Expr.Name.elim e q (λ_ _ _ h=>congrArg (λo:Option (ao×aY)=>o.elim e λv=>.Name v.1 v.2) h) q
theorem Hf{e o:au}{x:ao}{p:aY}(h:zd e=aa (o,x,p)):e=.Attribute o x p:=pQ h λq=>Expr.Attribute.elim e q (λ_ _ _ _ h=>congrArg (λo:Option (au×ao×aY)=>o.elim e λv=>.Attribute v.1 v.2.1 v.2.2) h) q
theorem Zh{e:au}{a b c:Option au}{p:aY}(h:Hc e=aa (a,b,c,p)):e=.Slice a b c p:=pQ h λq=>Expr.Slice.elim e q (λ_ _ _ _ _ h=>congrArg (λo:Option (Option au×Option au×Option au×aY)=>o.elim e λv=>.Slice v.1 v.2.1 v.2.2.1 v.2.2.2) h) q
theorem Zi{e:au}{k:Const}{a:Nat}{p:aY}(h:OI e=aa (k,a,p)):e=.Constant k a p:=pQ h λq=>Expr.Constant.elim e q (λ_ _ _ _ h=>congrArg (λo:Option (Const×Nat×aY)=>o.elim e λv=>.Constant v.1 v.2.1 v.2.2) h) q
theorem OM{e:au}{es:List au}{a:Nat}{p:aY}(h:ze e=aa (es,a,p)):e=.Tuple es a p:=pQ h λq=>Expr.Tuple.elim e q (λ_ _ _ _ h=>congrArg (λo:Option (List au×Nat×aY)=>o.elim e λv=>.Tuple v.1 v.2.1 v.2.2) h) q
theorem Zj{e:au}{es:List au}{p:aY}(h:OJ e=aa (es,p)):e=.List es p:=pQ h λq=>Expr.List.elim e q (λ_ _ _ h=>congrArg (λo:Option (List au×aY)=>o.elim e λv=>.List v.1 v.2) h) q
theorem Hg{e f:au}{B:List au}{A:List EX}{p:aY}(h:wm e=aa (f,B,A,p)):e=.Call f B A p:=pQ h λq=>Expr.Call.elim e q (λ_ _ _ _ _ h=>congrArg (λo:Option (au×List au×List EX×aY)=>o.elim e λv=>.Call v.1 v.2.1 v.2.2.1 v.2.2.2) h) q
theorem Zk{e x:au}{o:xQ}{p:aY}(h:OK e=aa (o,x,p)):e=.UnaryOp o x p:=pQ h λq=>Expr.UnaryOp.elim e q (λ_ _ _ _ h=>congrArg (λo:Option (xQ×au×aY)=>o.elim e λv=>.UnaryOp v.1 v.2.1 v.2.2) h) q
theorem Hh{e o i:au}{p:aY}(h:t5 e=aa (o,i,p)):e=.Subscript o i p:=pQ h λq=>Expr.Subscript.elim e q (λ_ _ _ _ h=>congrArg (λo:Option (au×au×aY)=>o.elim e λv=>.Subscript v.1 v.2.1 v.2.2) h) q
theorem ON{e a:au}{g:List n5}{s:fH}{p:aY}(h:Ce e=aa (a,g,s,p)):e=.ListComp a g s p:=pQ h λq=>KL.elim e q (λ_ _ _ _ _ h=>congrArg (λo:Option (au×List n5×fH×aY)=>o.elim e λv=>.ListComp v.1 v.2.1 v.2.2.1 v.2.2.2) h) q
theorem Zl{k:Const}{i:Int}(h:Hd k=aa i):k=.int i:=(show Says (Hd k) (λi=>k=.int i)from by clear h;cases k using Const.casesOn<;>first|exact i8|exact rfl).get h
theorem OO{e:au}{i:Int}{a:Nat}{p:aY}(h:Cf e=aa (i,a,p)):e=.Constant (.int i) a p:=by
 unfold Cf at h;split at h
 ·rename_i q;refine ah (cv.mp h) λj C B=>?_;obtain⟨rfl,A⟩:=dc B;obtain⟨rfl,rfl⟩:=dc A;exact af (Zi q)<|af (Zl C) rfl
 ·injection h
theorem Zm{o:xQ}(h:OL o=ac):o=.USub :=by cases o<;>first|rfl|injection h
theorem Zn{e:au}{i:Int}{a:Nat}{p q:aY}(h:He e=aa (i,a,p,q)):e=.UnaryOp .USub (.Constant (.int i) a p) q:=by
 unfold He at h;split at h
 ·rename_i C;split at h
  ·rename_i D;refine ah (cv.mp h) λj H G=>?_;obtain⟨rfl,B⟩:=dc G;obtain⟨rfl,A⟩:=dc B;obtain⟨rfl,rfl⟩:=dc A;simp only[Zk C,Zm D,OO H]
  ·injection h
 ·injection h
noncomputable def fy(x:ao):Bool:=(x==("__debug__":ao))==ae&&(x==("__classdict__":ao))==ae
noncomputable def wn:au->Bool
 | .Call (.Name _ _) [] [] _=>ae
 |_=>ac
def Zo:Const->Option ME
 | .none =>aa .kn
 | .bool b=>aa (.kb b)
 | .int i=>aa (.ki i)
 | .str s=>if s.length<=1000 then aa (.ks (Cc s))else ab
 |_=>ab
def Hi(c:Cx)(x:ao):Option ME:=if !fy x then ab else match c.find x with
 |none=>ab
 |some (i,k)=>(match k with
  | .local | .cell | .free =>aa (.v i)
  | .globalImplicit =>tZ x
  |_=>ab)
noncomputable def OP(o:xQ)(m:ME):Option ME:=match o with
 | .USub =>aa (.neg m)
 | .Invert =>aa (.inv m)
 | .Not =>aa (.nt m)
 | .UAdd =>ab
noncomputable def OQ:CmpOp->Option Bool| .In =>aa ae| .NotIn =>aa ac|_=>ab
def Cg(c:Cx)(e:au):Option TB:=(qY e).bind λp=>if c.glob p.1 then Hb p.1 else ab
def OR(c:Cx)(f:au->Option ME)(l:au)(op:CmpOp)(r:au):Option ME:=(Cg c r).elim (do return .cmp (<-OG op) (<-f l) (<-f r)) λt=>(OQ op).bind λb=>(f l).map (.gIn t b)
def Zp(f:au->Option ME)(x:ao)(args:List au):Option ME:=(tW x).elim (if x=="range" then(cA f args).map .rng else if x=="reversed" then(one args).bind λa=>(f a).map .rvd else ab) λb=>(cA f args).map (.bi b)
def OS(c:Cx)(f:au->Option ME)(x:ao)(args:List au):Option ME:=if c.glob x&&fy x then(Ha x).elim (if args.isEmpty then ab else Zp f x args) λi=>(cA f args).map (.call i)else ab
def OT(c:Cx)(f:au->Option ME)(o:au)(m:ao)(args:List au):Option ME:=(if m=="get" then Cg c o else ab).elim (do return .meth (<-y9 m) (<-f o) (<-cA f args)) λt=>(one args).bind λa=>(f a).map (.gget t)
def OU(c:Cx)(f:au->Option ME)(g:au)(args:List au)(pos:aY):Option ME:=(qY g).elim ((zd g).bind λq=>if q.2.2.endLine==pos.line&&wn q.1&&args.length<20 then OT c f q.1 q.2.1 args else ab) λp=>OS c f p.1 args
noncomputable def Hj(f:au->Option ME):Option au->Option ME
 |none=>aa .kn
 |some e=>f e
def Zq(f:au->Option ME)(o:au)(s:Option au×Option au×Option au×aY):Option ME:=if s.2.2.1.isNone then do return .sl (<-f o) (<-Hj f s.1) (<-Hj f s.2.1)else ab
noncomputable def Zr(k:dn):Bool:=k==.local
def rY(c:Cx)(e:au):Option (Nat×ao×aY):=(qY e).bind λp=>(c.find p.1).bind λq=>if Zr q.2 then aa (q.1,p.1,p.2)else ab
def Hk(c:Cx)(o:au):Option (Nat×ao×aY×au×aY):=(t5 o).bind λq=>(rY c q.1).bind λv=>if c.own2.contains v.1&&fy v.2.1 then aa (v.1,v.2.1,v.2.2,q.2)else ab
def Zt(c:Cx)(f:au->Option ME)(o i:au):Option ME:=(Cg c o).elim ((Hk c o).elim (do return .idx (<-f o) (<-f i)) λv=>do return .idx2 v.1 (<-f v.2.2.2.1) (<-f i)) λt=>(f i).map (.gGet t)
def OV(c:Cx)(f:au->Option ME)(o i:au):Option ME:=(Hc i).elim (Zt c f o i) (Zq f o)
noncomputable def Zu(k:dn):Bool:=k==.local ||k==.cell
def Ch(c:Cx)(e:au):Option Nat:=(qY e).bind λp=>(c.find p.1).bind λq=>if Zu q.2 then aa q.1 else ab
noncomputable def iC(sc:fH):Cx:={names:=sc.names,own:=[],own2:=[]}
def Hm(tr:Cx->au->Option ME)(c:Cx)(elt:au)(g:n5)(sc:fH):Option ME:=if g.is_async==0&&gI sc&&decide (g.ifs.length<=1)then(Ch (iC sc) g.target).bind λt=>(iW c sc.names).bind λsrc=>do return .comp src t (<-tr (iC sc) elt) (<-tr c g.iter) (<-cA (tr (iC sc)) g.ifs)else ab
def OW(tr:Cx->au->Option ME)(c:Cx)(elt:au)(g h:n5)(sc:fH):Option ME:=if g.is_async==0&&h.is_async==0&&gI sc&&g.ifs.isEmpty&&decide (h.ifs.length<=1)then(Ch (iC sc) g.target).bind λt=>(Ch (iC sc) h.target).bind λu=>(iW c sc.names).bind λsrc=>if t !=u then(tr c g.iter).bind λi=>do return .comp2 src t u (<-tr (iC sc) elt) i (<-tr (iC sc) h.iter) (<-cA (tr (iC sc)) h.ifs)else ab else ab
def wp(tr:Cx->au->Option ME)(c:Cx)(elt:au)(gs:List n5)(sc:fH):Option ME:=(one gs).elim ((za gs).bind λp=>OW tr c elt p.1 p.2 sc) λg=>Hm tr c elt g sc
noncomputable def Hn:BoolOp->Bool| .And =>ac|_=>ae
noncomputable def bq:Nat->Cx->au->Option ME
 |0,_,_=>ab
 |n+1,c,e=>match e with
  | .Constant k _ _=>Zo k
  | .Name x _=>Hi c x
  | .BinOp l op r _=>do return .bin (<-Cd op) (<-bq n c l) (<-bq n c r)
  | .UnaryOp o x _=>(bq n c x).bind (OP o)
  | .IfExp t a b _=>do return .ite (<-bq n c t) (<-bq n c a) (<-bq n c b)
  | .BoolOp o es _=>(cA (bq n c) es).map (.bop (Hn o))
  | .Tuple es _ _=>if es.length<1000 then(cA (bq n c) es).map .tup else ab
  | .List es _=>if es.length<1000 then(cA (bq n c) es).map .lst else ab
  | .Compare l ops rs _=>do OR c (bq n c) l (<-one ops) (<-one rs)
  | .Call f args vE pos=>if vE.isEmpty then OU c (bq n c) f args pos else ab
  | .Subscript o i _=>OV c (bq n c) o i
  | .ListComp elt gens sc _=>wp (bq n) c elt gens sc
  |_=>ab
noncomputable def Ci(f:ME->List Nat):List ME->List Nat
 |[]=>[]
 |e::r=>f e++Ci f r
noncomputable def gx(own:List Nat):Nat->ME->List Nat
 |0,_=>[]
 |n+1,e=>match e with
  | .v i=>if own.contains i then[i]else[]
  | .bin _ l r=>gx own n l++gx own n r
  | .neg e| .inv e| .nt e| .rvd e| .gIn _ _ e| .gGet _ e| .gget _ e=>gx own n e
  | .cmp op l r=>gx own n l++(match op,r with| .isin,.v _=>[]| .notin,.v _=>[]|_,_=>gx own n r)
  | .ite t a b=>gx own n t++gx own n a++gx own n b
  | .bop _ es| .tup es| .lst es| .call _ es| .rng es=>Ci (gx own n) es
  | .bi .len [.v _]=>[]
  | .bi _ es=>Ci (gx own n) es
  | .meth _ o es=>gx own n o++Ci (gx own n) es
  | .idx (.v _) i=>gx own n i
  | .idx o i=>gx own n o++gx own n i
  | .sl o l h=>gx own n o++gx own n l++gx own n h
  | .comp src _ _ it _=>(src.filterMap id).filter own.contains++gx own n it
  | .comp2 src _ _ _ it _ _=>(src.filterMap id).filter own.contains++gx own n it
  | .idx2 _ a b=>gx own n a++gx own n b
  |_=>[]
def frz(c:Cx)(e:ME):List MS:=((gx c.own 40 e).eraseDups).map .frz
noncomputable def t7(c:Cx):List au->Option (List Nat)
 |[]=>aa []
 |e::r=>(qY e).bind λv=>(t7 c r).bind λs=>(c.find v.1).bind λp=>if(p.2==.local ||p.2==.cell)=ac then aa (p.1::s)else ab
def Ho(e:au):Bool:=match ze e with
 |some (vs,_,_)=>vs.all (foldedForSure 8)|| !vs.all (constantsAlone 8)
 |none=>ac
def nn(c:Cx)(m:Option ME)(k:ME->MS):Option (List MS):=m.map λe=>frz c e++[k e]
noncomputable def lf(f:de->Option (List MS)):List de->Option (List MS)
 |[]=>aa []
 |s::r=>(f s).bind λa=>(lf f r).bind λb=>aa (a++b)
def Hp(c:Cx)(i:Nat)(e:au):Option (List MS):=match OJ e with
 |some (es,_)=>if es.isEmpty then aa [.own i (.lst [])]else ab
 |none=>(match wm e with
  |some (g,args,vE,pos)=>(match zd g with
   |some (o,m,jc)=>if m=="split"&&jc.endLine==pos.line&&wn o&&args.length<20&&vE.isEmpty then do
      let mo<-bq 40 c o
      let ms<-cA (bq 40 c) args
      return frz c (.meth .split mo ms)++[.own i (.meth .split mo ms)]
     else ab
   |none=>ab)
  |none=>ab)
def OX(c:Cx)(i:Nat)(e:au):Option (List MS):=(Ce e).bind λp=>(Ce p.1).bind λ_=>if(one p.2.1).isSome then nn c (bq 40 c e) (.own2 i)else ab
def OY(c:Cx)(t e:au):Option (List MS):=(t5 t).bind λq=>(Hk c q.1).bind λv=>(Hc q.2.1).elim ((bq 40 c v.2.2.2.1).bind λa=>(bq 40 c q.2.1).bind λb=>(bq 40 c e).bind λm=>if(frz c a++frz c b++frz c m).isEmpty then aa [.sto v.1 a b m]else ab) λ_=>ab
def Hq(c:Cx)(t e:au):Option (List MS):=match qY t with
 |some (x,_)=>(match c.find x with
  |some (i,k)=>if k==.local ||k==.cell then(if c.own2.contains i then(if k==.local then OX c i e else ab)else if c.own.contains i then(if k==.local then Hp c i e else ab)else nn c (bq 40 c e) (.asg i))else ab
  |none=>ab)
 |none=>(match ze t with
  |some (ts,_,_)=>(match t7 c ts with
   |some is=>if decide is.Nodup&&Ho e then nn c (bq 40 c e) (.unp is)else ab
   |none=>ab)
  |none=>OY c t e)
def Hr(c:Cx)(e:au):Option (List MS):=match wm e with
 |some (g,args,vE,pos)=>(match zd g with
  |some (o,m,jc)=>(match rY c o with
   |some (i,x,_)=>if fy x&&jc.endLine==pos.line&&vE.isEmpty then(match one args with
     |some a=>if m=="append" then nn c (bq 40 c a) (.app i)else if m=="extend" then nn c (bq 40 c a) (.ext i)else ab
     |none=>if m=="reverse"&&args.isEmpty then aa [.rev i]else ab)else ab
   |none=>ab)
  |none=>ab)
 |none=>ab
def Hs(c:Cx)(e:au):Option (List MS):=match t5 e with
 |some (o,k,_)=>(match rY c o with
  |some (i,x,_)=>if fy x then(match Cf k with
    |some (j,_)=>aa [.del i j]
    |none=>(match He k with
     |some (j,_)=>aa [.del i (-j)]
     |none=>ab))else ab
  |none=>ab)
 |none=>ab
noncomputable def jQ:Nat->Cx->de->Option (List MS)
 |0,_,_=>ab
 |n+1,c,s=>match s with
  | .Assign ts e _=>do Hq c (<-one ts) e
  | .AugAssign t op e _=>(match rY c t,Cd op with
    |some (i,_),aa o=>nn c (bq 40 c e) (.aug i o)
    |_,_=>ab)
  | .If t a b _=>do
    let m<-bq 40 c t
    let ma<-lf (jQ n c) a
    let mb<-lf (jQ n c) b
    return frz c m++[.ife m ma mb]
  | .While t b vF _=>(match bq 40 c t,lf (jQ n c) b with
    |some m,aa mb=>if(frz c m).isEmpty &&vF.isEmpty then aa [.whl m mb]else ab
    |_,_=>ab)
  | .For t it b vF _=>(match bq 40 c it,lf (jQ n c) b with
    |some m,aa mb=>if vF.isEmpty then(match rY c t with
      |some (i,_)=>aa (frz c m++[.forr [i] ac m mb])
      |none=>(match ze t with
       |some (ts,_)=>(t7 c ts).map λis=>frz c m++[.forr is ae m mb]
       |none=>ab))else ab
    |_,_=>ab)
  | .Return oe _=>do nn c (bq 40 c (<-oe)) .ret
  | .Expr e _=>Hr c e
  | .Delete es _=>do Hs c (<-one es)
  | .Assert t m _=>if m.isNone then nn c (bq 40 c t) .asrt else ab
  | .Break _=>aa [.brk]
  | .Raise .. =>aa [.rais]
  |_=>ab
def Ht(c:Cx)(e:au):List Nat:=match qY e with|some (x,_)=>((c.find x).map (·.1)).toList |none=>[]
noncomputable def zg(c:Cx):Nat->List de->List Nat
 |0,_=>[]
 |n+1,ss=>ss.flatMap λs=>match s with
  | .Expr e _=>(match wm e with
   |some (g,_,_,_)=>(match zd g with
    |some (o,m,_)=>if m=="append"||m=="extend"||m=="reverse" then Ht c o else[]
    |none=>[])
   |none=>[])
  | .Delete es _=>(match one es with
   |some e=>(match t5 e with|some (o,_,_)=>Ht c o|none=>[])
   |none=>[])
  | .If _ a b _=>zg c n a++zg c n b
  | .While _ b _ _=>zg c n b
  | .For _ _ b _ _=>zg c n b
  |_=>[]
def Zv(c:Cx)(t:au):List Nat:=match(t5 t).bind λq=>t5 q.1 with|some q=>Ht c q.1|none=>[]
noncomputable def zh(c:Cx):Nat->List de->List Nat
 |0,_=>[]
 |n+1,ss=>ss.flatMap λs=>match s with
  | .Assign ts _ _=>ts.flatMap (Zv c)
  | .If _ a b _=>zh c n a++zh c n b
  | .While _ b _ _=>zh c n b
  | .For _ _ b _ _=>zh c n b
  |_=>[]
structure MF where
 nParams:Nat
 nNames:Nat
 body:List MS
def Hu(params:EY)(sc:fH)(body:List de):Option MF:=
 let c0:Cx:={names:=sc.names}
 let c:Cx:={names:=sc.names,own:=(zg c0 20 body).eraseDups,own2:=(zh c0 20 body).eraseDups}
 match lf (jQ 20 c) body with
 |some b=>aa ⟨params.args.length,sc.names.length,b⟩
 |none=>ab
noncomputable def a8(l:List Nat):ao:=⟨l.toArray⟩
noncomputable def e9(k:Int)(n:Nat):Option Nat:=if 0<=k then(if k<n then aa k.toNat else ab)else(if 0<=k+n then aa (k+n).toNat else ab)
noncomputable def lh(k:Option Int)(dflt n:Nat):Nat:=match k with
 |none=>dflt
 |some k=>min n (max 0 (if k<0 then k+n else k)).toNat
def fk{α:Type}(xs:List α)(lo hi:Option Int):List α:=(xs.take (lh hi xs.length xs.length)).drop (lh lo 0 xs.length)
noncomputable def oL(w g:List Nat)(j:Nat):Nat->Nat->Int
 |0,_=> -1
 |n+1,k=>if k+w.length<=j&&w.isPrefixOf (g.drop k)then k else oL w g j n (k+1)
theorem OZ:oL w g j (n+1) k=if k+w.length<=j&&w.isPrefixOf (g.drop k)then(k:Int)else oL w g j n (k+1):=rfl
def iX(w g:List Nat)(i j:Nat):Int:=oL w g j (j+1-i) i
noncomputable def kz(bZ:List Nat):Nat->List Nat->List Nat->List (List Nat)
 |0,dM,_=>[dM]
 |_+1,dM,[]=>[dM]
 |n+1,dM,c::x=>if bZ.isPrefixOf (c::x)then dM::kz bZ n [] ((c::x).drop bZ.length)else kz bZ n (dM++[c]) x
theorem oM:kz B 0 A x=[A]:=rfl
theorem nr:kz B (n+1) A []=[A]:=rfl
theorem li:kz A (n+1) B (c::x)=if A.isPrefixOf (c::x)then B::kz A n [] ((c::x).drop A.length)else kz A n (B++[c]) x:=rfl
def jk(bZ x:List Nat):List (List Nat):=kz bZ (x.length+1) [] x
noncomputable def cB(bZ:List Nat):List (List Nat)->List Nat
 |[]=>[]
 |[x]=>x
 |x::r=>x++bZ++cB bZ r
theorem qZ:cB A []=[]:=rfl
theorem q7:cB A [x]=x:=rfl
theorem oN:cB A (x::y::r)=x++A++cB A (y::r):=rfl
def oO(w g:List Nat):Bool:=0<=iX w g 0 g.length
noncomputable def gJ(a b:ak):Bool:=AN a b
noncomputable def cb(i:Int):Bool:=i.natAbs.log2+1<=1000000
noncomputable def iD:ak->Option Int| .int i=>aa i|_=>ab
noncomputable def ga:ak->Option ao| .str s=>aa s|_=>ab
noncomputable def iE:ak->Option (List ak)| .list l=>aa l|_=>ab
noncomputable def zi:ak->Option (List ak)| .tuple l=>aa l|_=>ab
noncomputable def lj{α:Type}(f:ak->Option α):List ak->Option (List α)
 |[]=>aa []
 |d::r=>(f d).bind λx=>(lj f r).map (x::·)
theorem Cj(h:lj f (d::r)=aa xs):∃x ys,f d=aa x/\lj f r=aa ys/\xs=x::ys:=by refine aE λA=>?_;refine ah (bO.mp h) λx D h=>?_;refine ah (cv.mp h) λys C B=>?_;apply A;clear A;exact(ji x ys D C B.symm)
theorem Hv{f:ak->Option α}{g:α->ak}(C:∀d x,f d=aa x->d=g x){ds:List ak}:∀{xs:List α},lj f ds=aa xs->ds=xs.map g:=by
 induction ds with
 |nil=>intro xs h;obtain rfl:=aw h;rfl
 |cons d r B=>intro xs h;refine dJ (Cj h) λx ys G D A=>?_;clear h;subst A;refine af (C d x G) (af (B D) ?_);rfl
theorem Zw{f:ak->Option α}{g:α->ak}(B:∀x,f (g x)=aa x)(xs:List α):lj f (xs.map g)=aa xs:=by
 induction xs with
 |nil=>rfl
 |cons x r A=>show(f (g x)).bind (λx=>(lj f (r.map g)).map (x::·))=_;rw[B];exact af A rfl
def fU(l:List ak):Option (List Int):=lj iD l
def zj(l:List ak):Option (List (List Nat)):=lj (λd=>(ga d).map λs=>s.cps.toList) l
noncomputable def two{α β:Type}:Option α->Option β->Option (α×β)|some a,aa b=>aa (a,b)|_,_=>ab
theorem iF(h:iD d=aa i):d=.int i:=(show Says (iD d) (λi=>d=.int i)from by clear h;cases d using n6<;>first|exact i8|exact rfl).get h
theorem gy(h:ga d=aa i):d=.str i:=(show Says (ga d) (λi=>d=.str i)from by clear h;cases d using n6<;>first|exact i8|exact rfl).get h
theorem lk(h:iE d=aa i):d=.list i:=(show Says (iE d) (λi=>d=.list i)from by clear h;cases d using n6<;>first|exact i8|exact rfl).get h
theorem Hw(h:zi d=aa i):d=.tuple i:=(show Says (zi d) (λi=>d=.tuple i)from by clear h;cases d using n6<;>first|exact i8|exact rfl).get h
theorem cV(h:two o p=aa (x,y)):o=aa x/\p=aa y:=by
 cases o with
 |none=>injection h
 |some a=>cases p with
  |none=>injection h
  |some b=>obtain⟨rfl,rfl⟩:=dc (aw h);exact⟨rfl,rfl⟩
theorem Ck(h:za l=aa (x,y)):l=[x,y]:=by
 rcases l with _|⟨a,_|⟨b,_|⟨c,r⟩⟩⟩
 ·injection h
 ·injection h
 ·obtain⟨rfl,rfl⟩:=dc<|aw h;rfl
 ·injection h
def mw(a b:ak):Option (Int×Int):=two (iD a) (iD b)
def Cm(a b:ak):Option (ao×ao):=two (ga a) (ga b)
theorem nu(h:mw a b=aa (x,y)):a=.int x/\b=.int y:=⟨iF (cV h).1,iF (cV h).2⟩
theorem Hx(h:Cm a b=aa (x,y)):a=.str x/\b=.str y:=⟨gy (cV h).1,gy (cV h).2⟩
def Hy(a b:ak):Option ak:=match mw a b with
 |some (x,y)=>aa (.int (x+y))
 |none=>(match Cm a b with
  |some (x,y)=>if x.length+y.length<=100000 then aa (.str (x++y))else ab
  |none=>(match two (iE a) (iE b)with
   |some (x,y)=>if x.length+y.length<=100000 then aa (.list (x++y))else ab
   |none=>ab))
def Hz(a b:ak):Option ak:=match mw a b with
 |some (x,y)=>if cb x&&cb y then aa (.int (x*y))else ab
 |none=>(match two (ga a) (iD b)with
  |some (x,y)=>if 0<=y&&y<=100000&&y*x.length<=100000 then aa (.str (a8 (cR y.toNat x.cps.toList).flatten))else ab
  |none=>(match two ((iE a).bind one) (iD b)with
   |some (x,y)=>if(iD x).isSome ||(ga x).isSome then(if 0<=y&&y<=100000 then aa (.list (cR y.toNat x))else ab)else ab
   |none=>ab))
def HA(op:BO)(x y:Int):Option ak:=match op with
 | .sub =>aa (.int (x-y))
 | .fdiv =>if 0<y&&y<2^30 then aa (.int (x/y))else ab
 | .mod =>if 0<y then aa (.int (x%y))else ab
 | .shl =>if 0<=y&&y<=1000000&&cb x then aa (.int (x*2^y.toNat))else ab
 | .shr =>if 0<=y then aa (.int (x/2^y.toNat))else ab
 | .band =>if 0<=x&&0<=y then aa (.int ((x.toNat&&& y.toNat:Nat):Int))else ab
 | .bor =>if 0<=x&&0<=y then aa (.int ((x.toNat|||y.toNat:Nat):Int))else ab
 | .bxor =>if 0<=x&&0<=y then aa (.int ((x.toNat^^^y.toNat:Nat):Int))else ab
 | .pow =>if 0<=y&&y<=1000000&&x.natAbs<16 then aa (.int (x^y.toNat))else ab
 |_=>ab
def bP(op:BO)(a b:ak):Option ak:=match op with
 | .add =>Hy a b
 | .mul =>Hz a b
 |op=>(mw a b).bind λp=>HA op p.1 p.2
def pR(op:BO)(x y:Int):Option Int:=match op with
 | .add =>aa (x+y)
 | .sub =>aa (x-y)
 | .shl =>if 0<=y&&y<=1000000&&cb x then aa (x*2^y.toNat)else ab
 | .shr =>if 0<=y then aa (x/2^y.toNat)else ab
 |_=>ab
noncomputable def wq:ak->Option Bool| .bool b=>aa b|_=>ab
noncomputable def wr:ak->Bool| .none =>ac|_=>ae
theorem O0(h:wq d=aa b):d=.bool b:=(show Says (wq d) (λb=>d=.bool b)from by clear h;cases d using n6<;>first|exact i8|exact rfl).get h
theorem HB(h:wr d=ac):d=.none :=by cases d<;>first|rfl|injection h
def wu(a b:ak):Option Bool:=match two (wq a) (wq b)with
 |some (x,y)=>aa (x==y)
 |none=>if wr a then(if wr b then aa ac else(ga b).map λ_=>ae)else if wr b then(ga a).map λ_=>ae else ab
noncomputable def eL(d:ak):Bool:=d.canLay0&&decide (d.depth<=8)
def wv(a b:ak):Option Bool:=match mw a b with
 |some (x,y)=>aa (x==y)
 |none=>(match Cm a b with
  |some (x,y)=>aa (x==y)
  |none=>if((two (iE a) (iE b)).isSome ||(two (zi a) (zi b)).isSome)&&eL a&&eL b then aa (gJ a b)else ab)
def O1(d:ak):Option (List ak):=match iE d with|some l=>aa l|none=>zi d
def Co(a b:ak):Option Bool:=match Cm a b with
 |some (x,y)=>aa (oO x.cps.toList y.cps.toList)
 |none=>(O1 b).bind λys=>if eL a&&ys.all eL then aa (ys.any λy=>gJ y a)else ab
noncomputable def O2(op:CO)(x y:Int):Option Bool:=match op with
 | .lt =>aa (x<y)
 | .le =>aa (x<=y)
 | .gt =>aa (x>y)
 | .ge =>aa (x>=y)
 |_=>ab
def cY(op:CO)(a b:ak):Option Bool:=match op with
 | .eq =>wv a b
 | .ne =>(wv a b).map (!·)
 | .is =>wu a b
 | .isnt =>(wu a b).map (!·)
 | .isin =>Co a b
 | .notin =>(Co a b).map (!·)
 |op=>(mw a b).bind λp=>O2 op p.1 p.2
noncomputable def ey:ak->Option Bool
 | .bool b=>aa b
 | .int i=>aa (i !=0)
 | .str s=>aa (s.length !=0)
 |_=>ab
noncomputable def mx(a b:Int):List Int:=(bv (b-a).toNat).map λ(k:Nat)=>a+k
noncomputable def HC:ak->Option Int
 | .str s=>aa s.length
 | .list l=>aa l.length
 | .tuple l=>aa l.length
 |_=>ab
def nx{α:Type}(f:ak->Option α)(vs:List ak):Option α:=(one vs).bind f
def gR(b:BI)(vs:List ak):Option ak:=match b with
 | .len =>(nx HC vs).map .int
 | .sum =>(nx iE vs).bind λl=>(fU l).map λxs=>.int xs.sum
 | .ord =>(nx ga vs).bind λs=>(one s.cps.toList).map λc:Nat=>bQ (c:Int)
 | .chr =>(nx iD vs).bind λi=>if 0<=i&&i<1114112 then aa (.str (a8 [i.toNat]))else ab
 | .divmod =>(za vs).bind λp=>(mw p.1 p.2).bind λq=>if 0<q.2&&0<=q.1&&q.1<q.2*2^4010 then aa (.tuple [.int (q.1/q.2),.int (q.1%q.2)])else ab
 | .max =>(nx iE vs).bind λl=>(fU l).bind λxs=>(xs.find? λm=>xs.all λx=>decide (x<=m)).map .int
 | .list =>(nx ga vs).bind λx=>if x.length<=100000 then aa (.list (x.cps.toList.map λc=>.str (a8 [c])))else ab
def O3:List ak->Option (ao×Int×Int)
 |[a,b,c]=>(ga a).bind λy=>(mw b c).map λp=>(y,p.1,p.2)
 |_=>ab
def gS(m:MM)(o:ak)(vs:List ak):Option ak:=match m with
 | .bitlen =>(iD o).bind λi=>if vs.isEmpty then aa (.int (if i=0 then 0 else i.natAbs.log2+1:Nat))else ab
 | .split =>(two (ga o) (nx ga vs)).bind λp=>if p.2.length==0||100000<p.1.length then ab else aa (.list ((jk p.2.cps.toList p.1.cps.toList).map λl=>.str (a8 l)))
 | .startswith =>(two (ga o) (nx ga vs)).map λp=>.bool (p.2.cps.toList.isPrefixOf p.1.cps.toList)
 | .endswith =>(two (ga o) (nx ga vs)).map λp=>.bool (p.2.cps.toList.isSuffixOf p.1.cps.toList)
 | .find =>(two (ga o) (O3 vs)).bind λp=>if 0<=p.2.2.1&&0<=p.2.2.2&&p.2.2.2<=p.1.length then aa (.int (iX p.2.1.cps.toList p.1.cps.toList p.2.2.1.toNat p.2.2.2.toNat))else ab
 | .join =>(two (ga o) (nx iE vs)).bind λp=>(zj p.2).bind λss=>if p.1.length<=100000&&decide ((cB p.1.cps.toList ss).length <=100000)then aa (.str (a8 (cB p.1.cps.toList ss)))else ab
 | .lower =>(ga o).bind λx=>if vs.isEmpty&&decide ((xR x).length <=100000)then aa (.str (xR x))else ab
 | .count =>(two (iE o) (one vs)).bind λp=>if eL p.2&&p.1.all eL then aa (.int (p.1.countP λy=>gJ y p.2:Nat))else ab
theorem nA{P:Prop}(h:(ab:Option α)=aa a):P:=nomatch h
def Zx(k:Int):ak->Option ak
 | .list l=>(e9 k l.length).bind λj=>l[j]?
 | .tuple l=>(e9 k l.length).bind λj=>l[j]?
 | .str s=>(e9 k s.length).bind λj=>(s.cps.toList[j]?).map λc=>.str (a8 [c])
 |_=>ab
def idx2(o i:ak):Option ak:=(iD i).bind λk=>Zx k o
theorem O4{o i d:ak}(h:idx2 o i=aa d):∃k,i=.int k/\((∃l,o=.list l/\∃j,e9 k l.length=aa j/\l[j]?=aa d)\/(∃l,o=.tuple l/\∃j,e9 k l.length=aa j/\l[j]?=aa d) \/∃s,o=.str s/\∃j c,e9 k s.length=aa j/\s.cps.toList[j]?=aa c/\d=.str (a8 [c])):=by
 refine ah (bO.mp h) λk e h=>?_;refine(br k (iF e) ?_);cases o with
 |list l=>exact .inl (br l rfl (bO.mp h))
 |tuple l=>exact .inr (.inl (br l rfl (bO.mp h)))
 |str s=>refine aE λA=>?_;refine ah (bO.mp h) λj G D=>?_;refine ah (cv.mp D) λc C B=>?_;apply A;clear A;exact .inr (.inr ⟨s,rfl,j,c,G,C,B.symm⟩)
 |_=>exact nA h
noncomputable def my:ak->Option (Option Int)
 | .none =>aa ab
 | .int i=>if-2^62<i&&i<2^62 then aa (aa i)else ab
 |_=>ab
def Zy(l h:Option Int):ak->Option ak
 | .list xs=>aa (.list (fk xs l h))
 | .str s=>aa (.str (a8 (fk s.cps.toList l h)))
 |_=>ab
def iG(o lo hi:ak):Option ak:=(two (my lo) (my hi)).bind λp=>Zy p.1 p.2 o
theorem O5{o a b d:ak}(h:iG o a b=aa d):∃l u,my a=aa l/\my b=aa u/\((∃xs,o=.list xs/\d=.list (fk xs l u))\/∃s,o=.str s/\d=.str (a8<|fk s.cps.toList l u)):=by
 refine aE λA=>?_;refine ah (bO.mp h) λB e h=>?_;obtain⟨l,u⟩:=B;apply A;clear A;refine(ji l u ((cV e).1) ((cV e).2) ?_);cases o with
 |list xs=>exact .inl (br xs rfl ((aw h).symm))
 |str s=>exact .inr (br s rfl ((aw h).symm))
 |_=>exact nA h
structure Tabs where
 b1:List Int
 b3:List (Int×List Nat)
 tok:List (List Nat×Int)
def Cp(T:Tabs)(t:TB)(d:ak):Option Bool:=match t with
 | .b1 =>(iD d).map λi=>T.b1.contains i
 | .tok =>(ga d).map λs=>(T.tok.lookup s.cps.toList).isSome
 | .b3 =>ab
def Cq(T:Tabs)(t:TB)(d:ak):Option ak:=match t with
 | .tok =>(ga d).bind λs=>(T.tok.lookup s.cps.toList).map .int
 |_=>ab
def Cr(T:Tabs)(t:TB)(d:ak):Option ak:=match t with
 | .b3 =>(iD d).map λi=>match T.b3.lookup i with|some l=>.str (a8 l)|none=>.none
 |_=>ab
set_option genCtorIdx true in
inductive FV
 |un|val (d:ak)|own (xs:List ak)|own2 (rows:List (List Int))
noncomputable abbrev bC:=Nat->List ak->Option ak
noncomputable abbrev Frm:=List FV
noncomputable def Frm.get(f:Frm)(i:Nat):Option ak:=match f[i]? with
 |some (.val d)=>aa d
 |_=>ab
noncomputable def Frm.peek(f:Frm)(i:Nat):Option ak:=match f[i]? with
 |some (.val d)=>aa d
 |some (.own xs)=>aa (.list xs)
 |_=>ab
noncomputable def Frm.rows(f:Frm)(i:Nat):Option (List (List Int)):=match f[i]? with
 |some (.own2 rs)=>aa rs
 |_=>ab
def zk(d:ak):Option (List (List Int)):=(iE d).bind (lj λr=>(iE r).bind fU)
def oP(rs:List (List Int))(x y:ak):Option ak:=(mw x y).bind λp=>if 0<=p.1&&0<=p.2 then(rs[p.1.toNat]?).bind λr=>(r[p.2.toNat]?).map .int else ab
def t8(rs:List (List Int))(x y z:ak):Option (List (List Int)):=(mw x y).bind λp=>(iD z).bind λk=>if 0<=p.1&&0<=p.2 then(rs[p.1.toNat]?).bind λr=>if p.2.toNat<r.length then aa (rs.set p.1.toNat (r.set p.2.toNat k))else ab else ab
noncomputable def FV.held:FV->Bool| .own _=>ac| .own2 _=>ac|_=>ae
noncomputable def FV.held2:FV->Bool| .own2 _=>ac|_=>ae
noncomputable def Frm.flat(f:Frm):Bool:=f.all λv=> !v.held2
noncomputable def Frm.sole(f:Frm)(i:Nat):Bool:=(f.set i .un).all λv=> !v.held
noncomputable def Frm.put(f:Frm)(i:Nat)(v:FV):Frm:=f.set i v
noncomputable def gK(f:Frm):List Nat->List ak->Option Frm
 |[],[]=>aa f
 |i::is,d::ds=>gK (f.put i (.val d)) is ds
 |_,_=>ab
theorem nB:gK f [] []=aa f:=rfl
theorem nE:gK f (i::is) (d::ds)=gK (f.put i<|.val d) is ds:=rfl
noncomputable def cZ(f:ME->Option ak):List ME->Option (List ak)
 |[]=>aa []
 |e::r=>match f e with|some d=>(cZ f r).map (d::·)|none=>ab
theorem cO{f:ME->Option ak}:cZ f []=aa []:=rfl
theorem cQ{f:ME->Option ak}:cZ f (e::r)=match f e with|some d=>(cZ f r).map (d::·)|none=>ab:=rfl
def ww:ak->Option (List ak)
 | .list l=>aa l
 | .tuple l=>aa l
 | .str s=>aa (s.cps.toList.map λc=>.str (a8 [c]))
 |_=>ab
noncomputable def iH(f:ME->Option Bool):List ME->Option Bool
 |[]=>aa ac
 |e::r=>match f e with|some ac=>iH f r|some ae=>aa ae|none=>ab
theorem zm{f:ME->Option Bool}:iH f []=aa ac:=rfl
theorem zo{f:ME->Option Bool}:iH f (e::r)=match f e with|some ac=>iH f r|some ae=>aa ae|none=>ab:=rfl
noncomputable def rZ(f:ME->Option Bool):List ME->Option Bool
 |[]=>aa ae
 |e::r=>match f e with|some ac=>aa ac|some ae=>rZ f r|none=>ab
theorem Cs{f:ME->Option Bool}:rZ f []=aa ae:=rfl
theorem Ct{f:ME->Option Bool}:rZ f (e::r)=match f e with|some ac=>aa ac|some ae=>rZ f r|none=>ab:=rfl
noncomputable def bU(f:Frm)(src:List (Option Nat)):Frm:=src.map λo=>match o with
 |some i=>(match f[i]? with|some (.val d)=>.val d|_=>.un)
 |none=>.un
noncomputable def rc(elt:Frm->Option ak)(cond:Frm->Option Bool)(g:Frm):Option (List ak):=(cond g).bind λb=>if b then(elt g).map λd=>[d]else aa []
noncomputable def gL(body:Frm->Option (List ak))(f:Frm)(t:Nat):List ak->Option (List ak)
 |[]=>aa []
 |x::r=>(body (f.put t (.val x))).bind λa=>(gL body f t r).map (a++·)
noncomputable def pS(o:Option (List ak)):Option ak:=o.bind λds=>if ds.length<=100000 then aa (.list ds)else ab
def wx:List Int->Option (List ak)
 |[b]=>if b<=100000&& -2^60<b then aa ((mx 0 b).map .int)else ab
 |[a,b]=>if b-a<=100000&& -2^60<a&&a<2^60&& -2^60<b&&b<2^60 then aa ((mx a b).map .int)else ab
 |_=>ab
mutual
noncomputable def ai(T:Tabs)(O:bC):Nat->ME->Frm->Option ak
 |0,_,_=>ab
 |n+1,e,f=>match e with
  | .kn =>aa .none
  | .kb b=>aa (.bool b)
  | .ki i=>aa (.int i)
  | .ks s=>aa (.str (a8 s))
  | .v i=>f.get i
  | .bin op l r=>(match ai T O n l f with|some a=>(match ai T O n r f with|some b=>bP op a b|none=>ab)|none=>ab)
  | .neg e=>(match ai T O n e f with|some (.int i)=>aa (.int (-i))|_=>ab)
  | .inv e=>(match ai T O n e f with|some (.int i)=>aa (.int (-i-1))|_=>ab)
  | .cmp op l r=>(match ai T O n l f with|some a=>(match gb T O n r f with|some b=>(cY op a b).map .bool |none=>ab)|none=>ab)
  | .ite t a b=>(match aS T O n t f with|some ac=>ai T O n a f|some ae=>ai T O n b f|none=>ab)
  | .tup es=>(cZ (λe=>ai T O n e f) es).map .tuple
  | .lst es=>(cZ (λe=>ai T O n e f) es).map .list
  | .call g es=>(match cZ (λe=>ai T O n e f) es with|some vs=>O g vs|none=>ab)
  | .bi b es=>(match cZ (λe=>gb T O n e f) es with|some vs=>gR b vs|none=>ab)
  | .meth m o es=>(match ai T O n o f with|some d=>(match cZ (λe=>ai T O n e f) es with|some vs=>gS m d vs|none=>ab)|none=>ab)
  | .idx o i=>(match gb T O n o f with|some d=>(match ai T O n i f with|some k=>idx2 d k|none=>ab)|none=>ab)
  | .sl o l h=>(match ai T O n o f with|some d=>(match ai T O n l f with|some a=>(match ai T O n h f with|some b=>iG d a b|none=>ab)|none=>ab)|none=>ab)
  | .comp src t elt it A8=>(cC T O n it f).bind λxs=>pS (gL (rc (λg=>ai T O n elt g) (λg=>iH (λc=>aS T O n c g) A8)) (bU f src) t xs)
  | .comp2 src t u elt it jt A8=>(cC T O n it f).bind λxs=>pS (gL (λg=>(cC T O n jt g).bind λys=>gL (rc (λg=>ai T O n elt g) (λg=>iH (λc=>aS T O n c g) A8)) g u ys) (bU f src) t xs)
  | .idx2 i a b=>(f.rows i).bind λrs=>(ai T O n a f).bind λx=>(ai T O n b f).bind λy=>oP rs x y
  | .gIn t neg e=>(match ai T O n e f with|some d=>(Cp T t d).map λb=>.bool (b !=neg)|none=>ab)
  | .gGet t e=>(match ai T O n e f with|some d=>Cq T t d|none=>ab)
  | .gget t e=>(match ai T O n e f with|some d=>Cr T t d|none=>ab)
  | .nt _=>ab
  | .bop _ _=>ab
  | .rng _=>ab
  | .rvd _=>ab
noncomputable def gb(T:Tabs)(O:bC):Nat->ME->Frm->Option ak
 |0,_,_=>ab
 |n+1,e,f=>match e with
  | .v i=>f.peek i
  |e=>ai T O n e f
noncomputable def aS(T:Tabs)(O:bC):Nat->ME->Frm->Option Bool
 |0,_,_=>ab
 |n+1,e,f=>match e with
  | .nt e=>(aS T O n e f).map (!·)
  | .bop ac es=>iH (λe=>aS T O n e f) es
  | .bop ae es=>rZ (λe=>aS T O n e f) es
  | .ite .. =>ab
  |e=>(match ai T O n e f with|some d=>ey d|none=>ab)
noncomputable def cC(T:Tabs)(O:bC):Nat->ME->Frm->Option (List ak)
 |0,_,_=>ab
 |n+1,e,f=>match e with
  | .rng es=>(cZ (λe=>ai T O n e f) es).bind λds=>(fU ds).bind wx
  | .rvd e=>(match ai T O n e f with|some (.list xs)=>aa xs.reverse|_=>ab)
  |e=>(match ai T O n e f with|some d=>ww d|none=>ab)
end
set_option genCtorIdx true in
inductive Fl|next|brk|ret(d:ak)
noncomputable def gc(body:Frm->Option (Fl×Frm))(bind:ak->Frm->Option Frm):List ak->Frm->Option (Fl×Frm)
 |[],f=>aa (.next,f)
 |x::r,f=>match bind x f with
  |none=>ab
  |some f=>match body f with
   |some (.next,f)=>gc body bind r f
   |some (.brk,f)=>aa (.next,f)
   |some (.ret d,f)=>aa (.ret d,f)
   |none=>ab
theorem O6{body:Frm->Option (Fl×Frm)}{bind:ak->Frm->Option Frm}:gc body bind [] f=aa (.next,f):=rfl
theorem r6{body:Frm->Option (Fl×Frm)}{bind:ak->Frm->Option Frm}:gc body bind (x::r) f=match bind x f with
  |none=>ab
  |some f=>match body f with
   |some (.next,f)=>gc body bind r f
   |some (.brk,f)=>aa (.next,f)
   |some (.ret d,f)=>aa (.ret d,f)
   |none=>ab:=rfl
noncomputable def gT(test:Frm->Option Bool)(body:Frm->Option (Fl×Frm)):Nat->Frm->Option (Fl×Frm)
 |0,_=>ab
 |n+1,f=>match test f with
  |some ac=>(match body f with
   |some (.next,f)=>gT test body n f
   |some (.brk,f)=>aa (.next,f)
   |some (.ret d,f)=>aa (.ret d,f)
   |none=>ab)
  |some ae=>aa (.next,f)
  |none=>ab
theorem zp{A:Frm->Option Bool}{body:Frm->Option (Fl×Frm)}:gT A body (n+1) f=match A f with
  |some ac=>(match body f with
   |some (.next,f)=>gT A body n f
   |some (.brk,f)=>aa (.next,f)
   |some (.ret d,f)=>aa (.ret d,f)
   |none=>ab)
  |some ae=>aa (.next,f)
  |none=>ab:=rfl
def gf(is:List Nat)(one:Bool)(x:ak)(f:Frm):Option Frm:=
 if one then gK f is [x]else match x with
  | .tuple ds=>gK f is ds
  |_=>ab
mutual
noncomputable def bK(T:Tabs)(O:bC)(W:Nat):Nat->MS->Frm->Option (Fl×Frm)
 |0,_,_=>ab
 |n+1,s,f=>match s with
  | .asg i e=>(match ai T O 40 e f with|some d=>aa (.next,f.put i (.val d))|none=>ab)
  | .own i e=>(match e with
    | .lst []=>if f.flat then aa (.next,f.put i (.own []))else ab
    | .meth .split _ _=>(match ai T O 40 e f with|some (.list xs)=>if f.flat then aa (.next,f.put i (.own xs))else ab|_=>ab)
    |_=>ab)
  | .unp is e=>(match ai T O 40 e f with|some (.tuple ds)=>(gK f is ds).map λf=>(.next,f)|_=>ab)
  | .aug i op e=>(match f.get i,ai T O 40 e f with|some (.int a),aa (.int b)=>(pR op a b).map λd=>(.next,f.put i (.val (.int d)))|_,_=>ab)
  | .ife t a b=>(match aS T O 40 t f with|some ac=>bt T O W n a f|some ae=>bt T O W n b f|none=>ab)
  | .whl t b=>gT (λf=>aS T O 40 t f) (λf=>bt T O W n b f) W f
  | .forr is one it b=>(match cC T O 40 it f with|some xs=>gc (λf=>bt T O W n b f) (gf is one) xs f|none=>ab)
  | .ret e=>(match ai T O 40 e f with|some d=>aa (.ret d,f)|none=>ab)
  | .app i e=>(match f[i]?,ai T O 40 e f with|some (.own xs),aa d=>if xs.length<100000 then aa (.next,f.put i (.own (xs++[d])))else ab|_,_=>ab)
  | .ext i e=>(match f[i]?,ai T O 40 e f with|some (.own xs),aa (.list ds)=>if xs.length+ds.length<=100000 then aa (.next,f.put i (.own (xs++ds)))else ab|_,_=>ab)
  | .rev i=>(match f[i]? with|some (.own xs)=>aa (.next,f.put i (.own xs.reverse))|_=>ab)
  | .del i k=>(match f[i]? with|some (.own xs)=>(match e9 k xs.length with|some j=>aa (.next,f.put i (.own (xs.eraseIdx j)))|none=>ab)|_=>ab)
  | .asrt t=>(match aS T O 40 t f with|some ac=>aa (.next,f)|_=>ab)
  | .brk =>aa (.brk,f)
  | .frz i=>(match f[i]? with|some (.own xs)=>aa (.next,f.put i (.val (.list xs)))|_=>aa (.next,f))
  | .rais =>ab
  | .own2 i e=>(ai T O 40 e f).bind λd=>(zk d).bind λrs=>if f.sole i then aa (.next,f.put i (.own2 rs))else ab
  | .sto i a b e=>(f.rows i).bind λrs=>(ai T O 40 e f).bind λz=>(ai T O 40 a f).bind λx=>(ai T O 40 b f).bind λy=>(t8 rs x y z).map λrs=>(.next,f.put i (.own2 rs))
noncomputable def bt(T:Tabs)(O:bC)(W:Nat):Nat->List MS->Frm->Option (Fl×Frm)
 |0,_,_=>ab
 |_+1,[],f=>aa (.next,f)
 |n+1,s::r,f=>match bK T O W n s f with
  |some (.next,f)=>bt T O W n r f
  |x=>x
end
def evF(T:Tabs)(O:bC)(W:Nat)(m:MF)(vs:List ak):Option ak:=
 if vs.length=m.nParams then
  match bt T O W 200 m.body (vs.map .val ++cR (m.nNames-m.nParams) .un)with
  |some (.ret d,_)=>aa d
  |_=>ab
 else ab
section
variable {T:Tabs} {O:bC} {W n:Nat} {f g:Frm}
theorem gz:ai T O (n+1) (.bin op l r) f=(match ai T O n l f with|some a=>(match ai T O n r f with|some b=>bP op a b|none=>ab)|none=>ab):=rfl
theorem jR:ai T O (n+1) (.cmp op l r) f=(match ai T O n l f with|some a=>(match gb T O n r f with|some b=>(cY op a b).map .bool |none=>ab)|none=>ab):=rfl
theorem wy:ai T O (n+1) (.neg e) f=(match ai T O n e f with|some (.int i)=>aa (.int<|-i)|_=>ab):=rfl
theorem Cu:ai T O (n+1) (.inv e) f=(match ai T O n e f with|some (.int i)=>aa (.int<|-i-1)|_=>ab):=rfl
theorem kA{g:Nat}{es:List ME}:ai T O (n+1) (.call g es) f=(match cZ (λe=>ai T O n e f) es with|some vs=>O g vs|none=>ab):=rfl
theorem pT:ai T O (n+1) (.bi b es) f=(match cZ (λe=>gb T O n e f) es with|some vs=>gR b vs|none=>ab):=rfl
theorem kC:ai T O (n+1) (.meth m o es) f=(match ai T O n o f with|some d=>(match cZ (λe=>ai T O n e f) es with|some vs=>gS m d vs|none=>ab)|none=>ab):=rfl
theorem Cv:ai T O (n+1) (.idx o i) f=(match gb T O n o f with|some d=>(match ai T O n i f with|some k=>idx2 d k|none=>ab)|none=>ab):=rfl
theorem O7:ai T O (n+1) (.sl o l h) f=(match ai T O n o f with|some d=>(match ai T O n l f with|some a=>(match ai T O n h f with|some b=>iG d a b|none=>ab)|none=>ab)|none=>ab):=rfl
theorem r7:ai T O (n+1) (.tup es) f=(cZ (λe=>ai T O n e f) es).map .tuple :=rfl
theorem Cw:ai T O (n+1) (.lst es) f=(cZ (λe=>ai T O n e f) es).map .list :=rfl
theorem O8:ai T O (n+1) (.ite t a b) f=(match aS T O n t f with|some ac=>ai T O n a f|some ae=>ai T O n b f|none=>ab):=rfl
theorem HD:ai T O (n+1) (.gIn t neg e) f=(match ai T O n e f with|some d=>(Cp T t d).map λb=>.bool (b !=neg)|none=>ab):=rfl
theorem jS:bK T O W (n+1) (.asg i e) f=(match ai T O 40 e f with|some d=>aa (.next,f.put i<|.val d)|none=>ab):=rfl
theorem oQ:bK T O W (n+1) (.unp is e) f=(match ai T O 40 e f with|some (.tuple ds)=>(gK f is ds).map λf=>(.next,f)|_=>ab):=rfl
theorem zq:bK T O W (n+1) (.aug i op e) f=(match f.get i,ai T O 40 e f with|some (.int a),aa (.int b)=>(pR op a b).map λd=>(.next,f.put i<|.val<|.int d)|_,_=>ab):=rfl
theorem nF:bK T O W (n+1) (.ret e) f=(match ai T O 40 e f with|some d=>aa (.ret d,f)|none=>ab):=rfl
theorem HE:bK T O W (n+1) (.app i e) f=(match f[i]?,ai T O 40 e f with|some (.own xs),aa d=>if xs.length<100000 then aa (.next,f.put i<|.own<|xs++[d])else ab|_,_=>ab):=rfl
theorem jm:bK T O W (n+1) (.ife t a b) f=(match aS T O 40 t f with|some ac=>bt T O W n a f|some ae=>bt T O W n b f|none=>ab):=rfl
theorem O9:bK T O W (n+1) (.asrt t) f=(match aS T O 40 t f with|some ac=>aa (.next,f)|_=>ab):=rfl
theorem jn:bt T O W (n+1) (s::r) f=(match bK T O W n s f with|some (.next,f)=>bt T O W n r f|x=>x):=rfl
theorem Zz:ai T O (n+1) .kn f=aa .none :=rfl
theorem Cy:ai T O (n+1) (.kb b) f=aa (.bool b):=rfl
theorem ii:ai T O (n+1) (.ki i) f=aa (.int i):=rfl
theorem t9:gb T O (n+1) (.ki i) f=ai T O n (.ki i) f:=rfl
theorem wz:ai T O (n+1) (.ks s) f=aa (.str<|a8 s):=rfl
theorem dh:ai T O (n+1) (.v i) f=f.get i:=rfl
theorem kD:gb T O (n+1) (.v i) f=f.peek i:=rfl
theorem r8:aS T O (n+1) (.v i) f=(match ai T O n (.v i) f with|some d=>ey d|none=>ab):=rfl
theorem mz:aS T O (n+1) (.cmp op l r) f=(match ai T O n (.cmp op l r) f with|some d=>ey d|none=>ab):=rfl
theorem Pa:aS T O (n+1) (.meth m o es) f=(match ai T O n (.meth m o es) f with|some d=>ey d|none=>ab):=rfl
theorem HF{src:List<|Option Nat}{it elt:ME}{A:List ME}:ai T O (n+1) (.comp src t elt it A) f=(cC T O n it f).bind λxs=>pS<|gL (rc (λg=>ai T O n elt g)<|λg=>iH (λc=>aS T O n c g) A) (bU f src) t xs:=rfl
theorem HG{src:List<|Option Nat}{it jt elt:ME}{A:List ME}:ai T O (n+1) (.comp2 src t u elt it jt A) f=(cC T O n it f).bind λxs=>pS<|gL (λg=>(cC T O n jt g).bind λys=>gL (rc (λg=>ai T O n elt g)<|λg=>iH (λc=>aS T O n c g) A) g u ys) (bU f src) t xs:=rfl
theorem Pb{i:Nat}{a b:ME}:ai T O (n+1) (.idx2 i a b) f=(f.rows i).bind λA=>(ai T O n a f).bind λx=>(ai T O n b f).bind λy=>oP A x y:=rfl
theorem Pc:ai T O (n+1) (.gGet t e) f=(match ai T O n e f with|some d=>Cq T t d|none=>ab):=rfl
theorem Pd:ai T O (n+1) (.gget t e) f=(match ai T O n e f with|some d=>Cr T t d|none=>ab):=rfl
theorem HH:aS T O (n+1) (.bop ac es) f=iH (λe=>aS T O n e f) es:=rfl
theorem ZA:aS T O (n+1) (.bop ae es) f=rZ (λe=>aS T O n e f) es:=rfl
theorem Pe:cC T O (n+1) (.rng es) f=(cZ (λe=>ai T O n e f) es).bind λds=>(fU ds).bind wx:=rfl
theorem Pf:cC T O (n+1) (.rvd e) f=(match ai T O n e f with|some (.list xs)=>aa xs.reverse|_=>ab):=rfl
theorem Pg:bK T O W (n+1) (.own i<|.meth .split o es) f=(match ai T O 40 (.meth .split o es) f with|some (.list xs)=>if f.flat then aa (.next,f.put i<|.own xs)else ab|_=>ab):=rfl
theorem Ph{i:Nat}{e:ME}:bK T O W (n+1) (.own2 i e) f=(ai T O 40 e f).bind λd=>(zk d).bind λA=>if f.sole i then aa (.next,f.put i<|.own2 A)else ab:=rfl
theorem Pi{i:Nat}{a b e:ME}:bK T O W (n+1) (.sto i a b e) f=(f.rows i).bind λA=>(ai T O 40 e f).bind λz=>(ai T O 40 a f).bind λx=>(ai T O 40 b f).bind λy=>(t8 A x y z).map λA=>(.next,f.put i<|.own2 A):=rfl
theorem ZB:bK T O W (n+1) (.whl t b) f=gT (λf=>aS T O 40 t f) (λf=>bt T O W n b f) W f:=rfl
theorem Cz{A:List Nat}{one:Bool}{b:List MS}:bK T O W (n+1) (.forr A one it b) f=(match cC T O 40 it f with|some xs=>gc (λf=>bt T O W n b f) (gf A one) xs f|none=>ab):=rfl
theorem HI:bK T O W (n+1) (.ext i e) f=(match f[i]?,ai T O 40 e f with|some (.own xs),aa (.list ds)=>if xs.length+ds.length<=100000 then aa (Fl.next,f.put i<|.own<|xs++ds)else ab|_,_=>ab):=rfl
theorem ZC:bK T O W (n+1) (.rev i) f=(match f[i]? with|some (.own xs)=>aa (.next,f.put i<|.own xs.reverse)|_=>ab):=rfl
theorem HJ:bK T O W (n+1) (.del i k) f=(match f[i]? with|some (.own xs)=>(match e9 k xs.length with|some j=>aa (.next,f.put i<|.own<|xs.eraseIdx j)|none=>ab)|_=>ab):=rfl
theorem ZD:bK T O W (n+1) .brk f=aa (.brk,f):=rfl
theorem ZE:bK T O W (n+1) (.frz i) f=(match f[i]? with|some (.own xs)=>aa (Fl.next,f.put i<|.val<|.list xs)|_=>aa (.next,f)):=rfl
theorem nG:bt T O W (n+1) [] f=aa (.next,f):=rfl
theorem Pj(B:ai T O n l f=aa a)(A:gb T O n r f=aa b)(h:cY op a b=aa c):ai T O (n+1) (.cmp op l r) f=aa (.bool c):=by rw[jR,B,A];exact congrArg (EZ PyData.bool) h
theorem ua(B:ai T O n l f=aa a)(A:gb T O n r f=aa b)(h:cY op a b=aa c):aS T O (n+2) (.cmp op l r) f=aa c:=by show(match ai T O (n+1) (.cmp op l r) f with|some d=>ey d|none=>ab)=_;rw[Pj B A h];rfl
theorem Pk(h:ai T O n e f=aa (.bool c))(A:aS T O (n+1) e f=(match ai T O n e f with|some d=>ey d|none=>ab)):aS T O (n+1) e f=aa c:=by rw[A,h];rfl
theorem Pl(B:gb T O n o f=aa a)(A:ai T O n i f=aa k)(h:idx2 a k=d):ai T O (n+1) (.idx o i) f=d:=by rw[Cv,B,A];exact h
theorem HK(h:F e=aa d)(A:cZ F es=aa ds):cZ F (e::es)=aa (d::ds):=by show(match F e with|some d=>(cZ F es).map (d::·)|none=>ab)=_;rw[h,A];rfl
theorem wA{g:Nat}{es:List ME}{ds:List ak}{d:Option ak}(A:cZ (λe=>ai T O n e f) es=aa ds)(h:O g ds=d):ai T O (n+1) (.call g es) f=d:=by rw[kA,A];exact h
theorem Pn(B:ai T O n o f=aa a)(A:cZ (λe=>ai T O n e f) es=aa ds)(h:gS m a ds=d):ai T O (n+1) (.meth m o es) f=d:=by rw[kC,B,A];exact h
theorem Po(h:ai T O 40 e f=aa d):bK T O W (n+1) (.asg i e) f=aa (.next,f.put i<|.val d):=by rw[jS,h]
theorem HL(h:ai T O 40 e f=aa d):bK T O W (n+1) (.ret e) f=aa (.ret d,f):=by rw[nF,h]
theorem CA(h:ai T O 40 e f=aa (.tuple ds))(A:gK f is ds=aa g):bK T O W (n+1) (.unp is e) f=aa (.next,g):=by rw[oQ,h];exact congrArg (EZ _) A
theorem ZF(c:Bool)(h:aS T O 40 t f=aa c)(A:bt T O W n (if c then a else b) f=r):bK T O W (n+1) (.ife t a b) f=r:=by rw[jm,h];clear h;cases c<;>exact A
end
end
section
abbrev Pq:ME:=.lst [.tup [.sl (.v 9) (.ki 1) (.kn),.kb ae],.tup [.bin .add (.bin .add (.sl (.v 9) (.kn) (.ki 1)) (.ks [46])) (.sl (.v 9) (.ki 2) (.kn)),.kb ae],.tup [.bin .add (.bin .add (.v 9) (.ks [46,46,46])) (.v 9),.kb ae],.tup [.meth .join (.ks [46,46,46]) [.bin .add (.bi .list [.v 9]) (.lst [.idx (.v 9) (.neg (.ki 1))])],.kb ae],.tup [.bin .add (.bin .add (.sl (.v 9) (.kn) (.ki 3)) (.ks [46,46,46])) (.sl (.v 9) (.ki 3) (.kn)),.kb ac],.tup [.bin .add (.bin .add (.bin .add (.bin .add (.ks [46,46,46]) (.sl (.v 9) (.kn) (.ki 4))) (.ks [46,46,46])) (.sl (.v 9) (.ki 3) (.kn))) (.ks [46,46,46]),.kb ae],.tup [.bin .add (.bin .add (.bin .add (.bin .add (.sl (.v 9) (.kn) (.ki 1)) (.ks [46,46,46])) (.sl (.v 9) (.ki 1) (.ki 4))) (.ks [46,46,46])) (.sl (.v 9) (.ki 3) (.kn)),.kb ae]]
abbrev Pr:ME:=.cmp .eq (.comp2 [ab,ab,ab,ab,ab,aa 3,aa 10] 1 2 (.ki 1) (.rng [.ki 4]) (.rng [.ki 4]) [.bop ac [.cmp .gt (.idx (.idx (.v 6) (.v 1)) (.v 2)) (.ki 0),.cmp .isin (.bin .add (.idx (.v 5) (.v 1)) (.idx (.idx (.v 5) (.v 2)) (.ki 0))) (.call 17 [])]]) (.lst [])
abbrev CB:ME:=.bin .mul (.v 3) (.bin .add (.bin .mul (.ki 4) (.idx (.v 2) (.bin .sub (.v 1) (.ki 1)))) (.idx (.v 2) (.v 1)))
abbrev Ps:ME:=.comp [ab,ab,aa 1,aa 0] 1 (.comp [ab,ab,ab,aa 1,aa 3] 1 (.bin .sub (.ite (.cmp .eq (.v 3) (.v 1)) (.bi .sum [.idx (.v 4) (.v 3)]) (.ki 0)) (.idx (.idx (.v 4) (.v 3)) (.v 1))) (.v 2) []) (.v 1) []
abbrev Pt:ME:=.bop ae [.cmp .eq (.idx (.v 12) (.neg (.ki 1))) (.ki 0),.cmp .ne (.bin .add (.v 12) (.bin .mul (.lst [.ki 0]) (.bin .sub (.ki 16) (.bi .len [.v 12])))) (.comp2 [ab,ab,ab] 1 2 (.v 2) (.v 10) (.v 1) [])]
abbrev Pu:ME:=.cmp .ne (.comp [ab,ab,ab,aa 8,aa 9] 1 (.v 1) (.rng [.ki 4]) [.cmp .is (.call 6 [.bin .add (.idx (.v 3) (.v 1)) (.ks [46,46,46]),.v 4]) (.kb ac)]) (.sl (.v 2) (.kn) (.ki 1))
abbrev Pv:ME:=.call 20 [.v 10,.comp [ab,ab,ab,aa 14,aa 10] 1 (.v 1) (.rng [.ki 4]) [.bop ac [.cmp .notin (.v 1) (.v 3),.cmp .gt (.bi .sum [.idx (.v 4) (.v 1)]) (.ki 0)]]]
abbrev Pw:ME:=.lst [.bin .add (.ki 7) (.v 2),.bin .add (.ki 7) (.v 3),.bin .add (.ki 159) (.bi .ord [.idx (.v 5) (.ki 2)]),.bin .add (.ki 159) (.bi .ord [.idx (.v 5) (.ki 3)])]
abbrev Px:ME:=.call 22 [.sl (.v 2) (.kn) (.ki 1),.comp2 [ab,ab,ab,ab,aa 17] 1 2 (.meth .count (.v 4) [.tup [.v 1,.v 2]]) (.rng [.ki 4]) (.rng [.ki 4]) []]
abbrev Py:ME:=.comp [ab,ab,ab,aa 8,aa 9] 1 (.v 1) (.rng [.ki 4]) [.cmp .is (.call 6 [.bin .add (.ks [46,46,46]) (.idx (.v 3) (.v 1)),.v 4]) (.kb ac)]
abbrev Pz:ME:=.comp [ab,ab,ab,aa 4] 1 (.ite (.cmp .eq (.v 1) (.idx (.v 3) (.ki 2))) (.ks [10]) (.bi .chr [.bin .add (.ki 300) (.v 1)])) (.v 4) []
abbrev PA:ME:=.comp [ab,ab,aa 2] 1 (.tup [.idx (.v 2) (.bin .sub (.v 1) (.ki 1)),.idx (.v 2) (.v 1)]) (.rng [.ki 1,.bi .len [.v 2]]) []
abbrev PB:ME:=.tup [.bin .sub (.bin .shl (.ki 1) (.v 5)) (.ki 1),.bin .add (.bin .sub (.v 0) (.bin .shl (.v 3) (.v 5))) (.v 3)]
abbrev wB:ME:=.meth .find (.v 1) [.v 5,.v 3,.v 4]
abbrev HM:ME:=.call 0 [.bin .add (.bin .shl (.v 4) (.v 2)) (.v 6),.v 1,.v 2]
abbrev CD:ME:=.sl (.v 0) (.v 2) (.bin .add (.v 2) (.v 3))
abbrev PC:ME:=.comp [ab,ab,ab,aa 8,aa 9] 1 (.call 19 [.v 1,.v 3,.v 4]) (.v 8) []
abbrev PD:ME:=.cmp .is (.call 6 [.bin .add (.ks [46,46,46]) (.v 0),.v 2]) (.kb ac)
abbrev CE:ME:=.cmp .lt (.v 2) (.bi .len [.v 0])
abbrev HN:ME:=.bin .add (.v 2) (.bi .len [.v 4])
abbrev PE:ME:=.cmp .eq (.bin .shr (.v 0) (.v 5)) (.v 3)
abbrev PF:ME:=.lst [.neg (.ki 1),.ki 0,.ki 255,.ki 256]
abbrev PG:ME:=.cmp .eq (.bi .max [.v 1]) (.ki 0)
noncomputable abbrev PH:List MS:=[.asg 7 (.call 5 [.bin .sub (.bin .mul (.idx2 2 (.v 5) (.v 6)) (.idx2 2 (.v 4) (.v 4))) (.bin .mul (.idx2 2 (.v 5) (.v 4)) (.idx2 2 (.v 4) (.v 6))),.v 3]),.ife (.cmp .ne (.idx (.v 7) (.ki 1)) (.ki 0)) [.ret (.ki 0)] [],.sto 2 (.v 5) (.v 6) (.idx (.v 7) (.ki 0))]
noncomputable abbrev CF:List MS:=[.ife (.cmp .gt (.bi .len [.v 8]) (.ki 6)) [.brk] [],.ife (.cmp .lt (.bin .mod (.v 9) (.ki 5)) (.ki 2)) [.asg 7 (.bin .add (.v 7) (.idx (.v 5) (.bin .mod (.v 9) (.ki 5))))] [.ife (.cmp .lt (.bin .mod (.v 9) (.ki 5)) (.ki 4)) [.asg 7 (.bin .add (.v 7) (.call 13 [.bi .ord [.idx (.v 5) (.bin .mod (.v 9) (.ki 5))],.bin .mod (.bin .fdiv (.v 9) (.ki 5)) (.ki 12)]))] [.asg 7 (.bin .add (.v 7) (.bi .chr [.idx (.lst [.ki 64257,.ki 64258,.ki 64262,.ki 13262,.ki 13259,.ki 8360,.ki 8470,.ki 8482]) (.v 4)]))]],.ife (.bop ae [.cmp .lt (.bin .mod (.v 9) (.ki 5)) (.ki 2),.cmp .eq (.bin .mod (.bin .fdiv (.v 9) (.ki 1620)) (.ki 2)) (.ki 1)]) [.asg 7 (.bin .add (.v 7) (.call 12 [.bin .mod (.bin .fdiv (.v 9) (.ki 60)) (.ki 27)]))] [],.ext 8 (.ite (.cmp .eq (.bin .mod (.v 9) (.ki 5)) (.ki 4)) (.lst [.ki 2,.ki 3]) (.lst [.bin .mod (.v 9) (.ki 5)]))]
abbrev ZG:List MS:=[.forr [6] ac (.rng [.bin .add (.v 4) (.ki 1),.bi .len [.v 1]]) PH]
abbrev HO:List MS:=[.forr [5] ac (.rng [.bin .add (.v 4) (.ki 1),.bi .len [.v 1]]) ZG,.asg 3 (.idx2 2 (.v 4) (.v 4))]
noncomputable abbrev PI:List MS:=[.ife (.cmp .isnt (.call 6 [.meth .join (.v 25) [.comp [ab,ab,aa 8] 1 (.idx (.v 2) (.v 1)) (.v 24) []],.v 9]) (.cmp .eq (.v 24) (.v 2))) [.ret (.kb ae)] []]
abbrev HP:List MS:=[.forr [25] ac (.tup [.ks [],.ks [46,46,46]]) PI,.ife (.cmp .isnt (.cmp .eq (.call 15 [.meth .join (.ks []) [.comp [ab,ab,aa 3] 1 (.idx (.v 2) (.v 1)) (.v 24) []]]) (.comp [ab,ab,aa 4] 1 (.idx (.v 2) (.v 1)) (.v 24) [])) (.v 23)) [.ret (.kb ae)] []]
noncomputable abbrev HQ:List MS:=[.asg 4 (.bin .add (.bin .mul (.ki 4) (.idx (.v 0) (.neg (.ki 1)))) (.v 3)),.ife (.cmp .gt (.idx (.v 1) (.v 4)) (.ki 0)) [.ext 2 (.call 22 [.bin .add (.v 0) (.lst [.v 3]),.bin .add (.bin .add (.sl (.v 1) (.kn) (.v 4)) (.lst [.bin .sub (.idx (.v 1) (.v 4)) (.ki 1)])) (.sl (.v 1) (.bin .add (.v 4) (.ki 1)) (.kn))])] []]
noncomputable abbrev PJ:List MS:=[.ife (.cmp .ne (.call 16 [.bin .add (.bin .mul (.bin .mul (.v 15) (.v 19)) (.v 19)) (.v 21),.bin .mul (.v 16) (.v 19),.v 22]) (.tup [.bin .mul (.bi .len [.v 18]) (.v 19),.v 21])) [.ret (.kb ae)] []]
noncomputable abbrev HR:List MS:=[.ife (.bop ae [.cmp .isnt (.call 9 [.v 7]) (.cmp .lt (.v 7) (.ki 256)),.cmp .isnt (.call 10 [.v 7]) (.cmp .gt (.v 7) (.ki 255)),.cmp .isnt (.call 11 [.v 7]) (.cmp .eq (.v 7) (.ki 0))]) [.ret (.kb ae)] []]
noncomputable abbrev PK:List MS:=[.ife (.cmp .isnt (.call 6 [.v 27,.v 9]) (.v 28)) [.ret (.kb ae)] []]
noncomputable abbrev CG:ME:=.bop ac [.cmp .gt (.v 3) (.ki 1),.gIn .tok ac (.sl (.v 0) (.v 2) (.bin .add (.v 2) (.v 3)))]
noncomputable abbrev HS:List MS:=[.asg 16 (.bin .mul (.v 16) (.call 21 [.v 13]))]
abbrev HT:List MS:=[.asg 15 (.bin .mul (.v 15) (.call 21 [.bin .add (.bin .sub (.bi .sum [.idx (.v 10) (.v 5)]) (.ki 1)) (.meth .count (.v 14) [.v 5])])),.forr [13] ac (.idx (.v 10) (.v 5)) HS]
abbrev PL:List MS:=[.asg 20 (.bin .mod (.bi .sum [.v 0]) (.bin .mul (.v 16) (.v 19))),.forr [21,22] ae (.tup [.tup [.v 20,.bin .mod (.bi .sum [.v 0]) (.ki 4)],.tup [.ki 0,.bin .mod (.bin .add (.bi .sum [.v 0]) (.ki 3)) (.ki 4)]]) PJ]
noncomputable def wC:MF:=⟨3,14,[.ife (.cmp .le (.bin .sub (.meth .bitlen (.v 0) []) (.v 2)) (.ki 4000)) [.ret (.bi .divmod [.v 0,.v 1])] [],.asg 3 (.bin .band (.v 2) (.ki 1)),.ife (.v 3) [.aug 0 .shl (.ki 1),.aug 1 .shl (.ki 1),.aug 2 .add (.ki 1)] [],.asg 4 (.bin .shr (.v 2) (.ki 1)),.asg 5 (.bin .sub (.bin .shl (.ki 1) (.v 4)) (.ki 1)),.unp [6,7] (.tup [.bin .shr (.v 1) (.v 4),.bin .band (.v 1) (.v 5)]),.unp [8,9] (.call 1 [.bin .shr (.v 0) (.v 2),.bin .band (.bin .shr (.v 0) (.v 4)) (.v 5),.v 1,.v 6,.v 7,.v 4]),.unp [10,9] (.call 1 [.v 9,.bin .band (.v 0) (.v 5),.v 1,.v 6,.v 7,.v 4]),.ife (.v 3) [.aug 9 .shr (.ki 1)] [],.ret (.tup [.bin .bor (.bin .shl (.v 8) (.v 4)) (.v 10),.v 9])]⟩
noncomputable def PM:MF:=⟨6,9,[.ife PE [.unp [6,7] PB] [.unp [6,7] (.call 0 [.v 0,.v 3,.v 5])],.asg 7 (.bin .sub (.bin .bor (.bin .shl (.v 7) (.v 5)) (.v 1)) (.bin .mul (.v 6) (.v 4))),.whl (.cmp .lt (.v 7) (.ki 0)) [.aug 6 .sub (.ki 1),.aug 7 .add (.v 2)],.ret (.tup [.v 6,.v 7])]⟩
noncomputable def PN:MF:=⟨2,13,[.asg 2 (.meth .bitlen (.v 1) []),.asg 3 (.call 2 [.v 0,.v 2]),.asg 4 (.ki 0),.own 5 (.lst []),.forr [6] ac (.rvd (.v 3)) [.unp [7,4] HM,.app 5 (.v 7)],.rev 5,.frz 5,.asg 8 (.call 3 [.v 5,.v 2]),.ret (.tup [.v 8,.v 4])]⟩
noncomputable def CH:MF:=⟨2,7,[.ife (.cmp .eq (.v 1) (.ki 0)) [.rais] [.ife (.cmp .lt (.v 1) (.ki 0)) [.unp [2,3] (.call 5 [.neg (.v 0),.neg (.v 1)]),.ret (.tup [.v 2,.neg (.v 3)])] [.ife (.cmp .lt (.v 0) (.ki 0)) [.unp [2,3] (.call 5 [.inv (.v 0),.v 1]),.ret (.tup [.inv (.v 2),.bin .add (.v 1) (.inv (.v 3))])] [.ret (.call 4 [.v 0,.v 1])]]]]⟩
noncomputable def PO:MF:=⟨2,8,[.ife (.cmp .notin (.ks [46,46,46]) (.v 0)) [.ret (.cmp .eq (.v 0) (.v 1))] [],.own 2 (.meth .split (.v 0) [.ks [46,46,46]]),.asrt (.cmp .ge (.bi .len [.v 2]) (.ki 2)),.unp [3,4] (.tup [.ki 0,.bi .len [.v 1]]),.asg 5 (.idx (.v 2) (.ki 0)),.ife (.v 5) [.ife (.meth .startswith (.v 1) [.v 5]) [.asg 3 (.bi .len [.v 5]),.del 2 0] [.ret (.kb ae)]] [],.asg 5 (.idx (.v 2) (.neg (.ki 1))),.ife (.v 5) [.ife (.meth .endswith (.v 1) [.v 5]) [.aug 4 .sub (.bi .len [.v 5]),.del 2 (-1)] [.ret (.kb ae)]] [],.ife (.cmp .gt (.v 3) (.v 4)) [.ret (.kb ae)] [],.frz 2,.forr [5] ac (.v 2) [.asg 3 wB,.ife (.cmp .lt (.v 3) (.ki 0)) [.ret (.kb ae)] [],.aug 3 .add (.bi .len [.v 5])],.ret (.kb ac)]⟩
noncomputable def PP:MF:=⟨1,3,[.ret (.gIn .b1 ae (.bi .ord [.v 0]))]⟩
noncomputable def PQ:MF:=⟨1,4,[.asg 1 (.gget .b3 (.bi .ord [.v 0])),.ife (.cmp .isnt (.v 1) (.kn)) [.ret (.v 1)] [],.ret (.meth .lower (.v 0) [])]⟩
noncomputable def PR:MF:=⟨1,2,[.ret (.cmp .lt (.v 0) (.ki 256))]⟩
noncomputable def PS:MF:=⟨1,2,[.ret (.cmp .ge (.v 0) (.ki 256))]⟩
noncomputable def PU:MF:=⟨1,2,[.ret (.cmp .eq (.v 0) (.ki 0))]⟩
noncomputable def PV:MF:=⟨1,2,[.ife (.cmp .gt (.v 0) (.ki 10)) [.ret (.bi .chr [.bin .add (.ki 65013) (.v 0)])] [],.ret (.bi .chr [.idx (.lst [.ki 173,.ki 847,.ki 6150,.ki 6155,.ki 6156,.ki 6157,.ki 8203,.ki 8204,.ki 8205,.ki 8288,.ki 65279]) (.v 0)])]⟩
noncomputable def PW:MF:=⟨2,3,[.ife (.cmp .eq (.v 1) (.ki 0)) [.ret (.bi .chr [.v 0])] [],.ife (.cmp .eq (.v 1) (.ki 1)) [.ret (.bi .chr [.bin .sub (.v 0) (.ki 32)])] [],.ret (.bi .chr [.bin .add (.bin .add (.ki 119711) (.v 0)) (.bin .mul (.ki 52) (.idx (.lst [.ki 0,.ki 1,.ki 2,.ki 4,.ki 7,.ki 8,.ki 9,.ki 10,.ki 11,.ki 12]) (.bin .sub (.v 1) (.ki 2))))])]⟩
noncomputable def PX:MF:=⟨1,19,[.asg 1 (.bin .add (.bi .sum [.v 0]) (.ki 671)),.asg 2 (.idx (.comp [ab,ab] 1 (.v 1) (.rng [.ki 48]) [.cmp .ne (.v 1) (.ki 16)]) (.bin .mod (.v 1) (.ki 47))),.asg 3 (.idx (.comp [ab,ab,aa 2] 1 (.v 1) (.rng [.ki 48]) [.cmp .notin (.v 1) (.tup [.ki 16,.v 2])]) (.bin .mod (.bin .fdiv (.v 1) (.ki 47)) (.ki 46))),.asg 4 (.bin .mod (.bin .fdiv (.v 1) (.ki 2162)) (.ki 8)),.asg 5 (.bin .add (.lst [.idx (.call 17 []) (.v 2),.idx (.call 17 []) (.v 3)]) (.bi .list [.idx (.lst [.ks [102,105],.ks [102,108],.ks [115,116],.ks [107,109],.ks [104,112],.ks [114,115],.ks [110,111],.ks [116,109]]) (.v 4)])),.asg 6 Pw,.asg 7 (.ks []),.own 8 (.lst []),.forr [9] ac (.bin .add (.sl (.v 0) (.kn) (.ki 7)) (.sl (.lst [.ki 0,.ki 4,.ki 60,.ki 7,.ki 125,.ki 1]) (.bi .len [.v 0]) (.kn))) CF,.frz 8,.ret (.tup [.v 7,.v 8,.v 5,.v 6])]⟩
noncomputable def PY:MF:=⟨1,9,[.own 1 (.lst []),.asg 2 (.ki 0),.whl CE [.asg 3 (.ki 3),.whl (CG) [.asg 3 (.bin .sub (.v 3) (.ki 1))],.asg 4 CD,.ife (.gIn .tok ae (.v 4)) [.app 1 (.gGet .tok (.v 4))] [.ife (.cmp .isnt (.call 7 [.v 4]) (.kb ac)) [.ext 1 (.comp [ab,ab,ab] 1 (.bin .add (.ki 159) (.bi .ord [.v 1])) (.bin .add (.ks []) (.call 8 [.v 4])) [])] []],.asg 2 HN],.frz 1,.ret (.v 1)]⟩
noncomputable def PZ:MF:=⟨3,6,[.ife (.cmp .eq (.v 2) (.ki 0)) [.ret (.call 5 [.v 0,.v 1])] [],.ife (.cmp .eq (.v 2) (.ki 1)) [.unp [3,4] (.call 5 [.neg (.v 0),.neg (.v 1)]),.ret (.tup [.v 3,.neg (.v 4)])] [],.ife (.cmp .eq (.v 2) (.ki 2)) [.unp [3,4] (.call 5 [.inv (.v 0),.v 1]),.ret (.tup [.inv (.v 3),.bin .add (.v 1) (.inv (.v 4))])] [],.unp [3,4] (.call 5 [.v 0,.neg (.v 1)]),.ife (.bop ac [.cmp .lt (.v 4) (.ki 0),.cmp .gt (.bin .add (.v 1) (.v 4)) (.ki 0)]) [.ret (.tup [.inv (.v 3),.bin .add (.v 1) (.v 4)])] [],.ret (.tup [.neg (.v 3),.neg (.v 4)])]⟩
noncomputable def P0:MF:=⟨0,0,[.ret (.meth .split (.ks [40,32,41,32,91,32,93,32,58,32,44,32,59,32,43,32,45,32,42,32,47,32,124,32,38,32,60,32,62,32,61,32,46,32,37,32,123,32,125,32,61,61,32,33,61,32,60,61,32,62,61,32,126,32,94,32,60,60,32,62,62,32,42,42,32,43,61,32,45,61,32,42,61,32,47,61,32,37,61,32,38,61,32,124,61,32,94,61,32,60,60,61,32,62,62,61,32,42,42,61,32,47,47,32,47,47,61,32,64,32,64,61,32,45,62,32,46,46,46,32,58,61,32,33]) [.ks [32]])]⟩
noncomputable def P5:MF:=⟨2,5,[.asg 2 (.ki 0),.whl (.bop ac [.cmp .lt (.v 2) (.bi .len [.v 1]),.cmp .is (.call 6 [.bin .add (.ks [46,46,46]) (.bin .mul (.bin .add (.v 0) (.ks [46,46,46])) (.bin .add (.v 2) (.ki 1))),.v 1]) (.kb ac)]) [.asg 2 (.bin .add (.v 2) (.ki 1))],.ret (.v 2)]⟩
noncomputable def P6:MF:=⟨3,9,[.asg 3 (.comp [ab,ab,ab,aa 0,aa 2] 1 (.ite (.cmp .eq (.v 1) (.v 3)) (.ki 0) (.call 18 [.bin .add (.v 3) (.v 1),.v 4])) (.v 1) []),.asg 4 (.bin .sub (.call 18 [.v 0,.v 2]) (.bi .sum [.v 3])),.ife PD [.asg 4 (.bin .sub (.v 4) (.ki 1))] [],.ret (.comp [ab,ab,aa 0,aa 3,aa 1,aa 4] 1 (.ite (.cmp .eq (.idx (.v 4) (.v 1)) (.v 2)) (.v 5) (.idx (.v 3) (.v 1))) (.rng [.ki 4]) [])]⟩
noncomputable def HU:MF:=⟨2,11,[.own2 2 Ps,.asg 3 (.ki 1),.forr [4] ac (.rng [.bi .len [.v 1]]) HO,.ret (.v 3)]⟩
noncomputable def ZH:MF:=⟨1,4,[.asg 1 (.ki 1),.forr [2] ac (.rng [.ki 2,.bin .add (.v 0) (.ki 1)]) [.asg 1 (.bin .mul (.v 1) (.v 2))],.ret (.v 1)]⟩
noncomputable def P7:MF:=⟨2,8,[.ife PG [.ret (.lst [.v 0])] [],.own 2 (.lst []),.forr [3] ac (.rng [.ki 4]) HQ,.frz 2,.ret (.v 2)]⟩
noncomputable def P8:MF:=⟨1,44,[.unp [1,2,3,4] (.call 14 [.v 0]),.asg 6 (.comp [ab,ab,aa 4] 1 (.idx (.v 2) (.v 1)) (.v 2) []),.ife (.cmp .ne (.call 15 [.v 1]) (.v 6)) [.ret (.kb ae)] [],.forr [7] ac (.bin .add (.v 6) PF) HR,.asg 8 Pz,.asg 9 (.meth .join (.ks []) [.comp [ab,ab,aa 8] 1 (.idx (.v 2) (.v 1)) (.v 2) []]),.asg 10 PC,.asg 11 (.bin .add (.ki 4) (.bin .mod (.bi .sum [.v 0]) (.ki 1000))),.asg 12 (.call 2 [.bi .sum [.comp [ab,ab,aa 2,aa 11] 1 (.bin .shl (.ki 1) CB) (.rng [.ki 1,.bi .len [.v 2]]) []],.v 11]),.ife Pt [.ret (.kb ae)] [],.asg 14 Py,.ife Pu [.ret (.kb ae)] [],.asg 15 Pv,.asg 16 (.ki 1),.forr [5] ac (.rng [.ki 4]) HT,.asg 17 PA,.asg 18 Px,.forr [19] ac (.tup [.bin .pow (.ki 3) (.bin .mod (.bi .sum [.v 0]) (.ki 5000)),.bin .sub (.bin .shl (.ki 2) (.bin .mod (.bi .sum [.v 0]) (.ki 9000))) (.ki 1)]) PL,.asg 23 Pr,.forr [24] ac (.v 18) HP,.asg 26 Pq,.forr [27,28] ae (.v 26) PK,.ret (.kb ac)]⟩
noncomputable abbrev zr:=aj->Option bp
inductive Rep(g:zr):aq->ak->Prop
 |none:Rep g .none .none
 |bool (b):Rep g (.bool b) (.bool b)
 |int (i t):Rep g (.int i t) (.int i)
 |str (x:ao) (t):x.length<=cH->Rep g (.str x t) (.str x)
 |list {a n ds} (vs:List aq):g a=aa {cls:=.type "list",data:=.seq vs.toArray n}->vs.length<=cH->vs.length=ds.length->
   (∀(i:Nat)(v:aq)(d:ak),vs[i]?=aa v->ds[i]?=aa d->Rep g v d)->Rep g (.ref a) (.list ds)
 |tuple {a n ds} (vs:List aq):g a=aa {cls:=.type "tuple",data:=.seq vs.toArray n}->vs.length<=cH->vs.length=ds.length->
   (∀(i:Nat)(v:aq)(d:ak),vs[i]?=aa v->ds[i]?=aa d->Rep g v d)->Rep g (.ref a) (.tuple ds)
inductive RepL(g:zr):List aq->List ak->Prop
 |nil:RepL g [] []
 |cons {v d vs ds}:Rep g v d->RepL g vs ds->RepL g (v::vs) (d::ds)
theorem RepL.uncons(r:RepL g vs<|d::ds):∃v A,vs=v::A/\Rep g v d/\RepL g A ds:=by cases r with|cons a b=>exact(ji _ _ rfl a b)
theorem RepL.unnil(r:RepL g vs []):vs=[]:=by cases r;rfl
theorem RepL.length(r:RepL g vs ds):vs.length=ds.length:=by
 induction r with
 |nil=>rfl
 |cons _ _ A=>simp[A]
theorem RepL.at(r:RepL g vs ds):∀(i:Nat)(v:aq)(d:ak),vs[i]?=aa v->ds[i]?=aa d->Rep g v d:=by
 induction r with
 |nil=>intro i v d h;injection h
 |cons h _ C=>
  intro i v d B A;cases i with
  |zero=>simp at B A;subst B;subst A;exact h
  |succ i=>simp at B A;exact C i v d B A
theorem RepL.of_at:∀{vs:List aq}{ds:List ak},vs.length=ds.length->(∀(i:Nat)(v:aq)(d:ak),vs[i]?=aa v->ds[i]?=aa d->Rep g v d)->RepL g vs ds:=by
 intro A;induction A with
 |nil=>
  intro A;cases A with
  |nil=>intro M L;exact .nil
  |cons O Q=>intro h B;injection h
 |cons v vs H=>
  intro C;cases C with
  |nil=>intro h B;injection h
  |cons d ds=>intro h k;exact .cons (k 0 v d rfl rfl) (H (by simpa using h) λi v d G D=>k (i+1) v d (by exact G) (by exact D))
theorem RepL.append(r:RepL g a x)(q:RepL g b y):RepL g (a++b)<|x++y:=by
 induction r with
 |nil=>exact q
 |cons h _ A=>exact .cons h A
theorem RepL.reverse(r:RepL g a x):RepL g a.reverse x.reverse:=by
 induction r with
 |nil=>exact .nil
 |cons h _ A=>simp only[xS,xS];exact A.append (.cons h .nil)
theorem RepL.drop:∀{a:List aq}{x:List ak}(n:Nat),RepL g a x->RepL g (a.drop n) (x.drop n)
 |_,_,0,r=>r
 |_,_,_+1,.nil =>.nil
 |_,_,n+1,.cons _ r=>by exact r.drop n
theorem RepL.take:∀{a:List aq}{x:List ak}(n:Nat),RepL g a x->RepL g (a.take n) (x.take n)
 |_,_,0,_=>.nil
 |_,_,_+1,.nil =>.nil
 |_,_,n+1,.cons h r=>.cons h (r.take n)
theorem RepL.eraseIdx:∀{a:List aq}{x:List ak}(n:Nat),RepL g a x->RepL g (a.eraseIdx n) (x.eraseIdx n)
 |_,_,_,.nil =>.nil
 |_,_,0,.cons _ r=>r
 |_,_,n+1,.cons h r=>.cons h (r.eraseIdx n)
theorem Rep.mono(k:∀a o,g a=aa o->G a=aa o)(r:Rep g v d):Rep G v d:=by
 induction r with
 |none=>exact .none
 |bool b=>exact .bool b
 |int i t=>exact .int i t
 |str x t h=>exact .str x t h
 |list vs D C B _ A=>exact .list vs (k _ _ D) C B A
 |tuple vs D C B _ A=>exact .tuple vs (k _ _ D) C B A
theorem RepL.mono(k:∀a o,g a=aa o->B a=aa o)(r:RepL g vs ds):RepL B vs ds:=by
 induction r with
 |nil=>exact .nil
 |cons h _ A=>exact .cons (h.mono k) A
theorem HV:∀{vs:List aq}{ds:List ak},vs.length=ds.length->(∀(i:Nat)(v:aq)(d:ak),vs[i]?=aa v->ds[i]?=aa d->∃A,Reads h v d A)->∃A,ReadsAll h vs ds A
 |[],[],_,_=>(b9 _ .nil)
 |[],_::_,h,_=>by injection h
 |_::_,[],h,_=>by injection h
 |v::vs,d::ds,h,k=>let⟨_,ha⟩:=k 0 v d rfl rfl;let⟨_,hb⟩:=HV (by simpa using h) λi v d C B=>k (i+1) v d (by exact C) (by exact B);(b9 _ (.cons ha hb))
theorem Rep.reads(k:∀a o,g a=aa o->h.get? a=aa o)(r:Rep g v d):∃G,Reads h v d G:=by
 induction r with
 |none=>exact(b9 _ .none)
 |bool b=>exact(b9 _ (.bool b))
 |int i t=>exact(b9 _ (.int i t))
 |str x t _=>exact(b9 _ (.str x t))
 |list vs D _ C _ A=>obtain⟨G,B⟩:=HV C A;exact(b9 _ (.list (k _ _ D) rfl rfl (by simpa using B)))
 |tuple vs D _ C _ A=>obtain⟨G,B⟩:=HV C A;exact(b9 _ (.tuple (k _ _ D) rfl rfl (by simpa using B)))
theorem Rep.int_inv(r:Rep g v<|.int i):∃t,v=.int i t:=by cases r;exact⟨_,rfl⟩
theorem Rep.bool_inv(r:Rep g v<|.bool b):v=.bool b:=by cases r;rfl
theorem Rep.none_inv(r:Rep g v .none):v=.none :=by cases r;rfl
theorem Rep.str_inv(r:Rep g v<|.str x):∃t,v=.str x t/\x.length<=cH:=by cases r with|str _ t h=>exact(br t rfl h)
theorem Rep.list_inv(r:Rep g v<|.list ds):∃a n vs,v=.ref a/\g a=aa {cls:=.type "list",data:=.seq vs.toArray n}/\dG vs<=cH/\RepL g vs ds:=by cases r with|list vs D C B A=>exact(jj _ _ vs rfl D C (RepL.of_at B A))
theorem Rep.tuple_inv(r:Rep g v<|.tuple ds):∃a n vs,v=.ref a/\g a=aa {cls:=.type "tuple",data:=.seq vs.toArray n}/\dG vs<=cH/\RepL g vs ds:=by cases r with|tuple vs D C B A=>exact(jj _ _ vs rfl D C (RepL.of_at B A))
theorem Rep.mkList(B:g a=aa {cls:=.type "list",data:=.seq vs.toArray n})(A:vs.length<=cH)(r:RepL g vs ds):Rep g (.ref a)<|.list ds:=.list vs B A r.length r.at
theorem Rep.mkTuple(B:g a=aa {cls:=.type "tuple",data:=.seq vs.toArray n})(A:vs.length<=cH)(r:RepL g vs ds):Rep g (.ref a)<|.tuple ds:=.tuple vs B A r.length r.at
theorem RepL.ints:∀{vs:List aq}{xs:List Int},RepL g vs (xs.map .int)->RepL M vs (xs.map .int):=by
 intro C H;induction H generalizing C with
 |nil=>intro r;obtain rfl:=r.unnil;exact .nil
 |cons x xs G=>intro r;exact dJ r.uncons λv L e B A=>aF B.int_inv λt D=>by subst e;subst D;exact .cons (.int _ _) (G A)
noncomputable def mask(X:List aj)(h:bL):zr:=λa=>if a∈X then ab else h.get? a
theorem cy:mask X h a=aa o↔a∉X/\h.get? a=aa o:=by unfold mask;by_cases q:a∈X<;>simp[q]
theorem dZ(e:mask X h a=aa o):h.get? a=aa o:=(cy.mp e).2
structure Wd where
 prog:pu
 w:d9
 mg:ao->Option aq
 mb:ao->Option aq
 T:List aj
 Bs:bL->Prop
 Tb:bL->Prop
 Base:aj->Prop
def oR(o:bp):Prop:=(o.cls=.none \/o.cls=.type "code")/\∃vs,o.data=.fields vs
structure Wd.Ok(W:Wd):Prop where
 bsG:∀h,W.Bs h->h.Ns l4 W.mg
 bsB:∀h,W.Bs h->h.Ns u9 W.mb
 bsLim:∀h,W.Bs h->h.NoLimit
 bsKeep:∀h h',W.Bs h->(∀b o,W.Base b->h.get? b=aa o->h'.get? b=aa o)->W.Bs h'
 base:∀h,W.Bs h->∀a,W.Base a->a∉W.T/\∃o,h.get? a=aa o
 tbKeep:∀h h',W.Tb h->(∀b o,h.get? b=aa o->oR o->h'.get? b=aa o)->W.Tb h'
 tStill:∀h,W.Tb h->∀a∈W.T,∃o,h.get? a=aa o/\oR o
 builtins:∀x:ao,W.mg x=ab->x≠"__name__"->W.mb x=AO x
structure Ext(W:Wd)(s s':aC):Prop where
 same:∃h tk,s'={s with heap:=h,toks:=tk}
 keep:∀b o,b∉W.T->s.heap.get? b=aa o->s'.heap.get? b=aa o
 bs:W.Bs s.heap->W.Bs s'.heap
 tb:W.Tb s.heap->W.Tb s'.heap
theorem Ext.refl(W:Wd)(s:aC):Ext W s s:=⟨(gH s.heap s.toks rfl),λ_ _ _ e=>e,id,id⟩
theorem Ext.trans(a:Ext W s D)(b:Ext W D L):Ext W s L:=by refine aE λA=>?_;obtain⟨⟨h,tk,rfl⟩,k1,b1,C⟩:=a;obtain⟨⟨h',H,rfl⟩,k2,G,B⟩:=b;apply A;clear A;exact⟨(gH h' H rfl),λb o n e=>k2 b o n<|k1 b o n e,G∘b1,B∘C⟩
theorem Ext.tok(t:Nat):Ext W s {s with toks:=t}:=⟨(gH s.heap t rfl),λ_ _ _ e=>e,id,id⟩
theorem Ext.grow(k:W.Ok)(t:Nat)(A:∀b o,s.heap.get? b=aa o->h.get? b=aa o):Ext W s {s with heap:=h,toks:=t}:=⟨(gH h t rfl),λb o _ e=>A b o e,λb=>k.bsKeep _ _ b λb o _ e=>A b o e,λb=>k.tbKeep _ _ b λb o e _=>A b o e⟩
theorem Ext.push(k:W.Ok)(o:bp)(t:Nat):Ext W s {s with heap:=s.heap.push o,toks:=t}:=Ext.grow k t<|λ_ _ e=>qn _ e
theorem Ext.maskK(x:Ext W s A)(B:∀a∈W.T,a∈X):∀a o,mask X s.heap a=aa o->mask X A.heap a=aa o:=λa o e=>by obtain⟨n,e⟩:=cy.mp e;exact cy.mpr ⟨n,x.keep a o (λq=>n<|B a q) e⟩
theorem Ext.rep(x:Ext W s A)(B:∀a∈W.T,a∈X)(r:Rep (mask X s.heap) v d):Rep (mask X A.heap) v d:=r.mono<|x.maskK B
theorem Ext.repL(x:Ext W s A)(B:∀a∈W.T,a∈X)(r:RepL (mask X s.heap) v d):RepL (mask X A.heap) v d:=r.mono<|x.maskK B
structure AOk(A:cX)(k:Nat):Prop where
 handled:A.handled=ab
 depth:A.depth+k<1000
 units:A.units+10*k+100<cLine
theorem AOk.deeper(a:AOk A<|k+1):AOk (A.deeper env) k:=⟨a.handled,by have:=a.depth;show A.depth+1+k<1000;exact bD 0x382aba243203240382aba2430c9200 Yt this,by have:=a.units;show A.units+3+10*k+100<cLine;exact fS 0x3900e28890d32122436403900e28890d30c9212240 Yt this⟩
def VarAt(env:bu)(h:bL)(m:ao->Option aq)(x:ao)(k:dn)(v:aq):Prop:=
 match k with
 | .local =>m x=aa v
 | .cell | .free =>∃c,env.cells.lookup x=aa c/\h.IsCell c (aa v)
 |_=>False
def gU(h:bL)(a:aj)(vs:List aq):Prop:=∃n,h.get? a=aa {cls:=.type "list",data:=.seq vs.toArray n}/\vs.length<=cH
def HW(h:bL)(as:List aj)(rs:List (List Int)):Prop:=as.length=rs.length/\∀(j:Nat)(b:aj)(r:List Int),as[j]?=aa b->rs[j]?=aa r->∃us,gU h b us/\∀g,RepL g us (r.map .int)
def Own2(W:Wd)(X0 X:List aj)(h:bL)(a:aj)(rs:List (List Int)):Prop:=∃as:List aj,gU h a (as.map .ref)/\(a::as).Nodup /\(∀b∈a::as,b∈X/\b∉X0/\¬W.Base b)/\HW h as rs
def VarOk(W:Wd)(X0:List aj)(env:bu)(oa:Nat->aj)(X:List aj)(h:bL)(m:ao->Option aq)(i:Nat)(x:ao)(k:dn):Option FV->Prop
 |some (.val d)=>∃v,VarAt env h m x k v/\Rep (mask X h) v d
 |some (.own xs)=>k=.local /\m x=aa (.ref (oa i))/\oa i∈X/\(oa i∉X0/\¬W.Base (oa i))/\
   ∃n vs,h.get? (oa i)=aa {cls:=.type "list",data:=.seq vs.toArray n}/\dG vs<=cH/\RepL (mask X h) vs xs
 |some (.own2 rs)=>k=.local /\m x=aa (.ref (oa i))/\Own2 W X0 X h (oa i) rs
 |_=>True
def zs(oa:Nat->aj)(i j:Nat)(v w:FV):Prop:=v.held=ac->w.held=ac->v.held2=ae/\w.held2=ae/\oa i≠oa j
structure SR(W:Wd)(X0:List aj)(env:bu)(oa:Nat->aj)(X:List aj)(h:bL)(f:Frm):Prop where
 bs:W.Bs h
 tb:W.Tb h
 tX:∀a∈W.T,a∈X0
 sub:∀a∈X0,a∈X
 alX:∀a∈X,∃o,h.get? a=aa o
 loc:env.locals∈X/\env.locals∉X0/\¬W.Base env.locals
 cellI:∀x c,env.cells.lookup x=aa c->c∈X/\∃v,h.IsCell c v
 vars:∃m,h.Ns env.locals m/\∀i x k,env.scope.names[i]?=aa (x,k)->VarOk W X0 env oa X h m i x k f[i]?
 ownA:∀i j v w,f[i]?=aa v->f[j]?=aa w->i≠j->zs oa i j v w
 len:f.length=env.scope.names.length
structure CellsMine(W:Wd)(X0:List aj)(env:bu):Prop where
 mine:∀x c,env.kindOf x=aa .cell ->env.cells.lookup x=aa c->c∉X0/\¬W.Base c
 apart:env.cells.Pairwise λx y=>x.2≠y.2
structure Stp(W:Wd)(X0 X X':List aj)(s s':aC):Prop where
 same:∃h tk,s'={s with heap:=h,toks:=tk}
 keep:∀b o,b∉X->s.heap.get? b=aa o->s'.heap.get? b=aa o
 keep0:∀b o,b∈X0->b∉W.T->s.heap.get? b=aa o->s'.heap.get? b=aa o
 new:∀a∈X',a∈X\/s.heap.get? a=ab
theorem Stp.refl(W:Wd)(X0 X:List aj)(s:aC):Stp W X0 X X s s:=⟨(gH s.heap s.toks rfl),λ_ _ _ e=>e,λ_ _ _ _ e=>e,λ_ h=>.inl h⟩
theorem Stp.trans(a:Stp W X0 X X' s H)(b:Stp W X0 X' M H Q):Stp W X0 X M s Q:=by
 refine aE λC=>?_;obtain⟨⟨h,tk,rfl⟩,k1,G,B⟩:=a;obtain⟨⟨h',O,rfl⟩,k2,D,L⟩:=b;apply C;clear C;refine⟨(gH h' O rfl),λb o n e=>?_,λb o i n e=>D b o i n<|G b o i n e,λa q=>?_⟩
 ·refine k2 b o (λq=>?_)<|k1 b o n e;refine fI (B b q) (λq=>?_) λq=>?_
  ·exact n q
  ·rw[e]at q;injection q
 ·refine fI (L a q) (λq=>?_) λq=>?_
  ·exact B a q
  ·by_cases A:a∈X
   ·exact .inl A
   ·refine .inr ?_;cases e:s.heap.get? a with
    |none=>rfl
    |some o=>rw[k1 a o A e]at q;injection q
theorem Stp.sub(a:Stp W X0 X X' s A)(h:∀x∈B,x∈X'):Stp W X0 X B s A:=⟨a.same,a.keep,a.keep0,λx q=>a.new x<|h x q⟩
theorem Ext.stp(x:Ext W s B)(A:∀a∈W.T,a∈X):Stp W X0 X X s B:=⟨x.same,λb o n e=>x.keep b o (λq=>n<|A b q) e,λb o _ n e=>x.keep b o n e,λ_ h=>.inl h⟩
theorem Stp.mut(t:Nat)(hs:jC a s.heap h')(A:a∈X)(B:a∉X0):Stp W X0 X X s {s with heap:=h',toks:=t}:=⟨(gH h' t rfl),λb o n e=>(hs.2 b λq=>n<|q▸A).trans e,λb o i _ e=>(hs.2 b λq=>B<|q▸i).trans e,λ_ h=>.inl h⟩
structure EnvOk(env:bu):Prop where
 kind:env.scope.kind=.function
 glob:env.globals=l4
 blt:env.builtins=u9
 nodup:(env.scope.names.map (·.1)).Nodup
 cellsAll:∀(i:Nat)(x:ao)(k:dn),env.scope.names[i]?=aa (x,k)->k=.cell \/k=.free ->∃c,env.cells.lookup x=aa c
theorem CI:∀{l:List<|ao×α}{i:Nat}{x:ao}{k:α},(l.map (·.1)).Nodup ->l[i]?=aa (x,k)->l.lookup x=aa k:=by
 intro H;induction H with
 |nil=>intro T Q O M h;injection h
 |cons D l L=>
  obtain⟨y,b⟩:=D;intro C;cases C with
  |zero=>intro x k A h;simp at h;obtain⟨rfl,rfl⟩:=h;simp[sX]
  |succ i=>
   intro x k A h;simp only[dD]at h;simp only[dF,mR]at A;refine(?_:(x∈l.map (·.1))->_)<|gk.mpr<|br ((x,k)) (kf h) rfl;intro B;have G:(x==y)=ae:=by
    cases q:x==y with
    |false=>rfl
    |true=>exact absurd (bJ.mp q▸B) A.1
   simp only[sX,G];exact L A.2 h
theorem EnvOk.kindAt(e:EnvOk env){i:Nat}{x:ao}{k:dn}(h:env.scope.names[i]?=aa (x,k)):env.kindOf x=aa k:=CI e.nodup h
theorem zt{l:List<|ao×dn}(D:(l.map (·.1)).Nodup){i j:Nat}{x:ao}{k C:dn}(h:l[i]?=aa (x,k))(h':l[j]?=aa (x,C)):i=j:=by refine(?_:((l.map (·.1))[i]?=aa x)->_) (by rw[fW];refine af h ?_;rfl);intro H;refine(?_:((l.map (·.1))[j]?=aa x)->_) (by rw[fW];refine af h' ?_;rfl);intro G;obtain⟨M,A⟩:=mS.mp H;obtain⟨L,B⟩:=mS.mp G;exact(List.getElem_inj D).mp<|A.trans B.symm
theorem CJ{h h':bL}{T:List aj}(k:∀b o,b∉T->h.get? b=aa o->h'.get? b=aa o){c v}(A:c∉T)(x:h.IsCell c v):h'.IsCell c v:=let⟨o,a,b⟩:=x;⟨o,k c o A a,b⟩
section
variable {W:Wd} {X0:List aj} {env:bu} {oa:Nat->aj} {X:List aj} {f:Frm}
theorem sj(k:W.Ok)(C:W.Tb h)(x:h.IsCell c v):c∉W.T:=λH=>by refine ah (k.tStill h C c H) λo D hs=>?_;obtain⟨L,A,G⟩:=x;rw[D]at A;obtain rfl:=aw A;obtain⟨_,vs,B⟩:=hs;rw[G]at B;injection B
theorem HX(k:W.Ok)(C:W.Tb h)(x:h.Ns a m):a∉W.T:=λH=>by refine ah (k.tStill h C a H) λo D hs=>?_;obtain⟨L,es,n,A,G,_⟩:=x;rw[D]at A;obtain rfl:=aw A;obtain⟨_,vs,B⟩:=hs;rw[G]at B;injection B
theorem pU(k:W.Ok)(C:W.Tb h)(D:h.get? a=aa o)(G:o.data=.seq vs n):a∉W.T:=λH=>by refine ah (k.tStill h C a H) λL A hs=>?_;rw[D]at A;obtain rfl:=aw A;obtain⟨_,vs,B⟩:=hs;rw[G]at B;injection B
theorem VarOk.gen(v:VarOk W X0 env oa X h m i x k D)(Y:∀w,VarAt env h m x k w->VarAt env h' U x k w)(g:∀a o,mask X h a=aa o->mask X' h' a=aa o)(u:C i=oa i)(t:∀b o vs n,((b=oa i/\∃xs,D=aa (.own xs))\/∃G,D=aa (.own2 G))->b∈X->b∉X0->¬W.Base b->h.get? b=aa o->o.data=.seq vs n->h'.get? b=aa o/\b∈X'/\b∉O):VarOk W O env C X' h' U i x k D:=by
 cases D with
 |none=>trivial
 |some D=>cases D with
  |un=>trivial
  |val d=>exact ah v λv a r=>br v (Y v a) (r.mono g)
  |own xs=>refine aE λL=>?_;obtain⟨a,b,c,d,n,vs,y,e5,e6⟩:=v;refine fx (t _ _ _ _ (.inl ⟨rfl,xs,rfl⟩) c d.1 d.2 y rfl) λT H Q=>?_;subst a;apply L;clear L;show _/\U x=aa (.ref (C i))/\C i∈X'/\(C i∉O/\_)/\∃n vs,h'.get? (C i)=_/\_;refine af u ?_;exact⟨rfl,Y _ b,H,⟨Q,d.2⟩,n,vs,T,e5,e6.mono g⟩
  |own2 G=>
   refine aE λL=>?_;obtain⟨a,b,p,c,nd,d,l,e⟩:=v;have z:∀b∈oa i::p,∀B,gU h b B->gU h' b B/\b∈X'/\b∉O:=λb A B c=>ah c λn y e2=>fx (d b A) λd1 d2 d3=>fx (t b _ _ _ (.inr ⟨G,rfl⟩) d1 d2 d3 y rfl) λT H Q=>⟨⟨n,T,e2⟩,H,Q⟩;subst a;apply L;clear L;show _/\U x=aa (.ref<|C i)/\Own2 W O X' h' (C i) G;refine af u ⟨rfl,Y _ b,p,(z _ dU _ c).1,nd,λb A=>?_,l,λj b r s h2=>?_⟩
   ·refine⟨?_,?_,(d b A).2.2⟩;all_goals
     refine fI (bF.mp A) (λq=>?_) λq=>?_
     ·subst q;first|exact(z _ A _ c).2.1|exact(z _ A _ c).2.2
     ·obtain⟨j,hj,H⟩:=rF q;refine ah (e j b G[j] (by simp[hj,H])<|by simp) λB M _=>?_;first|exact(z _ A _ M).2.1|exact(z _ A _ M).2.2
   ·exact ah (e j b r s h2) λB M h4=>br B (z b (bB _<|kf s) B M).1 h4
theorem VarAt.keep(A:∀c v,env.cells.lookup x=aa c->h.IsCell c v->h'.IsCell c v)(b:VarAt env h m x k v):VarAt env h' m x k v:=by
 cases k with
 |«local»=>exact b
 |cell=>obtain⟨c,e,i⟩:=b;exact⟨c,e,A c _ e i⟩
 |free=>obtain⟨c,e,i⟩:=b;exact⟨c,e,A c _ e i⟩
 |_=>exact b
theorem VarOk.keep{h h':bL}{T:List aj}{m i x k B}(A:∀b o,b∉T->h.get? b=aa o->h'.get? b=aa o)(D:∀a∈T,a∈X) (C:∀c v,env.cells.lookup x=aa c->h.IsCell c v->c∉T) (hs:∀a o vs n,h.get? a=aa o->o.data=.seq vs n->a∉T) (v:VarOk W X0 env oa X h m i x k B):VarOk W X0 env oa X h' m i x k B:=
 v.gen (λw a=>a.keep λc v e i=>CJ A (C c v e i) i) (λa o e=>aG (cy.mp e) λn e=>cy.mpr ⟨n,A a o (λq=>n<|D a q) e⟩) rfl
  λb o vs n _ H G _ e d=>⟨A b o (hs b o vs n e d) e,H,G⟩
theorem zu(L:∀i j v w,f[i]?=aa v->f[j]?=aa w->i≠j->zs oa i j v w)(C:v.held=ae):∀a b x y,(f.put i v)[a]?=aa x->(f.put i v)[b]?=aa y->a≠b->zs oa a b x y:=by
 intro a b x y B A H p q;unfold Frm.put at B A;rw[VX]at B A;by_cases G:i=a
 ·rw[ar G]at B;split at B
  ·obtain rfl:=aw B;rw[C]at p;injection p
  ·injection B
 ·by_cases D:i=b
  ·rw[ar D]at A;split at A
   ·obtain rfl:=aw A;rw[C]at q;injection q
   ·injection A
  ·rw[av G]at B;rw[av D]at A;exact L a b x y B A H p q
theorem P9(M:∀i j v w,f[i]?=aa v->f[j]?=aa w->i≠j->zs oa i j v w)(G:f[i]?=aa u)(Q:v.held=u.held)(O:v.held2=u.held2):∀a b x y,(f.put i v)[a]?=aa x->(f.put i v)[b]?=aa y->a≠b->zs oa a b x y:=by
 have B:∀(a:Nat)(x:FV),(f.put i v)[a]?=aa x->∃y:FV,f[a]?=aa y/\x.held=y.held/\x.held2=y.held2:=λa x A=>by
  unfold Frm.put at A;rw[VX]at A;by_cases q:i=a
  ·rw[ar q]at A;split at A
   ·obtain rfl:=aw A;exact⟨u,q▸G,Q,O⟩
   ·injection A
  ·rw[av q]at A;exact⟨x,A,rfl,rfl⟩
 intro a b x y A L H p q;refine nl (B a x A) λD a1 a2 Y=>nl (B b y L) λC b1 U T=>?_;rw[Y,T];exact M a b D C a1 b1 H (a2▸p)<|U▸q
theorem SR.ext(k:W.Ok){s A:aC}(r:SR W X0 env oa X s.heap f)(x:Ext W s A):SR W X0 env oa X A.heap f:=by
 refine ah r.vars λm C G=>?_;refine(?_:(A.heap.Ns env.locals m)->_) (by refine aE λD=>?_;have:=HX k r.tb C;obtain⟨o,es,n,a,b,c⟩:=C;apply D;clear D;exact⟨o,es,n,x.keep _ _ this a,b,c⟩);intro H;exact⟨x.bs r.bs,x.tb r.tb,r.tX,r.sub,λa B=>by
   by_cases q:a∈W.T
   ·refine ah (k.tStill _ (x.tb r.tb) a q) λo e _=>?_;exact(b9 o e)
   ·refine aF (r.alX a B) λo e=>?_;exact(b9 o<|x.keep a o q e),r.loc,
  λy c e=>⟨(r.cellI y c e).1,let⟨v,i⟩:=(r.cellI y c e).2;⟨v,CJ x.keep (sj k r.tb i) i⟩⟩,
  (br m H (λi y kd e=>(G i y kd e).keep x.keep (λa B=>r.sub a (r.tX a B)) (λc v _ i=>sj k r.tb i) λa o vs n e d=>pU k r.tb e d)),r.ownA,r.len⟩
theorem SR.tXX(r:SR W X0 env oa X h f):∀a∈W.T,a∈X:=λa A=>r.sub a<|r.tX a A
theorem pV(f:Frm)(i j:Nat)(v:FV):(f.put i v)[j]?=if i=j then(if i<f.length then aa v else ab)else f[j]?:=by unfold Frm.put;simp only[VX]
theorem wD(hs:jC a h h')(A:a∈X):∀b o,mask X h b=aa o->mask X h' b=aa o:=λb o e=>by obtain⟨n,e⟩:=cy.mp e;exact cy.mpr ⟨n,(hs.2 b λq=>n<|q▸A).trans e⟩
theorem wE{h:bL}{a c m v}(x:h.Ns a m)(y:h.IsCell c v):c≠a:=λq=>by subst q;obtain⟨o,es,n,C,D,_⟩:=x;obtain⟨G,A,B⟩:=y;rw[C]at A;obtain rfl:=aw A;rw[D]at B;injection B
theorem uc{h:bL}{a c m o vs n}(x:h.Ns a m)(y:h.get? c=aa o)(d:o.data=.seq vs n):c≠a:=λq=>by subst q;obtain⟨C,es,n,A,B,_⟩:=x;rw[A]at y;obtain rfl:=aw y;rw[B]at d;injection d
theorem sn{h:bL}{a c v o vs n}(x:h.IsCell a v)(y:h.get? c=aa o)(d:o.data=.seq vs n):c≠a:=λq=>by subst q;obtain⟨C,A,B⟩:=x;rw[A]at y;obtain rfl:=aw y;rw[B]at d;injection d
structure MutOk(W:Wd)(X0 X:List aj)(a:aj)(h h':bL):Prop where
 same:jC a h h'
 mem:a∈X
 new:a∉X0/\¬W.Base a
 still:∀o,h.get? a=aa o->¬oR o
 live:∃o,h'.get? a=aa o
theorem MutOk.bs(k:W.Ok)(x:MutOk W X0 X a h h')(b:W.Bs h):W.Bs h':=k.bsKeep h h' b λc o n e=>(x.same.2 c λq=>x.new.2<|q▸n).trans e
theorem MutOk.tb(k:W.Ok)(x:MutOk W X0 X a h h')(t:W.Tb h):W.Tb h':=k.tbKeep h h' t λb o e st=>(x.same.2 b λq=>x.still o (q▸e) st).trans e
theorem MutOk.alive(x:MutOk W X0 X a h h')(r:SR W X0 env oa X h f):∀b∈X,∃o,h'.get? b=aa o:=λb A=>by
 by_cases q:b=a
 ·subst q;exact x.live
 ·obtain⟨o,e⟩:=r.alX b A;exact⟨o,(x.same.2 b q).trans e⟩
theorem VarOk.mut(hs:jC a h h')(M:a∈X)(L:∀c v,env.cells.lookup x=aa c->h.IsCell c v->c≠a)(G:∀b o vs n,((b=oa i/\∃xs,A=aa (.own xs))\/∃C,A=aa (.own2 C))->h.get? b=aa o->o.data=.seq vs n->b≠a)(H:D x=m x)(v:VarOk W X0 env oa X h m i x k A)(B:T i=oa i:=by rfl):VarOk W X0 env T X h' D i x k A:=v.gen (λw b=>by have b:=VarAt.keep (λc v e i=>i.sameBut hs<|L c v e i) b;cases k<;>first|exact H.trans b|exact b) (wD hs M) B λb o vs n q Q O _ e d=>⟨(hs.2 b<|G b o vs n q e d).trans e,Q,O⟩
theorem SR.storeLocal(k:W.Ok)(Y:EnvOk env){h h':bL}{m:ao->Option aq}{i:Nat}{x:ao}{v:aq}{d:ak}(r:SR W X0 env oa X h f)(A:h.Ns env.locals m)(Q:∀j y kd,env.scope.names[j]?=aa (y,kd)->VarOk W X0 env oa X h m j y kd f[j]?)(D:env.scope.names[i]?=aa (x,.local))(G:h'.Ns env.locals λy=>if y=x then aa v else m y)(hs:jC env.locals h h')(O:Rep (mask X h) v d):SR W X0 env oa X h'<|f.put i<|.val d:=by
 refine(?_:(MutOk W X0 X env.locals h h')->_) (⟨hs,r.loc.1,r.loc.2,(λo e st=>by obtain⟨z,es,n,T,U,_⟩:=A;rw[T]at e;obtain rfl:=aw e;obtain⟨_,vs,q⟩:=st;rw[U]at q;injection q),(by obtain⟨o,_,_,e,_⟩:=G;exact(b9 o e))⟩);intro M;refine⟨M.bs k r.bs,M.tb k r.tb,r.tX,r.sub,M.alive r,r.loc,λy c e=>?_,(br _ G<|λj y kd e=>?_),zu r.ownA rfl,(qo ..).trans r.len⟩
 ·refine aE λH=>?_;obtain⟨q,w,i⟩:=r.cellI y c e;apply H;clear H;exact⟨q,w,i.sameBut hs<|wE A i⟩
 ·simp only[pV];by_cases B:i=j
  ·subst B;rw[D]at e;obtain⟨rfl,rfl⟩:=dc<|aw e;rw[ar rfl];by_cases C:i<f.length
   ·rw[ar C];exact⟨v,by simp[VarAt],O.mono<|wD hs r.loc.1⟩
   ·rw[av C];trivial
  ·rw[av B];refine(?_:(y≠x)->_)<|λq=>B<|zt Y.nodup D<|q▸e;intro L;exact(Q j y kd e).mut hs r.loc.1 (λc v _ i=>wE A i) (λb o vs n _ e d=>uc A e d)<|by simp[L]
theorem SR.storeCell(k:W.Ok)(s:EnvOk env){h h':bL}{m:ao->Option aq}{i:Nat}{x:ao}{c:aj}{v:aq}{d:ak}(r:SR W X0 env oa X h f)(O:h.Ns env.locals m)(l:∀j y kd,env.scope.names[j]?=aa (y,kd)->VarOk W X0 env oa X h m j y kd f[j]?)(T:env.scope.names[i]?=aa (x,.cell))(G:env.cells.lookup x=aa c)(a:c∉X0/\¬W.Base c)(cm:∀y A,env.cells.lookup y=aa A->A=c->y=x){LI:Option aq}(C:h.IsCell c LI)(D:h'.IsCell c<|aa v)(hs:jC c h h')(u:Rep (mask X h) v d):SR W X0 env oa X h'<|f.put i<|.val d:=by
 have B:=(r.cellI x c G).1;refine(?_:(MutOk W X0 X c h h')->_) (⟨hs,B,a,(λo e st=>by obtain⟨o',t,g⟩:=C;rw[t]at e;obtain rfl:=aw e;obtain⟨_,vs,q⟩:=st;rw[g]at q;injection q),(by obtain⟨o,e,_⟩:=D;exact(b9 o e))⟩);intro M;refine(?_:(env.locals≠c)->_)<|(wE O C).symm;intro Y;refine⟨M.bs k r.bs,M.tb k r.tb,r.tX,r.sub,M.alive r,r.loc,λy A e=>?_,(br m (O.sameBut hs Y)<|λj y kd e=>?_),zu r.ownA rfl,(qo ..).trans r.len⟩
 ·refine aE λU=>?_;obtain⟨q,w,i⟩:=r.cellI y A e;apply U;clear U;by_cases L:A=c
  ·clear G C hs B M Y;subst L;exact⟨q,_,D⟩
  ·exact⟨q,w,i.sameBut hs L⟩
 ·simp only[pV];by_cases H:i=j
  ·subst H;rw[T]at e;obtain⟨rfl,rfl⟩:=dc<|aw e;rw[ar rfl];by_cases Q:i<f.length
   ·rw[ar Q];exact⟨v,⟨c,G,D⟩,u.mono<|wD hs B⟩
   ·rw[av Q];trivial
  ·rw[av H];have z:y≠x:=λq=>H<|zt s.nodup T<|q▸e;exact(l j y kd e).mut hs B (λA v p i q=>z<|cm y A p q) (λb o vs n _ e d=>sn C e d) rfl
theorem SR.ltX(r:SR W X0 env oa X h f):∀a∈X,a<h.objs.size:=λa A=>let⟨_,e⟩:=r.alX a A;l5 e
theorem SR.ltX'(r:SR W X0 env oa X h f):∀a,h.get? a=ab->a∉X:=λa e q=>by refine aF (r.alX a q) λo q=>?_;rw[e]at q;injection q
theorem Wd.Ok.fresh(k:W.Ok)(b:W.Bs h)(e:h.get? a=ab):¬W.Base a:=λq=>by obtain⟨_,o,q⟩:=k.base h b a q;rw[e]at q;injection q
theorem ZI(B:∀a o,mask X h a=aa o->h'.get? a=aa o)(C:∀a∈I,h.get? a=ab):∀a o,mask X h a=aa o->mask (I++X) h' a=aa o:=λa o e=>by
 have A:=cy.mp e;refine cy.mpr ⟨λq=>?_,B a o e⟩;refine fI (eO.mp q) (λq=>?_) λq=>?_
 ·have:=C a q;rw[A.2]at this;injection this
 ·exact A.1 q
theorem zv(s:∀a∈X,a∈X'):∀a o,mask X' h a=aa o->mask X h a=aa o:=λa o e=>by obtain⟨n,e⟩:=cy.mp e;exact cy.mpr ⟨λq=>n<|s a q,e⟩
theorem SR.hide(k:W.Ok){s C:aC}{I:List aj}(r:SR W X0 env oa X s.heap f)(x:Ext W s C)(H:∀a∈I,s.heap.get? a=ab/\∃o,C.heap.get? a=aa o): SR W (I++X0) env oa (I++X) C.heap f:=by
 refine aE λD=>?_;have B:=r.ext k x;refine ah r.vars λm G O=>?_;refine ah B.vars λj z M=>?_;have Q:∀a o,mask X s.heap a=aa o->mask (I++X) C.heap a=aa o:=ZI (λa o e=>dZ<|x.maskK (λa A=>r.sub a<|r.tX a A) a o e) λa A=>(H a A).1;have L:∀a o,s.heap.get? a=aa o->a∉I:=λa o e q=>by rw[(H a q).1]at e;injection e
 refine(?_:(C.heap.Ns env.locals m)->_) (by refine aE λD=>?_;have:=HX k r.tb G;obtain⟨o,es,n,a,b,c⟩:=G;apply D;clear D;exact⟨o,es,n,x.keep _ _ this a,b,c⟩);intro Y;apply D;clear D;refine⟨B.bs,B.tb,λa A=>qp _<|r.tX a A,λa A=>?_,λa A=>?_,⟨qp _ r.loc.1,λq=>?_,r.loc.2.2⟩,λy c e=>?_,(br m Y<|λi y kd e=>?_),r.ownA,r.len⟩
 ·refine fI (eO.mp A) (λq=>?_) λq=>?_
  ·exact sY _ q
  ·exact qp _<|r.sub a q
 ·refine fI (eO.mp A) (λq=>?_) λq=>?_
  ·exact(H a q).2
  ·exact B.alX a q
 ·refine fI (eO.mp q) (λq=>?_) λq=>?_
  ·obtain⟨o,_,_,e,_⟩:=G;exact L _ o e q
  ·exact r.loc.2.1 q
 ·exact⟨qp _ (B.cellI y c e).1,(B.cellI y c e).2⟩
 ·exact(O i y kd e).gen (λw b=>b.keep λc v _ i=>CJ x.keep (sj k r.tb i) i) Q rfl λb o vs n _ U T _ e d=>⟨x.keep b o (pU k r.tb e d) e,qp _ U,λq=>(eO.mp q).elim (L b o e) T⟩
theorem SR.less(r:SR W (I++X0) env oa X h f)(A:∀a∈W.T,a∈X0):SR W X0 env oa X h f:=by refine ah r.vars λm C B=>?_;refine⟨r.bs,r.tb,A,λa D=>r.sub a<|qp _ D,r.alX,⟨r.loc.1,λq=>r.loc.2.1<|qp _ q,r.loc.2.2⟩,r.cellI,(br m C<|λi y kd e=>?_),r.ownA,r.len⟩;exact(B i y kd e).gen (λ_ b=>b) (λ_ _ q=>q) rfl λb o vs n _ H G _ e d=>⟨e,H,λq=>G<|qp _ q⟩
theorem SR.other(k:W.Ok){Wr:List aj}(r:SR W X0 env oa X h f)(A:∀b o,b∉Wr->h.get? b=aa o->h'.get? b=aa o)(C:∀a∈Wr,a∈X0/\¬W.Base a/\a∉W.T/\(∃o,h'.get? a=aa o)/\∀o,h.get? a=aa o->¬oR o/\∀v,o.data≠.cell v):SR W X0 env oa X h' f:=by
 refine aE λB=>?_;refine ah r.vars λm T Q=>?_;have O:∀a,a∉X0->a∉Wr:=λa n q=>n (C a q).1;have L:∀c v,h.IsCell c v->c∉Wr:=λc v ⟨o,e,d⟩ q=>((C c q).2.2.2.2 o e).2 v d;have U:∀a o,mask X h a=aa o->mask X h' a=aa o:=λa o e=>by refine aG (cy.mp e) λn e=>?_;exact cy.mpr ⟨n,A a o (λq=>n<|r.sub a (C a q).1) e⟩
 refine(?_:(h'.Ns env.locals m)->_) (by refine aE λB=>?_;obtain⟨o,es,n,a,b,c⟩:=T;apply B;clear B;exact⟨o,es,n,A _ _ (O _ r.loc.2.1) a,b,c⟩);intro z;apply B;clear B;refine⟨k.bsKeep h h' r.bs λb o q e=>A b o (λD=>(C b D).2.1 q) e,k.tbKeep h h' r.tb λb o e st=>A b o (λD=>((C b D).2.2.2.2 o e).1 st) e,r.tX,r.sub,λa Y=>?_,r.loc,λy c e=>?_,(br m z<|λi y kd e=>?_),r.ownA,r.len⟩
 ·by_cases q:a∈Wr
  ·exact(C a q).2.2.2.1
  ·refine aF (r.alX a Y) λo e=>?_;exact(b9 o<|A a o q e)
 ·refine aE λB=>?_;obtain⟨p,v,i⟩:=r.cellI y c e;obtain⟨o,H,G⟩:=id i;apply B;clear B;exact⟨p,v,o,A c o (L c v i) H,G⟩
 ·exact(Q i y kd e).gen (λw b=>b.keep λc v _ i=>by obtain⟨o,H,G⟩:=id i;exact⟨o,A c o (L c _ i) H,G⟩) U rfl λb o vs n _ j M _ e d=>⟨A b o (O b M) e,j,M⟩
theorem SR.forget(r:SR W X0 env oa X h f)(i:Nat):SR W X0 env oa X h<|f.put i .un:=by
 refine aE λB=>?_;refine ah r.vars λm D C=>?_;apply B;clear B;refine⟨r.bs,r.tb,r.tX,r.sub,r.alX,r.loc,r.cellI,(br m D<|λj y kd e=>?_),zu r.ownA rfl,(qo ..).trans r.len⟩
 ·simp only[pV];by_cases A:i=j
  ·rw[ar A];split<;>trivial
  ·rw[av A];exact C j y kd e
theorem SR.drop(k:W.Ok)(r:SR W (I::X0) env oa X h f)(U:∀a∈W.T,a∈X0)(l:I∉X0)(B:∀b o,b≠I->h.get? b=aa o->h'.get? b=aa o)(u:¬W.Base I)(hs:∀o,h.get? I=aa o->¬oR o/\(∀v,o.data≠.cell v)/\∀vs n,o.data≠.seq vs n):SR W X0 env oa (X.filter (· ≠I)) h' f:=by
 refine aE λC=>?_;refine ah r.vars λm j Y=>?_;have A:∀a,a∈X->a≠I->a∈X.filter (· ≠I):=λa q n=>pv.mpr ⟨q,by simpa using n⟩;have H:∀c v,h.IsCell c v->c≠I:=λc v ⟨o,e,d⟩ q=>(hs o<|q▸e).2.1 v d;have D:∀a,a∉I::X0->a≠I:=λa n q=>n<|q▸dU;have T:∀a,a∉I::X0->a∉X0:=λa n q=>n<|bB _ q;refine(?_:(h'.Ns env.locals m)->_) (by refine aE λC=>?_;obtain⟨o,es,n,a,b,c⟩:=j;apply C;clear C;exact⟨o,es,n,B _ _ (D _ r.loc.2.1) a,b,c⟩);intro g;have z:∀a o,mask X h a=aa o->mask (X.filter (· ≠I)) h' a=aa o:=λa o e=>by refine aG (cy.mp e) λn e=>?_;refine cy.mpr ⟨λq=>n (pv.mp q).1,B a o (λq=>n<|q▸r.sub I dU) e⟩
 apply C;clear C;refine⟨k.bsKeep h h' r.bs λb o q e=>B b o (λL=>u<|L▸q) e,k.tbKeep h h' r.tb λb o e st=>B b o (λL=>(hs o<|L▸e).1 st) e,U,λa G=>?_,λa G=>?_,⟨A _ r.loc.1<|D _ r.loc.2.1,T _ r.loc.2.1,r.loc.2.2⟩,λy c e=>?_,(br m g<|λi y kd e=>?_),r.ownA,r.len⟩
 ·exact A a (r.sub a<|bB _ G) λq=>l<|q▸G
 ·refine aG (pv.mp G) λp q=>?_;refine aF (r.alX a p) λo e=>?_;exact(b9 o<|B a o (by simpa using q) e)
 ·refine aE λC=>?_;obtain⟨p,v,i⟩:=r.cellI y c e;obtain⟨o,Q,O⟩:=id i;apply C;clear C;exact⟨A c p<|H c v i,v,o,B c o (H c v i) Q,O⟩
 ·exact(Y i y kd e).gen (λw b=>b.keep λc v _ i=>by obtain⟨o,Q,O⟩:=id i;exact⟨o,B c o (H c _ i) Q,O⟩) z rfl λb o vs n _ t M _ e d=>⟨B b o (D b M) e,A b t<|D b M,T b M⟩
end
theorem oU{a b c:aC}(B:∃h t,b={a with heap:=h,toks:=t})(A:∃h t,c={b with heap:=h,toks:=t}):∃h t,c={a with heap:=h,toks:=t}:=by obtain⟨h,t,rfl⟩:=B;obtain⟨h',t',rfl⟩:=A;exact(gH h' t' rfl)
end
section
abbrev a9:aq->aC->Prop:=λ_ _=>False
abbrev jT(W:Wd)(X:List aj)(s:aC)(d:ak)(Q:aq->aC->Prop):Prop:=∀v s',Ext W s s'->Rep (mask X s'.heap) v d->Q v s'
noncomputable def ud:BO->Operator
 | .add =>.Add | .sub =>.Sub | .mul =>.Mult | .fdiv =>.FloorDiv | .mod =>.Mod | .shl =>.LShift | .shr =>.RShift | .band =>.BitAnd | .bor =>.BitOr | .bxor =>.BitXor | .pow =>.Pow
noncomputable def so:CO->CmpOp
 | .eq =>.Eq | .ne =>.NotEq | .lt =>.Lt | .le =>.LtE | .gt =>.Gt | .ge =>.GtE | .is =>.Is | .isnt =>.IsNot | .isin =>.In | .notin =>.NotIn
theorem CK{x y:Int}(h:0<y):x.fdiv y=x/y:=Int.fdiv_eq_ediv_of_nonneg x<|n3 h
theorem Qa{x y:Int}(h:0<y):x.fmod y=x%y:=Int.fmod_eq_emod_of_nonneg x<|n3 h
theorem Qb(n:Nat):(0:Int)<2^n:=E0<|by decide
theorem CL(h:cb x=ac):xT x<=1000000:=by unfold cb at h;have:=of_decide_eq_true h;unfold xT;split<;>lia
theorem ZJ(B:cb x=ac)(A:cb y=ac):IntMulOk x y:=by have a:=CL B;have b:=CL A;delta IntMulOk Builtin.Int.intTooBig;simp only[bo,bH,not_and];intro _ q;refine(?_:(bitsLine=134217728)->_)<|rfl;intro e;exact N4 0x2e04118208a2a2c9920608228a8b26503c3b10b08b00d82082082082082240 [_,_,_] Yt a b q e
theorem Qc(B:0<=x)(A:0<=y):VY x y=((x.toNat&&& y.toNat:Nat):Int):=by unfold VY;simp[B,A]
theorem Qd(A:0<=x):¬(0<=xU x):=by unfold xU;exact fT 0x1f2c9f00047001 Yt A
theorem ZK(x:Int):xU (xU x)=x:=by unfold xU;exact gG 0x1d04524525700b27c2c9f00 Yt
theorem Qe(B:0<=x)(A:0<=y):QkR x y=((x.toNat|||y.toNat:Nat):Int):=by delta QkR VY;simp[Qd B,Qd A,ZK]
theorem ZL(a:Nat):∀b,((a|||b:Nat):Int)-((a&&& b:Nat):Int)=((a^^^b:Nat):Int):=by
 induction a using Nat.strongRecOn with
 |ind a C=>
  intro b;by_cases D:a=0
  ·clear C;subst D;simp
  ·refine(?_:_->_) (C (a/2) (by exact aH 0x95101d24528a0820911493806d103e040 Yt D)<|b/2);intro e;refine(?_:((a|||b)=2*(a/2|||b/2)+(a%2|||b%2))->_) (by
    refine(?_:_->_) (Nat.or_div_two (a:=a) (b:=b));intro B;refine(?_:_->_) (Nat.or_mod_two_pow (a:=a) (b:=b) (n:=1));intro A;have:=mN (a|||b) 2;simp at A;exact Gv B B A A)
   intro L;have H:(a&&& b)=2*(a/2&&& b/2)+(a%2&&& b%2):=by have B:=Nat.and_div_two (a:=a) (b:=b);have A:=Nat.and_mod_two_pow (a:=a) (b:=b) (n:=1);have:=mN (a&&& b) 2;simp at A;exact Gv B B A A
   have G:(a^^^b)=2*(a/2^^^b/2)+(a%2^^^b%2):=by have B:=Nat.xor_div_two (a:=a) (b:=b);have A:=Nat.xor_mod_two_pow (a:=a) (b:=b) (n:=1);have:=mN (a^^^b) 2;simp at A;exact Gv B B A A
   have c:((a%2|||b%2:Nat):Int)-((a%2&&& b%2:Nat):Int)=((a%2^^^b%2:Nat):Int):=by rcases KM a with p|p<;>rcases KM b with q|q<;>refine af p (af q ?_)<;>decide
   exact Zc e L H G c
theorem ZM(B:0<=x)(A:0<=y):QkS x y=((x.toNat^^^y.toNat:Nat):Int):=by unfold QkS;simp only[Qe B A,Qc B A,ZL]
theorem ZN(h:x.natAbs<16):xT x<=4:=by
 unfold xT;split
 ·exact iV 0x6841 Yt
 ·have:x.natAbs.log2<4:=(xV<|by simp_all).mpr<|aH 0x382440382440 Yt h;exact aH 0x1a10c900e840 Yt this
theorem ZO(x:ao):x.length=x.cps.toList.length:=by simp[vd]
section
variable {W:Wd} {A:cX} {X:List aj} {s:aC} {Q:aq->aC->Prop} {n:Nat}
theorem CM(D:∀a∈X,a<s.heap.objs.size)(B:o=({cls:=.type "list",data:=.seq vs.toArray}:bp))(C:dG vs<=cH)(r:RepL (mask X s.heap) vs ds): Rep (mask X<|s.heap.push o) (.ref s.heap.objs.size)<|.list ds:=by subst B;refine Rep.mkList (cy.mpr ⟨λq=>qr _<|D _ q,kT _ rfl⟩) C<|r.mono λa o e=>?_;obtain⟨p,q⟩:=cy.mp e;exact cy.mpr ⟨p,qn _ q⟩
theorem Qf(D:∀a∈X,a<s.heap.objs.size)(B:o=({cls:=.type "tuple",data:=.seq vs.toArray}:bp))(C:dG vs<=cH)(r:RepL (mask X s.heap) vs ds): Rep (mask X<|s.heap.push o) (.ref s.heap.objs.size)<|.tuple ds:=by subst B;refine Rep.mkTuple (cy.mpr ⟨λq=>qr _<|D _ q,kT _ rfl⟩) C<|r.mono λa o e=>?_;obtain⟨p,q⟩:=cy.mp e;exact cy.mpr ⟨p,qn _ q⟩
theorem ZP(C:0<y)(M:0<=x)(h:x<y*2^4010):QkT x y=ae:=by
 unfold QkT;refine(?_:((y==0)=ae)->_) (by simp;exact BV C);intro G;by_cases D:x=0
 ·subst D;simp[G]
 have B:(x==0)=ae:=by simp;exact fT 0x1d44528914a089fc103f040 Yt D
 simp only[G,B,AP,if_false,Bool.and_eq_false_iff,decide_eq_false_iff_not,E1];right;refine(?_:(x.natAbs<2^(y.natAbs.log2+1+4010))->_) (by
  refine(?_:(x.natAbs<y.natAbs*2^4010)->_) (by
   have:(x.natAbs:Int)<((y.natAbs*2^4010:Nat):Int):=by simp only[iq,KJ M,KJ<|n3 C];exact_mod_cast h
   exact_mod_cast this)
  intro a;have b:y.natAbs<2^(y.natAbs.log2+1):=QkU;simp only[g9 2 (y.natAbs.log2+1) 4010];exact lZ a (mP _ (KN b)))
 intro L;have H:x.natAbs.log2<y.natAbs.log2+1+4010:=(xV<|by lia).mpr L;exact Zd H
theorem ZQ:∀(l:List<|Array Nat)(acc:Array Nat),(l.foldl (· ++·) acc).toList =acc.toList++(l.map E2).flatten :=by
 intro B;induction B with
 |nil=>intro acc;simp
 |cons x l C=>intro acc;simp only[VZ,C];simp
theorem ZR(x:ao)(B:0<=y):Txt.mul x y=a8 (cR y.toNat x.cps.toList).flatten :=by
 delta Txt.mul a8;split
 ·have:y=0:=by lia
  clear B;subst this;rfl
 ·split
  ·rename_i h;simp only[n7,bJ]at h;refine Str.ext'<|AQ.mp ?_;rcases h with h|h
   ·clear B;subst h;simp
   ·refine(?_:(x.cps.toList=[])->_) (by rw[ZO]at h;exact AR.mp h);intro e;simp[e]
  ·refine Str.ext'<|AQ.mp ?_;simp only[ZQ];simp
theorem ZS(x:ao){y:Int}(C:0<=y)(B:y<=100000)(h:y*x.length<=100000)(D:x.length<=cH):MulOk x y:=by
 refine⟨by simp;exact⟨M9 C,Na B⟩,λG _=>?_,λG _=>?_⟩
 ·refine(?_:(0<y)->_)<|fT 0x3c0067240 Yt G;intro H;simp only[eu]at D;have:(92233720368547:Int)<=(2^63-1)/y:=by
   rw[Int.le_ediv_iff_mul_le H];lia
  exact pM 0x27b000060820820820822401c06a2cb20ba08ac9268acba891 Yt D this
 ·unfold Builtin.Str.tooLong;refine(?_:((x.length*y.toNat:Nat)<=100000)->_) (by
   have:((x.length*y.toNat:Nat):Int)<=100000:=by simp only[iq,E3 C,uY];exact h
   exact aH 0x60a249a0990070a249a099b00 Yt this)
  intro e;simp[eu];exact yM e
theorem ZT:∀(l:List<|Array aq)(acc:Array aq),(l.foldl (· ++·) acc)=(acc.toList++(l.map E2).flatten).toArray :=by
 intro B;induction B with
 |nil=>intro acc;simp
 |cons x l C=>intro acc;simp only[VZ,C];simp
theorem Qg(B:s.heap.get? l=aa {cls:=.type "list",dict:=ab,data:=.seq #[v] k,slots:=#[]})(G:0<=x)(C:x<=100000)(h:Q (.ref s.heap.objs.size) {s with heap:=s.heap.push {cls:=.type "list",data:=.seq (cR x.toNat v).toArray}}): aI (aR W.prog W.w) A (AS .Mult (.ref l)<|.int x u) Q a9 s:=
 wpAny_binaryOp_repeat_ref rfl ⟨_,B,rfl⟩ (λD=>KO D x u) noFill_list_mul F.fills_int_mul F.slot_int_rmul repeat_list F.slot_int_index.lookup
  (ve F.slot_int_rmul (KO s x u) F.entry_int_rmul (F.args_int_rmul_2 _ _) (int___rmul___int_list x u l #[v] k) ⟨B,rfl,⟨_,B,rfl⟩,ve F.slot_list_mul ⟨_,B,rfl⟩ F.entry_list_mul (F.args_list_mul_2 _ _) (AutoListH.list___mul___list_int_3 l #[v] k x u (by simp[Builtin.List.listFitsIndex];exact⟨M9 G,Na C⟩) (by simp;exact fT 0x1faebaebaebaebaebaebaebaebaebae401c2892682640 Yt C) (by simp[Builtin.List.listTooLong,cH];exact Nb C))
    ⟨B,by refine(?_:(List.foldl (λx1 x2=>x1++x2) #[] (cR (if(#[v]:Array aq).isEmpty =ac then 0 else x.toNat) #[v])=(cR x.toNat v).toArray)->_) (by simp only[ZT];simp);intro e;refine af e ?_;exact h⟩⟩)
theorem ZU(r:Rep g v d):∀n,RepL g (cR n v)<|cR n d:=by
 intro B;induction B with
 |zero=>exact .nil
 |succ n C=>exact .cons r (C)
theorem ZV(h:HA op x y=aa d)(D:∀i,d=.int i->Q (.int i s.toks) {s with toks:=s.toks+1}):aI (aR W.prog W.w) A (AS (ud op) (.int x t)<|.int y u) Q a9 s:=by
 refine(?_:(∀{c:Bool}{e:ak},(if c=ac then aa e else ab)=aa d->c=ac/\e=d)->_) (λ{c e} h=>by
  cases c with
  |true=>exact⟨rfl,aw h⟩
  |false=>injection h)
 intro B;cases op with
 |add=>injection h
 |mul=>injection h
 |sub=>clear B;obtain rfl:=aw h;exact sub_int (D _ rfl)
 |fdiv=>refine aG (B h) λq C=>?_;clear B;subst C;simp only[bo,bH]at q;exact floordiv_int (BV q.1) (by rw[CK q.1];exact D _ rfl) (.inl (PyProof.noPylong_small (by exact Zf q.1 q.2)))
 |mod=>have h:(if 0<y then aa (bQ (x%y))else ab)=aa d:=h;split at h<;>(clear B;cases h);rename_i q;exact mod_int' (BV q) (by rw[Qa q];exact D _ rfl)
 |shl=>refine aG (B h) λq C=>?_;clear B;subst C;simp only[bo,bH]at q;have:=CL q.2;exact lshift_int q.1.1 (Nc q.1.2 this) (D _ rfl)
 |shr=>have h:(if 0<=y then aa (bQ (x/2^y.toNat))else ab)=aa d:=h;split at h<;>(clear B;cases h);rename_i q;exact rshift_int q (by rw[CK (Qb _)];exact D _ rfl)
 |band=>refine aG (B h) λq C=>?_;clear B;subst C;simp only[bo,bH]at q;exact and_int (by refine af (Qc q.1 q.2) ?_;exact D _ rfl)
 |bor=>refine aG (B h) λq C=>?_;clear B;subst C;simp only[bo,bH]at q;exact or_int (by refine af (Qe q.1 q.2) ?_;exact D _ rfl)
 |bxor=>refine aG (B h) λq C=>?_;clear B;subst C;simp only[bo,bH]at q;exact xor_int (by refine af (ZM q.1 q.2) ?_;exact D _ rfl)
 |pow=>refine aG (B h) λq C=>?_;clear B;subst C;simp only[bo,bH]at q;have:=ZN q.2;refine pow_int q.1.1 ?_ (D _ rfl);have e:(xT x:Int)*y<=4*y:=QkV (aH 0x786c006840 Yt this) q.1.1;exact qR 0x14a8891c20820820820822401c208a2a2c992074c8840 Yt q.1.2 e
set_option tactic.hygienic true in
theorem ZW(k:W.Ok)(g:∀a∈X,a<s.heap.objs.size)(h:Hy a b=aa d)(G:Rep (mask X s.heap) j a)(D:Rep (mask X s.heap) Y b)(H:jT W X s d Q):aI (aR W.prog W.w) A (AS .Add j Y) Q a9 s:=by
 unfold Hy at h;split at h
 ·refine aE λC=>?_;rename_i q;refine aG (nu q) λM B=>?_;subst M;subst B;refine aF G.int_inv λt B=>?_;clear G;subst B;refine aF D.int_inv λu B=>?_;clear D;subst B;obtain rfl:=aw h;apply C;clear C;exact add_int<|H _ _ (Ext.tok _)<|.int _ _
 ·split at h
  ·refine aE λC=>?_;rename_i x y q;refine aG (Hx q) λM B=>?_;subst M;subst B;refine ah G.str_inv λt B f=>?_;clear G;subst B;refine ah D.str_inv λu B p=>?_;clear D;subst B;apply C;clear C;split at h<;>cases h;refine(?_:((x++y).length <=cH)->_) (by simp only[Str.length_append,eu];lia);intro e;exact add_str (λt' tk=>H _ _ (Ext.tok _)<|.str _ _ e) (by refine af eu ?_;lia)
  ·split at h
   ·refine aE λC=>?_;rename_i x y q;refine aG (cV q) λv z=>?_;have:=lk v;clear q;subst this;have:=lk z;subst this;refine dy G.list_inv λa r vs L l i O=>?_;clear G;subst L;refine dy D.list_inv λb m U L o c T=>?_;clear D;subst L;apply C;clear C;split at h<;>cases h;have hz:vs.length+U.length<=cH:=by refine af O.length<|af T.length<|af eu ?_;lia
    refine P.add_list (dZ l) (dZ o) (H _ _ (Ext.push k _ _) ?_) (by simpa using hz);exact CM g (by simp) (by simpa using hz)<|O.append T
   ·injection h
set_option tactic.hygienic true in
theorem ZY(k:W.Ok)(p:∀a∈X,a<s.heap.objs.size)(h:Hz a b=aa d)(D:Rep (mask X s.heap) U a)(C:Rep (mask X s.heap) T b)(M:jT W X s d Q):aI (aR W.prog W.w) A (AS .Mult U T) Q a9 s:=by
 unfold Hz at h;split at h
 ·rename_i q;refine aG (nu q) λi B=>?_;subst i;subst B;refine aF D.int_inv λt B=>?_;clear D;subst B;refine aF C.int_inv λu B=>?_;clear C;subst B;split at h<;>cases h;rename_i q;simp only[bo]at q;exact mul_int (M _ _ (Ext.tok _)<|.int _ _)<|ZJ q.1 q.2
 ·split at h
  ·refine aE λG=>?_;rename_i x y q;refine aG (cV q) λL H=>?_;have:=gy L;clear q;subst this;have:=iF H;subst this;apply G;clear G;refine ah D.str_inv λt B o=>?_;clear D;subst B;refine aF C.int_inv λu B=>?_;clear C;subst B;split at h<;>cases h;rename_i q;simp only[bo,bH]at q;have f:(a8 (cR y.toNat x.cps.toList).flatten).length <=cH:=by
    simp only[eu];have:((x.length*y.toNat:Nat):Int)<=100000:=by rw[iq];refine af (E3 q.1.1) ?_;rw[uY];exact q.2
    have e:(a8 (cR y.toNat x.cps.toList).flatten).length =y.toNat*x.length:=by simp[a8,vd]
    refine af e ?_;rw[eQ];exact aH 0x1820820820820890070a249a099b00 Yt this
   refine SB.mul (ZS x q.1.1 q.1.2 q.2 o) λt' kk=>M _ _ (Ext.tok _) ?_;exact af (ZR x q.1.1)<|.str _ _ f
  ·split at h
   ·refine aE λG=>?_;rename_i x y q;refine aG (cV q) λL H=>?_;refine ah (bO.mp L) λl z j=>?_;have:=lk z;clear q;subst this;have:=lc j;subst this;have:=iF H;subst this;refine aF C.int_inv λu B=>?_;clear C;subst B;refine dy D.list_inv λa w vs c m g O=>?_;clear D;subst c;refine aF (V0.mp<|show vs.length=1 from O.length) λv B=>?_;clear g;subst B;have Y:Rep (mask X s.heap) v x:=by cases O with|cons r _=>exact r
    apply G;clear G;split at h
    ·split at h<;>cases h;rename_i q;simp only[bo,bH]at q;exact Qg (dZ m) q.1 q.2<|M _ _ (Ext.push k _ _)<|CM p rfl (by refine af eu ?_;simp;exact Nb q.2) (ZU Y _)
    ·injection h
   ·injection h
theorem ZZ(k:W.Ok)(v:AOk A n)(z:W.Bs s.heap)(j:∀a∈W.T,a∈X)(T:∀a∈X,a<s.heap.objs.size)(h:bP op a b=aa d)(D:Rep (mask X s.heap) O a)(C:Rep (mask X s.heap) M b)(G:jT W X s d Q):aI (aR W.prog W.w) A (AS (ud op) O M) Q a9 s:=by
 refine(?_:(((mw a b).bind λp=>HA op p.1 p.2)=aa d->aI (aR W.prog W.w) A (AS (ud op) O M) Q a9 s)->_) (λh'=>by refine aE λU=>?_;refine ah (bO.mp h') λL q Y=>?_;obtain⟨x,y⟩:=L;refine aG (nu q) λL B=>?_;subst L;subst B;apply U;clear U;refine aF D.int_inv λt B=>?_;clear D;subst B;refine aF C.int_inv λu B=>?_;clear C;subst B;exact ZV Y λi e=>G _ _ (Ext.tok _)<|e▸.int _ _);intro H;cases op<;>first
  |exact H h
  |exact ZW k T h D C G
  |exact ZY k T h D C G
end
end
section
open PySem.Builtin PySem.Builtin.Str PySem.StrLaws
theorem d8(x:ao):x.cps.toList.length=x.length:=by simp[vd]
theorem wF(x:ao):a8 x.cps.toList=x:=by simp[a8]
theorem kE(l:List Nat):(a8 l).length =l.length:=by simp[a8,vd]
theorem HY(p l:List Nat):p.isPrefixOf l=(l.take p.length==p):=by
 induction p generalizing l with
 |nil=>simp
 |cons a p A=>
  cases l with
  |nil=>simp
  |cons b l=>simp only[i9,eK,List.take_succ_cons,A];simp only[show(b::V1 p.length l==a::p)=((b==a)&&(V1 p.length l==p))from rfl];rw[show(a==b)=(b==a)from by rw[iu,bJ,bJ];exact⟨KD,KD⟩]
theorem wG(x y:ao)(A i:Nat):At x y A i↔i+y.length<=A/\y.cps.toList.isPrefixOf (x.cps.toList.drop i)=ac:=by unfold At;rw[subAt_eq,HY,d8]
theorem Z5(x y:ao)(lo A B:Nat)(O:1<=B): (occurrences x y lo A B=[]/\∀i,lo<=i->¬At x y A i)\/ ∃i r,occurrences x y lo A B=i::r/\lo<=i/\At x y A i/\∀k,lo<=k->k<i->¬At x y A k:=by
 rw[occ_eq];rcases occ_first x y A B O (vf lo<|A+1-lo) lo (λi A=>by have:=QkW.mp A;exact BW this.1)with⟨D,G⟩|⟨pre,a,post,e,D,T,G⟩
 ·refine .inl ⟨by exact af D rfl,λi M A=>?_⟩;exact G i (by have:=A.1;rw[QkW];exact⟨BW M,iB 0x5580c940508a08a24528228224e0cb603250600180606403200 Yt M this⟩) A
 ·refine(?_:_->_)<|range'_split_from e;intro hs;refine .inr<|qS a (((forIn (vf lo<|A+1-lo) ((#[]:Array Nat),lo)<|occBody x y A B).run.fst.toList).tail) ?_ hs.1 T<|λk U Q=>G k<|hs.2 k U Q;generalize (forIn (vf lo<|A+1-lo) ((#[]:Array Nat),lo)<|occBody x y A B).run.fst =L at D;refine(?_:(L.toList[0]?=aa a)->_) (by simpa using D);intro C;cases H:L.toList with
  |nil=>rw[H]at C;injection C
  |cons b t=>rw[H]at C;simp at C;exact af C rfl
theorem Z6(w g:List Nat)(j:Nat):∀(n k:Nat),j+1-k<=n->(oL w g j n k= -1/\∀i,k<=i->¬(i+w.length<=j/\w.isPrefixOf (g.drop i)=ac))\/ ∃i:Nat,oL w g j n k=(i:Int)/\k<=i/\(i+w.length<=j/\w.isPrefixOf (g.drop i)=ac)/\∀m,k<=m->m<i->¬(m+w.length<=j/\w.isPrefixOf (g.drop m)=ac):=by
 intro G;induction G with
 |zero=>intro k h;exact .inl ⟨rfl,λi B q=>jO 0x1560325014228228914a08a289b8104604b603250180606403200 Yt h B q.1⟩
 |succ n H=>
  intro k h;rw[OZ];by_cases c:k+w.length<=j/\w.isPrefixOf (g.drop k)=ac
  ·have:(decide (k+w.length<=j)&&w.isPrefixOf (g.drop k))=ac:=by simp[c.1,c.2]
   rw[ar this];exact .inr<|y5 k rfl (eR _) c (λm D C=>by exact pr<|bS 0x2e04118020e200 Yt D C)
  ·have:¬(decide (k+w.length<=j)&&w.isPrefixOf (g.drop k))=ac:=by
    intro q;simp only[bo,bH]at q;exact c q
   rw[av this];rcases H (k+1) (fS 0x5432480c900528225520324014228224528208a2891902c32480c90060c940b203240 Yt h)with⟨a,b⟩|⟨i,a,b,d,e⟩
   ·refine .inl ⟨a,λi B q=>?_⟩;by_cases A:i=k
    ·exact c<|A▸q
    ·exact b i (Nd B A) q
   ·refine .inr<|y5 i a (BX b) d<|λm D C q=>?_;by_cases A:m=k
    ·exact c<|A▸q
    ·exact e m (Nd D A) C q
theorem Qh(x y:ao)(lo A:Nat):(match occurrences x y lo A 1 with|i::_=>(i:Int)|[]=> -1)=iX y.cps.toList x.cps.toList lo A:=by
 unfold iX;rcases Z5 x y lo A 1 (eR _)with⟨a,b⟩|⟨i,r,a,b,c,d⟩<;>
  rcases Z6 y.cps.toList x.cps.toList A (A+1-lo) lo (ig 0x62c80c900b203240 Yt)with⟨D,C⟩|⟨B,D,C,H,L⟩
 ·simp only[a,D]
 ·exact absurd ((wG x y A B).mpr<|by rw[<-d8];exact H)<|b B C
 ·have:=(wG x y A i).mp c;rw[<-d8]at this;exact absurd this<|C i b
 ·simp only[a,D];have G:=(wG x y A i).mp c;rw[<-d8]at G;have:i=B:=by
   rcases Nat.lt_trichotomy i B with q|q|q
   ·exact absurd G<|L i b q
   ·exact q
   ·exact absurd ((wG x y A B).mpr<|by rw[<-d8];exact H)<|d B C q
  exact af this rfl
theorem Qi(x y:ao):(!(occurrences x y 0 x.length 1).isEmpty)=oO y.cps.toList x.cps.toList:=by
 unfold oO;rw[d8, <-Qh];cases occurrences x y 0 x.length 1 with
 |nil=>rfl
 |cons i r=>simp
noncomputable def mA(x y:ao)(hi:Nat):Nat->Nat->Nat->List Nat
 |0,_,_=>[]
 |n+1,a,free=>if(free<=a/\a+y.length<=hi)/\subAt x y a=ac then a::mA x y hi n (a+1) (a+y.length)else mA x y hi n (a+1) free
theorem wH:mA x y A 0 a b=[]:=rfl
theorem sv:mA x y A (n+1) a free=if(free<=a/\a+y.length<=A)/\subAt x y a=ac then a::mA x y A n (a+1) (a+y.length)else mA x y A n (a+1) free:=rfl
theorem HZ:V2 x w a []=[strSub x a x.length]:=rfl
theorem Z7:V2 x w a (c::r)=strSub x a c::V2 x w (c+w) r:=rfl
theorem Z8(x y:ao)(A B:Nat):∀(n a:Nat)(st:Array Nat×Nat),st.fst.size+n<=B->(forIn (vf a n) st<|occBody x y A B).run.fst.toList =st.fst.toList++mA x y A n a st.snd:=by
 intro D;induction D with
 |zero=>intro a st _;simp[wH,sv]
 |succ n C=>
  intro a st h;rw[QkX,E4];unfold occBody;by_cases c:(st.snd<=a/\a+y.length<=A)/\subAt x y a=ac
  ·rw[ar ⟨⟨⟨fS 0x3900064030c9200 Yt h,c.1.1⟩,c.1.2⟩,c.2⟩];show(forIn (vf (a+1) n) (st.fst.push a,a+y.length)<|occBody x y A B).run.fst.toList =_;rw[C (a+1) _<|by simp;exact fS 0x1900c80c90064030c9200 Yt h];simp[wH,sv,c]
  ·rw[av<|λq=>c ⟨⟨q.1.1.2,q.1.2⟩,q.2⟩];show(forIn (vf (a+1) n) st<|occBody x y A B).run.fst.toList =_;rw[C (a+1) _<|fS 0x1900c80064030c9200 Yt h];simp only[wH,sv,av c]
theorem Z9(x y:ao):occurrences x y 0 x.length (x.length+1)=mA x y x.length (x.length+1) 0 0:=by simp only[occ_eq];have:=Z8 x y x.length (x.length+1) (x.length+1-0) 0 (#[],0) (by simp);exact this
theorem Qaa(x y:ao)(B:Nat):∀(m n a A:Nat),a+m<=A->mA x y B (n+m) a A=mA x y B n (a+m) A:=by
 intro C;induction C with
 |zero=>intro n a A _;exact rfl
 |succ m D=>intro n a A h;rw[show n+(m+1)=(n+m)+1 from ig 0x1d0452452560c90c80030c9200 Yt];rw[sv,av (λq=>fN 0x2e0411800c3250206200 Yt h q.1.1),D n (a+1) A (fS 0x1900c80c90064030c9200 Yt h)];congr 1;exact ig 0x1d0452452560c3248003203240 Yt
theorem Qab(x y:ao)(B:Nat):∀(n a f A:Nat),f<=a->A<=a->mA x y B n a f=mA x y B n a A:=by
 intro C;induction C with
 |zero=>intro _ _ _ _ _;exact rfl
 |succ n D=>
  intro a f A h h';rw[sv,sv];by_cases c:a+y.length<=B/\subAt x y a=ac
  ·rw[ar ⟨⟨h,c.1⟩,c.2⟩,ar ⟨⟨h',c.1⟩,c.2⟩]
  ·rw[av<|λq=>c ⟨q.1.2,q.2⟩,av<|λq=>c ⟨q.1.2,q.2⟩];exact D (a+1) f A (Gw h)<|Gw h'
theorem Qac(x y:ao)(D:0<y.length):∀(f st a n:Nat),st<=a->a+n=x.length+1->n<=f->kz y.cps.toList f ((x.cps.toList.drop st).take<|a-st) (x.cps.toList.drop a)=(partsFrom x y.length st<|mA x y x.length n a a).map λp=>p.cps.toList:=by
 intro t;induction t with
 |zero=>intro st a n B A C;have:n=0:=Nf C;clear C;subst this;rw[oM,wH,HZ];simp only[dF,KQ,strSub_toList];have:a=x.length+1:=Ng A A;clear B A;subst this;rw[rG (by simp only[fX,d8];exact Nh),rG (by simp only[fX,d8];exact ig 0x62c800b200 Yt)]
 |succ f j=>
  intro st a O;cases O with
  |zero=>intro B A C;have:a=x.length+1:=Ng A A;clear B A;subst this;have e:x.cps.toList.drop (x.length+1)=[]:=AT (by rw[d8];exact Gx);simp only[e];rw[nr,wH,HZ];simp only[dF,KQ,strSub_toList];rw[rG (by simp only[fX,d8];exact Nh),rG (by simp only[fX,d8];exact ig 0x62c800b200 Yt)]
  |succ n=>
   intro B A C;cases G:x.cps.toList.drop a with
   |nil=>refine(?_:(x.length<=a)->_) (by have:=congrArg dG G;simp only[fX,d8,kg,eK]at this;exact bD 0x54800508a24528228918801604b200 Yt this);intro Y;have v:a=x.length:=fN 0x74114a08914a0822560085832400c3250206200 Yt A Y;clear B Y;subst v;have z:n=0:=Ni A;clear C;subst z;have T:¬((x.length<=x.length/\x.length+y.length<=x.length)/\subAt x y x.length=ac):=λq=>bS 0x2e041388046003200 Yt D q.1.2;rw[nr,sv];rw[av T];rw[wH,HZ];simp only[dF,KQ,strSub_toList]
   |cons c r=>
    have l:a<x.length:=by have:=congrArg dG G;simp only[fX,d8,kg,eK]at this;exact fS 0x1520014a08224508a2893802360c940b200 Yt this
    rw[li,sv];refine bT G ?_;by_cases H:y.cps.toList.isPrefixOf (x.cps.toList.drop a)=ac
    ·have M:a+y.length<=x.length:=by
      have q:=H;rw[HY]at q;have q:=congrArg dG<|eq_of_beq q;simp only[l6,fX,d8]at q;exact fN 0x55020508a08934b40800508228208228a08914208208a08a2462030103884360342d0200 Yt l q
     have Q:At x y x.length a:=(wG x y x.length a).mpr ⟨M,H⟩;rw[ar H,ar ⟨⟨eR _,M⟩,Q.2⟩];rw[Z7];rw[dF,strSub_toList,AU,d8];congr 1;have U:=Qaa x y x.length (y.length-1) (n-(y.length-1)) (a+1) (a+y.length)<|bD 0x5490052822891422891830080cb2400c920e001 Yt D;rw[show n-(y.length-1)+(y.length-1)=n from jO 0x152c921854920528208a08a28914228228208a25d0452822452895980cb2482cb24860e201d832500c3258006403200 Yt D A M,show a+1+(y.length-1)=a+y.length from bD 0x54901d04528a08224528225d0452822452895830080cb2400c920e001 Yt D]at U;refine af U ?_;have L:=j (a+y.length) (a+y.length) (n-(y.length-1)) (eR _) (rX 0x5492152c921814228a08228228974114a08a08a08224528a08a0822822552c921814228228208228974114a08a28208224528a0822820822560c94032cb2486032003880560c94030c9600d832500c3258006403200 Yt D A A M)<|fS 0x54b25000528224508a2891882cb2500060c9203240 Yt C;simpa using L
    ·have T:¬((a<=a/\a+y.length<=x.length)/\subAt x y a=ac):=λq=>H ((wG x y x.length a).mp ⟨q.1.2,q.2⟩).2;rw[av H,av T];have L:=j st (a+1) n (Gw B) (Nj A A)<|bD 0x1880060c9203240 Yt C;have o:(x.cps.toList.drop st).take (a+1-st)=(x.cps.toList.drop st).take (a-st)++[c]:=by
      rw[show a+1-st=(a-st)+1 from bD 0x54021500324814228208225d04528228224528a08a08225500324814228208225d04528228914a28208958324b0082c00c9206200 Yt B,List.take_add_one];congr 1;rw[V3,show st+(a-st)=a from Nk B];have:x.cps.toList[a]?=aa c:=by have:=congrArg (·[0]?) G;simpa using this
      exact af this rfl
     have k:x.cps.toList.drop (a+1)=r:=by have:=congrArg List.tail G;simpa[List.tail_drop]using this
     have u:=Qab x y x.length n (a+1) a (a+1) (Gx)<|cN 0x60c9003240 Yt;rw[o,k]at L;exact af u L
theorem H0(x y:ao)(A:0<y.length):(partsBetween x (occurrences x y 0 x.length<|x.length+1) y.length).map (λp=>p.cps.toList)=jk y.cps.toList x.cps.toList:=by rw[partsBetween_eq,Z9];unfold jk;refine(?_:_->_)<|Qac x y A (x.length+1) 0 0 (x.length+1) (eR _) (Nl)<|eR _;intro h;rw[d8];exact h.symm
theorem Qad(x y:ao)(h:(occurrences x y 0 x.length<|x.length+1).isEmpty =ac)(A:0<y.length):jk y.cps.toList x.cps.toList=[x.cps.toList]:=by simp only[<-H0 x y A,n8.mp h,partsBetween_eq];delta partsFrom;simp only[dF,KQ,strSub_toList];rw[vg,rG<|by rw[d8];exact cN 0x54100508a2452822462c1000 Yt]
theorem Qae(x y:ao):Txt.startswith x y=y.cps.toList.isPrefixOf x.cps.toList:=by
 unfold Txt.startswith
 simp only[subAt_eq,HY,d8,vg,n9];by_cases h:(V1 y.length x.cps.toList==y.cps.toList)=ac
 ·refine(?_:_->_)<|congrArg dG<|eq_of_beq h;intro q;simp only[l6,d8,d8]at q;have:y.length<=x.length:=bD 0x34800508228208a245082082289188036034200 Yt q;simp[h,this]
 ·simp[h]
theorem Qaf(p l:List Nat):p.isSuffixOf l=(decide (p.length<=l.length)&&(l.drop (l.length-p.length)==p)):=by
 rw[iu,AV];simp only[bo,bH,bJ];constructor
 ·intro h;exact⟨h.length_le,by obtain⟨t,rfl⟩:=h;simp⟩
 ·rintro⟨_,h⟩;exact bT h<|QkY _ _
theorem Qag(x y:ao):Txt.endswith x y=y.cps.toList.isSuffixOf x.cps.toList:=by
 unfold Txt.endswith
 simp only[subAt_eq,Qaf,d8,d8,n9];by_cases h:y.length<=x.length
 ·simp only[h,decide_true,KR];rw[rG<|by simp only[fX,d8];exact ig 0x5480152c800014a08208914228228954b20000528208224508a28224620b2c8000 Yt]
 ·simp[h]
end
section
def RepB(X:List aj)(h:bL)(v:aq)(d:ak):Prop:=Rep (mask X h) v d\/∃a n vs xs,v=.ref a/\d=.list xs/\h.get? a=aa {cls:=.type "list",data:=.seq (KS vs) n}/\dG vs<=cH/\RepL (mask X h) vs xs
theorem RepB.full(r:RepB X h v d):Rep h.get? v d:=by
 rcases r with r|⟨a,n,vs,xs,rfl,rfl,C,B,A⟩
 ·exact r.mono λa o e=>dZ e
 ·exact Rep.mkList C B<|A.mono λa o e=>dZ e
theorem RepB.reads(r:RepB X h v d):∃A,Reads h v d A:=r.full.reads λ_ _ e=>e
theorem RepB.list_inv(r:RepB X h v<|.list xs):∃a n vs,v=.ref a/\h.get? a=aa {cls:=.type "list",data:=.seq (KS vs) n}/\dG vs<=cH/\RepL (mask X h) vs xs:=by
 rcases r with r|⟨a,n,vs,D,rfl,e,C,B,A⟩
 ·refine dy r.list_inv λa n vs e C B A=>?_;exact(jj a n vs e (dZ C) B A)
 ·obtain rfl:=Qol e;exact(jj a n vs rfl C B A)
theorem RepB.other(r:RepB X h v d)(B:∀xs,d≠.list xs):Rep (mask X h) v d:=by
 refine fI r (λr=>?_) λA=>?_
 ·exact r
 ·clear r;obtain⟨a,n,vs,xs,rfl,e,_⟩:=A;exact absurd e<|B xs
theorem wI(h:eL d=ac):d.canLay0=ac/\d.depth<=8:=by unfold eL at h;simpa using h
section
open AutoSeq1 (wpAny_loadPart')
open MeetsSeq MeetsSeq2 MeetsSeq3 SeqRoads2 SeqAt
theorem Qj:∀{ds:List ak}{xs:List Int}{vs:List aq},fU ds=aa xs->RepL g vs ds->∃A:List gm,A.length=xs.length/\vs=(xs.zip A).map λp=>Value.int p.1 p.2:=by
 intro ds;induction ds with
 |nil=>intro xs vs h r;obtain rfl:=aw h;obtain rfl:=r.unnil;exact(br ([]) rfl rfl)
 |cons d ds L=>intro xs vs h r;refine dJ (Cj h) λx ys C B H=>?_;clear h;subst H;refine dJ r.uncons λv Q O G D=>?_;clear r;subst O;obtain rfl:=iF C;refine aF G.int_inv λt M=>?_;subst M;refine ah (L B D) λA C B=>?_;exact(br (t::A) (congrArg kU C) (congrArg (_::·) B))
end
section
variable {W:Wd} {A:cX} {X:List aj} {s:aC} {Q:aq->aC->Prop} {n:Nat}
theorem Qah(h:wu a b=aa r)(C:Rep g L a)(B:Rep g H b):PySem.plainIs L H=ac/\(L==H)=r:=by
 cases q:two (wq a) (wq b)with
 |some p=>obtain⟨x,y⟩:=p;rw[wu,q]at h;obtain rfl:=aw h;clear h;obtain rfl:=O0 (cV q).1;obtain rfl:=O0 (cV q).2;refine af C.bool_inv (af B.bool_inv ?_);cases x<;>cases y<;>exact⟨rfl,rfl⟩
 |none=>
  rw[wu,q]at h;cases M:wr a with
  |true=>
   obtain rfl:=HB M;refine af C.none_inv ?_;cases D:wr b with
   |true=>obtain rfl:=HB D;refine af B.none_inv ?_;obtain rfl:=aw h;exact⟨rfl,rfl⟩
   |false=>obtain⟨x,q,rfl⟩:=cv.mp (show(ga b).map (λ_=>ae)=aa r from by refine bT h (af D ?_);rfl);obtain rfl:=gy q;refine ah B.str_inv λt G _=>?_;clear B;subst G;exact⟨rfl,rfl⟩
  |false=>rw[M]at h;refine aG (mQ.mp h) λD h=>?_;obtain rfl:=HB D;refine af B.none_inv ?_;refine ah (cv.mp h) λx q O=>?_;subst O;obtain rfl:=gy q;refine ah C.str_inv λt G _=>?_;clear C;subst G;exact⟨rfl,rfl⟩
theorem Qai:∀{ds:List ak},ds.all eL=ac->AW ds<=8/\AX ds=ac:=by
 intro C;induction C with
 |nil=>intro G;exact⟨kh _,rfl⟩
 |cons d ds D=>
  intro h;refine aE λB=>?_;simp only[KT,bo]at h;refine aG (wI h.1) λa b=>?_;refine aG (D h.2) λc e=>?_;apply B;clear B;refine⟨?_,?_⟩
  ·simp only[AW];exact bS 0x34020528208208a24528208208a08918227b008182248182240 Yt b c
  ·simp only[AX,a,e,Bool.and_self]
theorem Qk(k:AOk A n)(h:wv a b=aa r)(G:Rep (mask X s.heap) j a)(D:RepB X s.heap Y b):(Q (.bool r) s->aI (aR W.prog W.w) A (xW .Eq j Y) Q a9 s)/\(Q (.bool<|!r) s->aI (aR W.prog W.w) A (xW .NotEq j Y) Q a9 s):=by
 have T:=k.units;unfold wv at h;split at h
 ·rename_i q;obtain⟨rfl,rfl⟩:=nu q;obtain⟨t,rfl⟩:=G.int_inv;obtain⟨u,rfl⟩:=(D.other<|by intro _ q;injection q).int_inv;obtain rfl:=aw h;exact⟨λB=>P.eq_int B,λB=>P.ne_int B⟩
 ·split at h
  ·refine aE λL=>?_;rename_i q;obtain⟨rfl,rfl⟩:=Hx q;obtain⟨t,rfl,_⟩:=G.str_inv;obtain⟨u,rfl,_⟩:=(D.other<|by intro _ q;injection q).str_inv;obtain rfl:=aw h;apply L;clear L;exact⟨λB=>PyProof.Rows.eq_str B,λB=>PyProof.Rows.ne_str B⟩
  ·split at h<;>cases h;refine aE λL=>?_;rename_i q;simp only[bo,n7]at q;obtain⟨d,O⟩:=G.reads λa o e=>dZ e;obtain⟨l,M⟩:=D.reads;obtain⟨⟨H,v⟩,z⟩:=q;have C:=wI v;have U:=wI z;apply L;clear L;rcases H with H|H
   ·obtain⟨⟨x,y⟩,e⟩:=vh.mp H;have:=lk (cV e).1;clear G;subst this;have:=lk (cV e).2;clear D;subst this;exact⟨λB=>QkZ O M C.1 U.1 (BY T C.2) B,λB=>Qk0 O M C.1 U.1 (BY T C.2) B⟩
   ·obtain⟨⟨x,y⟩,e⟩:=vh.mp H;have:=Hw (cV e).1;clear G;subst this;have:=Hw (cV e).2;clear D;subst this;exact⟨λB=>QkZ O M C.1 U.1 (BY T C.2) B,λB=>Qk0 O M C.1 U.1 (BY T C.2) B⟩
theorem Ql(v:AOk A n)(h:Co a b=aa r)(T:Rep (mask X s.heap) j a)(z:RepB X s.heap Y b):(Q (.bool r) s->aI (aR W.prog W.w) A (xW .In j Y) Q a9 s)/\(Q (.bool<|!r) s->aI (aR W.prog W.w) A (xW .NotIn j Y) Q a9 s):=by
 have M:=v.units;unfold Co at h;split at h
 ·refine aE λD=>?_;rename_i q;refine aG (Hx q) λk U=>?_;subst k;subst U;refine ah T.str_inv λt U _=>?_;clear T;subst U;obtain⟨u,rfl,_⟩:=(z.other<|by intro _ q;injection q).str_inv;obtain rfl:=aw h;apply D;clear D;exact⟨λB=>P.in_str (by rw[Qi];exact B),λB=>P.notIn_str<|by rw[Qi];exact B⟩
 ·refine aE λD=>?_;refine ah (bO.mp h) λys L h=>?_;apply D;clear D;split at h<;>cases h;refine aE λD=>?_;rename_i q;simp only[bo]at q;refine aF (T.reads λa o e=>dZ e) λd H=>?_;refine aF z.reads λl G=>?_;have C:=wI q.1;have O:=Qai q.2;unfold O1 at L;apply D;clear D;split at L
  ·rename_i y;clear h q;obtain rfl:=aw L;have:=lk y;subst this;exact⟨λB=>SeqAt.in_list_reads G H O.2 C.1 (BZ M C.2) B,λB=>SeqAt.notIn_list_reads G H O.2 C.1 (BZ M C.2) B⟩
  ·have:=Hw L;subst this;exact⟨λB=>SeqAt.in_tuple_reads G H O.2 C.1 (BZ M C.2) B,λB=>SeqAt.notIn_tuple_reads G H O.2 C.1 (BZ M C.2) B⟩
theorem Qm(h:wu a b=aa r)(D:Rep (mask X s.heap) C a)(G:RepB X s.heap B b):PySem.plainIs C B=ac/\(C==B)=r:=Qah h D (G.other (by rintro _ rfl;clear D;cases a<;>injection h))
theorem Qn(H:AOk A n)(h:cY op a b=aa r)(D:Rep (mask X s.heap) T a)(C:RepB X s.heap O b)(B:Q (.bool r) s):aI (aR W.prog W.w) A (xW (so op) T O) Q a9 s:=by
 have j:=H.units;have os:∀{r},((mw a b).bind λp=>O2 op p.1 p.2)=aa r->Q (.bool r) s->aI (aR W.prog W.w) A (xW (so op) T O) Q a9 s:=λ{r} h' B=>by
  refine ah (bO.mp h') λp q h'=>?_;obtain⟨x,y⟩:=p;refine aG (nu q) λY M=>?_;subst Y;subst M;refine aF D.int_inv λt M=>?_;subst M;obtain⟨u,rfl⟩:=(C.other<|by intro _ q;injection q).int_inv;cases op with
  |lt=>obtain rfl:=aw h';exact P.lt_int B
  |le=>obtain rfl:=aw h';exact P.le_int B
  |gt=>obtain rfl:=aw h';exact P.gt_int B
  |ge=>obtain rfl:=aw h';exact P.ge_int B
  |_=>injection h'
 cases op with
 |eq=>exact(Qk H h D C).1 B
 |ne=>refine ah (cv.mp h) λU G L=>?_;subst L;exact(Qk H G D C).2 B
 |lt=>exact os h B
 |le=>exact os h B
 |gt=>exact os h B
 |ge=>exact os h B
 |is=>refine aG (Qm h D C) λp e=>?_;exact wpAny_is_plain p (by refine af e ?_;exact B)
 |isnt=>refine ah (cv.mp h) λU G L=>?_;subst L;refine aG (Qm G D C) λp e=>?_;exact wpAny_isNot_plain p (by refine af e ?_;exact B)
 |isin=>exact(Ql H h D C).1 B
 |notin=>refine ah (cv.mp h) λU G L=>?_;subst L;exact(Ql H G D C).2 B
end
end
section
section
variable {W:Wd} {A:cX} {X:List aj} {s:aC} {Q:aq->aC->Prop} {n:Nat}
theorem Qaj:∀(xs:List Int)(B:List gm),B.length=xs.length->preSum (xX (xs.zip B).toArray) xs.length=xs.sum:=by
 intro xs B h;refine(?_:((xs.zip B).map (·.1)=xs)->_) (by rw[KU<|Gy h]);intro hz;refine(?_:(∀(k:Nat),k<=xs.length->preSum (xX (xs.zip B).toArray) k=(xs.take k).sum)->_) (by
  intro k D;induction k with
  |zero=>simp[preSum]
  |succ k G=>
   have hY:k<xs.length:=D;refine(?_:(xX (xs.zip B).toArray k=xs[k]'hY)->_) (by
    unfold xX;have:((xs.zip B).toArray[k]?.map (·.1))=aa (xs[k]'hY):=by rw[List.getElem?_toArray, <-fW];exact af hz<|af (ee hY) rfl
    refine af this ?_;rfl)
   intro e;simp only[preSum,G (BX D),e,List.take_succ_eq_append_getElem hY,List.sum_append];simp)
 intro C;simp only[C _<|eR _,xY]
theorem Qak(k:W.Ok)(T:AOk A n)(H:s.heap.get? l=aa {cls:=.type "list",data:=.seq vs.toArray m})(r:RepL (mask X s.heap) vs ds)(h:fU ds=aa xs)(M:∀t C,Ext W s C->Q (.int xs.sum t) C):aI (aR W.prog W.w) A (call (.builtin "sum") [.ref l]) Q a9 s:=by
 refine aE λG=>?_;refine ah (Qj h r) λB D O=>?_;refine(?_:(vs.toArray=KV (xs.zip B).toArray)->_) (by refine af O ?_;simp[KV]);intro e;apply G;clear G;refine sum_intListG T.handled ⟨_,H,rfl,m,by exact af e rfl⟩ λh' tk t' L=>?_;have:(xs.zip B).toArray.size =xs.length:=by simp[D]
 simp only[this,Qaj xs B D];exact M _ _<|Ext.grow k tk L
theorem Qal(k:W.Ok)(a:AOk A n)(d:s.heap.get? l=aa {cls:=.type "list",data:=.seq vs.toArray m})(r:RepL (mask X s.heap) vs ds)(h:fU ds=aa xs){b:Int}(Y:xs.find? (λm=>xs.all λx=>decide (x<=m))=aa b)(p:∀t O,Ext W s O->Q (.int b t) O):aI (aR W.prog W.w) A (call (.builtin "max") [.ref l]) Q a9 s:=by
 refine aE λu=>?_;refine ah (Qj h r) λB z f=>?_;refine(?_:(vs.toArray=KV (xs.zip B).toArray)->_) (by refine af f ?_;simp[KV]);intro e;have o:=KW Y;have T:=Qk1 Y;simp only[du,bH]at T;have L:((xs.zip B).map (·.1))=xs:=by rw[KU<|by rw[z];exact eR _]
 have M:(xs.zip B).toArray.size =xs.length:=by simp[z]
 have pos:0<xs.length:=List.length_pos_of_mem o;have H:∀j,j<xs.length->xX (xs.zip B).toArray j∈xs:=λj D=>by rw[numAt_eq];simp only[L];exact getD_mem D
 apply u;clear u;refine max_intList a.handled ⟨_,d,rfl,m,by exact af e rfl⟩ (by rw[M];exact pos) λv h' tk U g=>?_;refine aF (intItems_at U) λt i=>?_;clear U;subst i;refine aG (argBest_gt (xX (xs.zip B).toArray)<|(xs.zip B).toArray.size -1) λy g2=>?_;rw[M]at y g2⊢;have C:=T _<|H _<|qt y<|Nat.sub_lt pos Nat.one_pos;refine ah (mem_getD o) λj D c=>?_;have q:=g2 j<|Nat.le_sub_one_of_lt D;have G:xX (xs.zip B).toArray j=b:=by rw[numAt_eq];simp only[L];exact c
 rw[G]at q;rw[Int.le_antisymm C q];exact p t _<|Ext.grow k tk g
theorem Qam(k:W.Ok)(U:AOk A n)(L:∀a∈X,a<s.heap.objs.size)(D:x.length<=100000)(M:jT W X s (.list<|x.cps.toList.map λc=>.str<|a8 [c]) Q):aI (aR W.prog W.w) A (call (.type "list") [.str x t]) Q a9 s:=by have hz:x.cps.size<=cH:=fV D (by decide);refine call_list_str U.handled x t<|λh' tk acc c H G B=>?_;refine M _ _ (Ext.grow k tk H) (Rep.mkList (cy.mpr ⟨λq=>qr _<|L _ q,by simpa using G⟩) (by simpa using B.1▸hz)<|RepL.of_at (by simp[B.1]) λi v d T C=>?_);refine eE (B.2 i v<|by simpa using T) λc u O e=>?_;subst e;rw[fW,V4,O]at C;obtain rfl:=aw C;exact .str _ _ (by simp only[eu];simp[vd,a8])
noncomputable def H5:BI->aq
 | .len =>.builtin "len"| .sum =>.builtin "sum"| .ord =>.builtin "ord"| .chr =>.builtin "chr"| .max =>.builtin "max"| .list =>.type "list"| .divmod =>.builtin "divmod"
def re(W:Wd)(b:BI):Prop:=∀(A:cX)(n:Nat)(X:List aj)(s:aC)(vs:List aq)(ds:List ak)(d:ak)(Q:aq->aC->Prop),AOk A n->W.Bs s.heap->(∀a∈X,a<s.heap.objs.size)->(∀a∈W.T,a∈X)->
 gR b ds=aa d->dG vs=dG ds->(∀(i:Nat)(v:aq)(d:ak),vs[i]?=aa v->ds[i]?=aa d->RepB X s.heap v d)->jT W X s d Q->aI (aR W.prog W.w) A (call (H5 b) vs) Q a9 s
theorem Qan(B:dG vs=1)(r:∀(i:Nat)(v:aq)(C:ak),vs[i]?=aa v->[d][i]?=aa C->RepB X h v C):∃v,vs=[v]/\RepB X h v d:=by refine aF (V0.mp B) λv D=>?_;clear B;subst D;exact(br v rfl (r 0 v d rfl rfl))
theorem Qao(B:dG vs=2)(r:∀(i:Nat)(v:aq)(C:ak),vs[i]?=aa v->[d,e][i]?=aa C->RepB X h v C):∃v u,vs=[v,u]/\RepB X h v d/\RepB X h u e:=by
 cases vs with
 |nil=>cases B
 |cons v vs=>obtain⟨u,rfl⟩:=V0.mp (KH B);exact(ji v u rfl (r 0 v d rfl rfl) (r 1 u e rfl rfl))
theorem wJ(e:nx f ds=aa x)(G:dG vs=dG ds)(r:∀(i:Nat)(v:aq)(C:ak),vs[i]?=aa v->ds[i]?=aa C->RepB X h v C):∃v d,vs=[v]/\f d=aa x/\RepB X h v d:=by refine aE λD=>?_;refine ah (bO.mp e) λd B M=>?_;have:=lc B;clear e B;subst this;refine ah (Qan G r) λv L H=>?_;apply D;clear D;exact(ji v d L M H)
def Qo(d:ak)(i:Int):Prop:=(∃x:ao,d=.str x/\i=x.length)\/(∃l,d=.list l/\i=l.length)\/∃l,d=.tuple l/\i=l.length
theorem Qap(h:HC d=aa i):Qo d i:=(show Says (HC d) (Qo d)from by
 cases d with
 |str x=>exact .inl (br x rfl rfl)
 |list l=>exact .inr (.inl (br l rfl rfl))
 |tuple l=>exact .inr (.inr (br l rfl rfl))
 |_=>exact i8).get h
theorem Qaq(k:W.Ok):re W .len :=by
 intro A n X s vs ds d Q p e u o h T r D;refine aE λU=>?_;refine(?_:((cH:Int)<2^63)->_) (by refine af eu ?_;decide);intro B;refine ah (cv.mp h) λi g O=>?_;clear h;subst O;refine dJ (wJ g T r) λv d O z C=>?_;clear T r;subst O;apply U;clear U;rcases Qap z with⟨x,rfl,rfl⟩|⟨l,rfl,rfl⟩|⟨l,rfl,rfl⟩
 ·refine ah ((C.other<|by intro _ q;cases q).str_inv) λt y j=>?_;subst y;exact P.len_str (bS 0x1fb000820820820820820820820820820820893c208208208208208208208208208208226c206200 Yt B j)<|D _ _ (Ext.tok _)<|.int _ _
 ·refine dy C.list_inv λa m Y M L H G=>?_;subst M;exact Calls.call_len_list ⟨_,L,rfl,_,rfl⟩ (by simp;exact Nm B H)<|D _ _ (Ext.tok _)<|by rw[og];refine af G.length ?_;exact .int _ _
 ·refine dy ((C.other<|by intro _ q;cases q).tuple_inv) λa m Y M L H G=>?_;subst M;exact P.len_tuple (dZ L) (by simp;exact Nm B H)<|D _ _ (Ext.tok _)<|by rw[og];refine af G.length ?_;exact .int _ _
theorem Qar(k:W.Ok):re W .sum :=by intro A n X s vs ds d Q Y o q y h C r M;refine aE λG=>?_;refine ah (bO.mp h) λl g h'=>?_;refine ah (cv.mp h') λxs L B=>?_;clear h h';subst B;refine dJ (wJ g C r) λv d B D H=>?_;clear C r;subst B;have:=lk D;clear D;subst this;refine dy H.list_inv λa m j U T u O=>?_;subst U;apply G;clear G;exact Qak k Y T O L λt z x=>M _ _ x<|.int _ _
theorem Qas(k:W.Ok):re W .max :=by intro A n X s vs ds d Q j e y u h C r O;refine aE λG=>?_;refine ah (bO.mp h) λl g h'=>?_;refine ah (bO.mp h') λxs L h'=>?_;refine ah (cv.mp h') λb M B=>?_;clear h h';subst B;refine dJ (wJ g C r) λv d B D H=>?_;clear C r;subst B;have:=lk D;clear D;subst this;refine dy H.list_inv λa m z Y U o T=>?_;subst Y;apply G;clear G;exact Qal k j U T L M λt q x=>O _ _ x<|.int _ _
theorem Qat(k:W.Ok):re W .list :=by intro A n X s vs ds d Q M Y H U h B r L;refine aE λD=>?_;refine ah (bO.mp h) λx g h'=>?_;refine aG (mQ.mp h') λq h'=>?_;obtain rfl:=aw h';clear h h';refine dJ (wJ g B r) λv d O C G=>?_;clear B r;subst O;have:=gy C;clear C;subst this;obtain⟨t,rfl,T⟩:=(G.other<|by intro _ q;injection q).str_inv;apply D;clear D;exact Qam k M H q L
theorem Qau(k:W.Ok):re W .ord :=by intro A n X s vs ds d Q j Y T U h C r L;refine aE λG=>?_;refine ah (bO.mp h) λx g h'=>?_;refine ah (cv.mp h') λc e B=>?_;clear h h';subst B;refine dJ (wJ g C r) λv d B D H=>?_;clear C r;subst B;have:=gy D;clear D;subst this;obtain⟨t,rfl,O⟩:=(H.other<|by intro _ q;injection q).str_inv;refine(?_:(x=⟨#[c]⟩)->_) (by have:=wF x;rw[lc e]at this;exact this.symm);intro M;subst M;apply G;clear G;exact P.ord_of_char<|L _ _ (Ext.tok _)<|.int _ _
theorem Qav(k:W.Ok):re W .chr :=by intro A n X s vs ds d Q U T M O h B r H;refine aE λD=>?_;refine ah (bO.mp h) λx g h'=>?_;refine dJ (wJ g B r) λv d L C G=>?_;clear B r;subst L;have:=iF C;clear C;subst this;obtain⟨t,rfl⟩:=(G.other<|by intro _ q;injection q).int_inv;apply D;clear D;split at h'<;>cases h';rename_i q;simp only[bo,bH]at q;exact P.chr_of_int (by simp;exact⟨fT 0x1c0047001 Yt q.1,fT 0x1faebaeba2a100f082082092840 Yt q.2⟩)<|H _ _ (Ext.tok _)<|.str _ _<|by simp only[eu];simp[vd]
theorem Qaw(k:W.Ok):re W .divmod :=by intro A n X s vs ds d Q m l O z h C r T;refine aE λH=>?_;refine ah (bO.mp h) λB D G=>?_;obtain⟨o,y⟩:=B;refine ah (bO.mp G) λB U g=>?_;obtain⟨a,b⟩:=B;clear h G;have:=Ck D;clear D;subst this;refine aG (nu U) λB Y=>?_;subst B;subst Y;refine dJ (Qao C r) λv u j L M=>?_;clear C r;subst j;obtain⟨t,rfl⟩:=(L.other<|by intro _ q;injection q).int_inv;obtain⟨t',rfl⟩:=(M.other<|by intro _ q;injection q).int_inv;apply H;clear H;split at g<;>cases g;rename_i q;simp only[bo,bH]at q;refine divmod_int (BV q.1.1) ?_<|.inl<|ZP q.1.1 q.1.2 q.2;rw[CK q.1.1,Qa q.1.1];refine T _ _ (Ext.push k _ _)<|Qf O rfl (by simp only[eu];simp) (.cons (.int _ _)<|.cons (.int _ _) .nil)
end
end
section
open PySem.Builtin PySem.Builtin.Str
section
variable {W:Wd} {A:cX} {X:List aj} {s:aC} {Q:aq->aC->Prop} {n:Nat}
theorem Qax:∀{ds:List ak}{xs:List<|List Nat}{vs:List aq},zj ds=aa xs->RepL g vs ds->∃l:List<|ao×gm,vs=xZ l/\l.map (λp=>p.1.cps.toList)=xs:=by
 intro ds;induction ds with
 |nil=>intro xs vs h r;obtain rfl:=aw h;exact(br ([]) r.unnil rfl)
 |cons d ds H=>intro xs vs h r;refine dJ (Cj h) λx ys T O G=>?_;clear h;subst G;refine dJ r.uncons λv U C L D=>?_;clear r;subst C;refine ah (cv.mp T) λy M C=>?_;subst C;obtain rfl:=gy M;refine ah L.str_inv λt B _=>?_;subst B;refine ah (H O D) λl B e=>?_;subst B;exact(br ((_,t)::l) rfl (congrArg (_::·) e))
theorem Qay(B:ao):∀l:List ao,(Str.join B l).cps.toList =cB B.cps.toList (l.map λp=>p.cps.toList):=by
 intro D;induction D with
 |nil=>exact rfl
 |cons x C G=>
  cases C with
  |nil=>exact rfl
  |cons y r=>show(x.cps++B.cps++(Str.join B (y::r)).cps).toList =_;simp only[Qk2,Qk2,G];rfl
theorem Qaz(B:Nat):∀(l:List ao)(a:Nat),l.foldl (λa(p:ao)=>a+p.length+B) a=a+(l.map (·.length)).sum +l.length*B:=by
 intro C;induction C with
 |nil=>intro a;simp
 |cons x r D=>intro a;simp only[VZ,D];simp[KI];exact wi 0x1d0452452560c34200c3608003803603403200 Yt
theorem QaA(B:List Nat):∀l:List<|List Nat,(l.map (·.length)).sum +l.length*B.length<=(cB B l).length +B.length:=by
 intro D;induction D with
 |nil=>simp
 |cons x C G=>
  cases C with
  |nil=>simp[show cB B [x]=x from rfl]
  |cons y r=>have:=G;rw[show cB B (x::y::r)=x++B++cB B (y::r)from rfl];simp only[cw,dF,vi,eK,KI]at this⊢;exact N1 0x1836038036280c36036100c3200a060d88030d8403200 [_,_,_,_,_,_] Yt this
theorem QaB(D:B.length<=100000)(C:(cB B.cps.toList<|l.map λp=>p.cps.toList).length <=100000):JoinOk B l=ac:=by
 unfold JoinOk;simp only[List.foldl_toArray,Qaz];have:=QaA B.cps.toList<|l.map λp=>p.cps.toList;rw[d8]at this;simp only[fg,b8]at this;have e:(l.map ((λx=>x.length)∘λp:ao=>p.cps.toList))=l.map (·.length):=by apply KX;intro x _;exact d8 x
 rw[e]at this;have t:¬(0+(l.map (·.length)).sum +l.length*B.length>2^24):=jO 0x9832030010820820820822460a249a0996060a249a0994060d8403200 Yt D C this;simp only[tooLong,oh,decide_eq_false_iff_not];exact t
noncomputable def ue:MM->ak->String
 | .bitlen,_=>"int.bit_length"| .split,_=>"str.split"| .startswith,_=>"str.startswith"| .endswith,_=>"str.endswith"| .find,_=>"str.find"
 | .join,_=>"str.join"| .lower,_=>"str.lower"| .count,_=>"list.count"
def pW(W:Wd)(m:MM):Prop:=∀(A:cX)(n:Nat)(X:List aj)(s:aC)(v:aq)(o:ak)(vs:List aq)(ds:List ak)(d:ak)(Q:aq->aC->Prop),AOk A n->W.Bs s.heap->(∀a∈X,a<s.heap.objs.size)->(∀a∈W.T,a∈X)->
 gS m o ds=aa d->Rep (mask X s.heap) v o->RepL (mask X s.heap) vs ds->jT W X s d Q->aI (aR W.prog W.w) A (call (.builtin (ue m o)) (v::vs)) Q a9 s
theorem RepL.one(r:RepL g vs [d]):∃v,vs=[v]/\Rep g v d:=by cases r with|cons h r=>cases r;exact(br _ rfl h)
theorem RepL.none(r:RepL g vs []):vs=[]:=by cases r;rfl
theorem RepL.two(r:RepL g vs [d,e]):∃v u,vs=[v,u]/\Rep g v d/\Rep g u e:=by cases r with|cons h r=>cases r with|cons h' r=>cases r;exact(ji _ _ rfl h h')
theorem RepL.three(r:RepL g vs [d,e,f]):∃v u w,vs=[v,u,w]/\Rep g v d/\Rep g u e/\Rep g w f:=by cases r with|cons h r=>refine dJ r.two λv u B a b=>?_;subst B;exact(jj _ _ _ rfl h a b)
theorem RepL.of1(e:nx f ds=aa x)(r:RepL g vs ds):∃v d,vs=[v]/\f d=aa x/\Rep g v d:=by refine aE λC=>?_;refine ah (bO.mp e) λd B H=>?_;have:=lc B;clear e B;subst this;refine ah r.one λv G D=>?_;apply C;clear C;exact(ji v d G H D)
theorem QaC:pW W .bitlen :=by
 intro A n X s v o vs ds d Q O M H L h B r C;refine ah (bO.mp h) λi D h'=>?_;clear h;have:=iF D;clear D;subst this;split at h'<;>cases h';rename_i q;have:=n8.mp q;clear q;subst this;refine aF B.int_inv λt G=>?_;clear B;subst G;cases r.none;show aI _ _ (call (.builtin "int.bit_length") [_]) _ _ _;refine call_gives F.slot_int_bit_length (KO _ _ _) F.entry_int_bit_length (F.args_int_bit_length_1 _) (AutoIntG2.int_bit_length_int_0 _ _) ?_;have e:((if i=0 then 0 else i.natAbs.log2+1:Nat):Int)=(xT i:Nat):=by unfold xT;simp
 rw[e]at C;exact C _ _ (Ext.tok _)<|.int _ _
theorem QaD:pW W .startswith :=by intro A n X s v o vs ds d Q z j U Y h D r O;refine aE λL=>?_;refine ah (cv.mp h) λT H C=>?_;obtain⟨x,y⟩:=T;clear h;subst C;have:=gy (cV H).1;subst this;refine dJ (r.of1 (cV H).2) λu e C G M=>?_;clear r;subst C;have:=gy G;clear G;subst this;refine ah D.str_inv λt B _=>?_;clear D;subst B;refine ah M.str_inv λt' B _=>?_;subst B;apply L;clear L;refine SC.startswith ?_;rw[Qae];exact O _ _ (Ext.refl _ _)<|.bool _
theorem QaE:pW W .endswith :=by intro A n X s v o vs ds d Q z j U Y h D r O;refine aE λL=>?_;refine ah (cv.mp h) λT H C=>?_;obtain⟨x,y⟩:=T;clear h;subst C;have:=gy (cV H).1;subst this;refine dJ (r.of1 (cV H).2) λu e C G M=>?_;clear r;subst C;have:=gy G;clear G;subst this;refine ah D.str_inv λt B _=>?_;clear D;subst B;refine ah M.str_inv λt' B _=>?_;subst B;apply L;clear L;refine SC.endswith ?_;rw[Qag];exact O _ _ (Ext.refl _ _)<|.bool _
theorem QaF(x y:ao)(i j:Int)(t u v z:gm)(D:0<=i)(C:0<=j)(B:j<=x.length):Gives («str.find» ⟨[.str x t,.str y u,.int i v,.int j z],[]⟩)<|.int<|iX y.cps.toList x.cps.toList i.toNat j.toNat:=by
 have H:ya x.length i=i.toNat:=by unfold ya;rw[av<|by exact B0 D];congr 1;exact Nn D
 have G:min (ya x.length j) x.length=j.toNat:=by
  have:ya x.length j=j.toNat:=by unfold ya;rw[av<|by exact B0 C];congr 1;exact Nn C
  exact W3 0x3500d20074114a08228228208208914a08208208974114a08228208208208914a08208a08208208224d20074114a08228228208208224528208228228208225d04528208a08208208208914a08208a0820820820895ac0342001ec2005ac000dac000 [_,_] [_] Yt B this this
 have:Gives (match occurrences x y (ya x.length i) (min (ya x.length j) x.length) 1 with|k::_=>retInt k|[]=>(do rule "str.find.not-found";retInt (-1)))<|.int<|iX y.cps.toList x.cps.toList i.toNat j.toNat:=by
  refine af H<|af G ?_;rw[<-Qh];cases occurrences x y i.toNat j.toNat 1 with
  |nil=>exact .rule (.of_eq rfl)
  |cons k _=>exact .of_eq rfl
 exact this
theorem QaG(h:O3 ds=aa (y,i,j)):ds=[.str y,.int i,.int j]:=by
 rcases ds with _|⟨a,_|⟨b,_|⟨c,_|⟨e,r⟩⟩⟩⟩
 ·injection h
 ·injection h
 ·injection h
 ·refine aE λC=>?_;refine ah (bO.mp h) λM H h=>?_;refine ah (cv.mp h) λB G h=>?_;obtain⟨T,O⟩:=B;apply C;clear C;obtain⟨rfl,D⟩:=dc h;obtain⟨rfl,rfl⟩:=dc D;refine aG (nu G) λB L=>?_;subst B;subst L;exact af (gy H) rfl
 ·injection h
theorem QaH:pW W .find :=by intro A n X s v o vs ds d Q m g k l h G r O;refine aE λC=>?_;refine ah (bO.mp h) λU D h'=>?_;obtain⟨x,y,i,j⟩:=U;clear h;have:=gy (cV D).1;subst this;have:=QaG (cV D).2;clear D;subst this;apply C;clear C;split at h'<;>cases h';refine aE λC=>?_;rename_i q;simp only[bo,bH]at q;refine ah G.str_inv λt B _=>?_;clear G;subst B;refine dy r.three λu a b T H M L=>?_;clear r;subst T;refine ah H.str_inv λt' B _=>?_;subst B;refine aF M.int_inv λz B=>?_;subst B;refine aF L.int_inv λY B=>?_;subst B;apply C;clear C;show aI _ _ (call (.builtin "str.find") [_,_,_,_]) _ _ _;refine call_gives F.slot_str_find (yb _ _ _) F.entry_str_find (F.args_str_find_4 _ _ _ _) (QaF _ _ _ _ _ _ _ _ q.1.1 q.1.2 q.2) ?_;exact O _ _ (Ext.tok _)<|.int _ _
theorem QaI:pW W .lower :=by
 intro A n X s v o vs ds d Q O M H L h B r D;refine ah (bO.mp h) λx C h'=>?_;clear h;have:=gy C;clear C;subst this;split at h'<;>cases h';rename_i q;simp only[bo,bH,n8]at q;have:=q.1;subst this;refine ah B.str_inv λt G _=>?_;clear B;subst G;cases r.none;have e:tooLong (xR x).length =ae:=by simp only[tooLong,decide_eq_false_iff_not];exact af eu<|aH 0x26002082082082089182892682640 Yt q.2
 refine SC.lower e<|D _ _ (Ext.tok _)<|.str _ _<|by simp only[eu];exact yM q.2
theorem QaJ:pW W .join :=by
 intro A n X s v o vs ds d Q am b0 i w h H r Y;refine aE λB=>?_;refine ah (bO.mp h) λf O h'=>?_;obtain⟨x,l⟩:=f;clear h;refine ah (bO.mp h') λD hs h'=>?_;have:=gy (cV O).1;subst this;refine dJ (r.of1 (cV O).2) λu e b L U=>?_;clear r;subst b;have:=lk L;clear L;subst this;apply B;clear B;split at h'<;>cases h';refine aE λB=>?_;rename_i q;simp only[bo,bH]at q;refine ah H.str_inv λt C _=>?_;clear H;subst C;refine dy U.list_inv λa m c g z j M=>?_;subst g;refine ah (Qax hs M) λG C e=>?_;clear j M;subst C;have T:((G.map (·.1)).map λp:ao=>p.cps.toList)=D:=by simp only[<-e,fg];rfl
 apply B;clear B;refine SC.join ⟨_,dZ z,rfl,m,rfl⟩ rfl (QaB q.1<|by refine af T ?_;exact q.2) λt' k=>?_;have y:Txt.join x (G.map (·.1))=a8 (cB x.cps.toList D):=by refine bT T ?_;rw[<-Qay,wF];exact StrLaws.glued_eq_join _ _
 refine af y ?_;refine Y _ _ (Ext.tok _)<|.str _ _ ?_;simp only[kE,eu];exact yM q.2
theorem Rep.unique(r:Rep g v d):∀{B},Rep g v B->d=B:=by
 induction r with
 |none=>intro B q;cases q;rfl
 |bool b=>intro B q;cases q;rfl
 |int i t=>intro B q;cases q;rfl
 |str x t _=>intro B q;cases q;rfl
 |list vs D U T _ L=>
  intro B q;cases q with
  |list C k1 k2 H G=>
   rw[D]at k1;obtain rfl:vs=C:=by injection k1 with k1;injection k1 with _ _ k1;injection k1 with k1;exact congrArg E2 k1
   exact congrArg _<|V5 (T.symm.trans H) λi O M=>L i vs[i] _ (by simp) (ee O)<|G i vs[i] _ (by simp)<|ee M
  |tuple C k1=>rw[D]at k1;injection k1 with k1;injection k1 with k1;injection k1 with k1;exact absurd k1 (by decide)
 |tuple vs D U T _ L=>
  intro B q;cases q with
  |list C k1=>rw[D]at k1;injection k1 with k1;injection k1 with k1;injection k1 with k1;exact absurd k1 (by decide)
  |tuple C k1 k2 H G=>
   rw[D]at k1;obtain rfl:vs=C:=by injection k1 with k1;injection k1 with _ _ k1;injection k1 with k1;exact congrArg E2 k1
   exact congrArg _<|V5 (T.symm.trans H) λi O M=>L i vs[i] _ (by simp) (ee O)<|G i vs[i] _ (by simp)<|ee M
def CN(g:zr)(x:ak)(v:aq):Bool:=by classical exact decide (∃d,Rep g v d/\gJ d x=ac)
theorem Qp(r:Rep g v d):CN g x v=gJ d x:=by
 classical
 show decide _=_;rw[iu,decide_eq_true_iff];exact⟨λ⟨e,C,B⟩=>r.unique C▸B,λh=>⟨d,r,h⟩⟩
theorem QaK(r:RepL g vs ds):vs.countP (CN g x)=ds.countP λy=>gJ y x:=by
 induction r with
 |nil=>rfl
 |cons h _ B=>simp only[V6,Qp h,B]
theorem RepL.mem(r:RepL g vs ds)(h:v∈vs):∃d∈ds,Rep g v d:=by
 induction r with
 |nil=>cases h
 |cons a _ B=>
  refine(bF.mp h).elim (λe=>?_) λh=>?_
  ·exact⟨_,dU,e▸a⟩
  ·exact ah (B h) λd D C=>⟨d,bB _ D,C⟩
theorem QaL:pW W .count :=by
 intro A n X s v o vs ds d Q i b0 hX hT h r T t;refine aE λM=>?_;refine ah (bO.mp h) λw H h'=>?_;obtain⟨l,x⟩:=w;refine aG (mQ.mp h') λq h'=>?_;obtain rfl:=aw h';clear h h';have:=lk (cV H).1;subst this;have:=lc (cV H).2;subst this;refine dy r.list_inv λa m B f G h2 D=>?_;subst f;refine ah T.one λu c O=>?_;subst c;simp only[bo,du]at q;have z:=i.units;refine aF (O.reads λa o e=>dZ e) λp U=>?_;have L:=wI q.1;apply M;clear M;show aI _ _ (call (.builtin "list.count") [.ref a,u]) _ _ _;refine ve PySem.F.slot_list_count ⟨_,dZ G,rfl⟩ PySem.F.entry_list_count (PySem.F.args_list_count_2 _ _) (PySem.SeqAt.list_countAt a B.toArray m ab #[] u (CN (mask X s.heap) x)) ⟨dZ G,λy j=>?_,?_⟩
 ·refine ah (D.mem<|by simpa using j) λd k C=>?_;have g:=wI<|q.2 d k;rw[Qp C];refine aF (C.reads λa o e=>dZ e) λb Y=>?_;exact PySem.SeqAt.eqAt_reads d x _ s y u b p Y U g.1 L.1<|qt (E5 (eR _)<|fV (Nat.min_le_right _ _) L.2)<|by show A.units+1+8<cLine;exact qt (by exact ig 0x60e28890d32122400c2243240 Yt) z
 ·show Q (.int ((B.countP (CN (mask X s.heap) x):Nat):Int) s.toks) _;rw[QaK D];exact t _ _ (Ext.tok _)<|.int _ _
theorem Qq:∀(l:List<|ao×gm)(xs:List<|List Nat),l.map (λp=>p.1.cps.toList)=xs->(∀p∈l,p.1.length<=cH)->RepL g (xZ l) (xs.map λx=>.str<|a8 x):=by
 intro D;induction D with
 |nil=>intro xs h H;cases h;exact .nil
 |cons C l G=>obtain⟨y,t⟩:=C;intro xs h k;cases h;refine .cons ?_ (G _ rfl λp B=>k p (bB _ B));show Rep g (.str y t) (.str (a8 y.cps.toList));rw[wF];exact .str _ _ (k (y,t) dU)
theorem QaM(C:List Nat)(hs:0<C.length):∀(n:Nat)(B x:List Nat),x.length<=n->(∀i,¬C.isPrefixOf (x.drop i)=ac)->kz C n B x=[B++x]:=by
 intro H;induction H with
 |zero=>intro B x h D;have:x=[]:=Qk3 (Nf h);subst this;simp[oM,nr,li]
 |succ n L=>
  intro B G;cases G with
  |nil=>intro M D;simp[oM,nr,li]
  |cons c x=>intro h k;simp only[oM,nr,li];rw[av (by exact k 0),L (B++[c]) x (by simpa using h) λi=>by simpa using k (i+1)];simp
theorem QaN(h:∀c∈y.cps.toList,c∈x.cps.toList):sZ y<=sZ x:=by
 have B:∀m:Nat,x.cps.all (· <m)=ac->y.cps.all (· <m)=ac:=λm q=>by rw[<-Array.all_toList]at q⊢;rw[du]at q⊢;exact λc C=>q c<|h c C
 unfold sZ;by_cases a:x.cps.all (· <256)=ac
 ·rw[ar a,ar<|B _ a];exact iV 0x6249 Yt
 ·rw[av a];by_cases b:x.cps.all (· <65536)=ac
  ·rw[ar b];split
   ·exact iV 0x6449 Yt
   ·rw[ar<|B _ b];exact iV 0x6451 Yt
  ·rw[av b];split
   ·exact iV 0x6849 Yt
   ·split<;>(first|exact iV 0x6851 Yt|exact iV 0x6861 Yt)
theorem QaO(B:0<y.length)(h:(decide (x.length<y.length)||decide (sZ x<sZ y))=ac):jk y.cps.toList x.cps.toList=[x.cps.toList]:=by
 unfold jk;rw[QaM _ (by simp only[d8];exact aH 0x38004e001 Yt B) _ _ _<|by exact Gx]
 ·simp
 ·intro i q;have C:=vj.mp q;obtain⟨r,e⟩:=C;simp only[n7,bH]at h;refine fI h (λh=>?_) λh=>?_
  ·have:=congrArg dG e;simp only[cw,fX,d8]at this;exact jO 0x1561014a08a089142282289b8104e0013804162d8403200 Yt B h this
  ·have:sZ y<=sZ x:=QaN λc D=>AY (by refine bT e ?_;exact sY _ D);exact bS 0x2e041380206200 Yt h this
theorem QaP(H:List Nat):∀(n:Nat)(B x:List Nat),∀l∈kz H n B x,l.length<=B.length+x.length:=by
 intro L;induction L with
 |zero=>intro B x l h;simp[oM,nr,li]at h;subst h;exact yN
 |succ n C=>
  intro B G;cases G with
  |nil=>intro l h;simp[oM,nr,li]at h;subst h;exact yN
  |cons c x=>
   intro l h;simp only[oM,nr,li]at h;split at h
   ·refine fI (bF.mp h) (λD=>?_) λh=>?_
    ·clear h;subst D;exact yN
    ·have:=C _ _ l h;simp only[fX,eK,kg]at this⊢;exact nk 0x1540324814a08a24508a2891830c92180060cb403248040 Yt this
   ·have:=C _ _ l h;simp only[cw,eK,kg]at this⊢;exact fS 0x1830c94080060d00c3241200 Yt this
theorem QaQ(C:List Nat)(hs:0<C.length):∀(n:Nat)(B x:List Nat),(kz C n B x).length <=x.length+1:=by
 intro H;induction H with
 |zero=>intro B x;simp[oM,nr,li]
 |succ n D=>
  intro B G;cases G with
  |nil=>simp[oM,nr,li]
  |cons c x=>
   simp only[oM,nr,li];split
   ·have:=D []<|(c::x).drop C.length;simp only[fX,eK]at this⊢;exact fN 0x5500c920528228224508a28a2460c90c92032403900460c92d00c9200 Yt hs this
   ·have:=D (B++[c]) x;simp only[eK]at this⊢;exact bD 0x1832432480060c9200 Yt this
theorem Qr(k:W.Ok)(B:y.length≠0)(C:x.length<=100000)(h:∀(a:aj)(H:aC),Ext W s H->s.heap.objs.size<=a->(∃(n:Nat)(l:List<|ao×gm),H.heap.get? a=aa {cls:=.type "list",data:=.seq (xZ l).toArray n}/\l.length<=cH/\l.map (λp=>p.1.cps.toList)=jk y.cps.toList x.cps.toList/\∀p∈l,p.1.length<=cH)->Q (.ref a) H): aI (aR W.prog W.w) A (call (.builtin "str.split") [.str x t,.str y u]) Q a9 s:=by
 have M:(y.length==0)=ae:=by simpa using B
 have eN:(jk y.cps.toList x.cps.toList).length <=cH:=by have:=QaQ y.cps.toList (by simp only[d8];exact wd B) (x.cps.toList.length+1) [] x.cps.toList;simp only[eu];unfold jk;rw[d8]at this⊢;exact bS 0x1820820820820890060a249a0992060c9200 Yt C this
 have O:(partsBetween x (occurrences x y 0 x.length<|x.length+1) y.length).length <=cH:=by have:=congrArg dG<|H0 x y<|wd B;rw[b8]at this;exact fN 0x6400190216200 Yt eN this
 have one:jk y.cps.toList x.cps.toList=[x.cps.toList]->∀(n:Nat),∃(m:Nat)(l:List<|ao×gm),(s.heap.push {cls:=.type "list",data:=.seq [Value.str x t].toArray n}).get? s.heap.objs.size=aa {cls:=.type "list",data:=.seq (xZ l).toArray m}/\l.length<=cH/\l.map (λp=>p.1.cps.toList)=jk y.cps.toList x.cps.toList/\∀p∈l,p.1.length<=cH:=λe n=>by refine(qS n ([(x,t)]) (kT _ rfl) (by simp only[eu];simp) (by simp only[e];rfl)<|λp D=>?_);simp only[eW]at D;subst D;refine af eu ?_;show x.length<=_;exact yM C
 cases G:(decide (x.length<y.length)||decide (sZ x<sZ y))
 ·cases L:(occurrences x y 0 x.length<|x.length+1).isEmpty
  ·refine ve F.slot_str_split (yb _ _ _) F.entry_str_split (F.args_str_split_2 _ _) (meets_str_split_sep x y t u G M L (by refine af eu ?_;exact yM C) O) ?_;show wants Q a9 _ {s with toks:=_,heap:=s.heap.push {cls:=.type "list",data:=.seq (strsFrom s.toks<|partsBetween x (occurrences x y 0 x.length<|x.length+1) y.length).toArray}};rw[strsFrom_eq];have e:(numbered s.toks<|partsBetween x (occurrences x y 0 x.length<|x.length+1) y.length).map (λp=>p.1.cps.toList)=jk y.cps.toList x.cps.toList:=by
    have:=numbered_texts s.toks<|partsBetween x (occurrences x y 0 x.length<|x.length+1) y.length;rw[<-H0 x y (wd B)];conv=>rhs;rw[<-this]
    rw[fg];rfl
   refine h _ _ (Ext.push k _ _) (eR _)<|qS _ _ (kT _ rfl) ?_ e<|λp D=>?_
   ·have:=congrArg dG e;rw[b8]at this;exact fN 0x6400190216200 Yt eN this
   ·have:p.1.cps.toList∈jk y.cps.toList x.cps.toList:=by exact bT e (gk.mpr<|br p D rfl)
    have:=QaP _ _ _ _ _ this;rw[d8,d8]at this;refine af eu ?_;simp at this;exact bS 0x1820820820820890060a249a099206200 Yt C this
  ·refine ve F.slot_str_split (yb _ _ _) F.entry_str_split (F.args_str_split_2 _ _) (meets_str_split_not_found x y t u G M L) ?_;exact h _ _ (Ext.push k _ _) (eR _)<|one (Qad x y L<|wd B) 0
 ·refine ve F.slot_str_split (yb _ _ _) F.entry_str_split (F.args_str_split_2 _ _) (meets_str_split_cannot_occur x y t u G) ?_;refine h _ _ (Ext.push k _ _) (eR _)<|one (QaO (wd B) G) 0
theorem QaR(k:W.Ok):pW W .split :=by intro A n X s v o vs ds d Q i c O b h C r T;refine aE λH=>?_;refine ah (bO.mp h) λg G h'=>?_;obtain⟨x,y⟩:=g;clear h;have:=gy (cV G).1;subst this;refine dJ (r.of1 (cV G).2) λu e p D L=>?_;clear r;subst p;have:=gy D;clear D;subst this;apply H;clear H;split at h'<;>cases h';rename_i q;simp only[n7,bJ,bH,not_or]at q;refine ah C.str_inv λt B _=>?_;clear C;subst B;refine ah L.str_inv λt' B _=>?_;subst B;refine Qr k q.1 (No q.2) λa f x M ⟨n,l,z,j,Y,U⟩=>T _ _ x ?_;refine Rep.mkList (cy.mpr ⟨λm=>?_,z⟩) (by simpa[xZ]using j)<|Qq l _ Y U;exact qr _<|lZ (O a m) M
end
end
section
theorem CP(k:Option Int)(dflt n:Nat)(A:dflt<=n):lh k dflt n=k.elim dflt (clipAt n):=by
 cases k with
 |none=>rfl
 |some i=>show min n (max 0 (if i<0 then i+n else i)).toNat =(max 0 (min (if i<0 then i+n else i) n)).toNat;exact Y9 n _
theorem QaS(items:List aq)(lo A:Option Int):slicePick items.toArray lo A ab=(fk items lo A).toArray :=by rw[slicePick_plain];unfold fk;rw[CP _ _ _<|eR _,CP _ _ _<|kh _,V7];simp
theorem Qs(lo A:Option Int)(n:Nat):KY lo A 1 n=(bv<|lh A n n-lh lo 0 n).map (lh lo 0 n+·):=by
 have e:KY lo A 1 n=sliceRange (sliceBounds lo A ab n).1 (sliceBounds lo A ab n).2.1 1:=by cases lo<;>cases A<;>rfl
 refine af e ?_;rw[sliceBounds_plain,CP _ _ _<|eR _,CP _ _ _<|kh _];simp only[sliceRange_one]
theorem QaT(k:Option Int)(d n:Nat)(h:d<=n):lh k d n<=n:=by
 unfold lh;split
 ·exact h
 ·exact W0 0x36cec004014208a08a245082282089180d2cec0040 [_] [_] Yt
theorem QaU(x:ao)(lo A:Option Int):(⟨((KY lo A 1 x.length).filterMap (x.cps[·]?)).toArray⟩:ao)=a8 (fk x.cps.toList lo A):=by rw[Qs];simp only[pick_run];unfold a8 fk;rw[d8,V7]
theorem QaV(x:ao)(lo A:Option Int)(h:(KY lo A 1 x.length).length =x.length):a8 (fk x.cps.toList lo A)=x:=by
 rw[Qs]at h;simp only[b8,E6]at h;have B:=QaT A x.length x.length<|eR _;unfold fk;rw[d8];by_cases q:x.length=0
 ·have e:x.cps.toList=[]:=Qk3 (by rw[d8];exact q);conv=>rhs;rw[<-wF x]
  refine af e ?_;simp
 ·have D:lh lo 0 x.length=0:=mv 0x55021d64528a08224525d04528228228914958143600b40818023e040 Yt h B q;have C:lh A x.length x.length=x.length:=fN 0x55001d04528208208914a28208974114a082082245282282256200d882d0006200 Yt h B;refine af D<|af C ?_;rw[vg,rG (by rw[d8];exact eR _),wF]
section
variable {prog:pu} {w:d9} {A:cX} {E:aq->aC->Prop} {s:aC} {env:bu}
def rf(T:String):Prop:=∃id,typeLookup (.type T) "__getitem__"=pure (aa (.builtin id))
theorem zx:rf "list":=⟨_,slot_list_getitem.lookup⟩
theorem Qt:rf "str":=⟨_,F.slot_str_getitem.lookup⟩
theorem QaW:rf "tuple":=⟨_,F.slot_tuple_getitem.lookup⟩
theorem QaX:rf "dict":=⟨_,F.slot_dict_getitem.lookup⟩
theorem QaY:(∀a b p,sl≠.Slice a b ab p)->subscripted sl ae o i=operate [o,i] (rH o i):=by
 cases sl using yc with
 |Slice a b st p=>cases st with
  |none=>exact λh=>absurd rfl (h a b p)
  |some e=>exact λ_=>rfl
 |_=>exact λ_=>rfl
theorem zy(j:∀a b p,sl≠.Slice a b ab p)(h:aI (aR prog w) A (eval value env) (λo H=>aI (aR prog w) A (eval sl env) (λi B=>(∃T,rf T/\B.TypeIs o T)/\aI (aR prog w) A (rH o i) Q E B) E H) E s): aI (aR prog w) A (eval (.Subscript value sl pos) env) Q E s:=by
 rw[arm_eval_Subscript];refine bI (qu h (λo H O=>bI<|E7<|qu O (λi B L=>bI<|s7 ?_) λ_ _ x=>x)
  λ_ _ x=>x)
 refine aG L λz Y=>?_;obtain⟨T,⟨id,U⟩,G⟩:=z;refine bI ?_;refine af (Qk4 G.not_modules) ?_;refine bI<|wpAny_specialOf G U ?_;have C:aI (aR prog w) A (operate [o,i]<|rH o i) (λr D=>aI (aR prog w) A (letTemporaryGo value o r>>=λ_=>pure r) Q E D) E B:=wpAny_operating<|qu Y (λr D M=>bI<|Qk5<|d6 M) λ_ _ x=>x;have e:subscripted sl ae o i=operate [o,i] (rH o i):=QaY j;refine d6<|bI ?_;refine af e ?_;exact C
theorem QaZ{B:au}{lo H:Option au}{Q:aq->aC->Prop}(h:aI (aR prog w) A (eval B env) (λo M=>aI (aR prog w) A (eval (.Slice lo H ab p) env) (λi C=>(∃T,rf T/\C.TypeIs o T)/\aI (aR prog w) A (rH o i) Q E C) E M) E s): aI (aR prog w) A (eval (.Subscript B (.Slice lo H ab p) pos) env) Q E s:=by
 rw[arm_eval_Subscript];refine bI (qu h (λo M Y=>bI<|E7<|qu Y (λi C O=>bI<|s7 ?_) λ_ _ x=>x)
  λ_ _ x=>x)
 refine aG O λq z=>?_;obtain⟨T,⟨id,j⟩,L⟩:=q;refine bI ?_;refine af (Qk4 L.not_modules) ?_;refine bI<|wpAny_specialOf L j ?_;have D:aI (aR prog w) A (operate [i,o]<|rH o i) (λr G=>aI (aR prog w) A (letTemporaryGo B o r>>=λ_=>pure r) Q E G) E C:=wpAny_operating<|qu z (λr G U=>bI<|Qk5<|d6 U) λ_ _ x=>x;exact d6<|bI D
end
section
variable {W:Wd} {A:cX} {X:List aj} {s:aC} {Q:aq->aC->Prop} {n:Nat}
theorem CQ(h:e9 k n=aa j):seqIndex? k n=aa j/\ -(n:Int)<=k/\k<n/\j<n:=by
 unfold e9 at h;unfold seqIndex?;split at h<;>rename_i q
 ·split at h<;>cases h;rename_i B;have:¬k<0:=B0 q;simp only[this,if_false];rw[ar<|by simp only[bo,bH];exact⟨q,by exact pN 0x3ec0003ec000 Yt B⟩];exact⟨rfl,pN 0x1c0f2c007001 Yt q,by exact pN 0x3ec0003ec000 Yt B,by exact pM 0xd4014a08a28914a08228224e02c0070013ec000 Yt q B⟩
 ·split at h<;>cases h;rename_i B;have:k<0:=we q;simp only[this,if_true];rw[ar<|by simp only[bo,bH];exact⟨pN 0x1c3b000011c3b00001 Yt B,pN 0x3ec003b0001f001 Yt q⟩];exact⟨rfl,by exact pN 0x703cb001c3b00001 Yt B,pN 0xfb0001f001 Yt q,by exact pM 0x350ec00014a08a28914a082289380b03b0001f0011c3b00001 Yt q B⟩
theorem Qa0(h:e9 k n=aa j):(0<=k->j=k.toNat)/\(k<0->j=(k+n).toNat):=by
 unfold e9 at h;by_cases q:0<=k
 ·rw[ar q]at h;refine⟨λ_=>?_,λC=>W2 0x508a256b03b080001c004f040 [_,_] [_] Yt q C⟩;by_cases B:k<n
  ·rw[ar B]at h;obtain rfl:=aw h;rfl
  ·rw[av B]at h;injection h
 ·rw[av q]at h;refine⟨λC=>absurd C q,λ_=>?_⟩;by_cases B:0<=k+n
  ·rw[ar B]at h;obtain rfl:=aw h;rfl
  ·rw[av B]at h;injection h
theorem RepL.getSome{g:zr}{vs:List aq}{ds:List ak}(r:RepL g vs ds){i:Nat}(h:ds[i]?=aa d):∃v,vs[i]?=aa v/\Rep g v d:=by
 have B:i<vs.length:=by exact af r.length<|(mS.mp h).1
 exact⟨vs[i],by simp[B],r.at i _ d (by simp[B]) h⟩
theorem RepB.takes(h:idx2 o u=aa d)(r:RepB X s.heap v o):∃T,rf T/\s.TypeIs v T:=by
 obtain⟨_,_,⟨_,rfl,_⟩|⟨_,rfl,_⟩|⟨_,rfl,_⟩⟩:=O4 h
 ·refine ky r.list_inv λa m D C B _=>?_;subst C;exact⟨_,zx,_,B,rfl⟩
 ·refine ky ((r.other<|by intro _ q;cases q).tuple_inv) λa m D C B _=>?_;subst C;exact⟨_,QaW,_,dZ B,rfl⟩
 ·refine ah ((r.other<|by intro _ q;cases q).str_inv) λt G _=>?_;subst G;exact(br _ Qt<|yb _ _ _)
theorem Qa1{v u:aq}(h:idx2 o k=aa d)(r:RepB X s.heap v o)(g:Rep (mask X s.heap) u k)(y:jT W X s d Q):aI (aR W.prog W.w) A (rH v u) Q a9 s:=by
 have H:(cH:Int)<2^63:=by refine af eu ?_;decide
 obtain⟨k,rfl,⟨l,rfl,j,B,h⟩|⟨l,rfl,j,B,h⟩|⟨x,rfl,j,c,B,hc,rfl⟩⟩:=O4 h
 ·refine dy r.list_inv λa m w f p T O=>?_;subst f;refine aF g.int_inv λt G=>?_;subst G
  ·refine yZ (CQ B) λe L M Y=>?_;refine ah (O.getSome h) λx D U=>?_;have C:=O.length;have kZ:s.heap.IsList a w.toArray:=⟨_,p,rfl,_,rfl⟩;refine aG (Qa0 B) λi b=>?_;by_cases z:0<=k
   ·have:=i z;clear B h e Y i b;subst this;exact V8 kZ z (Np H T M C) (by simpa using D)<|y _ _ (Ext.refl _ _) U
   ·have:=b<|we z;clear B h e Y i b;subst this;refine wpAny_getItem_list_neg kZ (we z) (by simp;exact W2 0x703cb001c0f2c236200 [_,_] [_] Yt L C) (Nq H T L C) ?_<|y _ _ (Ext.refl _ _) U;rw[og];refine af C ?_;simpa using D
 ·refine dy ((r.other<|by intro _ q;cases q).tuple_inv) λa m w f p T O=>?_;subst f;refine aF g.int_inv λt G=>?_;subst G
  ·refine yZ (CQ B) λe L M Y=>?_;refine ah (O.getSome h) λx D U=>?_;have C:=O.length;refine PyProof.Rows.getItem_tuple ⟨_,dZ p,rfl,_,rfl⟩ (Nq H T L C) (Np H T M C) ?_ (by simpa using D)<|y _ _ (Ext.refl _ _) U;rw[og];exact af C e
 ·refine ah ((r.other<|by intro _ q;cases q).str_inv) λt G D=>?_;subst G;refine aF g.int_inv λt' G=>?_;subst G
  ·refine yZ (CQ B) λe L M Y=>?_
   ·refine P.getItem_str (by simp;exact⟨W3 0x1c0f0208208208208208208208208208208224f082082082082082082082082082082089b0818800703cb00 [_,_] [_] Yt H D L,W3 0x3c20820820820820820820820820820822403c208208208208208208208208208208226c2062003ec000 [_,_] [_] Yt H D M⟩) ?_ (y _ _ (Ext.tok _)<|.str _ _<|by refine af eu ?_;simp[vd,a8]);refine af e ?_;simpa using hc
theorem Qu(h:my d=aa k)(r:Rep g v d):IsPart v k/\∃p:Option<|Int×gm,v=partValue p/\p.map (·.1)=k:=by
 cases d using n6 with
 |none=>obtain rfl:=aw h;cases r.none_inv;exact⟨.none,ab,rfl,rfl⟩
 |int i=>refine aG (jP h) λ_ e=>?_;obtain rfl:=aw e;clear h e;refine aF r.int_inv λt B=>?_;subst B;exact⟨.int _ _,aa (_,t),rfl,rfl⟩
 |_=>exact nA h
theorem Qv(h:iG o a b=aa d)(r:Rep (mask X s.heap) v o):∃T,rf T/\s.TypeIs v T:=by
 obtain⟨_,_,_,_,⟨_,rfl,_⟩|⟨_,rfl,_⟩⟩:=O5 h
 ·refine ky r.list_inv λa m G C B _=>?_;subst C;exact⟨_,zx,_,dZ B,rfl⟩
 ·refine ah r.str_inv λt D _=>?_;subst D;exact(br _ Qt<|yb _ _ _)
theorem RepL.slice(r:RepL g vs ds)(lo B:Option Int):RepL g (fk vs lo B)<|fk ds lo B:=by unfold fk;exact af r.length<|(r.take _).drop _
theorem Qw(l:List α)(lo B:Option Int):(fk l lo B).length <=l.length:=by unfold fk;simp only[fX,l6];exact N0 0x34801543420014a08208208224508a082282089550d0800528208208208914228208a08a24620b434200 [_,_,_] Yt
theorem Qa2(k:W.Ok)(hX:∀a∈X,a<s.heap.objs.size)(hT:∀a∈W.T,a∈X)(h:iG o a b=aa d)(r:Rep (mask X s.heap) v o)(U:Rep (mask X s.heap) H a)(T:Rep (mask X s.heap) G b)(D:jT W X s d Q):aI (aR W.prog W.w) A (rH v<|.ref s.heap.objs.size) Q a9 {s with heap:=s.heap.push {cls:=.type "slice",data:=.fields #[H,G,.none]}}:=by
 have x1:Ext W s {s with heap:=s.heap.push {cls:=.type "slice",data:=.fields #[H,G,.none]}}:=Ext.push k _ _;refine dJ (O5 h) λl B e1 e2 w=>?_;obtain⟨z,Y,M,c⟩:=Qu e1 U;obtain⟨j,C,L,f⟩:=Qu e2 T;clear h;rcases w with⟨xs,rfl,rfl⟩|⟨x,rfl,rfl⟩
 ·refine dy r.list_inv λa m O bW h1 g h3=>?_;subst bW;have i:s.heap.IsList a O.toArray:=⟨_,dZ h1,rfl,_,rfl⟩;refine wpAny_getItem_list_slice (i.push _) (Heap.IsSliceOf.new ..) z j .none (by simp) ?_ (by simpa using g);rw[QaS];refine D _ _ (x1.trans<|Ext.push k _ _) ?_;have x2:Ext W s {s with heap:=(s.heap.push {cls:=.type "slice",data:=.fields #[H,G,.none]}).push {cls:=.type "list",data:=.seq (fk O l B).toArray}}:=x1.trans<|Ext.push k _ _;refine Rep.mkList (cy.mpr ⟨λm=>?_,kT _ rfl⟩) (fV (Qw _ _ _) g)<|x2.repL hT<|h3.slice l B;have q:=hX _ m;rw[V9]at q;exact Nat.not_succ_le_self _<|KN q
 ·refine ah r.str_inv λt an y=>?_;subst an;clear U z;subst M;clear T j;subst L;refine wpAny_getItem_str_slice (l:=Y) (u:=C) (st:=ab) ⟨_,kT _ rfl,rfl,rfl⟩ rfl ?_;have e:(⟨((Wa x Y C ab).filterMap (x.cps[·]?)).toArray⟩:ao)=a8 (fk x.cps.toList l B):=by
   unfold Wa;refine af c<|af f ?_;exact QaU x l B
  have p:(a8<|fk x.cps.toList l B).length <=cH:=by rw[kE];have:=Qw x.cps.toList l B;rw[d8]at this;exact fN 0x6400190206200 Yt y this
  unfold sliceMade;refine af e ?_;split
  ·rename_i q;have:a8 (fk x.cps.toList l B)=x:=by
    simp only[Option.map_none,Option.getD_none,bo,bJ]at q;have C:=q.2;unfold Wa at C;rw[c,f]at C;exact QaV x l B C
   rw[this]at D;exact D _ _ x1<|.str _ _ y
  ·exact⟨p,D _ _ (x1.trans<|Ext.tok _)<|.str _ _ p⟩
end
end
section
section
variable {T:Tabs} {O:bC} {W fu:Nat} {f f':Frm} {fl:Fl} {d:ak}
theorem b1{α β:Type}{o:Option α}{g:α->Option β}{d:β}(h:o.bind g=aa d):∃a,o=aa a/\g a=aa d:=bO.mp h
theorem oV{α β:Type}{o:Option α}{g:α->β}{d:β}(h:o.map g=aa d):∃a,o=aa a/\d=g a:=ah (cv.mp h) λa B A=>⟨a,B,A.symm⟩
theorem mC{g:Frm}{x:Fl}(h:aa (x,g)=aa (fl,f')):fl=x/\f'=g:=aG (dc<|aw h) λB A=>⟨B.symm,A.symm⟩
theorem ei{β:Type}{d:β}{P:Prop}(h:ab=aa d):P:=nomatch h
theorem uE{e:ME}(h:ai T O fu e f=aa d):∃n,ai T O (n+1) e f=aa d:=by cases fu with|zero=>exact ei h|succ n=>exact⟨n,h⟩
theorem uT{e:ME}{b:Bool}(h:aS T O fu e f=aa b):∃n,aS T O (n+1) e f=aa b:=by cases fu with|zero=>exact ei h|succ n=>exact⟨n,h⟩
theorem uI{e:ME}{b:List ak}(h:cC T O fu e f=aa b):∃n,cC T O (n+1) e f=aa b:=by cases fu with|zero=>exact ei h|succ n=>exact⟨n,h⟩
theorem uS{s:MS}{r:Fl×Frm}(h:bK T O W fu s f=aa r):∃n,bK T O W (n+1) s f=aa r:=by cases fu with|zero=>exact ei h|succ n=>exact⟨n,h⟩
theorem Qx{s:List MS}{r:Fl×Frm}(h:bt T O W fu s f=aa r):∃n,bt T O W (n+1) s f=aa r:=by cases fu with|zero=>exact ei h|succ n=>exact⟨n,h⟩
theorem m2{β:Type}{o:Option ak}{g:ak->Option β}{d:β}(h:(match o with|some a=>g a|none=>ab)=aa d):∃a,o=aa a/\g a=aa d:=by
 cases o with
 |none=>exact ei h
 |some a=>exact⟨a,rfl,h⟩
theorem m3{β:Type}{o:Option<|List ak}{g:List ak->Option β}{d:β}(h:(match o with|some a=>g a|none=>ab)=aa d):∃a,o=aa a/\g a=aa d:=by
 cases o with
 |none=>exact ei h
 |some a=>exact⟨a,rfl,h⟩
theorem m5{β:Type}{o:Option Nat}{g:Nat->Option β}{d:β}(h:(match o with|some a=>g a|none=>ab)=aa d):∃a,o=aa a/\g a=aa d:=by
 cases o with
 |none=>exact ei h
 |some a=>exact⟨a,rfl,h⟩
theorem rg{β:Type}{o p:Option ak}{g:ak->ak->Option β}{d:β}(h:(match o with|some a=>(match p with|some b=>g a b|none=>ab)|none=>ab)=aa d):∃a b,o=aa a/\p=aa b/\g a b=aa d:=ah (m2 h) λa B h=>ah (m2 h) λb A h=>ji a b B A h
theorem m4{β:Type}{o:Option Bool}{x y:Option β}{d:β}(h:(match o with|some ac=>x|some ae=>y|none=>ab)=aa d):∃c,o=aa c/\(if c then x else y)=aa d:=by
 cases o with
 |none=>exact ei h
 |some a=>exact⟨a,rfl,by cases a<;>exact h⟩
theorem Qy{α:Type}{o:Option ak}{g:Int->Option α}{r:α}(h:(match o with|some (.int i)=>g i|_=>ab)=aa r):∃i,o=aa (.int i)/\g i=aa r:=by
 cases o with
 |none=>exact ei h
 |some x=>revert h;cases x using n6<;>first|exact λh=>ei h|exact λh=>⟨_,rfl,h⟩
theorem Qz{α:Type}{o:Option ak}{g:List ak->Option α}{r:α}(h:(match o with|some (.list i)=>g i|_=>ab)=aa r):∃i,o=aa (.list i)/\g i=aa r:=by
 cases o with
 |none=>exact ei h
 |some x=>revert h;cases x using n6<;>first|exact λh=>ei h|exact λh=>⟨_,rfl,h⟩
theorem Qa3{α:Type}{o:Option ak}{g:List ak->Option α}{r:α}(h:(match o with|some (.tuple i)=>g i|_=>ab)=aa r):∃i,o=aa (.tuple i)/\g i=aa r:=by
 cases o with
 |none=>exact ei h
 |some x=>revert h;cases x using n6<;>first|exact λh=>ei h|exact λh=>⟨_,rfl,h⟩
theorem mii{α:Type}{o p:Option ak}{g:Int->Int->Option α}{r:α}(h:(match o,p with|some (.int a),aa (.int b)=>g a b|_,_=>ab)=aa r):∃a b,o=aa (.int a)/\p=aa (.int b)/\g a b=aa r:=by
 cases o with
 |none=>exact ei h
 |some x=>
  revert h;cases x using n6 with
  |int a=>
   cases p with
   |none=>exact λh=>ei h
   |some y=>cases y using n6<;>first|exact λh=>ei h|exact λh=>ji a _ rfl rfl h
  |_=>exact λh=>ei h
theorem QA{α:Type}{o:Option FV}{g:List ak->Option α}{r:α}(h:(match o with|some (.own i)=>g i|_=>ab)=aa r):∃i,o=aa (.own i)/\g i=aa r:=by
 cases o with
 |none=>exact ei h
 |some x=>revert h;cases x using FV.casesOn<;>first|exact λh=>ei h|exact λh=>⟨_,rfl,h⟩
theorem mo1{α:Type}{o:Option FV}{p:Option ak}{g:List ak->ak->Option α}{r:α}(h:(match o,p with|some (.own xs),aa d=>g xs d|_,_=>ab)=aa r):∃xs d,o=aa (.own xs)/\p=aa d/\g xs d=aa r:=by
 cases o with
 |none=>exact ei h
 |some x=>
  revert h;cases p with
  |none=>cases x using FV.casesOn<;>exact λh=>ei h
  |some y=>cases x using FV.casesOn<;>first|exact λh=>ei h|exact λh=>ji _ y rfl rfl h
theorem mo2{α:Type}{o:Option FV}{p:Option ak}{g:List ak->List ak->Option α}{r:α}(h:(match o,p with|some (.own xs),aa (.list d)=>g xs d|_,_=>ab)=aa r):∃xs d,o=aa (.own xs)/\p=aa (.list d)/\g xs d=aa r:=by
 cases o with
 |none=>exact ei h
 |some x=>
  revert h;cases p with
  |none=>cases x using FV.casesOn<;>exact λh=>ei h
  |some y=>
   cases x using FV.casesOn with
   |own xs=>cases y using n6<;>first|exact λh=>ei h|exact λh=>ji xs _ rfl rfl h
   |_=>exact λh=>ei h
theorem uf[Decidable p](h:(if p then aa a else ab)=aa r):p/\r=a:=aG (mQ.mp h) λB A=>⟨B,(aw A).symm⟩
theorem QB(h:ai T O fu (.v i) f=aa d):f.get i=aa d:=aF (uE h) λ_ h=>h
theorem Qa7(h:ai T O fu (.bin op l r) f=aa d):∃n a b,ai T O n l f=aa a/\ai T O n r f=aa b/\bP op a b=aa d:=aF (uE h) λn h=>⟨n,rg<|gz.symm.trans h⟩
theorem Qa8{e:ME}(h:ai T O fu (.neg e) f=aa d):∃n i,ai T O n e f=aa (.int i)/\d=.int (-i):=aF (uE h) λn h=>ah (Qy<|wy.symm.trans h) λi A h=>jh n i A (aw h).symm
theorem Qa9{e:ME}(h:ai T O fu (.inv e) f=aa d):∃n i,ai T O n e f=aa (.int i)/\d=.int (-i-1):=aF (uE h) λn h=>ah (Qy<|Cu.symm.trans h) λi A h=>jh n i A (aw h).symm
theorem QC(h:ai T O fu (.cmp op l r) f=aa d):∃n a b c,ai T O n l f=aa a/\gb T O n r f=aa b/\cY op a b=aa c/\d=.bool c:=aF (uE h) λn h=>dJ (rg<|jR.symm.trans h) λa b D C h=>ah (oV h) λc B A=>Ca n a b c D C B A
theorem Qba{t a b:ME}(h:ai T O fu (.ite t a b) f=aa d):∃n c,aS T O n t f=aa c/\ai T O n (if c then a else b) f=aa d:=aF (uE h) λn h=>ah (m4<|O8.symm.trans h) λc A h=>jh n c A (by clear A;cases c<;>exact h)
theorem Qbb(h:ai T O fu (.tup es) f=aa d):∃n ds,cZ (λe=>ai T O n e f) es=aa ds/\d=.tuple ds:=aF (uE h) λn h=>⟨n,oV h⟩
theorem Qbc(h:ai T O fu (.lst es) f=aa d):∃n ds,cZ (λe=>ai T O n e f) es=aa ds/\d=.list ds:=aF (uE h) λn h=>⟨n,oV h⟩
theorem QD(h:ai T O fu (.call g es) f=aa d):∃n ds,cZ (λe=>ai T O n e f) es=aa ds/\O g ds=aa d:=aF (uE h) λn h=>⟨n,m3<|kA.symm.trans h⟩
theorem Qbd(h:ai T O fu (.bi b es) f=aa d):∃n ds,cZ (λe=>gb T O n e f) es=aa ds/\gR b ds=aa d:=aF (uE h) λn h=>⟨n,m3<|pT.symm.trans h⟩
theorem Qbe{es:List ME}(h:ai T O fu (.meth m o es) f=aa d):∃n a ds,ai T O n o f=aa a/\cZ (λe=>ai T O n e f) es=aa ds/\gS m a ds=aa d:=aF (uE h) λn h=>ah (m2<|kC.symm.trans h) λa B h=>ah (m3 h) λds A h=>B7 n a ds B A h
theorem Qbf(h:ai T O fu (.idx o i) f=aa d):∃n a k,gb T O n o f=aa a/\ai T O n i f=aa k/\idx2 a k=aa d:=aF (uE h) λn h=>⟨n,rg<|Cv.symm.trans h⟩
theorem Qbg{o l u:ME}(h:ai T O fu (.sl o l u) f=aa d):∃n a b c,ai T O n o f=aa a/\ai T O n l f=aa b/\ai T O n u f=aa c/\iG a b c=aa d:=aF (uE h) λn h=>ah (m2<|O7.symm.trans h) λa C h=>dJ (rg h) λb c B A h=>Ca n a b c C B A h
theorem QE{o:Option<|List ak}{d:ak}(h:pS o=aa d):∃ds,o=aa ds/\ds.length<=100000/\d=.list ds:=ah (b1 h) λds C h=>aG (uf h) λB A=>⟨ds,C,B,A⟩
theorem Qbh{src:List<|Option Nat}{A:List ME}(h:ai T O fu (.comp src t elt it A) f=aa d):∃n xs ds,cC T O n it f=aa xs/\gL (rc (λg=>ai T O n elt g)<|λg=>iH (λc=>aS T O n c g) A) (bU f src) t xs=aa ds/\ds.length<=100000/\d=.list ds:=aF (uE h) λn h=>ah (b1<|HF.symm.trans h) λxs G h=>nl (QE h) λds D C B=>jj n xs ds G D C B
theorem Qbi{src:List<|Option Nat}{t u:Nat}{elt it jt:ME}{A:List ME}(h:ai T O fu (.comp2 src t u elt it jt A) f=aa d):∃n xs ds,cC T O n it f=aa xs/\gL (λg=>(cC T O n jt g).bind λys=>gL (rc (λg=>ai T O n elt g)<|λg=>iH (λc=>aS T O n c g) A) g u ys) (bU f src) t xs=aa ds/\ds.length<=100000/\d=.list ds:=aF (uE h) λn h=>ah (b1<|HG.symm.trans h) λxs G h=>nl (QE h) λds D C B=>jj n xs ds G D C B
theorem Qbj{i:Nat}{a b:ME}(h:ai T O fu (.idx2 i a b) f=aa d):∃n A x y,f.rows i=aa A/\ai T O n a f=aa x/\ai T O n b f=aa y/\oP A x y=aa d:=aF (uE h) λn h=>ah (b1<|Pb.symm.trans h) λA D h=>ah (b1 h) λx C h=>ah (b1 h) λy B h=>Ca n A x y D C B h
theorem QF(h:ai T O fu (.gIn t neg e) f=aa d):∃n a b,ai T O n e f=aa a/\Cp T t a=aa b/\d=.bool (b !=neg):=aF (uE h) λn h=>ah (m2<|HD.symm.trans h) λa C h=>ah (oV h) λb B A=>B7 n a b C B A
theorem Qbk(h:ai T O fu (.gGet t e) f=aa d):∃n a,ai T O n e f=aa a/\Cq T t a=aa d:=aF (uE h) λn h=>⟨n,m2<|Pc.symm.trans h⟩
theorem Qbl(h:ai T O fu (.gget t e) f=aa d):∃n a,ai T O n e f=aa a/\Cr T t a=aa d:=aF (uE h) λn h=>⟨n,m2<|Pd.symm.trans h⟩
theorem Qbm{e:ME}{b:Bool}(h:aS T O fu (.nt e) f=aa b):∃n c,aS T O n e f=aa c/\b= !c:=aF (uT h) λn h=>⟨n,oV h⟩
noncomputable def CR:ME->Bool
 | .v _=>ae
 |_=>ac
noncomputable def CT:ME->Bool
 | .nt _| .bop .. | .ite .. =>ae
 |_=>ac
noncomputable def zA:ME->Bool
 | .rng _| .rvd _=>ae
 |_=>ac
def tO(o:Option ak):Option Bool:=match o with|some d=>ey d|none=>ab
def iO(o:Option ak):Option (List ak):=match o with|some d=>ww d|none=>ab
theorem Qbn:CR m=ac->gb T O (n+1) m f=ai T O n m f:=by cases m using ME.casesOn<;>first|exact λ_=>rfl|exact λh=>gC h
theorem H6:CT m=ac->aS T O (n+1) m f=tO (ai T O n m f):=by cases m using ME.casesOn<;>first|exact λ_=>rfl|exact λh=>gC h
theorem QG:zA m=ac->cC T O (n+1) m f=iO (ai T O n m f):=by cases m using ME.casesOn<;>first|exact λ_=>rfl|exact λh=>gC h
theorem k_e{m:ME}(A:CR m=ac)(h:gb T O fu m f=aa d):∃n,ai T O n m f=aa d:=by
 cases fu with
 |zero=>exact ei h
 |succ n=>exact⟨n,(Qbn A).symm.trans h⟩
theorem H7(A:CT m=ac)(h:aS T O fu m f=aa b):∃n d,ai T O n m f=aa d/\ey d=aa b:=aF (uT h) λn h=>⟨n,m2<|(H6 A).symm.trans h⟩
theorem l_e(A:zA m=ac)(h:cC T O fu m f=aa xs):∃n d,ai T O n m f=aa d/\ww d=aa xs:=aF (uI h) λn h=>⟨n,m2<|(QG A).symm.trans h⟩
theorem Qbq{e:ME}{xs:List ak}(h:cC T O fu (.rvd e) f=aa xs):∃n ds,ai T O n e f=aa (.list ds)/\xs=ds.reverse:=aF (uI h) λn h=>ah (Qz<|Pf.symm.trans h) λds A h=>jh n ds A (aw h).symm
theorem Qbr{es:List ME}{xs:List ak}(h:cC T O fu (.rng es) f=aa xs):∃n ds,cZ (λe=>ai T O n e f) es=aa ds/\(fU ds).bind wx=aa xs:=aF (uI h) λn h=>⟨n,b1 h⟩
theorem Qbs{A:List Int}{xs:List ak}(h:wx A=aa xs):(∃b:Int,A=[b]/\(b<=100000&& -2^60<b)=ac/\xs=(mx 0 b).map .int)\/ ∃a b:Int,A=[a,b]/\(b-a<=100000&& -2^60<a&&a<2^60&& -2^60<b&&b<2^60)=ac/\xs=(mx a b).map .int :=by
 revert h;cases A with
 |nil=>exact λh=>ei h
 |cons x r=>
  cases r with
  |nil=>exact λh=>aG (uf h) λC B=>.inl (Ox x rfl C B)
  |cons y r=>cases r with
   |nil=>exact λh=>aG (uf h) λC B=>.inr (ji x y rfl C B)
   |cons z r=>exact λh=>ei h
theorem QH(h:bK T O W fu (.asg i e) f=aa (fl,f')):∃d,ai T O 40 e f=aa d/\fl=.next /\f'=f.put i (.val d):=aF (uS h) λn h=>ah (m2<|jS.symm.trans h) λd A h=>⟨d,A,mC h⟩
theorem H8{P:Prop}[Decidable P]{g:Frm}{x:Fl}(h:(if P then aa (x,g)else ab)=aa (fl,f')):P/\fl=x/\f'=g:=aG (mQ.mp h) λB A=>⟨B,mC A⟩
theorem Qbt(h:bK T O W fu (.own i<|.lst []) f=aa (fl,f')):f.flat=ac/\fl=.next /\f'=f.put i (.own []):=aF (uS h) λn h=>H8 h
theorem Qbu{i:Nat}{es:List ME}(h:bK T O W fu (.own i<|.meth .split o es) f=aa (fl,f')):∃xs a ds,ai T O 39 o f=aa a/\cZ (λe=>ai T O 39 e f) es=aa ds/\gS .split a ds=aa (.list xs)/\f.flat=ac/\fl=.next /\f'=f.put i (.own xs):=aF (uS h) λn h=>ah (Qz<|Pg.symm.trans h) λxs C h=>fx (H8 h) λD B A=>ah (m2<|kC.symm.trans C) λa H h=>ah (m3 h) λds g2 G=>Y3 xs a ds H g2 G D B A
theorem Qbv{i:Nat}{e:ME}(h:bK T O W fu (.own2 i e) f=aa (fl,f')):∃d A,ai T O 40 e f=aa d/\zk d=aa A/\f.sole i=ac/\fl=.next /\f'=f.put i (.own2 A):=aF (uS h) λn h=>ah (b1<|Ph.symm.trans h) λd H h=>ah (b1 h) λA G h=>fx (H8 h) λD C B=>G7 d A H G D C B
theorem Qbw{i:Nat}{a b e:ME}(h:bK T O W fu (.sto i a b e) f=aa (fl,f')):∃A x y z,f.rows i=aa A/\ai T O 40 e f=aa z/\ai T O 40 a f=aa x/\ai T O 40 b f=aa y/\∃B,t8 A x y z=aa B/\fl=.next /\f'=f.put i (.own2 B):=aF (uS h) λn h=>ah (b1<|Pi.symm.trans h) λA L h=>ah (b1 h) λz H h=>ah (b1 h) λx G h=>ah (b1 h) λy D h=>ah (oV h) λB C h=>wk A x y z L H G D ⟨B,C,dc h⟩
theorem Qbx{B:List Nat}{e:ME}(h:bK T O W fu (.unp B e) f=aa (fl,f')):∃ds,ai T O 40 e f=aa (.tuple ds)/\gK f B ds=aa f'/\fl=.next :=aF (uS h) λn h=>ah (Qa3<|oQ.symm.trans h) λds G h=>ah (oV h) λg D A=>aG (dc A) λA C=>Ox ds G (D.trans<|congrArg aa C.symm) A
theorem Qby{i:Nat}{op:BO}(h:bK T O W fu (.aug i op e) f=aa (fl,f')):∃a b d,f.get i=aa (.int a)/\ai T O 40 e f=aa (.int b)/\pR op a b=aa d/\fl=.next /\f'=f.put i (.val<|.int d):=aF (uS h) λn h=>dJ (mii<|zq.symm.trans h) λa b G D h=>ah (oV h) λd C h=>aG (dc h) λB A=>y7 a b d G D C B A
theorem Qbz{t:ME}{a b:List MS}(h:bK T O W fu (.ife t a b) f=aa (fl,f')):∃n c,aS T O 40 t f=aa c/\bt T O W n (if c then a else b) f=aa (fl,f'):=aF (uS h) λn h=>ah (m4<|jm.symm.trans h) λc A h=>jh n c A (by clear A;cases c<;>exact h)
theorem QbA(h:bK T O W fu (.whl t b) f=aa (fl,f')):∃n,gT (λf=>aS T O 40 t f) (λf=>bt T O W n b f) W f=aa (fl,f'):=aF (uS h) λn h=>⟨n,h⟩
theorem QbB{A:List Nat}{one:Bool}{b:List MS}(h:bK T O W fu (.forr A one it b) f=aa (fl,f')):∃n xs,cC T O 40 it f=aa xs/\gc (λf=>bt T O W n b f) (gf A one) xs f=aa (fl,f'):=aF (uS h) λn h=>⟨n,m3<|Cz.symm.trans h⟩
theorem QbC{e:ME}(h:bK T O W fu (.ret e) f=aa (fl,f')):∃d,ai T O 40 e f=aa d/\fl=.ret d/\f'=f:=aF (uS h) λn h=>ah (m2<|nF.symm.trans h) λd A h=>⟨d,A,mC h⟩
theorem QbD{i:Nat}(h:bK T O W fu (.app i e) f=aa (fl,f')):∃xs d,f[i]?=aa (.own xs)/\ai T O 40 e f=aa d/\xs.length<100000/\fl=.next /\f'=f.put i (.own<|xs++[d]):=aF (uS h) λn h=>dJ (mo1<|HE.symm.trans h) λxs d G D h=>aG (uf h) λC h=>aG (dc h) λB A=>G7 xs d G D C B A
theorem QbE{i:Nat}(h:bK T O W fu (.ext i e) f=aa (fl,f')):∃xs ds,f[i]?=aa (.own xs)/\ai T O 40 e f=aa (.list ds)/\xs.length+ds.length<=100000/\fl=.next /\f'=f.put i (.own<|xs++ds):=aF (uS h) λn h=>dJ (mo2<|HI.symm.trans h) λxs d G D h=>aG (uf h) λC h=>aG (dc h) λB A=>G7 xs d G D C B A
theorem QbF{i:Nat}(h:bK T O W fu (.rev i) f=aa (fl,f')):∃xs,f[i]?=aa (.own xs)/\fl=.next /\f'=f.put i (.own xs.reverse):=aF (uS h) λn h=>ah (QA<|ZC.symm.trans h) λxs A h=>⟨xs,A,mC h⟩
theorem QbG{i:Nat}{k:Int}(h:bK T O W fu (.del i k) f=aa (fl,f')):∃xs j,f[i]?=aa (.own xs)/\e9 k xs.length=aa j/\fl=.next /\f'=f.put i (.own<|xs.eraseIdx j):=aF (uS h) λn h=>ah (QA<|HJ.symm.trans h) λxs B h=>ah (m5 h) λj A h=>⟨xs,j,B,A,mC h⟩
theorem QbH{t:ME}(h:bK T O W fu (.asrt t) f=aa (fl,f')):aS T O 40 t f=aa ac/\fl=.next /\f'=f:=aF (uS h) λn h=>by
 generalize q:aS T O 40 t f=o;replace h:=O9.symm.trans h;rw[q]at h;cases o with
 |none=>exact ei h
 |some c=>cases c with
  |true=>exact⟨rfl,mC h⟩
  |false=>exact ei h
theorem QbI(h:bK T O W fu .brk f=aa (fl,f')):fl=.brk /\f'=f:=aF (uS h) λn h=>mC h
theorem QbJ(h:bK T O W fu .rais f=aa (fl,f')):False:=aF (uS h) λn h=>ei h
theorem QbK(h:bK T O W fu (.frz i) f=aa (fl,f')):fl=.next /\((∃xs,f[i]?=aa (.own xs)/\f'=f.put i (.val<|.list xs))\/f'=f):=aF (uS h) λn h=>by
 generalize q:f[i]?=o;replace h:=ZE.symm.trans h;rw[q]at h;cases o with
 |none=>exact aG (mC h) λB A=>⟨B,.inr A⟩
 |some v=>cases v with
  |own xs=>exact aG (mC h) λB A=>⟨B,.inl ⟨xs,rfl,A⟩⟩
  |un=>exact aG (mC h) λB A=>⟨B,.inr A⟩
  |val d=>exact aG (mC h) λB A=>⟨B,.inr A⟩
  |own2 d=>exact aG (mC h) λB A=>⟨B,.inr A⟩
theorem QbL(h:bt T O W fu [] f=aa (fl,f')):fl=.next /\f'=f:=aF (Qx h) λn h=>mC h
theorem QI{s:MS}{r:List MS}(h:bt T O W fu (s::r) f=aa (fl,f')):∃n x g,bK T O W n s f=aa (x,g)/\((x=.next /\bt T O W n r g=aa (fl,f'))\/(x≠.next /\x=fl/\g=f')):=aF (Qx h) λn h=>by
 generalize q:bK T O W n s f=o;replace h:=jn.symm.trans h;rw[q]at h;cases o with
 |none=>exact ei h
 |some p=>
  obtain⟨x,g⟩:=p;cases x with
  |next=>exact⟨n,_,g,q,.inl ⟨rfl,h⟩⟩
  |brk=>exact aG (dc (aw h)) λB A=>⟨n,_,g,q,.inr ⟨λq=>(nomatch q),B,A⟩⟩
  |ret d=>exact aG (dc (aw h)) λB A=>⟨n,_,g,q,.inr ⟨λq=>(nomatch q),B,A⟩⟩
end
end
section
noncomputable def mD:TB->ao
 | .b1 =>"b1_set"| .b3 =>"b3_exceptions"| .tok =>"EXACT_TOKEN_TYPES"
def CU(W:Wd)(O:bC)(N:Nat):Prop:=∀(g:Nat)(x:ao)(args:List ak)(d:ak),tV[g]?=aa x->O g args=aa d->
 ∃(a:aj)(o:bp)(fd:qv),W.mg x=aa (.ref a)/\(∀h,W.Bs h->h.get? a=aa o)/\o.data=.func fd/\
  ∀(A:cX)(X:List aj)(s:aC)(vs:List aq)(Q:aq->aC->Prop),AOk A N->W.Bs s.heap->W.Tb s.heap->(∀a∈W.T,a∈X)->(∀a∈X,∃o,s.heap.get? a=aa o)->
   RepL (mask X s.heap) vs args->jT W X s d Q->aI (aR W.prog W.w) A (call (.ref a) vs) Q a9 s
structure TabOk(W:Wd)(T:Tabs):Prop where
 tab:∀t,∃v,W.mg (mD t)=aa v/\
  (∀(neg:Bool)(A:cX)(n:Nat)(X:List aj)(s:aC)(u:aq)(d:ak)(b:Bool)(Q:aq->aC->Prop),AOk A n->W.Bs s.heap->Cp T t d=aa b->Rep (mask X s.heap) u d->(∀s',Ext W s s'->Q (.bool (b !=neg)) s')-> aI (aR W.prog W.w) A (xW (if neg then .NotIn else .In) u v) Q a9 s)/\
  (∀(A:cX)(n:Nat)(X:List aj)(s:aC)(u:aq)(d r:ak)(Q:aq->aC->Prop),AOk A n->W.Bs s.heap->Cq T t d=aa r->Rep (mask X s.heap) u d->jT W X s r Q-> (∃T,rf T/\s.TypeIs v T)/\aI (aR W.prog W.w) A (rH v u) Q a9 s)/\
  (∀(d r:ak),Cr T t d=aa r->(∀s:aC,W.Bs s.heap->s.TypeIs v "dict"/\∀a,v=.ref a->∃ob,s.heap.get? a=aa ob/\ob.dict=ab)/\ ∀(A:cX)(n:Nat)(X:List aj)(s:aC)(u:aq)(Q:aq->aC->Prop),AOk A n->W.Bs s.heap->Rep (mask X s.heap) u d->jT W X s r Q->aI (aR W.prog W.w) A (call (.builtin "dict.get") [v,u]) Q a9 s)
structure Lib(W:Wd)(T:Tabs)(O:bC)(N:Nat):Prop where
 ok:W.Ok
 fns:CU W O N
 consts:∀x m,tZ x=aa m->∃v,W.mg x=aa v/\((∃i t,m=.ki i/\v=.int i t)\/∃y t,m=.ks y/\v=.str (a8 y) t/\y.length<=1000)
 bis:∀x b,tW x=aa b->W.mg x=ab
 rng:W.mg "range"=ab
 rvd:W.mg "reversed"=ab
 tabs:TabOk W T
 bi:∀b,re W b
 mm:∀m,pW W m
section
variable {W:Wd} {T:Tabs} {O:bC} {N:Nat} {env:bu}
abbrev SE(W:Wd)(T:Tabs)(O:bC)(N:Nat)(env:bu)(e:au)(m:ME):Prop:=
 ∀(fu:Nat)(A:cX)(X0:List aj)(oa:Nat->aj)(X:List aj)(f:Frm)(s:aC)(d:ak)(Q:aq->aC->Prop),AOk A N->SR W X0 env oa X s.heap f->
  ai T O fu m f=aa d->jT W X s d Q->aI (aR W.prog W.w) A (eval e env) Q a9 s
abbrev SB(W:Wd)(T:Tabs)(O:bC)(N:Nat)(env:bu)(e:au)(m:ME):Prop:=
 ∀(fu:Nat)(A:cX)(X0:List aj)(oa:Nat->aj)(X:List aj)(f:Frm)(s:aC)(d:ak)(Q:aq->aC->Prop),AOk A N->SR W X0 env oa X s.heap f->
  gb T O fu m f=aa d->(∀v s',Ext W s s'->RepB X s'.heap v d->Q v s')->aI (aR W.prog W.w) A (eval e env) Q a9 s
abbrev iY(W:Wd)(T:Tabs)(O:bC)(N:Nat)(env:bu)(e:au)(m:ME):Prop:=
 ∀(fu:Nat)(A:cX)(X0:List aj)(oa:Nat->aj)(X:List aj)(f:Frm)(s:aC)(b:Bool)(Q:Bool->aC->Prop),AOk A N->SR W X0 env oa X s.heap f->
  aS T O fu m f=aa b->(∀s',Ext W s s'->Q b s')->aI (aR W.prog W.w) A (isTrue e env (eval e env)) Q a9 s
def dP(c:Cx)(env:bu):Prop:=∀(i:Nat)(x:ao)(k:dn),c.names[i]?=aa (x,k)->∃k',env.scope.names[i]?=aa (x,k')/\(k=k'\/(k=vk/\k'=ta))
theorem QbM(x:ao):∀(l:List<|ao×dn)(j i:Nat)(k:dn),Cx.find.go x j l=aa (i,k)->j<=i/\l[i-j]?=aa (x,k):=by
 intro B;induction B with
 |nil=>intro j i k h;injection h
 |cons A r C=>
  obtain⟨y,q⟩:=A;intro j i k h;change(if y==x then aa (j,q)else Cx.find.go x (j+1) r)=aa (i,k)at h;split at h
  ·rename_i e;obtain⟨rfl,rfl⟩:=dc<|aw h;have:=bJ.mp e;clear e;subst this;exact⟨eR _,by simp⟩
  ·refine aG (C (j+1) i k h) λa b=>?_;refine⟨BX a,?_⟩;have:i-j=(i-(j+1))+1:=bD 0x54324021500814228208225d04528228224528a08a08225500814228208225d04528228914a28208958324b0c90082c0206203240 Yt a;simp only[this,dD];exact b
theorem Cx.find_at{c:Cx}{x:ao}{i:Nat}{k:dn}(h:c.find x=aa (i,k)):c.names[i]?=aa (x,k):=by have:=(QbM x c.names 0 i k h).2;simpa using this
theorem SR.val(r:SR W X0 env H X h f)(G:env.scope.names[i]?=aa (x,kd))(B:f.get i=aa d): ∃m v,h.Ns env.locals m/\VarAt env h m x kd v/\Rep (mask X h) v d:=by
 refine aE λA=>?_;refine ah r.vars λm D C=>?_;have q:=C i x kd G;unfold Frm.get at B;apply A;clear A;split at B<;>try contradiction
 refine aE λA=>?_;rename_i e;obtain rfl:=aw B;simp only[e]at q;obtain⟨v,a,b⟩:=q;apply A;clear A;exact(ji m v D a b)
theorem pX{M:Model}{E:aq->aC->Prop}(C:EnvOk env){i:Nat}{x:ao}{kd:dn}{v:aq}{m:ao->Option aq}{Q:aq->aC->Prop}(G:(x==("__debug__":ao))=ae/\(x==("__classdict__":ao))=ae)(H:env.scope.names[i]?=aa (x,kd))(L:s.heap.Ns env.locals m)(B:VarAt env s.heap m x kd v)(h:Q v s):aI M A (eval (.Name x pos) env) Q E s:=by
 refine vl ?_ G.1;have D:=C.kindAt H;unfold VarAt at B;clear H;cases kd<;>try exact B.elim
 ·exact Qk6 C.kind D L B h
 ·obtain⟨c,e,i⟩:=B;exact KZ C.kind D e i h
 ·obtain⟨c,e,i⟩:=B;exact K0 C.kind D e i h G.2
theorem SR.rep_ext(r:SR W X0 env C X s.heap f)(x:Ext W s A)(q:Rep (mask X s.heap) v d):Rep (mask X A.heap) v d:=x.rep (λa B=>r.sub a<|r.tX a B) q
theorem RepB.ext(k:W.Ok)(r:SR W X0 env Q X s.heap f)(x:Ext W s B)(q:RepB X s.heap v d):RepB X B.heap v d:=by
 refine fI q (λq=>?_) λC=>?_
 ·exact .inl<|r.rep_ext x q
 ·obtain⟨a,n,vs,xs,M,L,A,H,G⟩:=C;exact .inr<|wk a n vs xs M L (x.keep _ _ (pU k r.tb A rfl) A) H<|x.repL (λa D=>r.sub a<|r.tX a D) G
theorem H9(U:EnvOk env){i:Nat}{x:ao}{kd:dn}(B:fy x=ac)(C:env.scope.names[i]?=aa (x,kd)):SE W T O N env (.Name x pos)<|.v i:=by
 intro fu A X0 Y X f s d Q j r D M;unfold fy at B;simp only[bo,bJ]at B;cases fu with
 |zero=>injection D
 |succ fu=>refine aE λG=>?_;refine dJ (r.val C D) λm v L H q=>?_;apply G;clear G;exact pX U B C L H (M _ _ (Ext.refl _ _) q)
theorem QbN{f:Frm}{i:Nat}{d:ak}(h:f.peek i=aa d):f[i]?=aa (.val d)\/∃xs,f[i]?=aa (.own xs)/\d=.list xs:=by
 revert h;unfold Frm.peek;refine oc f[i]? (λe h=>?_) λv e h=>?_
 ·exact nA h
 ·cases v with
  |un=>exact nA h
  |val A=>obtain rfl:=aw h;exact .inl rfl
  |own xs=>obtain rfl:=aw h;exact .inr ⟨xs,rfl,rfl⟩
  |own2 _=>exact nA h
set_option tactic.hygienic true in
theorem QbO(U:EnvOk env){i:Nat}{x:ao}{kd:dn}{pos:aY}(C:fy x=ac)(D:env.scope.names[i]?=aa (x,kd)):SB W T O N env (.Name x pos)<|.v i:=by
 intro fu A X0 k X f s d Q o r L M;unfold fy at C;simp only[bo,bJ]at C;cases fu with
 |zero=>injection L
 |succ fu=>
  refine aE λB=>?_;have G:f.peek i=aa d:=L;refine ah r.vars λm H Y=>?_;have q:=Y i x kd D;apply B;clear B;refine(QbN G).elim (λe=>?_) λ⟨xs,e,u⟩=>?_
  ·refine aE λB=>?_;simp only[e]at q;obtain⟨v,a,b⟩:=q;apply B;clear B;exact pX U C D H a<|M _ _ (Ext.refl _ _)<|.inl b
  ·refine aE λB=>?_;clear G;subst u;simp only[e]at q;obtain⟨rfl,a,b,c,n,vs,y,z,j⟩:=q;apply B;clear B;exact pX U C D H (show VarAt env s.heap m x .local _ from a)<|M _ _ (Ext.refl _ _)<|.inr<|wk _ n vs xs rfl rfl y z j
theorem sx(G:CR m=ac)(h:SE W T O N env e m):SB W T O N env e m:=by intro fu A X0 D X f s d Q L r B H;refine aF (k_e G B) λn B=>?_;exact h n A X0 D X f s d Q L r B λv C x q=>H v C x<|.inl q
theorem QbP:SE W T O N env (.Constant .none k pos) .kn :=by
 intro fu A X0 D X f s d Q G r B C;cases fu with
 |zero=>injection B
 |succ fu=>obtain rfl:=aw B;exact wpAny_Constant_none (C _ _ (Ext.refl _ _) .none)
theorem QbQ:SE W T O N env (.Constant (.bool b) k pos)<|.kb b:=by
 intro fu A X0 D X f s d Q G r B C;cases fu with
 |zero=>injection B
 |succ fu=>obtain rfl:=aw B;exact wpAny_Constant_bool (C _ _ (Ext.refl _ _) (.bool b))
theorem QJ:SE W T O N env (.Constant (.int i) k pos)<|.ki i:=by
 intro fu A X0 D X f s d Q G r B C;cases fu with
 |zero=>injection B
 |succ fu=>obtain rfl:=aw B;exact Wb (C _ _ (Ext.tok _) (.int _ _))
theorem QbR(D:x.length<=1000):SE W T O N env (.Constant (.str x) k pos)<|.ks<|Cc x:=by
 intro fu A X0 G X f s d Q H r B C;cases fu with
 |zero=>injection B
 |succ fu=>obtain rfl:=aw B;rw[show a8 (Cc x)=x from wF x]at C;exact wpAny_Constant_str (C _ _ (Ext.tok _) (.str _ _ (by simp only[eu];exact Nr D)))
theorem ug(k:W.Ok)(H:W.Bs s.heap)(B:EnvOk env)(C:(x==("__debug__":ao))=ae)(G:env.kindOf x=aa .globalImplicit)(D:W.mg x=aa v)(h:Q v s): aI M A (eval (.Name x pos) env) Q E s:=vl (ks_loadName_global B.kind G<|Calls.loadGlobal_global (by refine af B.glob ?_;exact k.bsG _ H) D h) C
theorem Ia(k:W.Ok)(D:W.Bs s.heap)(B:EnvOk env)(G:(x==("__debug__":ao))=ae)(L:x≠"__name__")(U:env.kindOf x=aa .globalImplicit)(C:W.mg x=ab)(H:AO x=aa v)(h:Q v s): aI M A (eval (.Name x pos) env) Q E s:=vl (ks_loadName_global B.kind U<|Calls.loadGlobal_builtin (by refine af B.glob ?_;exact k.bsG _ D) C (by refine af B.blt ?_;exact k.bsB _ D) (by refine af (k.builtins x C L) ?_;exact H) h) G
theorem QbS(L:Lib W T O N)(U:EnvOk env)(B:fy x=ac)(G:env.kindOf x=aa .globalImplicit)(H:tZ x=aa m):SE W T O N env (.Name x pos) m:=by
 intro fu A X0 j X f s d Q z r C M;unfold fy at B;simp only[bo,bJ]at B;cases fu with
 |zero=>injection C
 |succ fu=>
  refine ah (L.consts x m H) λv D q=>?_;clear H;rcases q with⟨i,t,rfl,rfl⟩|⟨y,t,rfl,rfl,Y⟩
  ·obtain rfl:=aw C;exact ug L.ok r.bs U B.1 G D<|M _ _ (Ext.refl _ _)<|.int _ _
  ·obtain rfl:=aw C;exact ug L.ok r.bs U B.1 G D<|M _ _ (Ext.refl _ _)<|.str _ _<|by simp only[kE,eu];exact Nr Y
theorem Ib(L:Lib W T O N)(v:SE W T O N env l q)(y:SE W T O N env r z):SE W T O N env (.BinOp l (ud op) r pos)<|.bin op q z:=by intro fu A X0 H X f s d Q G B C o;refine ky (Qa7 C) λfu a b k u C=>?_;refine wpAny_BinOp<|v fu A X0 H X f s a _ G B k λm s1 x1 j=>y fu A X0 H X f s1 b _ G (B.ext L.ok x1) u λg n x2 Y=>?_;have D:=(B.ext L.ok x1).ext L.ok x2;exact ZZ L.ok G D.bs D.tXX D.ltX C ((B.ext L.ok x1).rep_ext x2 j) Y λt e M U=>o _ _ (x1.trans<|x2.trans M) U
theorem QbT(H:SE W T O N env x m):SE W T O N env (.UnaryOp .USub x pos)<|.neg m:=by intro fu A X0 G X f s d Q j D C M;refine eE (Qa8 C) λfu i L U=>?_;clear C;subst U;refine We<|H fu A X0 G X f s _ _ j D L λz s1 x1 B=>?_;refine aF B.int_inv λt Y=>?_;clear B;subst Y;exact Qk7<|M _ _ (x1.trans<|Ext.tok _)<|.int _ _
theorem QbU(H:SE W T O N env x m):SE W T O N env (.UnaryOp .Invert x pos)<|.inv m:=by
 intro fu A X0 G X f s d Q j D C M;refine eE (Qa9 C) λfu i L U=>?_;clear C;subst U;refine We<|H fu A X0 G X f s _ _ j D L λz s1 x1 B=>?_;refine aF B.int_inv λt Y=>?_;clear B;subst Y;refine PyProof.Rows.invert_int ?_;have e:xU i= -i-1:=by unfold xU;exact gG 0x1d0452452572c9f002c9f00 Yt
 refine af e ?_;exact M _ _ (x1.trans<|Ext.tok _)<|.int _ _
theorem QbV(L:Lib W T O N)(z:Wg (so op) r=ae)(q:SE W T O N env l Y)(j:SB W T O N env r U):SE W T O N env (.Compare l [so op] [r] pos)<|.cmp op Y U:=by intro fu A X0 D X f s d Q C B G k;refine B9 (QC G) λfu a b c u v y o=>?_;clear G;subst o;refine wpAny_Compare1 (q fu A X0 D X f s a _ C B u λg s1 x1 M=>j fu A X0 D X f s1 b _ C (B.ext L.ok x1) v λt m x2 H=>?_) z;exact Qn C y ((B.ext L.ok x1).rep_ext x2 M) H<|k _ _ (x1.trans x2)<|.bool _
theorem QbW(L:Lib W T O N)(q:Wg (so op) r=ae)(y:SE W T O N env l Y)(j:SB W T O N env r U):iY W T O N env (.Compare l [so op] [r] pos)<|.cmp op Y U:=by intro fu A X0 G X f s d Q D B C o;refine eE (H7 rfl C) λfu z hz C=>?_;refine B9 (QC hz) λfu a b c k u v t=>?_;clear hz;subst t;obtain rfl:=aw C;refine Qk8 (y fu A X0 G X f s a _ D B k λm s1 x1 M=>j fu A X0 G X f s1 b _ D (B.ext L.ok x1) u λg e x2 H=>?_) q;exact Qn D v ((B.ext L.ok x1).rep_ext x2 M) H<|Wh<|o _<|x1.trans x2
theorem QbX(L:Lib W T O N){t a b:au}{mt M H:ME}{pos:aY}(U:iY W T O N env t mt)(u:SE W T O N env a M)(y:SE W T O N env b H):SE W T O N env (.IfExp t a b pos)<|.ite mt M H:=by
 intro fu A X0 C X f s d Q G B D Y;refine eE (Qba D) λfu c j D=>?_;cases c with
 |true=>refine Wi (U fu A X0 C X f s ac _ G B j λs1 x1=>?_);exact u fu A X0 C X f s1 d _ G (B.ext L.ok x1) D λv z x2 q=>Y _ _ (x1.trans x2) q
 |false=>refine Wi (U fu A X0 C X f s ae _ G B j λs1 x1=>?_);exact y fu A X0 C X f s1 d _ G (B.ext L.ok x1) D λv z x2 q=>Y _ _ (x1.trans x2) q
theorem QbY(G:iY W T O N env x m):iY W T O N env (.UnaryOp .Not x pos)<|.nt m:=by intro fu A X0 D X f s d Q U C B L;refine eE (Qbm B) λfu c H M=>?_;clear B;subst M;exact wpAny_isTrue_Not<|G fu A X0 D X f s c _ U C H λs1 x1=>L _ x1
set_option tactic.hygienic true in
theorem QbZ(L:Lib W T O N)(z:AOk A N):∀(es:List au)(ms:List ME)(s:aC)(b:Bool)(Q:Bool->aC->Prop),cA tr es=aa ms->SR W X0 env U X s.heap f->(∀e∈es,∀m,tr e=aa m->iY W T O N env e m)->iH (λe=>aS T O fu e f) ms=aa b->(∀M,Ext W s M->Q b M)->aI (aR W.prog W.w) A (allTrue .And es env) Q a9 s:=by
 intro q;induction q with
 |nil=>intro ms s b Q C D h B G;obtain rfl:=aw C;obtain rfl:=aw B;exact d6 (G _ (Ext.refl _ _))
 |cons e es u=>
  intro ms s b Q C D h B G;simp only[qU,qW]at C;split at C<;>try contradiction
  refine aE λj=>?_;rename_i m Y;refine ah (cv.mp C) λy v k=>?_;clear C;subst k;simp only[zm,zo]at B;apply j;clear j;dsimp only[arm_allTrue_cons];split at B<;>try contradiction
  ·rename_i H;refine bI<|h e dU m Y fu A X0 U X f s ac _ z D H λs1 x1=>?_;exact u y s1 b Q v (D.ext L.ok x1) (λe B=>h e<|bB _ B) B λo x2=>G _<|x1.trans x2
  ·rename_i H;obtain rfl:=aw B;exact bI<|h e dU m Y fu A X0 U X f s ae _ z D H λs1 x1=>d6<|G _ x1
set_option tactic.hygienic true in
theorem Qb0(L:Lib W T O N)(z:AOk A N):∀(es:List au)(ms:List ME)(s:aC)(b:Bool)(Q:Bool->aC->Prop),cA tr es=aa ms->SR W X0 env U X s.heap f->(∀e∈es,∀m,tr e=aa m->iY W T O N env e m)->rZ (λe=>aS T O fu e f) ms=aa b->(∀M,Ext W s M->Q b M)->aI (aR W.prog W.w) A (allTrue .Or es env) Q a9 s:=by
 intro q;induction q with
 |nil=>intro ms s b Q C D h B G;obtain rfl:=aw C;obtain rfl:=aw B;exact d6 (G _ (Ext.refl _ _))
 |cons e es u=>
  intro ms s b Q C D h B G;simp only[qU,qW]at C;split at C<;>try contradiction
  refine aE λj=>?_;rename_i m Y;refine ah (cv.mp C) λy v k=>?_;clear C;subst k;simp only[Cs,Ct]at B;apply j;clear j;dsimp only[arm_allTrue_cons];split at B<;>try contradiction
  ·rename_i H;obtain rfl:=aw B;exact bI<|h e dU m Y fu A X0 U X f s ac _ z D H λs1 x1=>d6<|G _ x1
  ·rename_i H;refine bI<|h e dU m Y fu A X0 U X f s ae _ z D H λs1 x1=>?_;exact u y s1 b Q v (D.ext L.ok x1) (λe B=>h e<|bB _ B) B λo x2=>G _<|x1.trans x2
theorem Qb1(L:Lib W T O N)(D:cA tr es=aa ms)(h:∀e∈es,∀m,tr e=aa m->iY W T O N env e m):iY W T O N env (.BoolOp .And es pos)<|.bop ac ms:=by
 intro fu A X0 M X f s d Q H C B G;cases fu with
 |zero=>injection B
 |succ fu=>exact QbZ L H es ms s d Q D C h B G
theorem Qb2(L:Lib W T O N)(D:cA tr es=aa ms)(h:∀e∈es,∀m,tr e=aa m->iY W T O N env e m):iY W T O N env (.BoolOp .Or es pos)<|.bop ae ms:=by
 intro fu A X0 M X f s d Q H C B G;cases fu with
 |zero=>injection B
 |succ fu=>exact Qb0 L H es ms s d Q D C h B G
set_option tactic.hygienic true in
theorem Qb3(h:ey d=aa b)(r:Rep (mask X s.heap) v d)(B:∀D,Ext W s D->Q b D):aI (aR W.prog W.w) A (truthy v) Q a9 s:=by
 cases d using n6 with
 |bool x=>obtain rfl:=aw h;cases r.bool_inv;exact Wh (B _ (Ext.refl _ _))
 |int x=>obtain rfl:=aw h;refine aF r.int_inv λt C=>?_;subst C;exact P.truthy_int (B _ (Ext.refl _ _))
 |str x=>
  obtain rfl:=aw h;refine ah r.str_inv λt C G=>?_;subst C;have e:((x.length:Int)!=0)=(x.length !=0):=by rw[iu];simp
  refine P.truthy_str (by simp only[eu]at G;exact aH 0x7ec002082082082082082082082082082082246082082082082240 Yt G) ?_;simp only[e];exact B _<|Ext.tok _
 |_=>exact nA h
noncomputable def Ic:au->Bool
 | .UnaryOp .Not .. | .BoolOp .. | .IfExp .. | .Compare .. =>ae
 |_=>ac
set_option tactic.hygienic true in
theorem QK(h:Ic e=ac)(env:bu)(A:cL aq):isTrue e env A=(do let v<-A;qw e.pos;E8 [v] (truthy v)):=by
 cases e<;>first|rfl|(injection h)|skip
 rename_i op _ _;cases op<;>first|rfl|injection h
theorem CV(G:Ic e=ac)(H:CT m=ac)(h:SE W T O N env e m):iY W T O N env e m:=by intro fu A X0 D X f s b Q j B L M;refine eE (H7 H L) λn d Y U=>?_;exact wpAny_isTrue_value (h n A X0 D X f s d _ j B Y λv s1 x1 C=>Qb3 U C λz x2=>M _<|x1.trans x2)<|QK G _ _
end
end
section
theorem iI{α:Type}{P:α->Prop}{x y:ao}{a:α}{o:Option α}(B:x=y->P a)(A:Says o P):Says (if(x==y)=ac then aa a else o) P:=by
 cases h:x==y with
 |true=>exact B (eq_of_beq h)
 |false=>exact A
noncomputable def QL:BI->ao
 | .len =>"len"
 | .sum =>"sum"
 | .ord =>"ord"
 | .chr =>"chr"
 | .max =>"max"
 | .list =>"list"
 | .divmod =>"divmod"
theorem QM{x:ao}{b:BI}(h:tW x=aa b):x=QL b:=(show Says (tW x) (λb=>x=QL b)from iI id<|iI id<|iI id<|iI id<|iI id<|iI id<|iI id trivial).get h
noncomputable def QN:MM->ao
 | .bitlen =>"bit_length"
 | .split =>"split"
 | .startswith =>"startswith"
 | .endswith =>"endswith"
 | .find =>"find"
 | .join =>"join"
 | .lower =>"lower"
 | .count =>"count"
theorem Qb4{x:ao}{m:MM}(h:y9 x=aa m):x=QN m:=(show Says (y9 x) (λb=>x=QN b)from iI id<|iI id<|iI id<|iI id<|iI id<|iI id<|iI id<|iI id trivial).get h
theorem Qb5:∀x b,tW x=aa b->AO x=aa (H5 b)/\x≠"__name__"/\(x==("__debug__":ao))=ae:=by intro x b h;refine af (QM h) ?_;clear h;cases b<;>exact⟨by decide+kernel,by decide+kernel,by decide+kernel⟩
theorem Qb6:AO "range"=aa (.type "range"):=by decide+kernel
theorem Qb7:AO "reversed"=aa (.type "reversed"):=by decide+kernel
section
variable {W:Wd} {T:Tabs} {O:bC} {N:Nat} {env:bu}
noncomputable def fE:au->Bool
 | .Starred .. =>ae
 |_=>ac
theorem QO(h:fE e=ac):iN (e::r) env=(ae,eval e env)::iN r env:=by cases e<;>first|rfl|injection h
set_option tactic.hygienic true in
theorem jU{tr:au->Option ME}(hs:∀e m,tr e=aa m->fE e=ac){env:bu}{pos:aY}:∀{es:List au}{ms:List ME},cA tr es=aa ms->((kj pos<|iN es env).all<|λx=> !x.1)=ac/\(kj pos<|iN es env).any (·.1)=ae
 |[],ms,_=>⟨rfl,rfl⟩
 |e::es,ms,h=>by
  simp only[qU,qW]at h;split at h<;>try contradiction
  refine aE λA=>?_;rename_i m C;refine ah (cv.mp h) λG B D=>?_;clear h;subst D;apply A;clear A;rw[QO<|hs e m C];refine aE λA=>?_;refine aG (jU hs (env:=env) (pos:=pos) B) λa b=>?_;apply A;clear A;exact⟨by show((!ae)&&_)=ac;exact a,by show(ae||_)=ae;exact b⟩
set_option tactic.hygienic true in
theorem QP(k:W.Ok){R:List aj->bL->aq->ak->Prop}{X0:List aj}{M:Nat->aj}{X:List aj}(j:∀(s C:aC) v d,SR W X0 env M X s.heap f->Ext W s C->R X s.heap v d->R X C.heap v d){tr:au->Option ME}(hs:∀e m,tr e=aa m->fE e=ac){y:ME->Option ak}: ∀(es:List au)(ms:List ME)(ds:List ak)(s:aC)(Q:List aq->aC->Prop),cA tr es=aa ms->cZ y ms=aa ds->SR W X0 env M X s.heap f->(∀e∈es,∀m,tr e=aa m->∀(s:aC)(d:ak)(Q:aq->aC->Prop),SR W X0 env M X s.heap f->y m=aa d->(∀v C,Ext W s C->R X C.heap v d->Q v C)->aI (aR W.prog W.w) A (eval e env) Q a9 s)->(∀vs C,Ext W s C->dG vs=ds.length->(∀(i:Nat)(v:aq)(d:ak),vs[i]?=aa v->ds[i]?=aa d->R X C.heap v d)->Q vs C)->aI (aR W.prog W.w) A (vm<|kj pos<|iN es env) Q a9 s:=by
 intro u;induction u with
 |nil=>intro ms ds s Q G B H h U;refine aE λD=>?_;obtain rfl:=aw G;obtain rfl:=aw B;apply D;clear D;exact Qk9 (U [] s (Ext.refl _ _) rfl (by intro i v d e;injection e))
 |cons e es r=>
  intro ms ds s Q G B H h U;simp only[qU,qW]at G;split at G<;>try contradiction
  refine aE λD=>?_;rename_i m q;refine ah (cv.mp G) λo t Y=>?_;clear G;subst Y;simp only[cO,cQ]at B;apply D;clear D;split at B<;>try contradiction
  refine aE λD=>?_;rename_i d uA;refine ah (cv.mp B) λx a Y=>?_;clear B;subst Y;apply D;clear D;rw[QO<|hs e m q];refine Calls.spliced_cons<|h e dU m q s d _ H uA λv s1 x1 g=>?_;refine r o x s1 _ t a (H.ext k x1) (λe b=>h e<|bB _ b) λvs z x2 p n=>?_;refine U (v::vs) z (x1.trans x2) (by simp[p]) λi l c L B=>?_;cases i with
  |zero=>simp at L B;subst L;subst B;exact j s1 z v d (H.ext k x1) x2 g
  |succ i=>simp at L B;exact n i l c L B
theorem nH(k:W.Ok){X0:List aj}{G:Nat->aj}{X:List aj}(y:AOk A N){tr:au->Option ME}(hs:∀e m,tr e=aa m->fE e=ac){es:List au}{ms:List ME}{ds:List ak}{Q:List aq->aC->Prop}(H:cA tr es=aa ms)(j:cZ (λe=>ai T O fu e f) ms=aa ds)(C:SR W X0 env G X s.heap f)(h:∀e∈es,∀m,tr e=aa m->SE W T O N env e m)(D:∀vs B,Ext W s B->RepL (mask X B.heap) vs ds->Q vs B): aI (aR W.prog W.w) A (vm<|kj pos<|iN es env) Q a9 s:=
 QP k (R:=λX h v d=>Rep (mask X h) v d) (λs B v d r x q=>r.rep_ext x q) hs es ms ds s Q H j C (λe Y m M s d Q C z D=>h e Y m M fu A X0 G X f s d Q y C z D)
  λvs B x U L=>D vs B x<|RepL.of_at U L
theorem Qb8(k:W.Ok){X0:List aj}{G:Nat->aj}{X:List aj}(j:AOk A N){tr:au->Option ME}(hs:∀e m,tr e=aa m->fE e=ac){es:List au}{ms:List ME}{ds:List ak}{Q:List aq->aC->Prop}(H:cA tr es=aa ms)(U:cZ (λe=>gb T O fu e f) ms=aa ds)(C:SR W X0 env G X s.heap f)(h:∀e∈es,∀m,tr e=aa m->SB W T O N env e m)(D:∀vs B,Ext W s B->dG vs=ds.length->(∀(i:Nat)(v:aq)(d:ak),vs[i]?=aa v->ds[i]?=aa d->RepB X B.heap v d)->Q vs B): aI (aR W.prog W.w) A (vm<|kj pos<|iN es env) Q a9 s:=QP k (λs B v d r x q=>RepB.ext k r x q) hs es ms ds s Q H U C (λe M m L s d Q C Y D=>h e M m L fu A X0 G X f s d Q j C Y D) D
theorem QQ:∀{ms:List ME}{ds:List ak},cZ G ms=aa ds->ds.length=ms.length:=by
 intro B;induction B with
 |nil=>intro ds h;obtain rfl:=aw h;rfl
 |cons m ms C=>
  intro ds h;simp only[cO,cQ]at h;split at h<;>try contradiction
  refine ah (cv.mp h) λH A D=>?_;clear h;subst D;simp[C A]
theorem QR:∀{es:List au}{ms:List ME},cA tr es=aa ms->ms.length=es.length:=by
 intro B;induction B with
 |nil=>intro ms h;obtain rfl:=aw h;rfl
 |cons e es C=>
  intro ms h;simp only[qU,qW]at h;split at h<;>try contradiction
  refine ah (cv.mp h) λG A D=>?_;clear h;subst D;simp[C A]
theorem Qb9(L:Lib W T O N)(hs:∀e m,tr e=aa m->fE e=ac)(C:cA tr es=aa ms)(Y:es.length<1000)(h:∀e∈es,∀m,tr e=aa m->SE W T O N env e m):SE W T O N env (.Tuple es k pos)<|.tup ms:=by intro fu A X0 q X f s d Q j B G M;refine eE (Qbb G) λfu ds H U=>?_;clear G;subst U;refine wpAny_Tuple<|nH L.ok j hs C H B h λvs z x r=>?_;refine(?_:(dG vs<=cH)->_) (by simp only[r.length,QQ H,QR C,eu];exact Nt Y);intro D;exact⟨D,M _ _ (x.trans<|Ext.push L.ok _ _)<|Qf (B.ext L.ok x).ltX rfl D r⟩
theorem QS(L:Lib W T O N)(hs:∀e m,tr e=aa m->fE e=ac)(C:cA tr es=aa ms)(Y:es.length<1000)(h:∀e∈es,∀m,tr e=aa m->SE W T O N env e m):SE W T O N env (.List es pos)<|.lst ms:=by intro fu A X0 q X f s d Q j B G M;refine eE (Qbc G) λfu ds H U=>?_;clear G;subst U;refine wpAny_List<|nH L.ok j hs C H B h λvs z x r=>?_;refine(?_:(dG vs<=cH)->_) (by simp only[r.length,QQ H,QR C,eu];exact Nt Y);intro D;exact⟨D,M _ _ (x.trans<|Ext.push L.ok _ _)<|CM (B.ext L.ok x).ltX rfl D r⟩
theorem Qca:iN (e::es) env≠[]:=by cases e using yc<;>exact List.cons_ne_nil _ _
theorem sy(B:(kj pos<|iN es env).all (λx=> !x.1)=ac)(G:es≠[])(h:aI M A (vm<|kj pos<|iN es env) (λvs D=>Q ⟨vs,[]⟩ D) E s):aI M A (evalArgs H ac (kj pos<|iN es env) []) Q E s:=by
 cases C:kj pos (iN es env)with
 |nil=>
  cases es with
  |nil=>exact absurd rfl G
  |cons e es=>exact absurd (E9.mp C) Qca
 |cons x da=>obtain⟨c,t⟩:=x;rw[C]at B h;simp only[KT,bo,oh]at B;have:c=ae:=B.1;clear B;subst this;exact Calls.evalArgs_plain h
theorem QT{M:Model}{E:aq->aC->Prop}{Q:Args->aC->Prop}{D:aq}{es:List au}{pos:aY}(C:(kj pos<|iN es env).all (λx=> !x.1)=ac)(h:aI M A (vm<|kj pos<|iN es env) (λvs B=>Q ⟨vs,[]⟩ B) E s):aI M A (evalArgs D ac (kj pos<|iN es env) []) Q E s:=by
 cases es with
 |nil=>unfold evalArgs;show aI _ _ (vm []>>=_) _ _ _;refine bI (qu h (λvs B h'=>?_) λ_ _ x=>x);refine E7 ?_;exact bI (d6 (bI (d6 (d6 h'))))
 |cons e es=>exact sy C (by simp) h
theorem Qcb(L:Lib W T O N)(n:EnvOk env)(hs:∀e m,tr e=aa m->fE e=ac)(l:tV[g]?=aa x)(D:fy x=ac)(k:env.kindOf x=aa .globalImplicit)(H:cA tr es=aa ms)(h:∀e∈es,∀m,tr e=aa m->SE W T O N env e m):SE W T O N env (.Call (.Name x np) es [] pos)<|.call g ms:=by intro fu A X0 c X f s d Q U C G t;refine eE (QD G) λfu ds p G=>?_;refine aE λM=>?_;refine dy (L.fns g x ds d l G) λa o fd u y j Y=>?_;unfold fy at D;simp only[bo,bJ]at D;apply M;clear M;refine yd<|ug L.ok C.bs n D.1 k u ?_;refine K3 (o:=o) (fd:=fd)<|QT (jU hs H).1<|nH L.ok U hs H p C h λvs z x1 r=>?_;have B:=C.ext L.ok x1;refine⟨⟨y _ B.bs,j⟩,?_⟩;exact Y A X z vs Q U B.bs B.tb B.tXX B.alX r λv b x2 q=>t _ _ (x1.trans x2) q
theorem Qcc(L:Lib W T O N)(g:EnvOk env)(hs:∀e m,tr e=aa m->fE e=ac)(M:tW x=aa b)(l:env.kindOf x=aa .globalImplicit)(U:es≠[])(C:cA tr es=aa ms)(h:∀e∈es,∀m,tr e=aa m->SB W T O N env e m):SE W T O N env (.Call (.Name x np) es [] pos)<|.bi b ms:=by
 intro fu A X0 c X f s d Q j D G t;refine eE (Qbd G) λfu ds n G=>?_;refine aE λY=>?_;refine fx (Qb5 x b M) λk u y=>?_;apply Y;clear Y;refine yd<|Ia L.ok D.bs g y u l (L.bis x b M) k ?_;have B:aI (aR W.prog W.w) A (vm<|kj pos<|iN es env) (λvs s1=>aI (aR W.prog W.w) A (call (H5 b) vs) Q a9 s1) a9 s:=Qb8 L.ok j hs C n D h λvs z x1 o r=>by have H:=D.ext L.ok x1;exact L.bi b A N X z vs ds d Q j H.bs H.ltX H.tXX G o r λv p x2 q=>t _ _ (x1.trans x2) q
 cases b<;>first
  |exact Qla (jU hs C).2 (sy (jU hs C).1 U B)
  |exact Wj (jU hs C).2 (sy (jU hs C).1 U B)
theorem CW(h:wn o=ac)(env:bu)(C:cL aq):attributeBase o name env C=C:=by
 cases o with
 |Call f B A p=>
  cases f with
  |Name x q=>cases B with
   |cons a B=>rfl
   |nil=>cases A with
    |cons k A=>rfl
    |nil=>exact gC h
  |_=>rfl
 |_=>rfl
noncomputable def zB:MM->String
 | .bitlen =>"int"| .count =>"list"|_=>"str"
theorem QU(m:MM):∀name,y9 name=aa m->PlainAttrs (zB m)/\Slot (zB m) name (ue m .none)/\typeOf (.builtin<|ue m .none)=pure (.type "method_descriptor"):=by
 intro name h;refine af (Qb4 h) ?_;cases m with
 |bitlen=>exact⟨F.plainAttrs_int,F.slot_int_bit_length,F.type_int_bit_length⟩
 |split=>exact⟨F.plainAttrs_str,F.slot_str_split,F.type_str_split⟩
 |startswith=>exact⟨F.plainAttrs_str,F.slot_str_startswith,F.type_str_startswith⟩
 |endswith=>exact⟨F.plainAttrs_str,F.slot_str_endswith,F.type_str_endswith⟩
 |find=>exact⟨F.plainAttrs_str,F.slot_str_find,F.type_str_find⟩
 |join=>exact⟨F.plainAttrs_str,F.slot_str_join,F.type_str_join⟩
 |lower=>exact⟨F.plainAttrs_str,F.slot_str_lower,F.type_str_lower⟩
 |count=>exact⟨F.plainAttrs_list,F.slot_list_count,F.type_list_count⟩
theorem QV{X:List aj}{s:aC}{m:MM}{o d:ak}{ds:List ak}{v:aq}(h:gS m o ds=aa d)(r:Rep (mask X s.heap) v o):s.TypeIs v (zB m)/\∀a,v=.ref a->∃C,s.heap.get? a=aa C/\C.dict=ab:=by
 have st:∀{x},ga o=aa x->s.TypeIs v "str"/\∀a,v=.ref a->∃C,s.heap.get? a=aa C/\C.dict=ab:=λ{x} e=>by have:=gy e;clear e;subst this;refine ah r.str_inv λt D _=>?_;clear r;subst D;exact⟨yb _ _ _,λ_ e=>nomatch e⟩
 cases m with
 |bitlen=>refine ah (bO.mp h) λi A h=>?_;have:=iF A;clear st;subst this;refine aF r.int_inv λt D=>?_;subst D;exact⟨KO _ _ _,λ_ e=>nomatch e⟩
 |split=>refine ah (bO.mp h) λB A h=>?_;obtain⟨x,y⟩:=B;exact st (cV A).1
 |startswith=>refine ah (cv.mp h) λB A h=>?_;obtain⟨x,y⟩:=B;exact st (cV A).1
 |endswith=>refine ah (cv.mp h) λB A h=>?_;obtain⟨x,y⟩:=B;exact st (cV A).1
 |find=>refine ah (bO.mp h) λB A h=>?_;obtain⟨x,y⟩:=B;exact st (cV A).1
 |join=>refine ah (bO.mp h) λB A h=>?_;obtain⟨x,y⟩:=B;exact st (cV A).1
 |lower=>refine ah (bO.mp h) λx A h=>?_;exact st A
 |count=>refine ah (bO.mp h) λB A h=>?_;obtain⟨x,y⟩:=B;have:=lk (cV A).1;clear st;subst this;refine ky r.list_inv λa m L H G _=>?_;subst H;exact⟨⟨_,dZ G,rfl⟩,λb e=>by obtain rfl:=tc e;exact⟨_,dZ G,rfl⟩⟩
theorem CY(hs:∀e m,tr e=aa m->fE e=ac)(A:es.length<20)(B:cA tr es=aa ms): ((kj pos<|iN es env).all (λx=> !x.1)&&(backToKw pos<|keywordEach [] env).all (λx=>x.1.isSome)&&decide (es.length+([]:List EX).length +(if([]:List EX).isEmpty then 0 else 1)<30))=ac:=by rw[(jU hs B).1];have:es.length+0+0<30:=aH 0x3b26430430403a2440 Yt A;show(ac&&ac&&decide (es.length+0+0<30))=ac;simp;exact aH 0x3b26403a2440 Yt A
theorem C0{M:Model}{E:aq->aC->Prop}{id:String}{first:List aq}{tr:au->Option ME}(hs:∀e m,tr e=aa m->fE e=ac){es:List au}{ms:List ME}{Q:aq->aC->Prop}(B:cA tr es=aa ms)(h:aI M A (vm<|kj pos<|iN es env) (λvs s1=>aI M A (call (.builtin id)<|first++vs) Q E s1) E s):aI M A (callWith pos (.builtin id) first (kj pos<|iN es env) []) Q E s:=by exact Qla (jU hs B).2<|QT (jU hs B).1 h
theorem Qcd(L:Lib W T O N){tr:au->Option ME}(hs:∀e m,tr e=aa m->fE e=ac){o:au}{j:ME}{name:ao}{m:MM}{es:List au}{ms:List ME}{z pos:aY}(i:y9 name=aa m)(b:(z.endLine==pos.line)=ac)(a:wn o=ac)(bk:es.length<20)(c:SE W T O N env o j)(D:cA tr es=aa ms)(h:∀e∈es,∀m,tr e=aa m->SE W T O N env e m):SE W T O N env (.Call (.Attribute o name z) es [] pos)<|.meth m j ms:=by
 intro fu A X0 p X f s d Q H U B x;refine ky (Qbe B) λfu C ds u cJ B=>?_;refine K4 (CW a env _) (CY hs bk D) b<|c fu A X0 p X f s C _ H U u λn s1 x1 Y=>?_;refine aE λq=>?_;refine fx (QU m name i) λf1 f2 w=>?_;refine aG (QV B Y) λl k=>?_;have M:=U.ext L.ok x1;apply q;clear q;refine⟨zB m,ue m .none,f1,f2,w,l,k,?_⟩;refine C0 hs D<|nH L.ok H hs D cJ M h λvs t x2 r=>?_;have G:=M.ext L.ok x2;have e:ue m .none =ue m C:=by cases m<;>rfl
 refine af e ?_;exact L.mm m A N X t n C vs ds d Q H G.bs G.ltX G.tXX B (M.rep_ext x2 Y) r λv s3 y g=>x _ _ (x1.trans<|x2.trans y) g
theorem Qce(L:Lib W T O N)(r:∀a b p,i≠.Slice a b ab p)(l:SB W T O N env o y)(g:SE W T O N env i u):SE W T O N env (.Subscript o i pos)<|.idx y u:=by intro fu A X0 G X f s d Q H C B m;refine ky (Qbf B) λfu q k U t B=>?_;refine zy r<|l fu A X0 G X f s q _ H C U λn s1 x1 z=>g fu A X0 G X f s1 k _ H (C.ext L.ok x1) t λe x x2 j=>?_;have D:=RepB.ext L.ok (C.ext L.ok x1) x2 z;exact⟨D.takes B,Qa1 B D j λv c M Y=>m _ _ (x1.trans<|x2.trans M) Y⟩
def Ie(W:Wd)(T:Tabs)(O:bC)(N:Nat)(env:bu)(o:Option au)(m:ME):Prop:=(o=ab/\m=.kn)\/∃e,o=aa e/\SE W T O N env e m
theorem QW(h:Ie W T O N env o m)(H:AOk A N)(D:SR W X0 env G X s.heap f)(B:ai T O fu m f=aa d)(C:jT W X s d Q): aI (aR W.prog W.w) A (evalPart o env) Q a9 s:=by
 rcases h with⟨rfl,rfl⟩|⟨e,rfl,h⟩
 ·cases fu with
  |zero=>injection B
  |succ fu=>obtain rfl:=aw B;exact d6 (C _ _ (Ext.refl _ _) .none)
 ·exact h fu A X0 G X f s d Q H D B C
theorem Qcf(L:Lib W T O N){o:au}{lo y:Option au}(ho:SE W T O N env o w)(hl:Ie W T O N env lo h)(hh:Ie W T O N env y mh):SE W T O N env (.Subscript o (.Slice lo y ab p) pos)<|.sl w h mh:=by intro fu A X0 x X f s d Q j D B hQ;refine B9 (Qbg B) λfu i a b r ha hb B=>?_;refine QaZ<|ho fu A X0 x X f s i _ j D r λv1 s1 x1 c=>wpAny_Slice<|QW hl j (D.ext L.ok x1) ha λm s2 x2 n=>QW hh j ((D.ext L.ok x1).ext L.ok x2) hb λg H C e=>d6 ?_;refine aE λu=>?_;have k:=D.ext L.ok x1;have Y:=k.ext L.ok x2;have U:=Y.ext L.ok C;have G:=Y.rep_ext C<|k.rep_ext x2 c;have M:=Y.rep_ext C n;refine ah (Qv B G) λTy q z=>?_;have l:Ext W H {H with heap:=H.heap.push {cls:=.type "slice",data:=.fields #[m,g,.none]}}:=Ext.push L.ok _ _;refine ah (Qv B<|U.rep_ext l G) λTy q z=>?_;apply u;clear u;exact⟨(br Ty q z),Qa2 L.ok U.ltX U.tXX B G M e λv s4 t r4=>hQ _ _ (x1.trans<|x2.trans<|C.trans t) r4⟩
theorem Qcg(L:Lib W T O N)(g:EnvOk env)(q:env.kindOf (mD t)=aa .globalImplicit)(z:SE W T O N env l Y): SE W T O N env (.Compare l [if neg then .NotIn else .In] [.Name (mD t) np] pos)<|.gIn t neg Y:=by intro fu A X0 U X f s d Q G B C k;refine ky (QF C) λfu a b u y m=>?_;clear C;subst m;refine aE λD=>?_;refine tU (L.tabs.tab t) λv j o _ _=>?_;apply D;clear D;refine wpAny_Compare1 (z fu A X0 U X f s a _ G B u λH s1 x1 M=>ug L.ok (B.ext L.ok x1).bs g (by cases t<;>decide) q j ?_) (by cases neg<;>rfl);exact o neg A N X s1 H a b _ G (B.ext L.ok x1).bs y M λr x2=>k _ _ (x1.trans x2)<|.bool _
theorem Qch(L:Lib W T O N)(g:EnvOk env)(l:∀a b p,i≠.Slice a b ab p)(q:env.kindOf (mD t)=aa .globalImplicit)(y:SE W T O N env i j): SE W T O N env (.Subscript (.Name (mD t) np) i pos)<|.gGet t j:=by intro fu A X0 Y X f s d Q G B C k;refine eE (Qbk C) λfu a u C=>?_;refine aE λD=>?_;refine tU (L.tabs.tab t) λv z _ o _=>?_;apply D;clear D;refine zy l (ug L.ok B.bs g (by cases t<;>decide) q z<|y fu A X0 Y X f s a _ G B u λH s1 x1 U=>?_);exact o A N X s1 H a d _ G (B.ext L.ok x1).bs C U λv m x2 M=>k _ _ (x1.trans x2) M
theorem Qci(L:Lib W T O N)(eo:EnvOk env){tr:au->Option ME}(hs:∀e m,tr e=aa m->fE e=ac){i:au}{t:TB}(r:(n.endLine==pos.line)=ac)(b:env.kindOf (mD t)=aa .globalImplicit)(j:tr i=aa D)(c:SE W T O N env i D): SE W T O N env (.Call (.Attribute (.Name (mD t) np) "get" n) [i] [] pos)<|.gget t D:=by
 intro fu A X0 oa X f s d Q Y C B h;refine eE (Qbl B) λfu a w B=>?_;refine aE λU=>?_;refine tU (L.tabs.tab t) λv p _ _ h1=>?_;have G:cA tr [i]=aa [D]:=by simp[qU,qW,j]
 apply U;clear U;refine K4 (CW rfl env _) (CY hs (by simp) G) r (ug L.ok C.bs eo (by cases t<;>decide) b p ?_);refine aG (h1 a d B) λq x=>?_;refine aG (q s C.bs) λk y=>?_;refine⟨"dict","dict.get",F.plainAttrs_dict,F.slot_dict_get,F.type_dict_get,k,y,?_⟩;refine C0 hs G (nH L.ok Y hs G (by show(match ai T O fu D f with|some d=>(cZ _ []).map (d::·)|none=>ab)=aa [a];refine af w ?_;rfl) C (λe B m M=>?_) λvs o x2 H=>?_)
 ·simp only[eW]at B;clear G;subst B;rw[j]at M;obtain rfl:=aw M;exact c
 ·refine ah H.one λu an l=>?_;clear H;subst an;exact x A N X o u Q Y (C.ext L.ok x2).bs l λv s3 z g=>h _ _ (x2.trans z) g
end
end
section
noncomputable def uh(T:String):Bool:=T !="code"&& !["enumerate","zip","dict_itemiterator","dict_reverseitemiterator","odict_iterator","itertools.zip_longest","itertools.pairwise"].contains T
theorem Ig(h:uh T=ac):T≠"code":=by rintro rfl;revert h;decide
def uj(W:Wd)(X:List aj)(aN s:aC)(it:aq)(xs:List ak):Prop:=
 ∃(I:aj)(fp:List aj)(P:Nat->aq->Prop)(St:Nat->bL->Prop),it=.ref I/\aN.heap.get? I=ab/\(∀A:cX,A.handled=ab->Walks W.prog W.w A I fp [I] xs.length P St)/\St 0 s.heap/\
  (∀i h,St i h->∃o T fs,h.get? I=aa o/\o.cls=.type T/\uh T=ac/\o.data=.fields fs)/\
  (∀b∈fp,b=I\/(b∉X/\∃o,aN.heap.get? b=aa o))/\(∀i v,P i v->i<xs.length->∃d,xs[i]?=aa d/\Rep (mask X aN.heap) v d)/\xs.length<=cH
section
variable {W:Wd} {T:Tabs} {O:bC} {N:Nat} {env:bu}
abbrev SI(W:Wd)(T:Tabs)(O:bC)(N:Nat)(env:bu)(e:au)(m:ME):Prop:=
 ∀(fu:Nat)(A:cX)(X0:List aj)(oa:Nat->aj)(X:List aj)(f:Frm)(s:aC)(xs:List ak)(Q:aq->aC->Prop),AOk A N->SR W X0 env oa X s.heap f->
  cC T O fu m f=aa xs->(∀it aN bR,Ext W s aN->Ext W aN bR->uj W X aN bR it xs->Q it bR)->aI (aR W.prog W.w) A (eval e env) (λv aN=>aI (aR W.prog W.w) A (te v) Q a9 aN) a9 s
theorem wK(h:bL):h.get? h.objs.size=ab:=by
 cases e:h.get? h.objs.size with
 |none=>rfl
 |some o=>exact absurd (l5 e) (qr _)
theorem Qcj(k:W.Ok)(B:mask X s.heap a=aa {cls:=.type "list",data:=.seq vs.toArray n})(z:dG vs<=cH)(D:RepL (mask X s.heap) vs ds)(Y:∀it G,Ext W s G->uj W X s G it ds->Q it G):aI (aR W.prog W.w) A (te<|.ref a) Q a9 s:=by
 have C:s.heap.IsList a vs.toArray:=⟨_,dZ B,rfl,_,rfl⟩;have M:a≠s.heap.objs.size:=Fa<|l5<|dZ B;refine wpAny_pyIter_list C<|Y _ _ (Ext.push k _ _) ⟨s.heap.objs.size,[s.heap.objs.size,a],λi v=>vs.toArray[i]?=aa v,λi h=>h.IsListIter s.heap.objs.size a i/\h.IsList a vs.toArray,rfl,wK _,λA j=>?_,⟨⟨_,kT _ rfl,rfl,rfl⟩,C.push _⟩,λi h st=>?_,λb L=>?_,λi v U H=>?_,by refine bT D.length ?_;exact z⟩
 ·have e:ds.length=vs.toArray.size:=by simp[D.length]
  exact af e<|Walks.list j _ a M vs.toArray
 ·refine aG st λq _=>?_;obtain⟨o,e,c,d⟩:=q;exact(jj o _ _ e c (by decide) d)
 ·simp at L;clear C M;rcases L with rfl|rfl
  ·exact .inl rfl
  ·exact .inr ⟨(cy.mp B).1,_,dZ B⟩
 ·have e:vs[i]?=aa v:=by simpa using U
  exact⟨ds[i],by simp[H],D.at i v _ e<|by simp[H]⟩
theorem Qck(k:W.Ok)(B:mask X s.heap a=aa {cls:=.type "tuple",data:=.seq vs.toArray n})(z:dG vs<=cH)(D:RepL (mask X s.heap) vs ds)(Y:∀it G,Ext W s G->uj W X s G it ds->Q it G):aI (aR W.prog W.w) A (te<|.ref a) Q a9 s:=by
 have C:s.heap.IsTuple a vs.toArray:=⟨_,dZ B,rfl,_,rfl⟩;have M:a≠s.heap.objs.size:=Fa<|l5<|dZ B;refine wpAny_pyIter_tuple C<|Y _ _ (Ext.push k _ _) ⟨s.heap.objs.size,[s.heap.objs.size,a],λi v=>vs.toArray[i]?=aa v,λi h=>h.IsTupleIter s.heap.objs.size a i/\h.IsTuple a vs.toArray,rfl,wK _,λA j=>?_,⟨⟨_,kT _ rfl,rfl,rfl⟩,C.at λo e=>qn _ e⟩,λi h st=>?_,λb L=>?_,λi v U H=>?_,by refine bT D.length ?_;exact z⟩
 ·have e:ds.length=vs.toArray.size:=by simp[D.length]
  exact af e<|Walks.tuple j _ a M vs.toArray
 ·refine aG st λq _=>?_;obtain⟨o,e,c,d⟩:=q;exact(jj o _ _ e c (by decide) d)
 ·simp at L;clear C M;rcases L with rfl|rfl
  ·exact .inl rfl
  ·exact .inr ⟨(cy.mp B).1,_,dZ B⟩
 ·have e:vs[i]?=aa v:=by simpa using U
  exact⟨ds[i],by simp[H],D.at i v _ e<|by simp[H]⟩
theorem Qcl(k:W.Ok)(Y:x.length<=cH)(z:∀it H,Ext W s H->uj W X s H it (x.cps.toList.map λc=>.str<|a8 [c])->Q it H):aI (aR W.prog W.w) A (te<|.str x t) Q a9 s:=by
 have D:∀(B:String)(U:uh B=ac)(w:∀G:cX,G.handled=ab->Walks W.prog W.w G s.heap.objs.size [s.heap.objs.size] [s.heap.objs.size] x.cps.size (SignAt x) (λi h=>h.IsStrIter s.heap.objs.size B x t i)),
   Q (.ref s.heap.objs.size) {s with heap:=s.heap.push {cls:=.type B,data:=.fields #[.str x t,.int 0 0]}}:=λB U w=>by
  refine z _ _ (Ext.push k _ _) ⟨s.heap.objs.size,[s.heap.objs.size],SignAt x,λi h=>h.IsStrIter s.heap.objs.size B x t i,rfl,wK _,λA C=>?_,⟨_,kT _ rfl,rfl,rfl⟩,λi h st=>?_,λb L=>?_,λi v j q=>?_,by rw[b8,d8];exact Y⟩
  ·have e:(x.cps.toList.map λc=>vp<|a8 [c]).length =x.cps.size:=by simp
   exact af e<|w A C
  ·obtain⟨o,e,c,d⟩:=st;exact(jj o _ _ e c U d)
  ·simp at L;exact .inl L
  ·obtain⟨c,u,e,rfl⟩:=j;refine(br (.str<|a8 [c]) ?_<|.str _ _<|by refine af eu ?_;simp[vd]);rw[fW,V4];exact af e rfl
 cases M:x.cps.all (· <128)
 ·exact wpAny_pyIter_wide M<|D "str_iterator" (by decide) λG C=>Walks.strWide C _ x t
 ·exact wpAny_pyIter_ascii M<|D "str_ascii_iterator" (by decide) λG C=>Walks.strAscii C _ x t
theorem Qcm(k:W.Ok)(h:ww d=aa xs)(r:Rep (mask X s.heap) v d)(B:∀it L,Ext W s L->uj W X s L it xs->Q it L): aI (aR W.prog W.w) A (te v) Q a9 s:=by
 unfold ww at h;split at h<;>cases h
 ·refine dy r.list_inv λa n vs H G D C=>?_;subst H;exact Qcj k G D C B
 ·refine dy r.tuple_inv λa n vs H G D C=>?_;subst H;exact Qck k G D C B
 ·refine ah r.str_inv λt U M=>?_;subst U;exact Qcl k M B
theorem uk(L:Lib W T O N)(H:zA m=ac)(h:SE W T O N env e m):SI W T O N env e m:=by intro fu A X0 G X f s xs Q z B M U;refine eE (l_e H M) λn d j Y=>?_;exact h n A X0 G X f s d _ z B j λv s1 x1 D=>Qcm L.ok Y D λit C x2 i=>U it s1 C x1 x2 i
theorem Qcn(h:i<(b-a).toNat):((mx a b).map bQ)[i]?=aa (.int<|a+i):=by unfold mx;rw[fW,fW];refine af (Qlb h) ?_;rfl
theorem Ih(a b:Int):((mx a b).map bQ).length =(b-a).toNat :=by simp[mx]
theorem QX(k:W.Ok)(U:IsRange s.heap r a b 1 t u v)(j: -2^60<a)(D:a<2^60)(B: -2^60<b)(y:b<2^60)(G:b-a<=100000)(z:∀it C,Ext W s C->uj W X s C it ((mx a b).map .int)->Q it C):aI (aR W.prog W.w) A (te<|.ref r) Q a9 s:=by
 have M:Builtin.Range.small a b 1=ac:=small_one (Nu j) (fT 0x3c20820820820820820820820820820a100f082082082082082082082082082082240 Yt D) (Nu B)<|qR 0x3c20820820820820820820820820820a100f0820820820820820820820820820822481c289268264b200 Yt D G;have L:Builtin.Range.rangeSize a b 1=((b-a).toNat :Int):=by rw[rangeSize_one];split<;>rename_i h<;>(first|exact tT 0xd4b00814228225d0452822452895ecb0b0082c020f200 Yt h|exact tT 0xd4b00874114914a25d04524528a0820895ecb0b008067200 Yt h)
 refine wpAny_pyIter_range U M ?_;refine af L ?_;refine z _ _ (Ext.push k _ _) ⟨s.heap.objs.size,[s.heap.objs.size],λi v=>∃t,v=.int (a+i*1) t,λi h=>IsRangeIter h s.heap.objs.size (a+(i:Nat)*1) (((b-a).toNat :Int)-(i:Nat)) 1,rfl,wK _,λA q=>?_,?_,λi h st=>?_,λb B=>?_,λi v Y H=>?_,?_⟩
 ·rw[Ih];exact Walks.range q s.heap.objs.size a 1 _
 ·have:IsRangeIter (s.heap.push {cls:=.type "range_iterator",data:=.fields #[vq a,vq ((b-a).toNat :Int),vq 1]}) s.heap.objs.size a ((b-a).toNat :Int) 1:=kT _ rfl;simpa using this
 ·exact(jj _ _ _ st rfl (by decide) rfl)
 ·simp at B;exact .inl B
 ·obtain⟨t,rfl⟩:=Y;rw[Ih]at H;rw[KC];exact(br _ (Qcn H)<|.int _ _)
 ·rw[Ih];exact af eu<|tT 0xd4b20014a08914a082289182082082082089b0b2001c289268264b200 Yt G
theorem Qco(L:Lib W T O N)(r:EnvOk env)(hs:∀e m,tr e=aa m->fE e=ac)(d:env.kindOf "range"=aa .globalImplicit)(n:es≠[])(U:cA tr es=aa ms)(h:∀e∈es,∀m,tr e=aa m->SE W T O N env e m):SI W T O N env (.Call (.Name "range" np) es [] pos)<|.rng ms:=by
 intro fu A X0 w X f s xs Q c Y D j;refine eE (Qbr D) λfu ds p D=>?_;refine ah (b1 D) λis g l=>?_;clear D;obtain rfl:=Hv (λ_ _=>iF) g;refine yd (Ia L.ok Y.bs r (by decide) (by decide) d L.rng Qb6 ?_);refine Wj (jU hs U).2<|sy (jU hs U).1 n<|nH L.ok c hs U p Y h λvs s1 x1 C=>?_;show aI _ _ (call (.type "range") vs) _ _ _;have x2:∀(o:bp)(t:Nat),Ext W s {s1 with heap:=s1.heap.push o,toks:=t}:=λo t=>x1.trans<|Ext.push L.ok _ _;refine fI (Qbs l) (λy=>?_) λk=>?_
 ·obtain⟨b,rfl,q,rfl⟩:=y;simp only[bo,bH]at q;refine ah C.one λv B M=>?_;clear C;subst B;refine aF M.int_inv λt B=>?_;subst B;refine call_range_1<|QX L.ok (IsRange.new ..) (by decide) (by decide) (Gz q.2) (fT 0xf0820820820820820820820820820822401c2892682640 Yt q.1) (fT 0x1c289268264b0401c2892682640 Yt q.1) λit H G i=>j it _ H (x2 _ _) G i
 ·obtain⟨a,b,rfl,q,rfl⟩:=k;simp only[bo,bH]at q;refine dJ C.two λv u x M z=>?_;clear C;subst x;refine aF M.int_inv λt B=>?_;subst B;refine aF z.int_inv λt' B=>?_;subst B;refine call_range_2<|QX L.ok (IsRange.new ..) (Gz q.1.1.1.2) (Nv q.1.1.2) (Gz q.1.2) (Nv q.2) (tT 0x1c289268264b2001c289268264b200 Yt q.1.1.1.1) λit H G i=>j it _ H (x2 _ _) G i
theorem Qcp(L:Lib W T O N)(eo:EnvOk env){tr:au->Option ME}(hs:∀e m,tr e=aa m->fE e=ac)(p:env.kindOf "reversed"=aa .globalImplicit)(q:tr e=aa m)(h:SE W T O N env e m):SI W T O N env (.Call (.Name "reversed" np) [e] [] pos)<|.rvd m:=by
 intro fu A X0 oa X f s xs Q am M u w;refine eE (Qbq u) λfu ds x e_=>?_;clear u;subst e_;have G:cA tr [e]=aa [m]:=by simp[qU,qW,q]
 refine yd (Ia L.ok M.bs eo (by decide) (by decide) p L.rvd Qb7 ?_);refine Wj (jU hs G).2 (sy (jU hs G).1 (by simp) ?_);refine nH (fu:=fu) L.ok am hs G (ds:=[.list ds]) (by show(match ai T O fu m f with|some d=>(cZ _ []).map (d::·)|none=>ab)=aa [_];refine af x ?_;rfl) M (λe' j m' Y=>?_) λvs s1 x1 U=>?_
 ·simp only[eW]at j;clear G;subst j;rw[q]at Y;obtain rfl:=aw Y;exact h
 show aI _ _ (call (.type "reversed") vs) _ _ _;refine ah U.one λv H t=>?_;clear U;subst H;refine dy t.list_inv λa n B bW D h2 C=>?_;subst bW;have z:s1.heap.IsList a B.toArray:=⟨_,dZ D,rfl,_,rfl⟩;have cj:a≠s1.heap.objs.size:=Fa<|l5<|dZ D;refine call_reversed_list z<|wpAny_pyIter_revIter (l:=a) (i:=(B.toArray.size:Int)-1) ⟨_,kT _ rfl,rfl,rfl⟩ ?_;refine w _ s1 _ x1 (Ext.push L.ok _ _) ⟨s1.heap.objs.size,[s1.heap.objs.size,a],λi v=>B.toArray[B.toArray.size-1-i]?=aa v,λi h=>i<=B.toArray.size/\h.IsRevIter s1.heap.objs.size a ((B.toArray.size:Int)-1-(i:Int))/\h.IsList a B.toArray,rfl,wK _,λA hA=>?_,⟨kh _,⟨_,kT _ rfl,rfl,by simp[revObj]⟩,z.push _⟩,λi h st=>?_,λb k=>?_,λi v g y=>?_,by rw[K5];refine bT C.length ?_;exact h2⟩
 ·have e:ds.reverse.length=B.toArray.size:=by simp[C.length]
  exact af e<|Walks.listRev hA _ a cj B.toArray
 ·refine fx st λ_ H _=>?_;obtain⟨o,e,c,d⟩:=H;exact(jj o _ _ e c (by decide) d)
 ·simp at k;rcases k with rfl|rfl
  ·exact .inl rfl
  ·exact .inr ⟨(cy.mp D).1,_,dZ D⟩
 ·have r:=C.length;rw[K5]at y;have e:B[ds.length-1-i]?=aa v:=by simpa[r]using g
  refine⟨ds[ds.length-1-i],?_,C.at _ v _ e<|by simp⟩;refine af (List.getElem?_reverse y) ?_;simp
end
end
section
noncomputable def nK:au->Bool
 | .Set .. =>ae
 |_=>ac
theorem C5(h:nK e=ac)(env:bu)(x:aq):Wl e env x=pure x:=by cases e<;>first|rfl|injection h
section
variable {M:Model} {prog:pu} {w:d9} {A:cX} {α:Type} {m:cL α} {Q:α->aC->Prop} {E:aq->aC->Prop} {s:aC} {env:bu}
theorem wL(h:aI M A m Q a9 s):aI M A m Q E s:=qu h (λ_ _ h=>h) λ_ _ f=>f.elim
theorem jV(h:aI M A m Q a9 s)(k:∀a s,Q a s->R a s):aI M A m R E s:=qu h k λ_ _ f=>f.elim
noncomputable abbrev QY(ifs:List au)(env:bu):cL Bool:=forIn ifs ac λc r=>if r=ac then do let ok<-isTrue c env (eval c env);pure (K6 ok)else pure (K6 r)
def Ii(prog:pu)(w:d9)(A:cX)(ifs:List au)(elt:au)(acc:aq)(env:bu)(K:aC->Prop)(s:aC):Prop:=aI (aR prog w) A (QY ifs env) (λok jI=>if ok=ac then aI (aR prog w) A (eval elt env) (λx tG=>aI (aR prog w) A (call (.builtin "list.append") [acc,x]) (λ_ vN=>K vN) a9 tG) a9 jI else K jI) a9 s
def C6(prog:pu)(w:d9)(A:cX)(e:au)(dp:Nat)(it acc:aq)(env:bu)(target:au)(body:(aC->Prop)->aC->Prop):Prop:=
 ∀(R:Result->aC->Prop)(I:Nat->aC->Prop),(∀n s,I n s->aI (aR prog w) A (pyNext it) (λr aN=>match r with
   |none=>R (.ok .next) aN
   |some v=>aI (aR prog w) A (oj target env v) (λ_ bR=>body (λjI=>∃m,m<n/\I m jI) bR) a9 aN) a9 s)->
  ∀n s,I n s->qA (aR prog w) A (.compLoop e dp it acc env) R s
theorem Qcq:C6 prog w A (.ListComp elt [⟨.Name t px,iter,ifs,0⟩] U pos) 0 it acc env (.Name t px)<|Ii prog w A ifs elt acc env:=by
 intro R I B n s h;refine codeAny_compLoop_tests I (λn s L=>?_) n h;refine jV (B n s L) λr z D=>?_;cases r with
 |none=>exact D
 |some v=>
  refine jV D λ_ j G=>jV G λH Y C=>?_;cases H with
  |false=>exact C
  |true=>exact jV C λx T O=>jV O λ_ _ h=>h
theorem Qcr(elt D i1 C i2:au)(B:List au)(scope:fH)(pos:aY)(it acc:aq)(env:bu):
  K7 (.ListComp elt [⟨D,i1,[],0⟩,⟨C,i2,B,0⟩] scope pos) 1 it acc env=(do
   qw i2.pos
   match<-pyNext it with
   |none=>pure (.done .next)
   |some v=>
    Wm C it v
    oj C env v
    let mut ok:=ac
    for c in B do
     if ok then ok<-isTrue c env (eval c env)
    if ok then
     (do let _<-call (.builtin "list.append") [acc, <-eval elt env])
    again (.compLoop (.ListComp elt [⟨D,i1,[],0⟩,⟨C,i2,B,0⟩] scope pos) 1 it acc env)):=by rfl
theorem Qcs:C6 prog w A (.ListComp elt [⟨.Name G L,iter,[],0⟩,⟨.Name t px,U,ifs,0⟩] H pos) 1 it acc env (.Name t px)<|Ii prog w A ifs elt acc env:=by
 intro R I B n s h;refine codeAny_loop rfl I (λn s Y=>?_) n h;show aI _ A ((K7 (.ListComp elt [⟨.Name G L,iter,[],0⟩,⟨.Name t px,U,ifs,0⟩] H pos) 1 it acc env).onRaise<|λx=>do noteFrame x env;theTreesLotGoes x) _ _ s;refine wpAny_noted ?_;rw[Qcr];refine bI<|s7<|bI<|jV (B n s Y) λr o D=>?_;cases r with
 |none=>exact d6 D
 |some v=>
  refine bI<|d6<|bI<|jV D λ_ k O=>bI<|jV O λT u C=>?_;cases T with
  |false=>exact d6 ⟨rfl,C⟩
  |true=>exact bI (bI (jV C λx y z=>bI (jV z λ_ q j=>d6 (d6 ⟨rfl,j⟩))))
theorem Qct(elt C i1 D i2:au)(B:List au)(scope:fH)(pos:aY)(it acc:aq)(env:bu):
  K7 (.ListComp elt [⟨C,i1,[],0⟩,⟨D,i2,B,0⟩] scope pos) 0 it acc env=(do
   qw i1.pos
   match<-pyNext it with
   |none=>pure (.done .next)
   |some v=>
    Wm C it v
    oj C env v
    let x<-eval i2 env
    qw i2.pos
    let x<-Wl i2 env x
    let _<-runOwn (.compStart (.ListComp elt [⟨C,i1,[],0⟩,⟨D,i2,B,0⟩] scope pos) 1 (<-E8 [x] (te x)) acc env) env
    again (.compLoop (.ListComp elt [⟨C,i1,[],0⟩,⟨D,i2,B,0⟩] scope pos) 0 it acc env)):=by
 rfl
def Qcu(prog:pu)(w:d9)(A:cX)(e je:au)(acc:aq)(env:bu)(K:aC->Prop)(s:aC):Prop:=aI (aR prog w) A (eval je env) (λx jI=>aI (aR prog w) A (te x) (λit tG=>qA (aR prog w) A (.compStart e 1 it acc env) (λr vN=>r=.ok .next /\K vN) tG) a9 jI) a9 s
theorem Qcv(hs:∀x,Wl C env x=pure x): C6 prog w A (.ListComp elt [⟨.Name D G,iter,[],0⟩,⟨.Name t px,C,ifs,0⟩] H pos) 0 it acc env (.Name D G)<|Qcu prog w A (.ListComp elt [⟨.Name D G,iter,[],0⟩,⟨.Name t px,C,ifs,0⟩] H pos) C acc env:=by
 intro R I B n s h;refine codeAny_loop rfl I (λn s j=>?_) n h;show aI _ A ((K7 (.ListComp elt [⟨.Name D G,iter,[],0⟩,⟨.Name t px,C,ifs,0⟩] H pos) 0 it acc env).onRaise<|λx=>do noteFrame x env;theTreesLotGoes x) _ _ s;refine wpAny_noted ?_;rw[Qct];refine bI<|s7<|bI<|jV (B n s j) λr l L=>?_;cases r with
 |none=>exact d6 L
 |some v=>refine bI (d6 (bI (jV L λ_ o T=>?_)));refine bI (jV T λx u U=>?_);refine bI (s7 ?_);refine bI (wpAny_of_eq (hs x) ?_);refine bI (E7 (jV U λY y z=>?_));refine bI (wpAny_runOwn (codeAny_mono (show qA (aR prog w) (A.mark ab) _ _ _ from z) λr q O=>?_));refine aG O λe k=>?_;clear O;subst e;exact d6 ⟨rfl,k⟩
theorem Qcw(O:qA (aR prog w) A (.compLoop (.ListComp elt [⟨.Name C G,iter,[],0⟩,⟨.Name t px,B,ifs,0⟩] D pos) 1 it acc env) R s)(h:aI (aR prog w) A (te it) (λL H=>qA (aR prog w) A (.compLoop (.ListComp elt [⟨.Name C G,iter,[],0⟩,⟨.Name t px,B,ifs,0⟩] D pos) 1 L acc env) R H) a9 s): qA (aR prog w) A (.compStart (.ListComp elt [⟨.Name C G,iter,[],0⟩,⟨.Name t px,B,ifs,0⟩] D pos) 1 it acc env) R s:=by
 refine codeAny_of_tree ?_;show aI _ _ ((compStart (.ListComp elt [⟨.Name C G,iter,[],0⟩,⟨.Name t px,B,ifs,0⟩] D pos) 1 it acc env).onRaise<|λx=>do noteFrame x env;qw theWindowsPlace) _ _ s;refine wpAny_notedAt ?_;unfold compStart;show aI _ _ (ask>>=_) _ _ s;refine bI<|wpAny_askSetting<|wpAny_ite ?_;split
 ·exact d6<|And.intro rfl O
 ·refine bI<|wpAny_rule ?_;show aI _ _ (qw B.pos>>=_) _ _ s;exact bI<|s7<|bI<|jV h λL H h'=>d6<|And.intro rfl h'
end
end
section
section
variable {W:Wd} {T:Tabs} {O:bC} {N:Nat} {env:bu}
noncomputable def ij(env:bu)(names:List (ao×dn)):List (ao×aj):=names.filterMap λp=>if p.2==vk then(env.cells.lookup p.1).map (p.1,·)else ab
theorem Qcx:∀(names:List<|ao×dn)(A:List<|ao×aj),(∀p∈names,p.2=.free ->∃c,env.cells.lookup p.1=aa c)->(forIn names A λ(x:ao×dn)(r:List<|ao×aj)=>(if(x.2==vk)=ac then do let a<-cellOf env x.1;pure (K6<|(x.1,a)::r)else pure (K6 r):cL<|ForInStep<|List<|ao×aj))=pure ((ij env names).reverse ++A):=by
 intro Q;induction Q with
 |nil=>intro A Y;simp[ij]
 |cons M r U=>
  obtain⟨n,kd⟩:=M;intro A h;rw[E4];have D:=λA=>U A λp G=>h p<|bB _ G;by_cases B:kd=vk
  ·subst B;obtain⟨c,e⟩:=h (n,.free) dU rfl;simp only at e;have L:cellOf env n=pure c:=by unfold cellOf;exact af e rfl
   have C:ij env ((n,vk)::r)=(n,c)::ij env r:=by simp[ij,e]
   simp only[beq_self_eq_true,if_true,L,pure_bind];rw[D];refine af C ?_;simp
  ·have H:(kd==vk)=ae:=by simpa using B
   have C:ij env ((n,kd)::r)=ij env r:=by simp[ij,B]
   simp only[H,AP,if_false,pure_bind];rw[D];exact af C rfl
theorem QZ(h:∀p∈A.names,p.2=.free ->∃c,env.cells.lookup p.1=aa c):vr A env=pure (ij env A.names).reverse :=by have:=Qcx A.names [] h;simp only[py]at this;refine bT this ?_;simp only[vr];rw[bind_pure]
theorem Ij(h:(n,c)∈(ij env names).reverse):env.cells.lookup n=aa c:=by
 rw[Fb]at h;unfold ij at h;refine ah (vt.mp h) λp _ e=>?_;split at e
 ·refine ah (cv.mp e) λB A q=>?_;clear h e;obtain⟨rfl,rfl⟩:=dc q;exact A
 ·injection e
theorem C7:∀{l:List<|ao×α},(n,c)∈l->∃A,l.lookup n=aa A:=by
 intro C;induction C with
 |nil=>intro h;cases h
 |cons B l D=>
  obtain⟨m,d⟩:=B;intro h;cases q:n==m with
  |true=>exact(b9 d (by rw[sX];exact af q rfl))
  |false=>
   refine fI (bF.mp h) (λh=>?_) λh=>?_
   ·obtain⟨rfl,rfl⟩:=dc h;simp at q
   ·refine aF (D h) λA e=>?_;exact(b9 A<|by rw[sX];refine af q ?_;exact e)
theorem Q0(B:(n,vk)∈names)(A:env.cells.lookup n=aa c):(ij env names).reverse.lookup n=aa c:=by
 have:(n,c)∈(ij env names).reverse :=by rw[Fb];exact vt.mpr ⟨(n,.free),B,by simp[A]⟩
 obtain⟨C,e⟩:=C7 this;refine af e ?_;have:=Ij<|mem_of_lookup e;rw[A]at this;exact this.symm
theorem Q1{D:fH}{i:Nat}{x:ao}{kd:dn}(h:(qB D env).names[i]?=aa (x,kd)):∃B,D.names[i]?=aa (x,B)/\(B=kd\/(B=.free /\kd=.cell)):=by
 unfold qB at h;simp only[fW]at h;refine ah (cv.mp h) λA e q=>?_;obtain⟨n,B⟩:=A;simp only at q;split at q
 ·rename_i c;refine aG (dc q) λA C=>?_;subst A;subst C;simp only[bo,bJ]at c;exact(br _ e<|.inr ⟨c.1.1,rfl⟩)
 ·refine aG (dc q) λA C=>?_;subst A;subst C;exact(br _ e<|.inl rfl)
theorem wM{B:fH}{i:Nat}{x:ao}{A:dn}(h:B.names[i]?=aa (x,A)):∃kd,(qB B env).names[i]?=aa (x,kd)/\(A=kd\/(A=.free /\kd=.cell)):=by
 unfold qB;simp only[fW,h,b7];by_cases c:(A==vk&&env.scope.kind==Qlc&&env.kindOf x==aa ta)=ac
 ·rw[ar c];simp only[bo,bJ]at c;exact(br _ rfl (.inr ⟨c.1.1,rfl⟩))
 ·rw[av c];exact(br _ rfl (.inl rfl))
theorem Qcy:(qB A env).names.map (·.1)=A.names.map (·.1):=by unfold qB;simp only[fg];apply KX;intro p _;simp only[Qld];split<;>rfl
theorem Qcz:∀(names:List<|ao×dn)(n:Nat)(acc base:List<|ao×aj),ja n names (acc++base)=ja n names acc++base:=by
 intro D;induction D with
 |nil=>intro L H G;exact rfl
 |cons C r A=>
  obtain⟨B,k⟩:=C;intro n acc base;unfold ja;split
  ·exact A (n+1) ((B,n)::acc) base
  ·exact A n acc base
theorem QcA:∀(names:List<|ao×dn)(n:Nat)(acc:List<|ao×aj),∀p∈acc,p∈ja n names acc:=by
 intro C;induction C with
 |nil=>intro L H G h;exact h
 |cons B r A=>
  obtain⟨D,k⟩:=B;intro n acc p h;unfold ja;split
  ·exact A _ _ p<|bB _ h
  ·exact A _ _ p h
theorem Ik:∀(names:List<|ao×dn)(n:Nat)(acc:List<|ao×aj)(x:ao),(x,ta)∈names->∃c,(x,c)∈ja n names acc:=by
 intro C;induction C with
 |nil=>intro L H G h;cases h
 |cons B r A=>
  obtain⟨D,k⟩:=B;intro n acc x h;unfold ja;refine fI (bF.mp h) (λh=>?_) λh=>?_
  ·obtain⟨rfl,rfl⟩:=dc h;rw[ar<|by decide];exact⟨n,QcA r _ _ _ dU⟩
  ·split
   ·exact A _ _ x h
   ·exact A _ _ x h
theorem QcB:∀(names:List<|ao×dn)(n:Nat)(acc:List<|ao×aj),∀p∈ja n names acc,p∈acc\/(p.1,ta)∈names:=by
 intro D;induction D with
 |nil=>intro M L H h;exact .inl h
 |cons C r A=>
  obtain⟨G,k⟩:=C;intro n acc p h;unfold ja at h;split at h
  ·rename_i B;refine(A _ _ p h).elim (λq=>?_) λq=>.inr<|bB _ q;refine(bF.mp q).elim (λe=>?_) .inl;exact .inr (by rw[e, <-eq_of_beq B];exact dU)
  ·exact(A _ _ p h).imp id<|bB _
structure NwOk(names:List (ao×dn))(nw:List (ao×aj)):Prop where
 has:∀x,(x,ta)∈names->∃c,nw.lookup x=aa c
 name:∀x c,(x,c)∈nw->(x,ta)∈names
 apart:nw.Pairwise λx y=>x.2≠y.2
theorem QcC(names:List<|ao×dn)(h:bL):NwOk names (ja h.objs.size names [])/\∀x c,(x,c)∈ja h.objs.size names []->(pushCells h names).IsCell c ab/\h.objs.size<=c:=by have B:=cellsFrom_ok names h h.objs.size [] ⟨λ_ _ A=>(nomatch A),List.Pairwise.nil⟩<|eR _;exact⟨⟨λx C=>aF (Ik names _ [] x C) λc D=>C7 D,λx c A=>(QcB names _ [] _ A).elim (λq=>nomatch q) id,B.apart⟩,B.empty⟩
theorem NwOk.old(k:NwOk names A)(C:(names.map (·.1)).Nodup)(B:(x,kd)∈names)(D:kd≠.cell):(A++base).lookup x=base.lookup x:=by
 rw[Qle];cases e:A.lookup x with
 |none=>rfl
 |some c=>exfalso;have L:=k.name x c (mem_of_lookup e);obtain⟨i,H,Q⟩:=rF B;obtain⟨j,G,M⟩:=rF L;have a:names[i]?=aa (x,kd):=(ee H).trans (congrArg aa Q);have b:names[j]?=aa (x,ta):=(ee G).trans (congrArg aa M);obtain rfl:=zt C a b;rw[a]at b;exact D (dc (aw b)).2
theorem NwOk.new(k:NwOk names A)(B:(x,ta)∈names):∃c,(x,c)∈A/\(A++base).lookup x=aa c:=by refine aF (k.has x B) λc e=>⟨c,mem_of_lookup e,?_⟩;rw[Qle,e];rfl
theorem QcD(U:EnvOk env){B:fH}{C:aj}{L:List<|ao×aj}(D:gI B=ac)(Q:NwOk B.names L)(H:∀p∈B.names,p.2=.free ->∃c,env.cells.lookup p.1=aa c):EnvOk<|compEnvC B (L++(ij env B.names).reverse) C env:=by
 unfold gI at D;simp only[bo,bJ,bH]at D;refine⟨D.1,U.glob,U.blt,by show((qB B env).names.map (·.1)).Nodup;rw[Qcy];exact D.2,λi x kd h Y=>?_⟩;refine ah (Q1 h) λM e q=>?_;have A:=kf e;by_cases G:M=.cell
 ·subst G;exact ah (Q.new A) λc _ e=>⟨c,e⟩
 ·have:M=.free :=by
   rcases q with rfl|⟨q,_⟩
   ·exact Y.elim (λq=>absurd q G) id
   ·exact q
  clear e q;subst this;refine aF (H _ A rfl) λc j=>?_;exact⟨c,(Q.old D.2 A G).trans<|Q0 A j⟩
theorem QcE(h:OH c n kk=aa o):(kk=.free ->∃j A,o=aa j/\c.names[j]?=aa (n,A)/\(A=.cell \/A=.free))/\(kk≠.free ->o=ab):=by
 cases kk with
 |free=>refine ah (bO.mp (show((c.find n).bind λp=>if p.2==.cell ||p.2==.free then aa (aa p.1)else ab)=aa o from h)) λD e h=>?_;obtain⟨j,A⟩:=D;refine aG (mQ.mp h) λB C=>?_;exact⟨λ_=>(ji j A ((aw C).symm) (Cx.find_at e) ((Wn.mp B).imp eq_of_beq eq_of_beq)),λq=>absurd rfl q⟩
 |_=>exact⟨λq=>(nomatch q),λ_=>(aw h).symm⟩
theorem Il:∀{src:List<|Option Nat},iW c names=aa src->src.length=names.length/\∀(i:Nat)(x:ao)(kd:dn),names[i]?=aa (x,kd)->(kd=.free ->∃j A,src[i]?=aa (aa j)/\c.names[j]?=aa (x,A)/\(A=.cell \/A=.free))/\(kd≠.free ->src[i]?=aa ab):=by
 induction names with
 |nil=>intro src h;obtain rfl:=aw h;exact⟨rfl,λi x kd e=>nomatch e⟩
 |cons p r B=>
  intro src h;refine ah (bO.mp h) λL hs h=>?_;refine ah (cv.mp h) λo D C=>?_;subst C;refine aG (B hs) λH B=>?_;have G:=QcE D;refine⟨congrArg kU H,λi x kd e=>?_⟩;cases i with
  |zero=>clear D;obtain rfl:p=(x,kd):=aw e;refine⟨λq=>?_,λq=>congrArg aa (G.2 q)⟩;refine eE (G.1 q) λj A C a=>?_;subst C;exact(jh j A rfl a)
  |succ i=>exact B i x kd e
end
end
section
section
variable {W:Wd} {T:Tabs} {O:bC} {N:Nat} {env:bu}
theorem Im{h:bL}{a:aj}{o:bp}{vs:Array aq}{n:Nat}(e:h.get? a=aa o)(d:o.data=.seq vs n):∀A,h.get? a=aa A->¬oR A/\∀v,A.data≠.cell v:=λA B=>by rw[e]at B;obtain rfl:=aw B;refine⟨λ⟨_,vs,q⟩=>?_,λv q=>?_⟩<;>(rw[d]at q;injection q)
theorem Io{h:bL}{a:aj}{o:bp}{T:String}{D:Array aq}(e:h.get? a=aa o)(c:o.cls=.type T)(C:T≠"code")(d:o.data=.fields D):∀A,h.get? a=aa A->¬oR A/\(∀v,A.data≠.cell v)/\∀vs n,A.data≠.seq vs n:=λA B=>by
 rw[e]at B;obtain rfl:=aw B;refine⟨λ⟨q,_⟩=>?_,λv q=>?_,λvs n q=>?_⟩
 ·refine fI q (λq=>?_) λq=>?_
  ·rw[c]at q;injection q
  ·rw[c]at q;clear c;obtain rfl:=PySem.Value.type.inj q;exact C rfl
 ·rw[d]at q;injection q
 ·rw[d]at q;injection q
theorem Ip{h:bL}{a:aj}{m:ao->Option aq}(x:h.Ns a m):∀o,h.get? a=aa o->¬oR o:=λo e=>by obtain⟨B,es,n,A,d,_⟩:=x;rw[e]at A;obtain rfl:=aw A;rintro⟨_,vs,q⟩;rw[d]at q;injection q
structure Kp(W:Wd)(Z:List aj)(s s':aC):Prop where
 same:∃h tk,s'={s with heap:=h,toks:=tk}
 keep:∀b o,b∉Z->b∉W.T->s.heap.get? b=aa o->s'.heap.get? b=aa o
theorem Kp.refl:Kp W Z s s:=⟨⟨s.heap,s.toks,rfl⟩,λ_ _ _ _ e=>e⟩
theorem Kp.trans(x:Kp W Z a b)(y:Kp W Z b c):Kp W Z a c:=⟨oU x.same y.same,λb o B A e=>y.keep b o B A<|x.keep b o B A e⟩
theorem Kp.sub(x:Kp W Z a b)(h:∀a∈Z,a∈C):Kp W C a b:=⟨x.same,λb o B A e=>x.keep b o (λq=>B<|h b q) A e⟩
theorem Ext.kp(x:Ext W s A):Kp W Z s A:=⟨x.same,λb o _ h e=>x.keep b o h e⟩
theorem Kp.of{h':bL}(t:Nat)(A:∀b o,b∉Z->s.heap.get? b=aa o->h'.get? b=aa o):Kp W Z s {s with heap:=h',toks:=t}:=⟨⟨h',t,rfl⟩,λb o h _ e=>A b o h e⟩
theorem Kp.drop(x:Kp W (I::Z) s A)(B:s.heap.get? I=ab):Kp W Z s A:=⟨x.same,λb o D C e=>x.keep b o (λq=>(bF.mp q).elim (λq=>by rw[q,B]at e;injection e) D) C e⟩
theorem Kp.ext(x:Kp W Z s A)(B:∀a∈Z,s.heap.get? a=ab)(b:W.Bs A.heap)(t:W.Tb A.heap):Ext W s A:=⟨x.same,λb o h e=>x.keep b o (λq=>by rw[B b q]at e;injection e) h e,λ_=>b,λ_=>t⟩
theorem Kp.mask(x:Kp W Z s A)(B:∀a∈Z,a∈X)(C:∀a∈W.T,a∈X):∀a o,mask X s.heap a=aa o->mask X A.heap a=aa o:=λa o e=>aG (cy.mp e) λn e=>cy.mpr ⟨n,x.keep a o (λq=>n<|B a q) (λq=>n<|C a q) e⟩
theorem Kp.alive{X0:List aj}{C:Nat->aj}{f:Frm}(k:W.Ok)(x:Kp W Z s A)(D:∀a∈Z,a∈X)(r:SR W X0 env C X A.heap f)(h:A.heap.get? a=ab):s.heap.get? a=ab:=by
 cases e:s.heap.get? a with
 |none=>rfl
 |some o=>have B:=r.ltX' a h;have:=x.keep a o (λq=>B (D a q)) (λq=>B (r.tXX a q)) e;rw[h]at this;injection this
def FrL(D:aj)(h0:bL)(vs:List aq):Prop:=∃as:List aj,vs=as.map .ref /\as.Nodup/\∀a∈as,h0.get? a=ab/\a≠D
def Acc(D:aj)(X:List aj)(fr:Option bL)(h:bL)(ds:List ak):Prop:=∃n vs,h.get? D=aa {cls:=.type "list",data:=.seq (KS vs) n}/\dG vs<=cH/\RepL (mask X h) vs ds/\∀h0,fr=aa h0->FrL D h0 vs
theorem Acc.kp{fr:Option bL}{ds:List ak}(a:Acc D X fr s.heap ds)(x:Kp W Z s A)(B:∀a∈Z,a∈X)(C:∀a∈W.T,a∈X)(G:D∉Z)(U:D∉W.T):Acc D X fr A.heap ds:=pP a λn vs Q M L H=>qS n vs (x.keep D _ G U Q) M (L.mono<|x.mask B C) H
abbrev SEf(b:Bool)(W:Wd)(T:Tabs)(O:bC)(N:Nat)(env:bu)(e:au)(m:ME):Prop:=
 ∀(fu:Nat)(A:cX)(X0:List aj)(oa:Nat->aj)(X:List aj)(f:Frm)(s:aC)(d:ak)(Q:aq->aC->Prop),AOk A N->SR W X0 env oa X s.heap f->
  ai T O fu m f=aa d->(∀v s',Ext W s s'->Rep (mask X s'.heap) v d->(b=ac->∃a,v=.ref a/\s.heap.get? a=ab)->Q v s')->aI (aR W.prog W.w) A (eval e env) Q a9 s
theorem SEf.of(h:SE W T O N env e m):SEf ae W T O N env e m:=λfu A X0 D X f s d Q L B G H=>h fu A X0 D X f s d Q L B G λv C x r=>H v C x r λq=>nomatch q
theorem SEf.se(h:SEf b W T O N env e m):SE W T O N env e m:=λfu A X0 D X f s d Q L B G H=>h fu A X0 D X f s d Q L B G λv C x r _=>H v C x r
abbrev wN(W:Wd)(T:Tabs)(O:bC)(N:Nat)(env:bu)(ifs:List au)(ms:List ME):Prop:=
 ∀(fu:Nat)(A:cX)(X0:List aj)(oa:Nat->aj)(X:List aj)(f:Frm)(s:aC)(b:Bool)(Q:Bool->aC->Prop),AOk A N->SR W X0 env oa X s.heap f->
  iH (λc=>aS T O fu c f) ms=aa b->(∀s',Ext W s s'->Q b s')->aI (aR W.prog W.w) A (QY ifs env) Q a9 s
theorem QcG:wN W T O N env [] []:=λfu A X0 G X f s b Q H D B C=>by obtain rfl:=aw B;exact wpAny_tests_nil<|C s<|Ext.refl _ _
set_option tactic.hygienic true in
theorem QcH(h:iY W T O N env e m):wN W T O N env [e] [m]:=λfu A X0 D X f s b Q H C B G=>by
 simp only[zm,zo]at B;refine wpAny_tests_one ?_;split at B<;>try contradiction
 ·rename_i q;obtain rfl:=aw B;exact h fu A X0 D X f s _ Q H C q G
 ·rename_i q;obtain rfl:=aw B;exact h fu A X0 D X f s _ Q H C q G
theorem Q2(L:Lib W T O N){A:cX}(am:AOk A N){G:List au}{elt:au}{w:ME}{ms:List ME}{fr:Option bL}{fu:Nat}{X0 X:List aj}{Y:Nat->aj}{D:aj}{g:Frm}{s:aC}{l o:List ak}{K:aC->Prop}(ht:wN W T O N env G ms)(he:SEf fr.isSome W T O N env elt w)(B:D∈X0/\¬W.Base D/\D∉W.T)(rP:∀M,fr=aa M->∀a,s.heap.get? a=ab->M.get? a=ab)(C:SR W X0 env Y X s.heap g)(acc:Acc D X fr s.heap l)(ho:rc (λg=>ai T O fu w g) (λg=>iH (λc=>aS T O fu c g) ms) g=aa o)(bk:(l++o).length <=100000)(m:∀U,Kp W [D] s U->SR W X0 env Y X U.heap g->Acc D X fr U.heap (l++o)->K U):Ii W.prog W.w A G elt (.ref D) env K s:=by
 refine ah (b1 ho) λb h1 h=>?_;refine ht fu A X0 Y X g s b _ am C h1 λs1 x1=>?_;have u:=C.ext L.ok x1;have Fy:=acc.kp (Z:=[]) x1.kp (λ_ q=>nomatch q) C.tXX (λq=>nomatch q) B.2.2;cases b with
 |false=>obtain rfl:=aw h;rw[py]at m;exact m s1 x1.kp u Fy
 |true=>
  refine ah (oV h) λd h3 e=>?_;subst e;show aI _ _ (eval elt env) _ _ _;refine he fu A X0 Y X g s1 d _ am u h3 λv s2 x2 rv hf=>?_;refine pP Fy λn vs k1 k2 j k4=>?_;have bz:=u.ext L.ok x2;have Xm:=x2.keep D _ B.2.2 k1;rw[cw]at bk;have hl:=j.length;refine Qlf (items:=vs.toArray) ⟨n,Xm⟩ (λh4 k f=>?_) k2;obtain⟨n4,k⟩:=k;have p:=Im Xm rfl;have i:=wD f<|C.sub D B.1;refine m _ (((x1.kp.trans x2.kp).trans<|Kp.of s2.toks λb o H e=>f.extBut b o (λq=>H<|q▸dU) e)) ?_ ?_
  ·exact bz.other L.ok (Wr:=[D]) (λb o H e=>f.extBut b o (λq=>H<|q▸dU) e) λa ha=>by obtain rfl:=eW.mp ha;exact⟨B.1,B.2.1,B.2.2,⟨_,k⟩,p⟩
  ·refine qS n4 (vs++[v]) (by simpa using k) (by rw[cw,hl];exact fV bk<|by decide) (((x2.repL C.tXX j).mono i).append<|.cons (rv.mono i) .nil) λM r=>?_;refine aE λcG=>?_;obtain⟨as,a1,a2,a3⟩:=k4 M r;obtain⟨a,e1,Q⟩:=hf (by rw[r];rfl);refine cG ⟨as++[a],by rw[a1,e1,jD];rfl,?_,λb H=>?_⟩
   ·rw[List.nodup_append];refine⟨a2,by simp,λx hx y hy q=>?_⟩;obtain rfl:=eW.mp hy;subst q;rw[a1]at j;refine ah (j.mem<|Fc hx) λd _ rd=>?_;have:∃o,s1.heap.get? x=aa o:=by
     cases rd with
     |list _ q=>exact⟨_,dZ q⟩
     |tuple _ q=>exact⟨_,dZ q⟩
    obtain⟨o,q⟩:=this;rw[Q]at q;injection q
   ·refine(eO.mp H).elim (a3 b) λq=>?_;obtain rfl:=eW.mp q;refine⟨rP M r b ?_,λz=>by rw[z,k1]at Q;injection Q⟩;cases q:s.heap.get? b with
    |none=>rfl
    |some o=>
     by_cases t:b∈W.T
     ·refine ah (L.ok.tStill _ u.tb b t) λo e _=>?_;rw[Q]at e;injection e
     ·have:=x1.keep b o t q;rw[Q]at this;injection this
def Iq(W:Wd)(X0 X Zs:List aj)(env:bu)(oa:Nat->aj)(t:ao)(px:aY)(ti:Nat):Prop:=
 ∀(A:cX)(f:Frm)(s:aC)(v:aq)(d:ak)(Q:Unit->aC->Prop),SR W X0 env oa X s.heap f->Rep (mask X s.heap) v d->(∀s',Kp W Zs s s'->SR W X0 env oa X s'.heap (f.put ti (.val d))->Q () s')->
  aI (aR W.prog W.w) A (oj (.Name t px) env v) Q a9 s
inductive TInv(W:Wd)(env:bu)(X0 X Z:List aj)(oa:Nat->aj)(D:aj)(fr:Option bL)(fc:Frm)(ti:Nat)(out:Frm->Option (List ak))(xs ds:List ak)(aN:aC)(St:Nat->bL->Prop)(n:Nat)(st:aC):Prop
 |mk (i:Nat) (iQ FA:List ak):i+n=xs.length->Kp W Z aN st->St i st.heap->SR W X0 env oa X st.heap fc->Acc D X fr st.heap iQ->gL out fc ti (xs.drop i)=aa FA->ds=iQ++FA->TInv W env X0 X Z oa D fr fc ti out xs ds aN St n st
theorem Ir(L:Lib W T O N){A:cX}{e:au}{dp:Nat}{t:ao}{px:aY}{M:Nat}{body:(aC->Prop)->aC->Prop}{U Y G:List aj}{u:Nat->aj}{I D:aj}{fp:List aj}{P:Nat->aq->Prop}{St:Nat->bL->Prop}{xs ds0 ds:List ak}{C:Frm}{y:Frm->Option (List ak)}{RR:Result->aC->Prop}{fr:Option bL}{H:aC}(kt:C6 W.prog W.w A e dp (.ref I) (.ref D) env (.Name t px) body)(bY:Iq W (I::U) (I::Y) G env u t px M)(hun:C.put M .un =C)(r:I∉U/\¬W.Base I/\I∉W.T)(Xn:I∉Y)(FB:∀a∈D::G,a∈Y)(hDZ:D∉G)(Fx:D∉W.T)(tY:∀a∈W.T,a∈U)(Wk:Walks W.prog W.w A I fp [I] xs.length P St)(iR:∀i h,St i h->∃o T fs,h.get? I=aa o/\o.cls=.type T/\uh T=ac/\o.data=.fields fs)(mY:∀b∈fp,b=I\/b∉I::Y)(hP:∀i v,P i v->i<xs.length->∃d,xs[i]?=aa d/\Rep (mask (I::Y) H.heap) v d)(Qmc:∀(x:ak)(o j:List ak)(s:aC)(K:aC->Prop),Kp W (I::D::G) H s->SR W (I::U) env u (I::Y) s.heap (C.put M<|.val x)->Acc D (I::Y) fr s.heap j->y (C.put M<|.val x)=aa o->(j++o).length <=100000->(∀Q,Kp W (D::G) s Q->SR W (I::U) env u (I::Y) Q.heap (C.put M<|.val x)->Acc D (I::Y) fr Q.heap (j++o)->K Q)->body K s)(hR:∀Q,Kp W (I::D::G) H Q->SR W U env u Y Q.heap C->Acc D Y fr Q.heap (ds0++ds)->RR (.ok .next) Q)(jJ:gL y C M xs=aa ds)(bk:(ds0++ds).length <=100000)(sr:SR W (I::U) env u (I::Y) H.heap C)(Qmd:St 0 H.heap)(acc:Acc D (I::Y) fr H.heap ds0): qA (aR W.prog W.w) A (.compLoop e dp (.ref I) (.ref D) env) RR H:=by
 have Xo:I∈I::Y:=dU;have Xp:I∉D::G:=λq=>Xn<|FB I q;have hDI:D≠I:=λq=>Xp<|q▸dU;have ZX:∀a∈I::D::G,a∈I::Y:=λa B=>(bF.mp B).elim (λq=>q▸Xo) λq=>bB _<|FB a q;have p:=sr.tXX;refine kt RR (TInv W env (I::U) (I::Y) (I::D::G) u D fr C M y xs (ds0++ds) H St) (λn st LO=>?_) xs.length H ⟨0,ds0,ds,n9 _,Kp.refl,Qmd,sr,acc,jJ,rfl⟩;obtain⟨i,j,FA,m,xt,LQ,aV,Fy,g,c⟩:=LO;have Bk:∀(h':bL)(tk:Nat),(∀b o,b∉[I]->st.heap.get? b=aa o->h'.get? b=aa o)->Kp W (I::D::G) H {st with heap:=h',toks:=tk}/\Acc D (I::Y) fr h' j:=λh' tk k=>by have k1:Kp W [I] st {st with heap:=h',toks:=tk}:=Kp.of tk k;exact⟨xt.trans<|k1.sub λa B=>eW.mp B▸dU,Fy.kp k1 (λa B=>eW.mp B▸Xo) p (λq=>hDI<|eW.mp q) Fx⟩
 refine dy (iR i _ LQ) λo Ty fs f1 f2 f3 f4=>?_;have nf:=Io f1 f2 (Ig f3) f4;by_cases l:i<xs.length
 ·refine Wk.item i st _ _ l LQ λv h' tk LR Bl k=>?_;refine wj (iR _ _ Bl) λo' _ _ al' _=>?_;refine aG (Bk h' tk k) λw mZ=>?_;have gP:SR W (I::U) env u (I::Y) h' C:=aV.other L.ok k λa B=>by
   obtain rfl:=eW.mp B;exact⟨dU,r.2.1,r.2.2,⟨o',al'⟩,λo e=>⟨(nf o e).1,(nf o e).2.1⟩⟩
  refine ah (hP i v LR l) λd LS rv=>?_;have LU:xs.drop i=d::xs.drop (i+1):=by refine af (Fd l) ?_;have:=mS.mp LS;exact af this.2 rfl
  rw[LU]at g;refine ah (b1 g) λa h1 f=>?_;refine ah (oV f) λds3 Qmh e=>?_;subst e;clear f g;refine bY A C _ v d _ gP (rv.mono<|w.mask ZX p) λs2 x2 bz=>?_;have Bm:=mZ.kp x2 (λa B=>bB _<|FB a<|bB _ B) p hDZ Fx;have l1:(j++a).length <=100000:=by rw[c,cw,cw]at bk;rw[cw];exact fS 0x1828926826432001828926826430d0200 Yt bk
  have Xq:Kp W (I::D::G) H s2:=w.trans<|x2.sub λa B=>bB _<|bB _ B;refine Qmc d a j s2 _ Xq bz Bm h1 l1 λs3 x3 dH LV=>?_;refine⟨n-1,by exact Nw m l,⟨i+1,j++a,ds3,by exact Nx m m l,Xq.trans<|x3.sub λa B=>bB _ B,?_,?_,LV,Qmh,by rw[c,mT]⟩⟩
  ·refine Wk.frame _ _ _ Bl λb hb o e=>?_;have q:b∉D::G/\b∉W.T:=(mY b hb).elim (λq=>by subst q;exact⟨Xp,r.2.2⟩) λq=>⟨λz=>q<|bB _<|FB b z,λz=>q<|p b z⟩;exact x3.keep b o q.1 q.2<|x2.keep b o (λz=>q.1<|bB _ z) q.2 e
  ·have:=dH.forget M;have e:(C.put M<|.val d).put M .un =C:=by
    conv=>rhs;rw[<-hun]
    unfold Frm.put;rw[List.set_set]
   rwa[e]at this
 ·have hi:i=xs.length:=by exact Ny m l
  clear m l;obtain rfl:=hi.symm;have xf:FA=[]:=by rw[Qlg]at g;obtain rfl:=aw g;rfl
  clear g;subst xf;rw[py]at c;refine Wk.done st _ _ LQ λh' tk k=>?_;refine aG (Bk h' tk k) λw mZ=>?_;have hf:(I::Y).filter (· ≠I)=Y:=by rw[List.filter_cons_of_neg (by simp),List.filter_eq_self];intro a B;simpa using λq:a=I=>Xn<|q▸B
  refine hR _ w (hf▸aV.drop L.ok tY r.1 (λb o n e=>k b o (by simpa using n) e) r.2.1 nf) ?_;rw[c];exact pP mZ λn vs h1 f h3 h4=>qS n vs h1 f (h3.mono<|zv λa B=>bB _ B) h4
end
end
section
section
variable {W:Wd} {T:Tabs} {O:bC} {N:Nat} {env:bu}
theorem QcI{M:Model}{A:cX}{E:aq->aC->Prop}{s:aC}{C:fH}{g:aj}{H:List<|ao×aj}{q:ao}{B:bu}{Q:bu->aC->Prop}(L:Q (newEnv C s.heap.objs.size g (ja (s.heap.push {cls:=.type "dict",data:=.dict #[]}).objs.size C.names []++H) q ab .none (aa B) u9) {s with heap:=pushCells (s.heap.push {cls:=.type "dict",data:=.dict #[]}) C.names}): aI M A (Wo C g H [] q ab .none<|aa B) Q E s:=by simp only[Wo,Option.isSome_some,if_true];refine bI<|wpAny_alloc ?_;refine bI (wpAny_layCells _ (λname D cells=>by cases G:D==ta<;>simp[G]) _ _ _ _ ?_);refine bI ?_;simp only[Wp];refine d6<|d6 ?_;have e:=Qcz C.names (s.heap.push {cls:=.type "dict",data:=.dict #[]}).objs.size [] H;rw[qC]at e;rw[<-e]at L;exact L
abbrev fz(sc:fH)(nw:List (ao×aj))(C:aj)(env:bu):bu:=compEnvC sc (nw++(ij env sc.names).reverse) C env
theorem QcJ(aU:dP c env)(fZ:iW c A.names=aa src)(U:gI A=ac){X0:List aj}{k:Nat->aj}{X:List aj}{f:Frm}{h:bL}(Y:SR W X0 env k X h f){C:aj}{B:List<|ao×aj}{H X':List aj}{h':bL}{m:ao->Option aq}(bs:W.Bs h')(tb:W.Tb h')(hk:∀a o,mask X h a=aa o->mask X' h' a=aa o)(r:∀c v,h.IsCell c v->h'.IsCell c v)(Xr:NwOk A.names B)(n:∀x c,(x,c)∈B->h'.IsCell c ab/\c∈X')(tX:∀a∈W.T,a∈H)(sub:∀a∈H,a∈X')(al:∀a∈X',∃o,h'.get? a=aa o)(hn:h'.Ns C m)(hC:C∈X'/\C∉H/\¬W.Base C)(XX:∀a∈X,a∈X'): SR W H (fz A B C env) k X' h'<|bU f src:=by
 refine ah Y.vars λm0 LW M=>?_;refine aG (Il fZ) λhl hs=>?_;have nd:(A.names.map (·.1)).Nodup :=by unfold gI at U;simp only[bo,bJ,bH]at U;exact U.2
 refine⟨bs,tb,tX,sub,al,hC,λx c e=>?_,(br m hn<|λi x kd e=>?_),λi j v w G t _ p _=>?_,?_⟩
 ·have e:(B++(ij env A.names).reverse).lookup x=aa c:=e;refine(eO.mp<|mem_of_lookup e).elim (λq=>?_) λq=>?_
  ·exact⟨(n x c q).2,_,(n x c q).1⟩
  ·have e':=Ij q;obtain⟨a,v,b⟩:=Y.cellI x c e';exact⟨XX c a,v,r c v b⟩
 ·refine ah (Q1 e) λl s q=>?_;refine aG (hs i x l s) λs1 z=>?_;have Q:(bU f src)[i]?=(src[i]?).map λo=>match o with|some i=>(match f[i]? with|some (.val d)=>FV.val d|_=>.un)|none=>.un :=by
   unfold bU;rw[fW]<;>rfl
  refine af Q ?_;by_cases g:l=.free
  ·clear z;subst g;refine dJ (s1 rfl) λj k1 t vH qJ=>?_;refine af t ?_;simp only[b7];refine ah (aU j x k1 vH) λk2 L y=>?_;have yt:k2=.cell \/k2=.free :=by
    clear L;rcases y with rfl|⟨_,rfl⟩
    ·exact qJ
    ·exact .inl rfl
   have vo:=M j x k2 L;revert vo;cases hfj:f[j]? with
   |none=>intro _;trivial
   |some fv=>
    cases fv with
    |un=>intro _;trivial
    |own xs=>intro _;trivial
    |own2 rs=>intro _;trivial
    |val d=>
     rintro⟨v,hv,hr⟩;obtain⟨c1,yu,qM⟩:∃c,env.cells.lookup x=aa c/\h.IsCell c (aa v):=by clear L y;rcases yt with rfl|rfl<;>exact hv
     have fK:kd=.free \/kd=.cell :=by
      clear e;rcases q with rfl|⟨_,rfl⟩
      ·exact .inl rfl
      ·exact .inr rfl
     refine⟨v,?_,hr.mono hk⟩;have D:=kf s;have:∃c,(fz A B C env).cells.lookup x=aa c/\h'.IsCell c (aa v):=(br c1 ((Xr.old nd D<|by decide).trans<|Q0 D yu)<|r _ _ qM);clear e q;rcases fK with rfl|rfl<;>exact this
  ·refine af (z g) ?_;trivial
 ·exfalso;unfold bU at G;rw[fW]at G;refine ah (cv.mp G) λo _ q=>?_;clear G;cases o with
  |none=>subst q;injection p
  |some j=>
   revert q;dsimp only;cases f[j]? with
   |none=>intro q;subst q;injection p
   |some u=>cases u<;>(intro q;subst q;injection p)
 ·show(bU f src).length =(qB A env).names.length;unfold bU qB;rw[b8,b8];exact hl
theorem It(Y:EnvOk env){c:Cx}(q:dP c env){A:fH}{src:List<|Option Nat}(U:iW c A.names=aa src):∀p∈A.names,p.2=.free ->∃c,env.cells.lookup p.1=aa c:=λp L Q=>by
 refine aE λC=>?_;obtain⟨i,M,e⟩:=rF L;have z:A.names[i]?=aa (p.1,p.2):=by simp only[ee M,e]
 refine dJ (((Il U).2 i p.1 p.2 z).1 Q) λj y v D G=>?_;refine ah (q j _ _ D) λk2 B H=>?_;apply C;clear C;refine Y.cellsAll j _ k2 B ?_;clear B;rcases H with rfl|⟨_,rfl⟩
 ·exact G
 ·exact .inl rfl
theorem QcK(k:W.Ok){i:Nat->aj}{X0 X U:List aj}(C:EnvOk env)(G:env.scope.names[n]?=aa (t,kd))(fK:kd=.local \/(kd=.cell /\∃c,env.cells.lookup t=aa c/\c∈U/\c∉X0/\¬W.Base c/\∀y r,env.cells.lookup y=aa r->r=c->y=t))(a:env.locals∈U): Iq W X0 X U env i t px n:=by
 intro A f s v d Q D Y l;refine Fe ?_;refine ah D.vars λm H z=>?_;have u:=C.kindAt G;rcases fK with rfl|⟨rfl,c,L,h1,h,w,x⟩
 ·exact K8 u H (λh' ft B=>l _ (Kp.of _ λb o M e=>B.extBut b o (λq=>M<|q▸a) e)<|D.storeLocal k C H z G ft B Y)<|af C.kind rfl
 ·refine aE λg=>?_;obtain⟨l8,v0,j⟩:=D.cellI t c L;apply g;clear g;exact K9 C.kind u L j λh' p B=>l _ (Kp.of s.toks λb o M e=>B.extBut b o (λq=>M<|q▸h1) e)<|D.storeCell k C H z G L ⟨h,w⟩ x j p B Y
end
end
section
section
variable {W:Wd} {T:Tabs} {O:bC} {N:Nat} {env:bu}
structure CStart(W:Wd)(env:bu)(sc:fH)(src:List (Option Nat))(oa:Nat->aj)(X:List aj)(f:Frm)(aN:aC)(xs:List ak)(I D C:aj)(nw:List (ao×aj))(s:aC):Prop where
 eo:EnvOk (fz sc nw C env)
 sr:SR W (I::D::X) (fz sc nw C env) oa (I::C::(nw.map (·.2)++D::X)) s.heap (bU f src)
 x:Ext W aN s
 bs:W.Bs aN.heap
 none1:∀a∈I::D::C::nw.map (·.2),aN.heap.get? a=ab
 apart:(I::D::C::nw.map (·.2)).Nodup
 nX:∀a,aN.heap.get? a=ab->a∉X/\¬W.Base a/\a∉W.T
 tX:∀a∈W.T,a∈X
 uniq:∀x c,(x,c)∈nw->∀y c',(fz sc nw C env).cells.lookup y=aa c'->c'=c->y=x
 nwok:NwOk sc.names nw
 walk:∃(fp:List aj)(P:Nat->aq->Prop)(St:Nat->bL->Prop),(∀A:cX,A.handled=.none ->Walks W.prog W.w A I fp [I] xs.length P St)/\St 0 s.heap/\
  (∀i h,St i h->∃o T fs,h.get? I=aa o/\o.cls=.type T/\uh T=ac/\o.data=.fields fs)/\(∀b∈fp,b=I\/b∉I::C::(nw.map (·.2)++D::X))/\
  (∀i v,P i v->i<xs.length->∃d,xs[i]?=aa d/\Rep (mask (I::C::(nw.map (·.2)++D::X)) s.heap) v d)
 acc:s.heap.get? D=aa {cls:=.type "list",data:=.seq ([]:List aq).toArray}
def Q3(W:Wd)(X:List aj)(aN:aC)(fr:Option bL)(ds:List ak)(RR:aq->aj->Result->aC->Prop):Prop:=∀(D C:aj)(Xc:List aj)(s':aC),Ext W aN s'->aN.heap.get? D=ab->aN.heap.get? C=ab->C≠D->(∃m,s'.heap.Ns C m)->(∀a∈X,a∈Xc)->C∈Xc->Acc D Xc fr s'.heap ds->RR (.ref D) C (.ok .next) s'
theorem CStart.tgt(k:W.Ok)(A:CStart W env B src Y X f u xs I D C G s)(v:gI B=ac)(M:B.names[U]?=aa (t,kd))(z:kd=.local \/kd=.cell)(px:aY)(X0 X':List aj)(L:∀c∈G.map (·.2),c∉X0): Iq W X0 X' (C::G.map (·.2)) (fz B G C env) Y t px U:=by
 refine ah (wM (env:=env) M) λy e q=>?_;refine QcK k A.eo e ?_ dU;rcases z with rfl|rfl
 ·rcases q with rfl|⟨q,_⟩
  ·exact .inl rfl
  ·injection q
 ·rcases q with rfl|⟨q,_⟩
  ·refine .inr ⟨rfl,?_⟩;refine ah (A.nwok.new (base:=(ij env B.names).reverse)<|kf M) λc Q j=>?_;have H:c∈G.map (·.2):=Fc Q;exact⟨c,j,bB _ H,L c H,(A.nX c<|A.none1 c<|bB _<|bB _<|bB _ H).2.1,A.uniq t c Q⟩
  ·injection q
theorem Iu{c:Cx}{B:fH}{src:List<|Option Nat}{A:Nat}{t:ao}{kd:dn}(G:iW c B.names=aa src)(C:B.names[A]?=aa (t,kd))(H:kd=.local \/kd=.cell):(bU f src)[A]?=aa .un :=by have D:src[A]?=aa Option.none:=((Il G).2 A t kd C).2 (by rcases H with rfl|rfl<;>decide);unfold bU;rw[fW];exact af D rfl
theorem Iv{f:Frm}(h:f[A]?=aa .un):f.put A .un =f:=by refine aF (mS.mp h) λC B=>?_;unfold Frm.put;refine bT B ?_;rw[List.set_getElem_self]
theorem Q4(L:Lib W T O N)(eo:EnvOk env)(am:AOk A N)(aU:dP c env)(fZ:iW c M.names=aa src)(dt:gI M=ac){elt Y iter:au}{ifs:List au}{da:List n5}{pos:aY}{X0:List aj}{oa:Nat->aj}{X:List aj}{f:Frm}{k H:aC}{yv:aq}{xs:List ak}{RR:aq->aj->Result->aC->Prop}(Q:SR W X0 env oa X k.heap f)(LX:Ext W k H)(ku:uj W X k H yv xs)(Qmm:∀(I D C:aj)(j:List<|ao×aj)(s:aC),CStart W env M src oa X f k xs I D C j s->qA (aR W.prog W.w) A (.compLoop (.ListComp elt (⟨Y,iter,ifs,0⟩::da) M pos) 0 (.ref I) (.ref D)<|fz M j C env) (RR (.ref D) C) s): aI (aR W.prog W.w) A (newList []) (λacc jI=>aI (aR W.prog W.w) A (Wo M env.globals (ij env M.names).reverse [] env.qual ab .none<|aa env) (λXs tG=> qA (aR W.prog W.w) A (.compStart (.ListComp elt (⟨Y,iter,ifs,0⟩::da) M pos) 0 yv acc {Xs with scope:=qB M env}) (RR acc Xs.locals) tG) a9 jI) a9 H:=by
 obtain⟨I,fp,P,St,rfl,hI,hW,bY,iR,mY,hP,vJ⟩:=ku;have bz:=Q.ext L.ok LX;refine Wq<|QcI ?_;generalize LY:H.heap.push {cls:=.type "list",dict:=ab,data:=.seq ([]:List aq).toArray}=u;have LZ:u.objs.size=H.heap.objs.size+1:=by refine bT LY ?_;rw[V9]
 generalize FD:u.push {cls:=.type "dict",data:=.dict #[]}=w;have Xu:w.objs.size=H.heap.objs.size+2:=by refine bT FD ?_;rw[V9,LZ]
 refine aG (QcC M.names w) λG Bo=>?_;generalize Xr:ja w.objs.size M.names []=j at G Bo;generalize hH4:pushCells w M.names=r at Bo;have L3:∀b o,w.get? b=aa o->r.get? b=aa o:=λb o e=>hH4▸pushCells_keeps M.names w b o e;have g:∀b o,H.heap.get? b=aa o->r.get? b=aa o:=λb o e=>L3 b o<|FD▸qn _ (LY▸qn _ e);have vO:∀tk,Ext W k {H with heap:=r,toks:=tk}:=λtk=>LX.trans<|Ext.grow L.ok tk g;have Tlt:∀a,H.heap.objs.size<=a->a∉W.T:=λa h q=>by refine ah (L.ok.tStill _ bz.tb a q) λo e _=>?_;exact qr _<|lZ (l5 e) h
 have t:∀a,H.heap.objs.size<=a->k.heap.get? a=ab:=λa U=>by
  cases q:k.heap.get? a with
  |none=>rfl
  |some o=>exact absurd (l5 (LX.keep a o (Tlt a U) q)) (E1.mpr U)
 have Xv:r.get? H.heap.objs.size=aa {cls:=.type "list",data:=.seq ([]:List aq).toArray}:=L3 _ _<|FD▸qn _ (LY▸kT _ rfl);have Xw:r.Ns u.objs.size λ_=>ab:=by have:w.Ns u.objs.size λ_=>ab:=FD▸Heap.Ns.new u (.type "dict");exact this.keeps L3
 refine wj (iR 0 _ bY) λoI _ _ eI _=>?_;have ltI:=l5 eI;have L4:∀c∈j.map (·.2),w.objs.size<=c/\r.IsCell c ab:=λc hc=>by obtain⟨p,hp,rfl⟩:=gk.mp hc;exact⟨(Bo p.1 p.2 hp).2,(Bo p.1 p.2 hp).1⟩
 have nTI:I∉W.T:=λq=>by refine ah (L.ok.tStill _ Q.tb I q) λo e _=>?_;rw[hI]at e;injection e
 have nX:∀a,k.heap.get? a=ab->a∉X/\¬W.Base a/\a∉W.T:=λa h=>⟨Q.ltX' a h,L.ok.fresh Q.bs h,λq=>by refine ah (L.ok.tStill _ Q.tb a q) λo e _=>?_;rw[h]at e;injection e⟩;have B:∀a∈I::H.heap.objs.size::u.objs.size::j.map (·.2),k.heap.get? a=ab:=λa U=>by
  simp only[bF]at U;rcases U with rfl|rfl|rfl|U
  ·exact hI
  ·exact t _<|eR _
  ·exact t _ (by rw[LZ];exact Nat.le_succ _)
  ·exact t _ (by have:=(L4 a U).1;exact fN 0x6210d83450006200 Yt Xu this)
 have nodup:(I::H.heap.objs.size::u.objs.size::j.map (·.2)).Nodup :=by
  have c1:∀c∈j.map (·.2),H.heap.objs.size+2<=c:=λc hc=>Xu▸(L4 c hc).1;refine mR.mpr ⟨λq=>?_,mR.mpr ⟨λq=>?_,mR.mpr ⟨λq=>?_,?_⟩⟩⟩
  ·simp only[bF]at q;rcases q with q|q|q
   ·lia
   ·lia
   ·have:=c1 _ q;lia
  ·simp only[bF]at q;rcases q with q|q
   ·lia
   ·have:=c1 _ q;exact aH 0xb81046003440 Yt this
  ·have:=c1 _ q;exact bS 0x2e041583240206203440 Yt LZ this
  ·exact List.pairwise_map.mpr G.apart
 have Qot:{newEnv M u.objs.size env.globals (j++(ij env M.names).reverse) env.qual ab .none (aa env) u9 with scope:=qB M env}=fz M j u.objs.size env:=rfl;have ni:∀a o,k.heap.get? a=aa o->a∉X->a∉I::u.objs.size::(j.map (·.2)++H.heap.objs.size::X):=λa o e n q=>by
  have no:a∉I::H.heap.objs.size::u.objs.size::j.map (·.2):=λq=>by rw[B a q]at e;injection e
  simp only[bF,eO,not_or]at q no;rcases q with q|q|q|q|q
  ·exact no.1 q
  ·exact no.2.2.1 q
  ·exact no.2.2.2 q
  ·exact no.2.1 q
  ·exact n q
 have l:∀a o,mask X k.heap a=aa o->mask (I::u.objs.size::(j.map (·.2)++H.heap.objs.size::X)) r a=aa o:=λa o e=>by refine aG (cy.mp e) λn1 e1=>?_;exact cy.mpr ⟨ni a o e1 n1,(vO 0).keep a o (λq=>n1<|Q.tXX a q) e1⟩
 refine(?_:CStart W env M src oa X f k xs I H.heap.objs.size u.objs.size j {H with heap:=r}->_) ⟨QcD eo dt G<|It eo aU fZ,?_,vO H.toks,Q.bs,B,nodup,nX,Q.tXX,λx c hm y c' e q=>?_,G,?_,Xv⟩
 ·intro cs;have m:=Qmm _ _ _ _ _ cs;exact codeAny_compStart_list m<|(hW A am.handled).self 0 _ _ _ ((hW A am.handled).frame _ _ _ bY λb _ o e=>g b o e) m
 ·refine QcJ aU fZ dt Q ((vO 0).bs Q.bs) ((vO 0).tb Q.tb) l (λc v i=>CJ (vO 0).keep (sj L.ok Q.tb i) i) G (λx c hm=>⟨(Bo x c hm).1,?_⟩) (λa U=>bB _<|bB _<|Q.tXX a U) (λa U=>?_) (λa U=>?_) Xw ⟨by simp,λq=>?_,L.ok.fresh Q.bs<|B _<|by simp⟩ λa U=>by simp[U]
  ·exact bB _<|bB _<|sY _<|Fc hm
  ·simp only[bF,eO]at U⊢;rcases U with h|h|h
   ·exact .inl h
   ·exact .inr<|.inr<|.inr<|.inl h
   ·exact .inr<|.inr<|.inr<|.inr h
  ·simp only[bF,eO]at U;rcases U with rfl|rfl|h|rfl|h
   ·exact⟨_,g _ _ eI⟩
   ·obtain⟨o,_,_,e,_⟩:=Xw;exact⟨o,e⟩
   ·obtain⟨o,e,_⟩:=(L4 a h).2;exact⟨o,e⟩
   ·exact⟨_,Xv⟩
   ·by_cases q:a∈W.T
    ·refine ah (L.ok.tStill _ ((vO 0).tb Q.tb) a q) λo e _=>?_;exact⟨o,e⟩
    ·refine aF (Q.alX a h) λo e=>?_;exact⟨o,(vO 0).keep a o q e⟩
  ·simp only[bF]at q;have:=B u.objs.size (by simp);rcases q with q|q|q
   ·lia
   ·lia
   ·exact(nX _ this).1 q
 ·have e:(j++(ij env M.names).reverse).lookup y=aa c':=e;refine(eO.mp<|mem_of_lookup e).elim (λz=>?_) λz=>?_
  ·exact La G.apart (q▸z) hm
  ·exfalso;obtain⟨_,v,o,e2,_⟩:=Q.cellI y c'<|Ij z;rw[q,B c<|bB _<|bB _<|bB _<|Fc hm]at e2;injection e2
 ·refine⟨fp,P,St,hW,(hW A am.handled).frame _ _ _ bY λb _ o e=>g b o e,iR,λb hb=>(mY b hb).imp id λ⟨n1,o1,e1⟩=>ni b o1 e1 n1,λi v hp hi=>?_⟩;exact ah (hP i v hp hi) λd h1 h2=>⟨d,h1,h2.mono l⟩
end
end
section
section
variable {W:Wd} {T:Tabs} {O:bC} {N:Nat} {env:bu}
theorem CStart.fin(A:CStart W env L src M X f j xs I D C G s)(x:Kp W (I::D::C::G.map (·.2)) s B)(H:SR W (D::X) (fz L G C env) M (C::(G.map (·.2)++D::X)) B.heap u)(acc:Acc D (C::(G.map (·.2)++D::X)) fr B.heap ds)(v:Q3 W X j fr ds z):z (.ref D) C (.ok .next) B:=by have Y:=mR.mp A.apart;have y:=mR.mp Y.2;refine v D C _ B ((A.x.kp.trans x).ext A.none1 H.bs H.tb) (A.none1 D<|by simp) (A.none1 C<|by simp) (λq=>y.1<|q▸dU) ?_ (λa U=>by simp[U]) dU acc;exact ah H.vars λm Q _=>⟨m,Q⟩
theorem CStart.facts(A:CStart W env y src v X f u xs I D C B s): (I∉D::X/\¬W.Base I/\I∉W.T)/\I∉C::(B.map (·.2)++D::X)/\(∀a∈D::C::B.map (·.2),a∈C::(B.map (·.2)++D::X))/\D∉C::B.map (·.2)/\(D∈D::X/\¬W.Base D/\D∉W.T)/\(∀a∈W.T,a∈D::X)/\∀c∈B.map (·.2),c∉I::D::X:=by
 have U:=mR.mp A.apart;have z:=mR.mp U.2;have L:=A.nX I (A.none1 I<|by simp);have j:=A.nX D (A.none1 D<|by simp);have H:=U.1;have Q:=z.1;simp only[bF,not_or]at H Q;refine⟨⟨by simp[H.1,L.1],L.2⟩,by simp[H,L.1],λa G=>?_,by simp[Q],⟨by simp,j.2⟩,λa G=>bB _<|A.tX a G,λc M=>?_⟩
 ·simp only[bF,eO]at G⊢;rcases G with h|h|h
  ·exact .inr<|.inr<|.inl h
  ·exact .inl h
  ·exact .inr<|.inl h
 ·have Y:=A.nX c (A.none1 c<|by simp[M]);simp only[bF,not_or];exact⟨λq=>H.2.2<|q▸M,λq=>Q.2<|q▸M,Y.1⟩
abbrev sB(b:Bool)(W:Wd)(T:Tabs)(O:bC)(N:Nat)(env:bu)(e:au)(sc:fH)(src:List (Option Nat))(ti:Nat)(out:Nat->Frm->Option (List ak)):Prop:=
 ∀(fu:Nat)(A:cX)(fr:Option bL)(oa:Nat->aj)(X:List aj)(f:Frm)(aN s:aC)(I D C:aj)(nw:List (ao×aj))(xs ds:List ak)(RR:aq->aj->Result->aC->Prop),AOk A N->fr.isSome=b->(∀h0,fr=aa h0->∀a,aN.heap.get? a=ab->h0.get? a=ab)->
  CStart W env sc src oa X f aN xs I D C nw s->gL (out fu) (bU f src) ti xs=aa ds->ds.length<=100000->Q3 W X aN fr ds RR->qA (aR W.prog W.w) A (.compLoop e 0 (.ref I) (.ref D) (fz sc nw C env)) (RR (.ref D) C) s
abbrev C8(T:Tabs)(O:bC)(l9:ME)(ms:List ME)(fu:Nat):Frm->Option (List ak):=rc (λg=>ai T O fu l9 g) (λg=>iH (λc=>aS T O fu c g) ms)
theorem Q5(L:Lib W T O N)(fZ:iW c G.names=aa src)(dt:gI G=ac)(v:G.names[r]?=aa (t,kd))(k:kd=.local \/kd=.cell){elt iter:au}{M:List au}{px pos:aY}{u:ME}{ms:List ME}{b:Bool}(w:∀C H,EnvOk (fz G H C env)->wN W T O N (fz G H C env) M ms)(he:∀C H,EnvOk (fz G H C env)->SEf b W T O N (fz G H C env) elt u): sB b W T O N env (.ListComp elt [⟨.Name t px,iter,M,0⟩] G pos) G src r<|C8 T O u ms:=by intro fu A fr oa X f aN s I D C H xs ds RR m hb e B p bk Bq;obtain⟨fp,P,St,hW,bY,i,n,hP⟩:=B.walk;refine aE λd=>?_;obtain⟨f1,f2,l,f4,z,f6,f7⟩:=B.facts;apply d;clear d;refine Ir (ds0:=[]) L Qcq (B.tgt L.ok dt v k px _ _ f7) (Iv<|Iu fZ v k) f1 f2 l f4 z.2.2 f6 (hW A m.handled) i n hP (λx o iQ s2 K x2 g Bm h hl hK=>?_) (λy U j Y=>B.fin U j Y Bq) p bk B.sr bY ⟨0,[],B.acc,kh _,.nil,λ_ _=>⟨[],rfl,Ws,λ_ q=>nomatch q⟩⟩;refine Q2 L m (w C H B.eo) (hb▸he C H B.eo) ⟨bB _ z.1,z.2⟩ (λh0 e0 a Q=>e h0 e0 a ?_) g Bm h hl λy U j Y=>hK y (U.sub λa Q=>eW.mp Q▸dU) j Y;refine(B.x.kp.trans x2).alive L.ok (λa Q=>?_) g Q;exact(bF.mp Q).elim (λq=>q▸dU) λq=>bB _<|l a q
theorem QcL(L:Lib W T O N)(fZ:iW c G.names=aa src)(dt:gI G=ac)(md:G.names[ti]?=aa (t,kd))(fK:kd=.local \/kd=.cell)(Xx:G.names[ui]?=aa (u,pI))(Xy:pI=.local \/pI=.cell)(cj:ti≠ui){elt iter je:au}{Y:List au}{px L6 pos:aY}{l9 FE:ME}{ms:List ME}(mf:nK je=ac)(ht:∀C B,EnvOk (fz G B C env)->wN W T O N (fz G B C env) Y ms)(he:∀C B,EnvOk (fz G B C env)->SEf ae W T O N (fz G B C env) elt l9)(ku:∀C B,EnvOk (fz G B C env)->SI W T O N (fz G B C env) je FE): sB ae W T O N env (.ListComp elt [⟨.Name t px,iter,[],0⟩,⟨.Name u L6,je,Y,0⟩] G pos) G src ti<|λfu g=>(cC T O fu FE g).bind λys=>gL (C8 T O l9 ms fu) g ui ys:=by
 intro fu A fr oa X f aN s I D C B xs ds RR am hb rP H jJ bk Bq;obtain⟨fp,P,St,hW,m,iR,mY,hP⟩:=H.walk;refine aE λcG=>?_;obtain⟨f1,f2,f3,f4,l,f6,f7⟩:=H.facts;apply cG;clear cG;refine Ir (ds0:=[]) L (Qcv<|C5 mf _) (H.tgt L.ok dt md fK px _ _ f7) (Iv<|Iu fZ md fK) f1 f2 f3 f4 l.2.2 f6 (hW A am.handled) iR mY hP (λx o iQ s2 K x2 bz Bm ho hl hK=>?_) (λs' p gP h=>H.fin p gP h Bq) jJ bk H.sr m ⟨0,[],H.acc,kh _,.nil,λ_ _=>⟨[],rfl,Ws,λ_ q=>nomatch q⟩⟩;clear jJ hW m iR mY hP;refine ah (b1 ho) λys h1 h2=>?_;refine ku C B H.eo fu A _ oa _ _ s2 ys _ am bz h1 λyv sa sb k z hi=>?_;obtain⟨M,fp,P,St,rfl,hI,hW,m,iR,mY,hP,vJ⟩:=hi;have j:=bz.ext L.ok k;have srb:=j.ext L.ok z;refine wj (iR 0 _ m) λoI _ _ eI _=>?_;have rQ:=j.hide L.ok z λa ha=>by obtain rfl:=eW.mp ha;exact⟨hI,oI,eI⟩
 have nI:=j.ltX' M hI;have nT:M∉W.T:=λq=>nI<|j.tXX M q;have Xz:s2.heap.get? M=ab:=by
  cases q:s2.heap.get? M with
  |none=>rfl
  |some o=>have:=k.keep M o nT q;rw[hI]at this;injection this
 have Qmp:Acc D (M::I::C::(B.map (·.2)++D::X)) fr sb.heap iQ:=pP Bm λn vs k1 k2 k3 k4=>by refine qS n vs (z.keep D _ l.2.2<|k.keep D _ l.2.2 k1) k2 (k3.mono λa o e=>?_) k4;refine aG (cy.mp e) λU Q=>?_;refine cy.mpr ⟨λq=>?_,(k.trans z).keep a o (λq=>U<|bz.tXX a q) Q⟩;exact(bF.mp q).elim (λq=>by rw[q,Xz]at Q;injection Q) U
 have w:∀a o,sa.heap.get? a=aa o->a∉I::C::(B.map (·.2)++D::X)->a∉M::I::C::(B.map (·.2)++D::X):=λa o e n q=>(bF.mp q).elim (λq=>by rw[q,hI]at e;injection e) n;have Wk:=hW A am.handled;have key:qA (aR W.prog W.w) A (.compLoop (.ListComp elt [⟨.Name t px,iter,[],0⟩,⟨.Name u L6,je,Y,0⟩] G pos) 1 (.ref M) (.ref D)<|fz G B C env) (λr vN=>r=.ok .next /\K vN) sb:=by
  refine Ir L Qcs (H.tgt L.ok dt Xx Xy L6 _ _ λc hc q=>?_) (Iv ?_) ⟨λq=>nI<|bz.sub M q,L.ok.fresh j.bs hI,nT⟩ nI (λa ha=>bB _<|f3 a ha) f4 l.2.2 bz.tX Wk iR (λb hb=>(mY b hb).imp id λ⟨U,o1,Q⟩=>w b o1 Q U) (λi v hp hi=>?_) (λy o iQ s3 K x3 dH LV ho hl hK=>?_) (λs' p gP h=>?_) h2 hl rQ m Qmp
  ·refine(bF.mp q).elim (λq=>?_)<|f7 c hc;have:=k.keep c;exact nI<|q▸bB _ (bB _<|sY _ hc)
  ·rw[pV,av cj];exact Iu fZ Xx Xy
  ·exact ah (hP i v hp hi) λd h1 h2=>⟨d,h1,h2.mono λa o e=>aG (cy.mp e) λU Q=>cy.mpr ⟨w a o Q U,z.keep a o (λq=>U<|j.tXX a q) Q⟩⟩
  ·refine Q2 L am (ht C B H.eo) (hb▸he C B H.eo) ⟨bB _<|bB _ l.1,l.2⟩ (λh0 e0=>by rw[e0]at hb;injection hb) dH LV ho hl λs' p gP h=>hK s' (p.sub λa ha=>eW.mp ha▸dU) gP h
  ·exact⟨rfl,hK s' (Kp.drop ((k.kp.trans z.kp).trans p) Xz) gP h⟩
 exact Qcw key<|Wk.self 0 _ _ _ m key
end
end
section
section
variable {W:Wd} {T:Tabs} {O:bC} {N:Nat} {env:bu}
theorem Ext.mutNew(k:W.Ok)(x:Ext W s A)(M:W.Bs s.heap){Wr:List aj}(t:Nat)(D:∀a∈Wr,s.heap.get? a=ab/\∀o,A.heap.get? a=aa o->¬oR o)(C:∀b o,b∉Wr->A.heap.get? b=aa o->h'.get? b=aa o):Ext W s {A with heap:=h',toks:=t}:=by
 have B:∀b o,s.heap.get? b=aa o->b∉Wr:=λb o e q=>by rw[(D b q).1]at e;injection e
 obtain⟨⟨h,tk,H⟩,kk,L,G⟩:=x;subst H;exact⟨(gH h' t rfl),λb o n e=>C b o (B b o e)<|kk b o n e,
  λb=>k.bsKeep _ _ (L b) λc o base e=>C c o (λq=>k.fresh M (D c q).1 base) e,
  λb=>k.tbKeep _ _ (G b) λc o e st=>C c o (λq=>(D c q).2 o e st) e⟩
theorem QcM(k:W.Ok)(b1:W.Bs G.heap)(x:Ext W G A)(Y:G.heap.get? C=ab)(v:C≠D)(B:∃m,A.heap.Ns C m)(L:∀a∈X,a∈H)(M:C∈H){ds:List ak}(h:Acc D H fr A.heap ds){h':bL}(hs:jC C A.heap h')(t:Nat):Ext W G {A with heap:=h',toks:=t}/\Acc D X fr h' ds:=by refine aF B λm B=>?_;refine pP h λn vs y q z j=>?_;refine⟨x.mutNew k b1 t (λa U=>by obtain rfl:=eW.mp U;exact⟨Y,Ip B⟩) λb o Q e=>hs.extBut b o (by simpa using Q) e,?_⟩;exact qS n vs ((hs.2 D<|gD v).trans y) q ((z.mono<|wD hs M).mono<|zv L) j
theorem Acc.rep(h:Acc D X fr hp ds)(A:D∉X):Rep (mask X hp) (.ref D)<|.list ds:=pP h λn vs G C B _=>Rep.mkList (cy.mpr ⟨A,G⟩) C B
abbrev wO(T:Tabs)(O:bC)(m f0:ME)(src:List (Option Nat))(ti:Nat)(out:Nat->Frm->Option (List ak)):Prop:=∀(fu:Nat)(f:Frm)(d:ak),ai T O fu m f=aa d->∃n xs ds,cC T O n f0 f=aa xs/\gL (out n) (bU f src) ti xs=aa ds/\ds.length<=100000/\d=.list ds
theorem Q6:wO T O (.comp src A B C ms) C src A<|C8 T O B ms:=λ_ _ _ h=>Qbh h
theorem QcN:wO T O (.comp2 src B A C D G ms) D src B<|λfu g=>(cC T O fu G g).bind λys=>gL (C8 T O C ms fu) g A ys:=λ_ _ _ h=>Qbi h
theorem Q7(B:gI A=ac):∀y∈A.names,y.2=.local ->A.names.lookup y.1=aa .local :=λy D G=>by
 unfold gI at B;simp only[bo,bJ,bH]at B;obtain⟨j,H,e⟩:=rF D;have C:A.names[j]?=aa (y.1,y.2):=by exact af (ee H)<|af e rfl
 rw[G]at C;exact CI B.2 C
theorem Q8(A:gI B=ac):B.kind=.function :=by unfold gI at A;simp only[bo,bJ,bH]at A;exact A.1
theorem zC(k:W.Ok)(A:SR W X0 env B X s1.heap f)(x1:Ext W s s1)(h:s1.heap.get? a=ab):s.heap.get? a=ab:=(x1.kp (Z:=[])).alive k (λ_ q=>nomatch q) A h
noncomputable def zD(b:Bool)(h:bL):Option bL:=if b then aa h else ab
theorem Q9(L:Lib W T O N)(l:EnvOk env)(t:dP c env)(k:iW c U.names=aa src)(q:gI U=ac){elt B iter:au}{M:List au}{da:List n5}{pos:aY}{o:ME}{H:Nat->Frm->Option (List ak)}(w:nK iter=ac)(ku:SI W T O N env iter o){b:Bool}(hl:sB b W T O N env (.ListComp elt (⟨B,iter,M,0⟩::da) U pos) U src g H){fu:Nat}{A:cX}{X0:List aj}{j:Nat->aj}{X:List aj}{f:Frm}{s:aC}{xs ds:List ak}{Q:aq->aC->Prop}(y:AOk A N)(v:SR W X0 env j X s.heap f)(p:cC T O fu o f=aa xs)(cJ:gL (H fu) (bU f src) g xs=aa ds)(bk:ds.length<=100000)(hQ:∀D G,Ext W s G->s.heap.get? D=ab->Acc D X (zD b s.heap) G.heap ds->Q (.ref D) G): aI (aR W.prog W.w) A (eval (.ListComp elt (⟨B,iter,M,0⟩::da) U pos) env) Q a9 s:=by
 rw[eval_ListComp];refine Qlh rfl (C5 w env) (QZ<|It l t k) (Q8 q) (Q7 q) (ku fu A X0 j X f s xs _ y v p λyv s1 s2 x1 x2 i=>?_);have Y:=v.ext L.ok x1;refine Q4 L l y t k q Y x2 i λI D C x r cs=>hl fu A (zD b s.heap) j X f s1 r I D C x xs ds _ y (by cases b<;>rfl) (λh0 e a z=>?_) cs cJ bk λD C Xc G d hD hC Br u n h z=>?_
 ·cases b with
  |false=>exact nA e
  |true=>obtain rfl:=aw e;exact zC L.ok Y x1 z
 refine aF (id u) λm hm=>?_;exact⟨m,hm,λh' gQ=>aG (QcM L.ok Y.bs d hC Br u n h z gQ G.toks) λa b=>hQ _ _ (x1.trans a) (zC L.ok Y x1 hD) b⟩
theorem Ra(L:Lib W T O N)(g:EnvOk env)(i:dP c env)(t:iW c H.names=aa src)(e:gI H=ac){elt B iter:au}{G:List au}{da:List n5}{pos:aY}{m j:ME}{C:Nat->Frm->Option (List ak)}(y:nK iter=ac)(v:SI W T O N env iter j)(k:sB ae W T O N env (.ListComp elt (⟨B,iter,G,0⟩::da) H pos) H src z C)(u:wO T O m j src z C):SEf ac W T O N env (.ListComp elt (⟨B,iter,G,0⟩::da) H pos) m:=by intro fu A X0 w X f s d Q b M U l;refine dy (u fu f d U) λfu xs ds q n p r=>?_;clear U;subst r;exact Q9 L g i t e y v k b M q n p λD a x Y o=>l _ _ x (o.rep<|M.ltX' D Y) λ_=>⟨D,rfl,Y⟩
end
end
section
section
variable {W:Wd} {T:Tabs} {O:bC} {N:Nat}
structure Snd(W:Wd)(T:Tabs)(O:bC)(N:Nat)(env:bu)(e:au)(m:ME):Prop where
 se:SE W T O N env e m
 sb:SB W T O N env e m
 st:iY W T O N env e m
 si:SI W T O N env e m
def Rb(m:ME):Bool:=CR m&&(CT m&&zA m)
theorem Snd.of_se(L:Lib W T O N)(A:Ic e=ac)(B:Rb m=ac)(h:SE W T O N env e m):Snd W T O N env e m:=aG (fP.mp B) λa b=>aG (fP.mp b) λb c=>⟨h,sx a h,CV A b h,uk L c h⟩
theorem QcO(L:Lib W T O N)(m:EnvOk env)(y:env.kindOf (mD t)=aa .globalImplicit)(q:SE W T O N env l Y): iY W T O N env (.Compare l [if neg then .NotIn else .In] [.Name (mD t) np] pos)<|.gIn t neg Y:=by intro fu A X0 U X f s d Q G B C o;refine eE (H7 rfl C) λfu z hz C=>?_;refine ky (QF hz) λfu a b k u r=>?_;clear hz;subst r;obtain rfl:=aw C;refine aE λD=>?_;refine tU (L.tabs.tab t) λv j g _ _=>?_;apply D;clear D;refine Qk8 (q fu A X0 U X f s a _ G B k λH s1 x1 M=>ug L.ok (B.ext L.ok x1).bs m (by cases t<;>decide) y j ?_) (by cases neg<;>rfl);exact g neg A N X s1 H a b _ G (B.ext L.ok x1).bs u M λe x2=>Wh<|o _<|x1.trans x2
def QcP(e:au):Prop:=fE e=ac/\nK e=ac/\∀a b p,e≠.Slice a b ab p
theorem gV(h:bq n c e=aa m):fE e=ac/\nK e=ac/\∀a b p,e≠.Slice a b ab p:=by
 cases n with
 |zero=>injection h
 |succ n=>exact(show Says (bq (n+1) c e) (λ_=>QcP e)from by clear h;cases e using yc<;>first|exact i8|exact .of λ_ _=>⟨rfl,rfl,λ_ _ _ q=>Expr.noConfusion q⟩).get h
theorem zE(L:dP c env)(H:EnvOk env)(h:c.glob x=ac):env.kindOf x=aa .globalImplicit :=by
 cases e:c.find x with
 |none=>rw[Cx.glob,e]at h;exact gC h
 |some q=>
  refine aE λB=>?_;obtain⟨i,k⟩:=q;rw[Cx.glob,e]at h;obtain rfl:k=.globalImplicit :=eq_of_beq h;refine ah (L _ _ _<|Cx.find_at e) λM G A=>?_;apply B;clear B;refine fI A (λC=>?_) λD=>?_
  ·clear A;subst C;exact H.kindAt G
  ·obtain⟨q,_⟩:=D;injection q
theorem Iw(B:dP c env)(h:c.find x=aa (i,k)):∃A,env.scope.names[i]?=aa (x,A)/\(k=A\/(k=.free /\A=.cell)):=B _ _ _<|Cx.find_at h
theorem QcQ(h:Hb x=aa t):x=mD t:=by
 unfold Hb at h;repeat' split at h
 all_goals first
  |contradiction
  |(obtain rfl:=aw h;rename_i q;exact eq_of_beq q)
theorem Rc(h:Cd op=aa b):op=ud b:=by cases op<;>first|contradiction|(obtain rfl:=aw h;rfl)
theorem QcR(h:OG op=aa b):op=so b:=by cases op<;>first|contradiction|(obtain rfl:=aw h;rfl)
theorem QcS(h:OP o a=aa m):(o=.USub /\m=.neg a)\/(o=.Invert /\m=.inv a)\/(o=.Not /\m=.nt a):=by
 cases o<;>cases h
 ·exact .inr<|.inl ⟨rfl,rfl⟩
 ·exact .inr<|.inr ⟨rfl,rfl⟩
 ·exact .inl ⟨rfl,rfl⟩
theorem QcT(h:OQ op=aa b):op=if b then .NotIn else .In :=by cases op<;>first|(cases h;rfl)|injection h
theorem QcU(h:tZ x=aa m):Rb m=ac:=by
 unfold tZ at h;repeat' split at h
 all_goals first
  |contradiction
  |(obtain rfl:=aw h;rfl)
theorem QcV(h:nK e=ac):Wg op e=ae:=by cases e<;>first|rfl|injection h
theorem Ix{f:α->β->γ}(h:(do let x<-a;let y<-b;pure (f x y))=aa c):∃x y,a=aa x/\b=aa y/\c=f x y:=by
 cases a with
 |none=>injection h
 |some x=>cases b with
  |none=>injection h
  |some y=>obtain rfl:=aw h;exact(ji x y rfl rfl rfl)
theorem sC{f:α->β->δ->γ}(h:(do let x<-a;let y<-b;let z<-d;pure (f x y z))=aa c):∃x y z,a=aa x/\b=aa y/\d=aa z/\c=f x y z:=by
 cases a with
 |none=>injection h
 |some x=>cases b with
  |none=>injection h
  |some y=>cases d with
   |none=>injection h
   |some z=>obtain rfl:=aw h;exact(jj x y z rfl rfl rfl rfl)
theorem QcW(h:Ha x=aa g):tV[g]?=aa x:=by unfold Ha at h;refine ah (List.findIdx?_eq_some_iff_getElem.mp h) λB A _=>?_;simp only[ee B,eq_of_beq A]
theorem Iy(h:Cg c e=aa t):∃p,e=.Name (mD t) p/\c.glob (mD t)=ac:=by refine aE λA=>?_;refine ah (bO.mp h) λD B h=>?_;obtain⟨x,p⟩:=D;refine aG (jP h) λC h=>?_;obtain rfl:=QcQ h;apply A;clear A;exact(br p (t6 B) C)
theorem Rd{f:Frm}(h:f.rows i=aa A):f[i]?=aa (.own2 A):=by
 revert h;unfold Frm.rows;refine oc f[i]? (λe h=>?_) λv e h=>?_
 ·exact nA h
 ·cases v with
  |own2 r=>obtain rfl:=aw h;rfl
  |_=>exact nA h
theorem QcX(h:oP B x y=aa d):∃i j r k,x=.int i/\y=.int j/\0<=i/\0<=j/\B[i.toNat]?=aa r/\r[j.toNat]?=aa k/\d=.int k:=by refine ah (b1 h) λG A h=>?_;obtain⟨i,j⟩:=G;refine aG (mQ.mp h) λq h=>?_;simp only[bo,bH]at q;refine ah (b1 h) λr D h=>ah (oV h) λk C e=>?_;exact Y6 i j r k (nu A).1 (nu A).2 q.1 q.2 D C e
theorem SR.own2At(r:SR W X0 env A X h f)(G:env.scope.names[i]?=aa (x,.local))(H:f[i]?=aa (.own2 B)): ∃m,h.Ns env.locals m/\m x=aa (.ref<|A i)/\Own2 W X0 X h (A i) B:=by refine aE λL=>?_;refine ah r.vars λm D C=>?_;have q:=C i x _ G;rw[H]at q;obtain⟨_,a,b⟩:=q;exact L ⟨m,D,a,b⟩
theorem Iz{vs:List aq}{n:Nat}{v:aq}(h:gU hp a vs)(B:vs[n]?=aa v):(n:Int)<2^63:=by
 refine ah h λm _ e=>?_;have:=(mS.mp B).1;have A:(cH:Int)<2^63:=by refine af eu ?_;decide
 exact mv 0x3c208208208208208208208208208208226c20601039020f082082082082082082082082082082089b00 Yt e this A
theorem Re{X0 X:List aj}{Q:aq->aC->Prop}{k:Int}{t:gm}(o:Own2 W X0 X s.heap a Y)(u:0<=k)(L:Y[k.toNat]?=aa r)(q:∀b D,b∈X/\b∉X0/\¬W.Base b->(∃H,gU s.heap a H/\H[k.toNat]?=aa (.ref b))->gU s.heap b D->(∀g,RepL g D<|r.map .int)->Q (.ref b) s): aI (aR W.prog W.w) A (rH (.ref a)<|.int k t) Q a9 s:=by
 refine aE λU=>?_;obtain⟨B,l,m,j,len,rows⟩:=o;have d:=(mS.mp L).1;have M:B[k.toNat]?=aa B[k.toNat]:=ee<|len▸d;have G:(B.map ye)[k.toNat]?=aa (.ref B[k.toNat]):=by rw[fW,M];rfl
 have z:B[k.toNat]∈B:=Wt _;refine ah (rows _ _ _ M L) λD v y=>?_;have C:k<2^63:=by have:=Iz l G;exact GA this
 apply U;clear U;obtain⟨n,e,_⟩:=id l;refine V8 ⟨_,e,rfl,_,rfl⟩ u C (by simpa using G)<|q _ D (j _<|bB _ z) ⟨_,l,G⟩ v y
theorem Own2.ext(k:W.Ok)(C:W.Tb s.heap)(o:Own2 W X0 X s.heap a D)(x:Ext W s B):Own2 W X0 X B.heap a D:=by have z:∀{b A},gU s.heap b A->gU B.heap b A:=λ⟨n,e,l⟩=>⟨n,x.keep _ _ (pU k C e rfl) e,l⟩;obtain⟨Y,l,G,H,len,rows⟩:=o;exact⟨Y,z l,G,H,len,λj b r U Q=>ah (rows j b r U Q) λA M L=>⟨A,z M,L⟩⟩
theorem QcY{N:Nat}(L:Lib W T O N)(eo:EnvOk env)(C:fy x=ac)(y:env.scope.names[i]?=aa (x,.local)){a b:au}(fJ:∀u v q,a≠.Slice u v ab q)(D:∀u v q,b≠.Slice u v ab q)(ha:SE W T O N env a ma)(hb:SE W T O N env b mb):SE W T O N env (.Subscript (.Subscript (.Name x p) a p1) b p2)<|.idx2 i ma mb:=by
 intro fu A X0 M X f s d Q h B he hQ;refine B9 (Qbj he) λfu rs u v h1 h2 h3 h4=>?_;refine Y5 (QcX h4) λj k r z e1 e2 q1 q2 q3 q4 e3=>?_;subst e1;subst e2;subst e3;have hf:=Rd h1;unfold fy at C;simp only[bo,bJ]at C;refine nl (B.own2At y hf) λm hn hm o=>?_;refine zy D<|zy fJ<|pX eo C y hn (show VarAt env s.heap m x .local _ from hm)<|ha fu A X0 M X f s _ _ h B h2 λv1 s1 x1 H=>?_;refine aF H.int_inv λt e=>?_;clear H;subst e;have aV:=B.ext L.ok x1;have U:=o.ext L.ok B.tb x1;refine⟨⟨_,zx,?_⟩,Re U q1 q3 λc us hc ne l1 rp=>?_⟩
 ·obtain⟨as,⟨n,e,_⟩,_⟩:=U;exact⟨_,e,rfl⟩
 refine hb fu A X0 M X f s1 _ _ h aV h3 λv2 s2 x2 G=>?_;refine aF G.int_inv λt' e=>?_;clear G;subst e;obtain⟨n,e,l⟩:=l1;have g:=x2.keep _ _ (pU L.ok aV.tb e rfl) e;refine⟨⟨_,zx,_,g,rfl⟩,?_⟩;refine ah ((rp<|mask X s2.heap).getSome<|by rw[fW,q4];rfl) λw Y Fp=>?_;exact V8 ⟨_,g,rfl,_,rfl⟩ q2 (by have:=Iz ⟨n,e,l⟩ Y;exact GA this) (by simpa using Y)<|hQ _ _ (x1.trans x2) Fp
theorem C9(D:dP c env)(A:c.find x=aa (i,.local)):env.scope.names[i]?=aa (x,.local):=by
 refine ah (Iw D A) λG C B=>?_;rcases B with rfl|⟨q,_⟩
 ·exact C
 ·injection q
theorem zF(H:dP c env)(h:rY c e=aa (i,x,p)):e=.Name x p/\env.scope.names[i]?=aa (x,.local):=by refine ah (b1 h) λL A h=>ah (b1 h) λG C h=>aG (jP h) λB h=>?_;obtain⟨y,q⟩:=L;obtain⟨j,kd⟩:=G;obtain⟨rfl,D⟩:=dc<|aw h;obtain⟨rfl,rfl⟩:=dc D;obtain rfl:kd=.local :=eq_of_beq B;exact⟨t6 A,C9 H C⟩
theorem Rf(Q:dP c env)(h:Hk c o=aa (i,x,p,a,p1)):o=.Subscript (.Name x p) a p1/\env.scope.names[i]?=aa (x,.local)/\fy x=ac:=by refine ah (b1 h) λU A h=>ah (b1 h) λM C h=>aG (jP h) λB h=>?_;obtain⟨y,q⟩:=U;obtain⟨j,z⟩:=M;obtain⟨rfl,G⟩:=dc<|aw h;obtain⟨rfl,D⟩:=dc G;obtain⟨rfl,rfl⟩:=dc D;refine aG (zF Q C) λL H=>⟨(Hh A).trans<|L▸rfl,H,(fP.mp B).2⟩
section
variable {n:Nat} {c:Cx} {env:bu}
theorem QcZ(A:fy x=ac)(C:EnvOk env)(L:Lib W T O N)(B:env.scope.names[i]?=aa (x,D))(pos:aY):Snd W T O N env (.Name x pos)<|.v i:=⟨H9 C A B,QbO C A B,CV rfl rfl (H9 C A B),uk L rfl (H9 C A B)⟩
set_option tactic.hygienic true in
theorem Qc0(L:Lib W T O N)(C:dP c env)(B:EnvOk env)(h:Hi c x=aa m):Snd W T O N env (.Name x pos) m:=by
 unfold Hi at h;split at h
 ·injection h
 ·rename_i A;have A:fy x=ac:=by simpa using A
  split at h
  ·injection h
  ·rename_i i k q;have D:m=.v i->Snd W T O N env (.Name x pos) m:=λe=>by
    refine ah (Iw C q) λH G _=>?_;subst e;exact QcZ A B L G pos
   cases k<;>first
    |exact D (aw h).symm
    |exact .of_se L rfl (QcU h) (QbS L B A (zE C B (by unfold Cx.glob;refine af q ?_;rfl)) h)
    |injection h
theorem Qc1(L:Lib W T O N)(k:dP c env)(C:EnvOk env)(A:∀e m,bq n c e=aa m->Snd W T O N env e m)(h:OR c (bq n c) l op r=aa m):Snd W T O N env (.Compare l [op] [r] pos) m:=by
 replace h:=oJ h;rcases h with⟨_,h⟩|⟨t,D,h⟩;case inr=>refine ah (bO.mp h) λneg j h=>?_;refine ah (cv.mp h) λY H o=>?_;subst o;refine ah (Iy D) λp u q=>?_;clear D;subst u;refine af (QcT j) ?_;refine(?_:_->_)<|zE k C q;intro M;refine(?_:_->_)<|Qcg L C (neg:=neg) (np:=p) (pos:=pos) M (A _ _ H).se;intro z;exact⟨z,sx rfl z,QcO L C M (A _ _ H).se,uk L rfl z⟩
 case inl=>refine dy (sC h) λv Y d y Q B U=>?_;clear h;subst U;have:=QcR y;subst this;have G:=QcV (op:=so v) (gV B).2.1;refine(?_:_->_)<|QbV L (pos:=pos) G (A _ _ Q).se (A _ _ B).sb;intro z;exact⟨z,sx rfl z,QbW L G (A _ _ Q).se (A _ _ B).sb,uk L rfl z⟩
theorem Qc2(L:Lib W T O N)(i:dP c env)(G:EnvOk env)(H:∀e m,bq n c e=aa m->Snd W T O N env e m)(h:OS c (bq n c) x args=aa m):Snd W T O N env (.Call (.Name x p) args [] pos) m:=by
 have U:∀e m,bq n c e=aa m->fE e=ac:=λe m h=>(gV h).1;replace h:=jP h;obtain⟨q,h⟩:=h;have q:=fP.mp q;have M:=zE i G q.1;replace h:=oJ h;rcases h with⟨_,h⟩|⟨g,o,h⟩;case inr=>obtain⟨a,B,rfl⟩:=cv.mp h;exact .of_se L rfl rfl (Qcb L G U (QcW o) q.2 M B λe _ m D=>(H e m D).se)
 replace h:=Option.ite_none_left_eq_some.mp h;have j:args≠[]:=λz=>h.1 (by rw[z];rfl);replace h:=h.2;replace h:=oJ h;rcases h with⟨_,h⟩|⟨b,l,h⟩;case inr=>obtain⟨a,B,rfl⟩:=cv.mp h;exact .of_se L rfl rfl (Qcc L G U l M j B λe _ m D=>(H e m D).sb)
 by_cases C:(x=="range")=ac
 ·rw[ar C]at h;obtain rfl:=eq_of_beq C;obtain⟨a,B,rfl⟩:=cv.mp h;have z:SE W T O N env (.Call (.Name "range" p) args [] pos)<|.rng a:=λfu A X0 u X f s d Q r v Y t=>by cases fu<;>injection Y
  exact⟨z,sx rfl z,CV rfl rfl z,Qco L G U M j B λe _ m D=>(H e m D).se⟩
 ·rw[av C]at h;replace h:=jP h;obtain⟨C,h⟩:=h;obtain rfl:=eq_of_beq C;obtain⟨y,k,h⟩:=bO.mp h;obtain rfl:=lc k;refine ah (cv.mp h) λa B w=>?_;subst w;have z:∀args,SE W T O N env (.Call (.Name "reversed" p) args [] pos)<|.rvd a:=λ_ fu A X0 u X f s d Q r v Y t=>by cases fu<;>injection Y
  exact⟨z _,sx rfl (z _),CV rfl rfl (z _),Qcp L G U M B (H _ _ B).se⟩
theorem Qc3(L:Lib W T O N)(l:dP c env)(H:EnvOk env)(B:∀e m,bq n c e=aa m->Snd W T O N env e m){args:List au}(G:(ap.endLine==pos.line)=ac)(Q:wn o=ac)(D:args.length<20)(h:OT c (bq n c) o x args=aa m):Snd W T O N env (.Call (.Attribute o x ap) args [] pos) m:=by
 have M:∀e m,bq n c e=aa m->fE e=ac:=λe m h=>(gV h).1;replace h:=oJ h;rcases h with⟨_,h⟩|⟨t,C,h⟩
 ·refine dy (sC h) λo a b u A v U=>?_;clear h;subst U;exact .of_se L rfl rfl (Qcd L M u G Q D (B _ _ A).se v λe _ m z=>(B e m z).se)
 ·refine aG (jP C) λj C=>?_;obtain rfl:=eq_of_beq j;refine ah (bO.mp h) λy Y h=>?_;clear D;obtain rfl:=lc Y;refine ah (cv.mp h) λa A d=>?_;subst d;refine ah (Iy C) λp k q=>?_;subst k;exact .of_se L rfl rfl (Qci L H M G (zE l H q) A (B _ _ A).se)
theorem Qc4(L:Lib W T O N)(Q:dP c env)(H:EnvOk env)(B:∀e m,bq n c e=aa m->Snd W T O N env e m)(h:OV c (bq n c) o i=aa m):Snd W T O N env (.Subscript o i pos) m:=by
 replace h:=oJ h;rcases h with⟨_,h⟩|⟨⟨lo,hi,st,p⟩,G,h⟩;case inr=>
  refine af (Zh G) ?_;refine aG (jP h) λg h=>?_;refine dy (sC h) λa b d C A v U=>?_;subst U;have z:∀{x:Option au}{y:ME},Hj (bq n c) x=aa y->(x=ab/\y=.kn)\/∃e,x=aa e/\SE W T O N env e y:=λ{x y} q=>by
   cases x with
   |none=>exact .inl ⟨rfl,(aw q).symm⟩
   |some e=>exact .inr (br e rfl ((B _ _ q).se))
  refine af (show st=ab from Option.isNone_iff_eq_none.mp g) ?_;exact .of_se L rfl rfl (Qcf L (B _ _ C).se (z A)<|z v)
 replace h:=oJ h;rcases h with⟨_,h⟩|⟨t,M,h⟩
 ·replace h:=oJ h;rcases h with⟨_,h⟩|⟨⟨j,x,p,a,f⟩,G,h⟩
  ·refine dJ (Ix h) λa b C A D=>?_;subst D;exact .of_se L rfl rfl (Qce L (gV A).2.2 (B _ _ C).sb (B _ _ A).se)
  ·refine dJ (Ix h) λma w C A D=>?_;subst D;refine fx (Rf Q G) λl k u=>?_;subst l;exact .of_se L rfl rfl (QcY L H u k (gV C).2.2 (gV A).2.2 (B _ _ C).se (B _ _ A).se)
 ·refine ah (cv.mp h) λa A s=>?_;subst s;refine ah (Iy M) λp r Y=>?_;clear left M;subst r;exact .of_se L rfl rfl (Qch L H (gV A).2.2 (zE Q H Y) (B _ _ A).se)
end
theorem IA(h:Ch (iC B) e=aa A):∃t px kd,e=.Name t px/\B.names[A]?=aa (t,kd)/\(kd=.local \/kd=.cell):=by refine ah (b1 h) λL C h=>ah (b1 h) λH G h=>aG (jP h) λD h=>?_;obtain⟨y,q⟩:=L;obtain⟨j,kd⟩:=H;obtain rfl:=aw h;exact⟨y,q,kd,t6 C,Cx.find_at G,(Wn.mp D).imp eq_of_beq eq_of_beq⟩
theorem IB{tr:Cx->au->Option ME}(h:Hm tr c elt g A=aa m): ∃t px kd src B D C ms,g=⟨.Name t px,g.iter,g.ifs,0⟩/\gI A=ac/\g.ifs.length<=1/\iW c A.names=aa src/\A.names[B]?=aa (t,kd)/\(kd=.local \/kd=.cell)/\tr (iC A) elt=aa D/\tr c g.iter=aa C/\cA (tr<|iC A) g.ifs=aa ms/\m=.comp src B D C ms:=by refine aG (jP h) λq h=>ah (b1 h) λB H h=>ah (b1 h) λsrc hs h=>?_;refine dy (sC h) λD C ms Q M L e=>?_;simp only[bo,bJ,bH]at q;refine ky (IA H) λt px kd j Y U=>?_;refine⟨t,px,kd,src,B,D,C,ms,?_,q.1.2,q.2,hs,Y,U,Q,M,L,e⟩;obtain⟨t',it,G,z⟩:=g;exact af (show t'=_ from j)<|af (show z=0 from q.1.1) rfl
theorem Rg{tr:Cx->au->Option ME}(h:OW tr c elt g g2 A=aa m): ∃t px kd u Q D src C B M L H ms,g=⟨.Name t px,g.iter,[],0⟩/\g2=⟨.Name u Q,g2.iter,g2.ifs,0⟩/\gI A=ac/\g2.ifs.length<=1/\iW c A.names=aa src/\A.names[C]?=aa (t,kd)/\(kd=.local \/kd=.cell)/\A.names[B]?=aa (u,D)/\(D=.local \/D=.cell)/\C≠B/\ tr (iC A) elt=aa M/\tr c g.iter=aa L/\tr (iC A) g2.iter=aa H/\cA (tr<|iC A) g2.ifs=aa ms/\m=.comp2 src C B M L H ms:=by
 refine aG (jP h) λq h=>ah (b1 h) λC j h=>ah (b1 h) λB Y h=>ah (b1 h) λsrc hs h=>aG (jP h) λp h=>ah (b1 h) λL k h=>?_;refine dy (sC h) λM H ms v y z e=>?_;simp only[bo,bJ,bH,n8]at q;refine ky (IA j) λt px kd n s r=>ky (IA Y) λu Q D d l o=>?_;refine⟨t,px,kd,u,Q,D,src,C,B,M,L,H,ms,?_,?_,q.1.1.2,q.2,hs,s,r,l,o,by simpa using p,v,k,y,z,e⟩
 ·obtain⟨t',it,G,U⟩:=g;exact af (show t'=_ from n)<|af (show U=0 from q.1.1.1.1)<|af (show G=[]from q.1.2) rfl
 ·obtain⟨t',it,G,U⟩:=g2;exact af (show t'=_ from d)<|af (show U=0 from q.1.1.1.2) rfl
theorem IC(A:ifs.length<=1)(h:cA tr ifs=aa ms)(H:∀e m,tr e=aa m->iY W T O N env e m):wN W T O N env ifs ms:=by
 cases ifs with
 |nil=>obtain rfl:=aw h;exact QcG
 |cons e r=>
  cases r with
  |cons B r=>exact absurd A (by simp)
  |nil=>
   have h:(match tr e with|some m=>(aa []).map (m::·)|none=>ab)=aa ms:=h
   cases q:tr e with
   |none=>rw[q]at h;injection h
   |some m=>rw[q]at h;obtain rfl:=aw h;exact QcH (H e m q)
def Qc5(W:Wd)(T:Tabs)(O:bC)(N:Nat)(env:bu)(c:Cx)(elt:au)(gs:List n5)(sc:fH)(p:aY)(m:ME):Prop:=∃target iter ifs da src ti f0 out,gs=⟨target,iter,ifs,0⟩::da/\gI sc=ac/\iW c sc.names=aa src/\nK iter=ac/\SI W T O N env iter f0/\sB ae W T O N env (.ListComp elt (⟨target,iter,ifs,0⟩::da) sc p) sc src ti out/\wO T O m f0 src ti out
theorem ID(L:Lib W T O N)(r:∀e m,bq n c e=aa m->SI W T O N env e m)(D:∀(A:List<|ao×aj)(C:aj) e m,EnvOk (fz M A C env)->bq n (iC M) e=aa m->Snd W T O N (fz M A C env) e m)(h:wp (bq n) c elt w M=aa m):Qc5 W T O N env c elt w M p m:=by
 replace h:=oJ h;rcases h with⟨_,h⟩|⟨g,a,h⟩
 ·refine ah (b1 h) λaQ i h=>?_;obtain⟨g,g2⟩:=aQ;refine aE λl=>?_;obtain⟨t,px,kd,u,f,pI,src,U,ui,b,Y,mj,ms,o,e2,H,k,G,v,y,z,Q,j,x,d,s,Bt,e⟩:=Rg h;subst e;refine l ⟨.Name t px,g.iter,[],[⟨.Name u f,g2.iter,g2.ifs,0⟩],src,U,Y,_,?_,H,G,(gV d).2.1,r _ _ d,QcL L G H v y z Q j (gV s).2.1 (λC A B=>IC k Bt λe m q=>(D A C e m B q).st) (λC A B=>SEf.of (D A C _ _ B x).se) λC A B=>(D A C _ _ B s).si,QcN⟩;exact(Ck i).trans<|by rw[<-o, <-e2]
 ·refine aE λl=>?_;obtain⟨t,px,kd,src,U,b,Y,ms,o,H,k,G,v,y,z,Q,j,e⟩:=IB h;subst e;refine l ⟨.Name t px,g.iter,g.ifs,[],src,U,Y,_,?_,H,G,(gV Q).2.1,r _ _ Q,Q5 L G H v y (λC A B=>IC k j λe m q=>(D A C e m B q).st)<|λC A B=>SEf.of (D A C _ _ B z).se,Q6⟩;exact(lc a).trans<|by rw[<-o]
theorem kF(L:Lib W T O N):∀(n:Nat)(c:Cx)(env:bu)(e:au)(m:ME),dP c env->EnvOk env->bq n c e=aa m->Snd W T O N env e m:=by
 intro aM;induction aM with
 |zero=>intro fQ iw jd kX Bu L7 h;injection h
 |succ n aL=>
  intro c env e m Y M h;have D:=λe m(h:bq n c e=aa m)=>aL c env e m Y M h;have bY:∀e m,bq n c e=aa m->fE e=ac:=λe m h=>(gV h).1;refine(show Says (bq (n+1) c e) (λm=>Snd W T O N env e m)from ?_).get h;clear h m;cases e with
  |Constant k a p=>
   cases k with
   |none=>exact(.of_se L rfl rfl QbP:Snd W T O N env _ _)
   |bool b=>exact(.of_se L rfl rfl QbQ:Snd W T O N env _ _)
   |int i=>exact(.of_se L rfl rfl QJ:Snd W T O N env _ _)
   |str x=>
    refine .of λm(h:(if x.length<=1000 then aa (.ks<|Cc x)else ab)=aa m)=>?_;split at h
    ·obtain rfl:=aw h;exact .of_se L rfl rfl (QbR<|by assumption)
    ·injection h
   |_=>exact i8
  |Name x p=>exact .of λm h=>Qc0 L Y M h
  |BinOp l op r p=>refine .of λm h=>?_;refine dy (sC h) λo a b B H v pJ=>?_;subst pJ;have:=Rc B;clear B;subst this;exact .of_se L rfl rfl (Ib L (D _ _ H).se (D _ _ v).se)
  |UnaryOp o x p=>
   refine .of λm h=>?_;refine ah (bO.mp h) λa B H=>?_;rcases QcS H with⟨rfl,rfl⟩|⟨rfl,rfl⟩|⟨rfl,rfl⟩
   ·exact .of_se L rfl rfl (QbT (D _ _ B).se)
   ·exact .of_se L rfl rfl (QbU (D _ _ B).se)
   ·have z:SE W T O N env (.UnaryOp .Not x p)<|.nt a:=λfu A X0 oa X f s d Q am sr j hQ=>by(cases fu<;>injection j)
    exact⟨z,sx rfl z,QbY (D _ _ B).st,uk L rfl z⟩
  |IfExp t x y p=>refine .of λm h=>?_;refine dy (sC h) λa b d B H v pJ=>?_;subst pJ;have z:=QbX L (D _ _ B).st (D _ _ H).se (D _ _ v).se (pos:=p);exact⟨z,sx rfl z,λfu A X0 oa X f s d Q am sr j hQ=>by(cases fu<;>injection j),uk L rfl z⟩
  |BoolOp o es p=>
   refine .of λm h=>?_;refine ah (cv.mp h) λa B u=>?_;subst u;have z:SE W T O N env (.BoolOp o es p)<|.bop (Hn o) a:=λfu A X0 oa X f s d Q am sr j hQ=>by(cases fu<;>injection j)
   refine⟨z,sx rfl z,?_,uk L rfl z⟩;cases o with
   |And=>exact Qb1 L B λe _ m U=>(D e m U).st
   |Or=>exact Qb2 L B λe _ m U=>(D e m U).st
  |Tuple es k p=>
   refine .of λm(h:(if es.length<1000 then(cA (bq n c) es).map .tup else ab)=aa m)=>?_;split at h
   ·refine ah (cv.mp h) λa B u=>?_;subst u;exact .of_se L rfl rfl (Qb9 L bY B (by assumption) λe _ m U=>(D e m U).se)
   ·injection h
  |List es p=>
   refine .of λm(h:(if es.length<1000 then(cA (bq n c) es).map .lst else ab)=aa m)=>?_;split at h
   ·refine aE λG=>?_;refine ah (cv.mp h) λa B u=>?_;subst u;apply G;clear G;exact .of_se L rfl rfl (QS L bY B (by assumption) λe _ m U=>(D e m U).se)
   ·injection h
  |Compare l ops rs p=>refine .of λm h=>?_;refine aE λG=>?_;refine ah (bO.mp h) λop B h=>?_;refine ah (bO.mp h) λr H h=>?_;apply G;clear G;simp only[lc B,lc H];exact Qc1 L Y M D h
  |Call f args vE p=>
   refine .of λm(h:(if vE.isEmpty then OU c (bq n c) f args p else ab)=aa m)=>?_;refine aG (jP h) λhk h=>?_;refine af (n8.mp hk) ?_;replace h:=oJ h;rcases h with⟨_,h⟩|⟨⟨x,px⟩,hv,h⟩
   ·refine aE λG=>?_;refine ah (bO.mp h) λaQ hv h=>?_;obtain⟨o,x,ap⟩:=aQ;apply G;clear G;refine af (Hf hv) ?_;replace h:=jP h;refine aG h λq h=>?_;have q:=fP.mp q;have q1:=fP.mp q.1;exact Qc3 L Y M D q1.1 q1.2 (of_decide_eq_true q.2) h
   ·refine af (t6 hv) ?_;exact Qc2 L Y M D h
  |Subscript o i p=>exact .of λm h=>Qc4 L Y M D h
  |ListComp elt gens sc p=>
   refine .of λm h=>?_;refine aE λG=>?_;obtain⟨w,iter,ifs,da,src,ti,f0,out,e,B,H,v,h4,h5,h6⟩:=ID L (λe m q=>(D e m q).si) (λnw C e m M q=>aL _ _ _ _ (λi x k hk=>wM hk) M q) h;subst e;have z:=Ra L M Y H B v h4 h5 h6;exact G (.of_se L rfl (by
    replace h:=oJ h;rcases h with⟨_,h⟩|⟨g,_,h⟩
    ·refine ah (b1 h) λ_ _ h=>?_;obtain⟨_,_,_,_,_,_,_,_,_,_,_,_,_,_,_,_,_,_,_,_,_,_,_,_,_,_,_,e⟩:=Rg h;rw[e];rfl
    ·obtain⟨_,_,_,_,_,_,_,_,_,_,_,_,_,_,_,_,_,e⟩:=IB h;rw[e];rfl) z.se)
  |_=>exact i8
end
end
section
section
variable {W:Wd} {T:Tabs} {O:bC} {N:Nat} {env:bu} {X0:List aj} {oa:Nat->aj} {X:List aj} {f:Frm}
theorem Qc6(B:EnvOk env){i j:Nat}{x y:ao}{k A:dn}(h:env.scope.names[i]?=aa (x,k))(h':env.scope.names[j]?=aa (y,A))(n:i≠j):y≠x:=λq=>n<|zt B.nodup h<|q▸h'
theorem SR.inRange(r:SR W X0 env oa X h f){i:Nat}{v:FV}(e:f[i]?=aa v):∃x kd,env.scope.names[i]?=aa (x,kd):=by
 have A:i<env.scope.names.length:=by simp only[<-r.len];exact(mS.mp e).1
 exact⟨_,_,ee A⟩
theorem SR.heldLive(r:SR W X0 env oa X h f){j:Nat}{w:FV}(A:f[j]?=aa w)(C:w.held=ac):∃o,h.get? (oa j)=aa o:=by
 refine aE λB=>?_;refine kw (r.inRange A) λx kd G=>?_;refine ah r.vars λm L D=>?_;have v:=D j x kd G;rw[A]at v;cases w with
 |own xs=>obtain⟨_,_,_,_,n,vs,e,_⟩:=v;exact B ⟨_,e⟩
 |own2 H=>obtain⟨_,_,M,⟨n,e,_⟩,_⟩:=v;exact B ⟨_,e⟩
 |_=>injection C
theorem SR.storeHeld(k:W.Ok)(eo:EnvOk env){h h':bL}{m:ao->Option aq}{i:Nat}{x:ao}{a:aj}{v:FV}(r:SR W X0 env oa X h f)(G:h.Ns env.locals m)(hv:∀j y kd,env.scope.names[j]?=aa (y,kd)->VarOk W X0 env oa X h m j y kd f[j]?)(Y:env.scope.names[i]?=aa (x,.local))(g:h'.Ns env.locals λy=>if y=x then aa (.ref a)else m y)(hs:jC env.locals h h')(z:∀j w,f[j]?=aa w->j≠i->w.held=ac->v.held2=ae/\w.held2=ae/\oa j≠a)(L8:VarOk W X0 env (λj=>if j=i then a else oa j) X h' (λy=>if y=x then aa (.ref a)else m y) i x .local<|aa v):SR W X0 env (λj=>if j=i then a else oa j) X h'<|f.put i v:=by
 have M:MutOk W X0 X env.locals h h':=⟨hs,r.loc.1,r.loc.2,Ip G,by obtain⟨o,_,_,e,_⟩:=g;exact⟨o,e⟩⟩;refine⟨M.bs k r.bs,M.tb k r.tb,r.tX,r.sub,M.alive r,r.loc,λy c e=>?_,(br _ g<|λj y kd e=>?_),λp q u w B A L=>?_,(qo ..).trans r.len⟩
 ·exact aG (r.cellI y c e) λq e=>aF e λw i=>⟨q,w,i.sameBut hs<|wE G i⟩
 ·simp only[pV];by_cases H:i=j
  ·subst H;rw[Y]at e;obtain⟨rfl,rfl⟩:=dc<|aw e;rw[ar rfl];by_cases U:i<f.length
   ·rw[ar U];exact L8
   ·rw[av U];trivial
  ·rw[av H];have s:=Qc6 eo Y e H;exact(hv j y kd e).mut hs r.loc.1 (λc v _ i=>wE G i) (λb o vs n _ e d=>uc G e d) (by simp[s])<|av<|gD H
 ·intro t l;rw[pV]at B A;by_cases C:i=p
  ·subst C;rw[av L]at A;rw[ar rfl]at B;split at B
   ·obtain rfl:=aw B;refine fx (z q w A (gD L) l) λa1 a2 D=>⟨a1,a2,?_⟩;show(if i=i then a else oa i)≠(if q=i then a else oa q);rw[ar rfl,av<|gD L];exact gD D
   ·injection B
  ·rw[av C]at B;by_cases Q:i=q
   ·subst Q;rw[ar rfl]at A;split at A
    ·obtain rfl:=aw A;refine fx (z p u B (gD C) t) λa1 a2 D=>⟨a2,a1,?_⟩;show(if p=i then a else oa p)≠(if i=i then a else oa i);rw[ar rfl,av<|gD C];exact D
    ·injection A
   ·rw[av Q]at A;refine fx (r.ownA p q u w B A L t l) λa1 a2 D=>⟨a1,a2,?_⟩;show(if p=i then a else oa p)≠(if q=i then a else oa q);rw[av<|gD C,av<|gD Q];exact D
theorem SR.mine(k:W.Ok){s A:aC}{I J:List aj}(r:SR W X0 env oa X s.heap f)(x:Ext W s A)(C:∀a∈I++J,s.heap.get? a=ab/\∃o,A.heap.get? a=aa o):SR W (J++X0) env oa (I++(J++X)) A.heap f:=by have:=r.hide k x C;rw[mT,mT]at this;exact this.less λa B=>qp _<|r.tX a B
theorem SR.ownNew(k:W.Ok)(t:EnvOk env)(r:SR W X0 env oa X s.heap f)(x:Ext W s C){a:aj}(B:s.heap.get? a=ab){i:Nat}{A:ao}(z:env.scope.names[i]?=aa (A,.local))(v:f.flat=ac)(l:∀m,C.heap.Ns env.locals m->h'.Ns env.locals λy=>if y=A then aa (.ref a)else m y)(hs:jC env.locals C.heap h'){n:Nat}{vs:List aq}{xs:List ak}(H:C.heap.get? a=aa {cls:=.type "list",data:=.seq vs.toArray n})(hz:vs.length<=cH)(Y:∀g,RepL g vs xs):SR W X0 env (λj=>if j=i then a else oa j) (a::X) h'<|f.put i<|.own xs:=by
 have L:SR W X0 env oa (a::X) C.heap f:=r.mine k (I:=[a]) (J:=[]) x λb u=>by obtain rfl:=eW.mp u;exact⟨B,_,H⟩
 refine ah L.vars λm G U=>?_;have D:a≠env.locals:=uc G H rfl;refine L.storeHeld k t G U z (l m G) hs (λj w M d Q=>⟨rfl,?_,λq=>?_⟩) ?_
 ·have:=du.mp v w<|kf M;simpa using this
 ·refine aF (r.heldLive M Q) λo e=>?_;rw[q,B]at e;injection e
 ·show _/\(if A=A then aa (ye a)else m A)=aa (ye<|if i=i then a else oa i)/\(if i=i then a else oa i)∈a::X/\((if i=i then a else oa i)∉X0/\¬W.Base (if i=i then a else oa i))/\∃n vs,h'.get? (if i=i then a else oa i)=_/\_;rw[ar rfl,ar rfl];exact⟨rfl,rfl,dU,⟨λq=>r.ltX' _ B<|r.sub _ q,k.fresh r.bs B⟩,n,vs,(hs.2 _ D).trans H,hz,Y _⟩
theorem Qc7{h:bL}{A:List aj}{ds:List ak}{B:List<|List Int}(H:lj (λr=>(iE r).bind fU) ds=aa B)(r:RepL (mask X h) (A.map .ref) ds):HW h A B/\∀a∈A,a∉X:=by
 induction A generalizing ds B with
 |nil=>
  cases ds with
  |nil=>obtain rfl:=aw H;exact⟨⟨rfl,λj b r h=>nomatch h⟩,λ_ h=>nomatch h⟩
  |cons d ds=>cases r
 |cons a A y=>
  cases ds with
  |nil=>cases r
  |cons d ds=>
   refine dJ r.uncons λv s e Q M=>?_;obtain⟨rfl,rfl⟩:=Lb e;refine dJ (Cj H) λx ys m t e=>?_;subst e;refine ah (b1 m) λl o k=>?_;obtain rfl:=lk o;obtain rfl:=Hv (λ_ _=>iF) k;refine dy Q.list_inv λb n L e G Y U=>?_;obtain rfl:=tc e;refine aG (y t M) λl z=>⟨⟨congrArg kU l.1,λj b r C D=>?_⟩,λc u=>(bF.mp u).elim (λq=>q▸(cy.mp G).1)<|z c⟩;cases j with
   |succ j=>exact l.2 j b r C D
   |zero=>obtain rfl:=aw C;obtain rfl:=aw D;exact⟨L,⟨n,dZ G,Y⟩,λg=>RepL.ints U⟩
theorem SR.own2New(k:W.Ok)(eo:EnvOk env){J:List aj}(r:SR W X0 env oa X s.heap f)(x:Ext W s B){a:aj}{A:List aj}(Y:∀b∈(a::A)++J,s.heap.get? b=ab/\∃o,B.heap.get? b=aa o)(z:(a::A).Nodup)(c:∀b∈a::A,b∉J){i:Nat}{C:ao}(g:env.scope.names[i]?=aa (C,.local))(p:f.sole i=ac)(ft:∀m,B.heap.Ns env.locals m->h'.Ns env.locals λy=>if y=C then aa (.ref a)else m y)(hs:jC env.locals B.heap h'){G:List<|List Int}(t:gU B.heap a<|A.map .ref)(U:HW B.heap A G):SR W (J++X0) env (λj=>if j=i then a else oa j) ((a::A)++(J++X)) h'<|f.put i<|.own2 G:=by
 have M:=r.mine k x Y;refine ah M.vars λm H u=>?_;have mM:∀{b D},gU B.heap b D->gU h' b D:=λ⟨n,e,l⟩=>⟨n,(hs.2 _<|uc H e rfl).trans e,l⟩;refine M.storeHeld k eo H u g (ft m H) hs (λj w d cj v=>?_) ?_
 ·have:(f.set i .un)[j]?=aa w:=by rw[Wu<|gD cj];exact d
  have:=du.mp p w<|kf this;rw[v]at this;injection this
 ·show _/\(if C=C then aa (ye a)else m C)=aa (ye<|if i=i then a else oa i)/\Own2 W _ _ h' (if i=i then a else oa i) G;rw[ar rfl,ar rfl];refine⟨rfl,rfl,A,mM t,z,λb L=>?_,U.1,λj b r h1 h2=>ah (U.2 j b r h1 h2) λD h3 h=>⟨D,mM h3,h⟩⟩;have Q:=(Y b<|sY _ L).1;exact⟨sY _ L,λq=>(eO.mp q).elim (c b L) λq=>r.ltX' _ Q<|r.sub _ q,k.fresh r.bs Q⟩
end
end
section
section
variable {W:Wd} {T:Tabs} {O:bC} {N:Nat} {env:bu} {X0:List aj} {oa:Nat->aj} {X:List aj} {f:Frm}
theorem SR.ownAt(r:SR W X0 env oa X h f){i:Nat}{xs:List ak}(e:f[i]?=aa (.own xs)):∃x m,env.scope.names[i]?=aa (x,.local)/\h.Ns env.locals m/\m x=aa (.ref<|oa i)/\oa i∈X/\(oa i∉X0/\¬W.Base (oa i))/\ ∃(n:Nat)(vs:List aq),h.get? (oa i)=aa {cls:=.type "list",data:=.seq vs.toArray n}/\vs.length<=cH/\RepL (mask X h) vs xs:=by refine aE λB=>?_;refine kw (r.inRange e) λx kd A=>?_;refine ah r.vars λm D C=>?_;have v:=C i x kd A;simp only[e]at v;obtain⟨rfl,a,b,c,n,vs,d⟩:=v;apply B;clear B;exact⟨x,m,A,D,a,b,c,n,vs,d⟩
theorem SR.apartAt(r:SR W X0 env oa X h f){i j:Nat}{v:FV}(e:f[i]?=aa v)(C:j≠i)(B:v.held=ac)(D:v.held2=ae)(q:(b=oa j/\∃xs,f[j]?=aa (.own xs))\/∃A,f[j]?=aa (.own2 A)):b≠oa i:=by
 rcases q with⟨rfl,xs,q⟩|⟨A,q⟩
 ·exact(r.ownA j i _ _ q e C rfl B).2.2
 ·exact gC<|show ac=ae from(r.ownA j i _ _ q e C rfl B).1
theorem SR.freeze(r:SR W X0 env oa X h f)(e:f[i]?=aa (.own xs)):SR W X0 env oa (X.filter (· ≠oa i)) h<|f.put i<|.val<|.list xs:=by
 refine aE λY=>?_;obtain⟨x,m,M,hn,k,hX,⟨d,hb⟩,n,vs,C,hz,u⟩:=r.ownAt e;refine ah r.vars λH Q L=>?_;have w:H x=aa (.ref<|oa i):=by have v:=L i x .local M;simp only[e]at v;obtain⟨_,a,_⟩:=v;exact a
 have A:∀a,a∈X->a≠oa i->a∈X.filter (· ≠oa i):=λa q n=>pv.mpr ⟨q,by simpa using n⟩;have less:=zv (h:=h) (X:=X.filter (· ≠oa i)) (X':=X) λa q=>(pv.mp q).1;have s:env.locals≠oa i:=λq=>uc Q C rfl q.symm;apply Y;clear Y;refine⟨r.bs,r.tb,r.tX,λa B=>A a (r.sub a B) λq=>d<|q▸B,λa B=>r.alX a (pv.mp B).1,⟨A _ r.loc.1 s,r.loc.2⟩,λy c U=>?_,(br H Q<|λj y kd D=>?_),zu r.ownA rfl,(qo ..).trans r.len⟩
 ·obtain⟨p,v,q⟩:=r.cellI y c U;exact⟨A c p λz=>by clear U p;subst z;exact sn q C rfl rfl,v,q⟩
 ·simp only[pV];by_cases G:i=j
  ·subst G;rw[M]at D;obtain⟨rfl,rfl⟩:=dc<|aw D;rw[ar rfl];split
   ·exact⟨_,w,Rep.mkList (cy.mpr ⟨λq=>by simp at q,C⟩) hz<|u.mono less⟩
   ·trivial
  ·rw[av G];exact(L j y kd D).gen (λ_ b=>b) less rfl λb o vs n q t l _ g _=>⟨g,A b t<|r.apartAt e (gD G) rfl rfl q,l⟩
theorem SR.mutOwn(k:W.Ok)(r:SR W X0 env oa X h f)(e:f[i]?=aa (.own xs))(hs:jC (oa i) h h')(Q:h'.get? (oa i)=aa {cls:=.type "list",data:=.seq D.toArray w})(G:D.length<=cH)(s:RepL (mask X h) D g):SR W X0 env oa X h'<|f.put i<|.own g:=by
 refine aE λA=>?_;obtain⟨x,m,u,hn,hmx,C,l,n,vs,B,hz,hr⟩:=r.ownAt e;refine ah r.vars λU t Y=>?_;have Bv:U x=aa (.ref<|oa i):=by have v:=Y i x .local u;simp only[e]at v;obtain⟨_,a,_⟩:=v;exact a
 have Bw:env.locals≠oa i:=λq=>uc t B rfl q.symm;have M:MutOk W X0 X (oa i) h h':=⟨hs,C,l,λo eo=>(Im B rfl o eo).1,(b9 _ Q)⟩;have fJ:=t.sameBut hs Bw;apply A;clear A;refine⟨M.bs k r.bs,M.tb k r.tb,r.tX,r.sub,M.alive r,r.loc,λy c d=>?_,(br U fJ<|λj y kd H=>?_),P9 r.ownA e rfl rfl,(qo ..).trans r.len⟩
 ·refine aE λA=>?_;obtain⟨p,v,q⟩:=r.cellI y c d;apply A;clear A;exact⟨p,v,q.sameBut hs λz=>by clear d p;subst z;exact sn q B rfl rfl⟩
 ·simp only[pV];by_cases L:i=j
  ·subst L;rw[u]at H;obtain⟨rfl,rfl⟩:=dc<|aw H;rw[ar rfl];split
   ·exact⟨rfl,Bv,C,l,w,D,Q,G,s.mono<|wD hs C⟩
   ·trivial
  ·rw[av L];exact(Y j y kd H).mut hs C (λc v _ q z=>by subst z;exact sn q B rfl rfl) (λb o vs n q _ _=>r.apartAt e (gD L) rfl rfl q) rfl
theorem SR.mutOwn2(k:W.Ok)(r:SR W X0 env oa X h f)(L:env.scope.names[i]?=aa (x,.local))(e:f[i]?=aa (.own2 t)){b:aj}{n:Nat}(C:b∈X/\b∉X0/\¬W.Base b){l w:List aq}(m:gU h b l)(hs:jC b h h')(d:gU h' b w)(a:Own2 W X0 X h' (oa i) g):SR W X0 env oa X h'<|f.put i<|.own2 g:=by
 refine aE λY=>?_;refine ah r.vars λG Q H=>?_;obtain⟨n0,B,_⟩:=m;obtain⟨n1,u,_⟩:=d;have Bv:G x=aa (.ref<|oa i):=by have v:=H i x .local L;rw[e]at v;exact v.2.1
 have Bw:env.locals≠b:=λq=>uc Q B rfl q.symm;have M:MutOk W X0 X b h h':=⟨hs,C.1,C.2,λo s=>(Im B rfl o s).1,⟨_,u⟩⟩;apply Y;clear Y;refine⟨M.bs k r.bs,M.tb k r.tb,r.tX,r.sub,M.alive r,r.loc,λy c U=>?_,(br G (Q.sameBut hs Bw)<|λj y kd D=>?_),P9 r.ownA e rfl rfl,(qo ..).trans r.len⟩
 ·exact aG (r.cellI y c U) λp q=>aF q λv q=>⟨p,v,q.sameBut hs λz=>by clear U p;subst z;exact sn q B rfl rfl⟩
 ·simp only[pV];by_cases A:i=j
  ·subst A;rw[L]at D;obtain⟨rfl,rfl⟩:=dc<|aw D;rw[ar rfl];split
   ·exact⟨rfl,Bv,a⟩
   ·trivial
  ·rw[av A];refine(H j y kd D).mut hs C.1 (λc v _ q z=>by subst z;exact sn q B rfl rfl) (λb o vs n q _ _=>?_) rfl;rcases q with⟨_,xs,q⟩|⟨t,q⟩
   ·exact gC<|show ac=ae from(r.ownA i j _ _ e q A rfl rfl).1
   ·exact gC<|show ac=ae from(r.ownA i j _ _ e q A rfl rfl).1
theorem zG(k:W.Ok)(D:EnvOk env)(j:CellsMine W X0 env)(M:env.scope.names[i]?=aa (x,kd))(n:kd=.local \/kd=.cell)(B:SR W X0 env oa X s.heap f)(z:Rep (mask X s.heap) v d)(l:∀U,Stp W X0 X X s U->SR W X0 env oa X U.heap (f.put i<|.val d)->Q () U):aI (aR W.prog W.w) A (AZ env x v) Q E s:=by
 refine aE λH=>?_;refine ah B.vars λm Y o=>?_;have L:=D.kindAt M;apply H;clear H;rcases n with rfl|rfl
 ·exact K8 L Y (λh' r G=>l _ (Stp.mut _ G B.loc.1 B.loc.2.1)<|B.storeLocal k D Y o M r G z)<|af D.kind rfl
 ·refine aE λH=>?_;refine aF (D.cellsAll i x _ M<|.inl rfl) λc C=>?_;obtain⟨g,p,u⟩:=B.cellI x c C;apply H;clear H;exact K9 D.kind L C u λh' t G=>l _ (Stp.mut _ G g (j.mine x c L C).1)<|B.storeCell k D Y o M C (j.mine x c L C) (λy b e q=>La j.apart (mem_of_lookup e)<|q▸mem_of_lookup C) u t G z
theorem Stp.maskK(x:Stp W X0 X X s A):∀a o,mask X s.heap a=aa o->mask X A.heap a=aa o:=λa o e=>by obtain⟨n,e⟩:=cy.mp e;exact cy.mpr ⟨n,x.keep a o n e⟩
inductive Tgts(W:Wd)(A:cX)(E:aq->aC->Prop)(env:bu):List (aq->cL Unit)->List Nat->Prop
 |nil:Tgts W A E env [] []
 |cons {st x i kd yA is}:env.scope.names[i]?=aa (x,kd)->kd=.local \/kd=.cell ->(∀(v:aq)(s:aC)(Q:Unit->aC->Prop),aI (aR W.prog W.w) A (AZ env x v) Q E s->aI (aR W.prog W.w) A (st v) Q E s)->
   Tgts W A E env yA is->Tgts W A E env (st::yA) (i::is)
theorem IE(k:W.Ok)(u:EnvOk env)(o:CellsMine W X0 env): ∀{G:List<|aq->cL Unit}{M:List Nat}(_:Tgts W A E env G M)(vs:List aq)(ds:List ak)(f:Frm)(s:aC)(Q:Unit->aC->Prop)(D:Frm),RepL (mask X s.heap) vs ds->gK f M ds=aa D->SR W X0 env oa X s.heap f->(∀L,Stp W X0 X X s L->SR W X0 env oa X L.heap D->Q () L)->aI (aR W.prog W.w) A (assignInOrder G vs) Q E s:=by
 intro G M q;induction q with
 |nil=>
  intro vs ds f s Q D B C H U;cases B with
  |nil=>obtain rfl:=aw C;exact d6 (U s (Stp.refl ..) H)
  |cons _ _=>injection C
 |cons y v t _ j=>
  intro vs ds f s Q D B C H U;cases B with
  |nil=>injection C
  |cons z B=>refine wpAny_assignInOrder_more (t _ _ _ (zG k u o y v H z λs1 x1 d=>?_));exact j _ _ _ s1 Q D (B.mono x1.maskK) C d λY x2 l=>U Y (x1.trans x2) l
theorem Tgts.rev(t:Tgts W A E env xs is):Tgts W A E env xs.reverse is.reverse:=by
 have C:∀{a b:List<|aq->cL Unit}{c d:List Nat},Tgts W A E env a c->Tgts W A E env b d->Tgts W A E env (a++b) (c++d):=λG D=>by
  induction G with
  |nil=>exact D
  |cons a b c _ B=>exact .cons a b c B
 induction t with
 |nil=>exact .nil
 |cons a b c _ B=>simp only[xS,xS];exact C B (.cons a b c .nil)
theorem IF:∀{A:List Nat}{ds:List ak}{f B:Frm},gK f A ds=aa B->A.length=ds.length
 |[],[],_,_,_=>rfl
 |[],_::_,_,_,h=>by injection h
 |_::_,[],_,_,h=>by injection h
 |_::A,_::ds,f,B,h=>congrArg kU (IF h)
theorem Qc8:∀{A:List Nat}{ds:List ak}{i:Nat}{d:ak}{f:Frm},A.length=ds.length->gK f (A++[i]) (ds++[d])=(gK f A ds).map λg=>g.put i<|.val d:=by
 intro B;induction B with
 |nil=>
  intro B;cases B with
  |nil=>intro i d f C;exact rfl
  |cons M Q=>intro D C L h;injection h
 |cons j A H=>
  intro G;cases G with
  |nil=>intro D C L h;injection h
  |cons e ds=>intro i d f h;exact H (KH h)
theorem Qc9:∀{A:List Nat}{ds:List ak}{i:Nat}{d:ak}{f:Frm},i∉A->gK (f.put i<|.val d) A ds=(gK f A ds).map λg=>g.put i<|.val d:=by
 intro B;induction B with
 |nil=>
  intro B;cases B with
  |nil=>intro i d f C;exact rfl
  |cons Q U=>intro D C M L;exact rfl
 |cons j A H=>
  intro G;cases G with
  |nil=>intro D C M L;exact rfl
  |cons e ds=>
   intro i d f h;simp only[bF,not_or]at h;show gK ((f.put i<|.val d).put j<|.val e) A ds=(gK (f.put j<|.val e) A ds).map _;have:(f.put i<|.val d).put j (.val e)=(f.put j<|.val e).put i (.val d):=by unfold Frm.put;exact List.set_comm _ _ h.1
   refine af this ?_;exact H h.2
theorem Qda:∀{A:List Nat}{ds:List ak}{f:Frm},A.Nodup->A.length=ds.length->gK f A.reverse ds.reverse=gK f A ds:=by
 intro B;induction B with
 |nil=>
  intro B;cases B with
  |nil=>intro f U C;exact rfl
  |cons Y j=>intro C H h;injection h
 |cons i A Q=>
  intro M;cases M with
  |nil=>intro C H h;injection h
  |cons d ds=>intro f L D;have G:=mR.mp L;rw[xS,xS,Qc8 (by simpa using D),Q G.2 (by simpa using D)];exact(Qc9 G.1).symm
end
end
section
section
variable {W:Wd} {T:Tabs} {O:bC} {N Wf:Nat} {env:bu}
inductive FlOk(X:List aj)(h:bL):Fl->kW->Prop
 |next:FlOk X h .next .next
 |brk:FlOk X h .brk .brk
 |ret {v d}:Rep (mask X h) v d->FlOk X h (.ret d) (.ret v)
abbrev CS(W:Wd)(T:Tabs)(O:bC)(N Wf:Nat)(env:bu)(st:de)(ms:MS):Prop:=
 ∀(fu:Nat)(A:cX)(X0:List aj)(oa:Nat->aj)(X:List aj)(f:Frm)(s:aC)(fl:Fl)(f':Frm)(Q:kW->aC->Prop),AOk A N->CellsMine W X0 env->SR W X0 env oa X s.heap f->
  bK T O Wf fu ms f=aa (fl,f')->(∀cM X' s' dY,Stp W X0 X X' s s'->SR W X0 env cM X' s'.heap f'->FlOk X' s'.heap fl dY->Q dY s')->aI (aR W.prog W.w) A (exec st env) Q a9 s
noncomputable def IG:au->Bool
 | .ListComp .. | .SetComp .. | .DictComp .. =>ae
 |_=>ac
theorem wP(h:IG e=ac)(t:Option au)(l:Nat)(env:bu):yf e t l env=pure ae:=by cases e<;>first|rfl|injection h
theorem Qdb(L:Lib W T O N)(y:EnvOk env)(hs:yf e (aa<|.Name x G) pos.line env=pure ae)(U:env.scope.names[i]?=aa (x,kd))(q:kd=.local \/kd=.cell)(Y:SE W T O N env e m): CS W T O N Wf env (.Assign [.Name x G] e pos)<|.asg i m:=by intro fu A X0 C X f s r n Q t u B o z;refine aE λD=>?_;refine nl (QH o) λd j l g=>?_;subst l;subst g;apply D;clear D;refine Ld (Y 40 A X0 C X f s d _ t B j λv s1 x1 M=>?_) hs;exact zG L.ok y u U q (B.ext L.ok x1) M λH x2 k=>z C X H .next ((x1.stp B.tXX).trans x2) k .next
theorem CellsMine.hide(B:CellsMine W X0 env)(h:∀x c,env.cells.lookup x=aa c->c≠I):CellsMine W (I::X0) env:=
 ⟨λx c C A=>⟨λq=>by
  rcases bF.mp q with q|q
  ·exact h x c A q
  ·exact(B.mine x c C A).1 q,(B.mine x c C A).2⟩,B.apart⟩
theorem SR.cellNe(r:SR W X0 env C X h f)(B:h.get? I=ab):∀x c,env.cells.lookup x=aa c->c≠I:=λx c e q=>by obtain⟨_,v,o,A,_⟩:=r.cellI x c e;simp only[q,B]at A;injection A
structure StN(W:Wd)(X0 X X':List aj)(s s1 s2:aC):Prop where
 same:∃h tk,s2={s1 with heap:=h,toks:=tk}
 keep:∀b o,b∉X->s1.heap.get? b=aa o->s2.heap.get? b=aa o
 keep0:∀b o,b∈X0->b∉W.T->s1.heap.get? b=aa o->s2.heap.get? b=aa o
 new:∀a∈X',a∈X\/s.heap.get? a=ab
theorem StN.fin{J:List aj}(st:StN W (J++X0) (J++X) X' s s1 B)(x:Ext W s s1)(G:∀a∈W.T,a∈X)(U:∀a∈J,s.heap.get? a=ab)(D:∃h tk,L={B with heap:=h,toks:=tk}/\∀b o,b∉J->B.heap.get? b=aa o->h.get? b=aa o)(Q:∀a∈v,a∈X'/\a∉J):Stp W X0 X v s L:=by
 refine eE D λY H e C=>?_;have A:∀{b o},s.heap.get? b=aa o->b∉J:=λe q=>by rw[U _ q]at e;injection e
 refine⟨oU x.same<|oU st.same ⟨Y,H,e⟩,λb o n q=>?_,λb o i n q=>?_,λa M=>?_⟩
 ·subst e;exact C b o (A q)<|st.keep b o (λz=>(eO.mp z).elim (A q) n)<|x.keep b o (λz=>n<|G b z) q
 ·subst e;exact C b o (A q)<|st.keep0 b o (qp _ i) n<|x.keep b o n q
 ·refine aG (Q a M) λy j=>(st.new a y).imp (λq=>(eO.mp q).elim (λz=>absurd z j) id) id
theorem Rh{h:bL}{a:aj}{m A:ao->Option aq}(x:h.Ns a m)(y:h.Ns a A):m=A:=by refine aE λD=>?_;obtain⟨o,es,n,e,d,_,f⟩:=x;obtain⟨L,H,M,B,C,_,G⟩:=y;rw[e]at B;obtain rfl:=aw B;rw[d]at C;clear left_1;obtain⟨rfl,rfl⟩:=Qli C;apply D;clear D;funext y;simp only[<-f y,G y]
theorem Qdc{h:bL}{a:aj}{m:ao->Option aq}(x:h.Ns a m):∀o,h.get? a=aa o->¬oR o/\(∀v,o.data≠.cell v)/\∀vs n,o.data≠.seq vs n:=λo e=>by
 refine⟨Ip x o e,λv q=>?_,λvs n q=>?_⟩
 ·obtain⟨C,_,_,A,B,_⟩:=x;rw[e]at A;obtain rfl:=aw A;rw[q]at B;injection B
 ·obtain⟨C,_,_,A,B,_⟩:=x;rw[e]at A;obtain rfl:=aw A;rw[q]at B;injection B
theorem CellsMine.hides(B:CellsMine W X0 env){J:List aj}(h:∀x c,env.cells.lookup x=aa c->c∉J):CellsMine W (J++X0) env:=⟨λx c C A=>⟨λq=>(eO.mp q).elim (h x c A) (B.mine x c C A).1,(B.mine x c C A).2⟩,B.apart⟩
abbrev Ri(b:Bool)(W:Wd)(env:bu)(x:ao)(f:Frm)(ds:List ak)(f':Frm):Prop:=
 ∀(A:cX)(X0:List aj)(oa:Nat->aj)(X:List aj)(s s1:aC)(J:List aj)(D:aj)(Q:Unit->aC->Prop),CellsMine W X0 env->SR W X0 env oa X s.heap f->Ext W s s1->(∀a∈J,s.heap.get? a=ab/\∃o,s1.heap.get? a=aa o)->s.heap.get? D=ab->D∉J->
  Acc D (J++X) (zD b s.heap) s1.heap ds->(∀cM X' s2,StN W (J++X0) (J++X) X' s s1 s2->SR W (J++X0) env cM X' s2.heap f'->Q () s2)->aI (aR W.prog W.w) A (AZ env x (.ref D)) Q a9 s1
theorem Qdd(k:W.Ok)(t:EnvOk env){i:Nat}{x:ao}{kd:dn}{f:Frm}{ds:List ak}(Y:env.scope.names[i]?=aa (x,kd))(l:kd=.local \/kd=.cell):Ri ae W env x f ds<|f.put i<|.val<|.list ds:=by intro A X0 M X s s1 J D Q d B x C u m j z;have L:=B.hide k x C;have U:=B.ltX' D u;refine zG k t (d.hides λy c e q=>?_) Y l L (j.rep λq=>(eO.mp q).elim m U) λH x2 g=>z M _ H ⟨x2.same,x2.keep,x2.keep0,λ_ q=>.inl q⟩ g;obtain⟨_,v,o,G,_⟩:=B.cellI y c e;rw[(C c q).1]at G;injection G
theorem Rj(L:Lib W T O N)(eo:EnvOk env){c:Cx}{H:fH}{src:List<|Option Nat}{ti:Nat}(aU:dP c env)(fZ:iW c H.names=aa src)(g:gI H=ac){elt B iter:au}{G:List au}{da:List n5}{pos y yB:aY}{f0:ME}{v:Nat->Frm->Option (List ak)}{x:ao}(mf:nK iter=ac)(ku:SI W T O N env iter f0){b:Bool}(hl:sB b W T O N env (.ListComp elt (⟨B,iter,G,0⟩::da) H pos) H src ti v){fu:Nat}{A:cX}{X0:List aj}{u:Nat->aj}{X:List aj}{f f':Frm}{s:aC}{xs ds:List ak}{Q:kW->aC->Prop}(r:AOk A N)(cm:CellsMine W X0 env)(Y:SR W X0 env u X s.heap f)(ow:cC T O fu f0 f=aa xs)(cJ:gL (v fu) (bU f src) ti xs=aa ds)(bk:ds.length<=100000)(bY:Ri b W env x f ds f')(hQ:∀l X' M dY,Stp W X0 X X' s M->SR W X0 env l X' M.heap f'->FlOk X' M.heap .next dY->Q dY M): aI (aR W.prog W.w) A (exec (.Assign [.Name x y] (.ListComp elt (⟨B,iter,G,0⟩::da) H pos) yB) env) Q a9 s:=by
 refine(?_:(yf (.ListComp elt (⟨B,iter,G,0⟩::da) H pos) (aa<|.Name x y) yB.line env=pure (env.blockKind==.function &&env.kindOf x==aa .local &&y.line==(KL elt (⟨B,iter,G,0⟩::da) H pos).pos.line && !(H.names.any λp=>p.1==x&&(p.2==.local ||p.2==.cell))))->_)<|rfl;intro t;revert t;generalize (env.blockKind==Qlc&&env.kindOf x==aa NameKind.local&&y.line==(KL elt (⟨B,iter,G,0⟩::da) H pos).pos.line && !(H.names.any λp=>p.1==x&&(p.2==.local ||p.2==.cell)))=sw;intro t;cases sw with
 |false=>refine Ld (Q9 L eo aU fZ g mf ku hl r Y ow cJ bk λD s1 x1 hD k=>?_) t;exact bY A X0 u X s s1 [] D _ cm Y x1 (λ_ q=>nomatch q) hD (λq=>nomatch q) k λl X' j x2 bz=>hQ l X' j .next (x2.fin x1 Y.tXX (λ_ q=>nomatch q) ⟨j.heap,j.toks,rfl,λ_ _ _ e=>e⟩ λa q=>⟨q,λz=>nomatch z⟩) bz .next
 |true=>
  refine af (exec_Assign_Name_used _ _ _ _ t) ?_;refine bI<|s7<|bI ?_;show aI _ A (do let _<-comprehension (.ListComp elt (⟨B,iter,G,0⟩::da) H pos) H env _ (newList []) ae (eval iter env) (aa<|oj (.Name x y) env)) _ _ s;refine bI<|qu (Qlh rfl (C5 mf env) (QZ<|It eo aU fZ) (Q8 g) (Q7 g) (ku fu A X0 u X f s xs _ r Y ow λyv s1 j x1 x2 it=>?_)) (λ_ M hq=>d6<|d6 hq) λ_ _ e=>e;have U:=Y.ext L.ok x1;refine Q4 L eo r aU fZ g U x2 it λI D C nw s3 cs=>hl fu A (zD b s.heap) u X f s1 s3 I D C nw xs ds _ r (by cases b<;>rfl) (λh0 e a k=>?_) cs cJ bk λD C Xc M x' hD d Br hn qN m7 k=>?_
  ·cases b with
   |false=>exact nA e
   |true=>obtain rfl:=aw e;exact zC L.ok U x1 k
  have w:=zC L.ok U x1 hD;have XB:=zC L.ok U x1 d;have Qmv:∃o,M.heap.get? C=aa o:=by obtain⟨m,o,_,_,e,_⟩:=hn;exact(b9 o e)
  have yp:Acc D ([C]++X) (zD b s.heap) M.heap ds:=pP k λn vs e1 e2 e3 e4=>qS n vs e1 e2 (e3.mono<|zv λa h=>(eO.mp h).elim (λq=>eW.mp q▸m7)<|qN a) e4;show aI _ A (oj (.Name x y) env<|.ref D) _ _ _;refine Fe<|bY A X0 u X s M [C] D _ cm Y (x1.trans x') (λa h=>eW.mp h▸⟨XB,Qmv⟩) w (λq=>Br (eW.mp q).symm) yp λl X' j x2 bz=>?_;refine aF hn λm hm=>?_;have FJ:j.heap.Ns C m:=by obtain⟨o,es,n,e,z⟩:=hm;exact⟨o,es,n,x2.keep0 C o (by simp) (λq=>by refine ah (L.ok.tStill _ U.tb C q) λo e' _=>?_;rw[d]at e';injection e') e,z⟩
  refine⟨m,FJ,λh' gQ=>?_⟩;have dH:=bz.drop L.ok U.tX (λq=>U.ltX' C d<|U.sub C q) (λb o i e=>gQ.extBut b o i e) (L.ok.fresh U.bs d)<|Qdc FJ;refine hQ l _ _ .next (x2.fin (x1.trans x') Y.tXX (λa q=>eW.mp q▸XB) ⟨h',j.toks,rfl,λb o i e=>gQ.extBut b o (λq=>i<|q▸dU) e⟩ λa q=>?_) dH .next;refine aG (pv.mp q) λh1 h2=>⟨h1,λz=>?_⟩;rw[eW.mp z]at h2;simp at h2
theorem Qde(L:Lib W T O N)(Y:EnvOk env){c:Cx}{C:fH}{src:List<|Option Nat}{H i:Nat}{kd:dn}{x:ao}(aU:dP c env)(r:iW c C.names=aa src)(p:gI C=ac)(t:env.scope.names[i]?=aa (x,kd))(e:kd=.local \/kd=.cell){elt B iter:au}{G:List au}{da:List n5}{pos q z:aY}{m U:ME}{D:Nat->Frm->Option (List ak)}(u:nK iter=ac)(k:SI W T O N env iter U)(l:sB ae W T O N env (.ListComp elt (⟨B,iter,G,0⟩::da) C pos) C src H D)(o:wO T O m U src H D):CS W T O N Wf env (.Assign [.Name x q] (.ListComp elt (⟨B,iter,G,0⟩::da) C pos) z)<|.asg i m:=by intro fu A X0 oa X f s fl f' Q am b y j g;refine nl (QH j) λd M h aD=>?_;subst h;subst aD;refine dy (o 40 f d M) λfu xs ds v a w n=>?_;clear M j;subst n;exact Rj L Y aU r p u k l am b y v a w (Qdd L.ok Y t e) g
theorem Qdf(L:Lib W T O N)(Y:EnvOk env){c:Cx}{G:fH}{src:List<|Option Nat}{w i:Nat}{x:ao}(aU:dP c env)(fZ:iW c G.names=aa src)(dt:gI G=ac)(hi:env.scope.names[i]?=aa (x,.local)){elt B iter:au}{U:List au}{da:List n5}{pos tp yB:aY}{m f0:ME}{H:Nat->Frm->Option (List ak)}(mf:nK iter=ac)(ku:SI W T O N env iter f0)(hl:sB ac W T O N env (.ListComp elt (⟨B,iter,U,0⟩::da) G pos) G src w H)(t:wO T O m f0 src w H):CS W T O N Wf env (.Assign [.Name x tp] (.ListComp elt (⟨B,iter,U,0⟩::da) G pos) yB)<|.own2 i m:=by
 intro fu A X0 oa X f s fl f' Q am cm C bG p;refine B6 (Qbv bG) λd v hd k u an aD=>?_;subst an;subst aD;refine dy (t 40 f d hd) λfu xs ds ow cJ bk e_=>?_;clear hd bG;subst e_;refine Rj L Y aU fZ dt mf ku hl am cm C ow cJ bk (λA X0 oa X s s1 J D Q cm C x1 hJ hD L9 ha p=>?_) p;refine pP ha λn vs h1 h2 h3 h4=>?_;refine aE λcG=>?_;obtain⟨as,a1,a2,a3⟩:=h4 _ rfl;subst a1;refine aG (Qc7 (show lj (λr=>(iE r).bind fU) ds=aa v from k) h3) λl nX=>?_;have nXD:D∉X:=C.ltX' D hD;have h:=C.hide L.ok x1 hJ;have M:∀a∈as,∃o,s1.heap.get? a=aa o:=λa t=>by obtain⟨j,hj,e⟩:=rF t;have qJ:j<v.length:=l.1▸hj;refine ah (l.2 j a v[j] (by simp[hj,e])<|by simp[qJ]) λus q _=>?_;obtain⟨n,q,_⟩:=q;exact⟨_,q⟩
 have sub:∀b∈(D::as)++J,s.heap.get? b=ab/\∃o,s1.heap.get? b=aa o:=λb g=>by refine(eO.mp g).elim (λq=>(bF.mp q).elim (λq=>q▸⟨hD,_,h1⟩) λq=>⟨(a3 b q).1,M b q⟩)<|hJ b
 apply cG;clear cG;refine ah (C.ext L.ok x1).vars λm0 LW _=>?_;refine K8 (Y.kindAt hi) LW (λh' ft gQ=>?_) (by refine af Y.kind ?_;rfl);have y:=C.own2New L.ok Y (J:=J) (h':=h') x1 sub (mR.mpr ⟨λq=>(a3 D q).2 rfl,a2⟩) (λb g=>(bF.mp g).elim (λq=>q▸L9) λq z=>nX b q<|sY _ z) hi u (λm q=>Rh LW q▸ft) gQ ⟨n,h1,h2⟩ l;refine p _ _ {s1 with heap:=h',toks:=s1.toks+1} ?_ y;have st:=Stp.mut (W:=W) (X0:=J++X0) (X:=J++X) (s1.toks+1) gQ h.loc.1 h.loc.2.1;exact⟨st.same,st.keep,st.keep0,λb q=>(eO.mp q).elim (λq=>.inr (sub b<|sY _ q).1) .inl⟩
end
end
section
section
variable {W:Wd} {T:Tabs} {O:bC} {N Wf:Nat} {env:bu}
noncomputable def gM(p:ao×aY):au:=.Name p.1 p.2
set_option tactic.hygienic true in
theorem Rk:∀{D:List au}{C:List Nat},t7 c D=aa C->∃l:List<|ao×aY,D=l.map gM/\∀(A:cX)(E:aq->aC->Prop)(env:bu)(_:dP c env)(W:Wd)(B:ao×aY->aq->cL Unit),(∀(p:ao×aY)(v:aq)(s:aC)(Q:Unit->aC->Prop),aI (aR W.prog W.w) A (AZ env p.1 v) Q E s->aI (aR W.prog W.w) A (B p v) Q E s)->Tgts W A E env (l.map B) C:=by
 intro k;induction k with
 |nil=>intro C h;obtain rfl:=aw h;exact(br ([]) rfl (λ_ _ _ _ _ _ _=>.nil))
 |cons t D o=>intro C h;refine ah (zc h) λv L h=>ah (zc h) λr H h=>ah (zc h) λw y h=>aG (jP h) λG h=>?_;obtain rfl:=aw h;refine ah (o H) λl u Y=>?_;clear H h;subst u;refine(br (v::l) (af (t6 (x:=v.1) (p:=v.2) L) rfl) (λA E env U W B M=>?_));clear L;refine ah (U _ _ _ (Cx.find_at y)) λd z j=>?_;rw[n7,bJ,bJ]at G;refine .cons z ?_ (M v) (Y A E env U W B M);exact j.elim (λe=>e▸G) λq=>.inr q.2
theorem Qdg(B:∀p,g (gM p)=aa p.1\/g (gM p)=ab):∀{l:List<|ao×aY},((l.map gM).filterMap g).length =l.length->(l.map gM).filterMap g=l.map (·.1):=by
 intro C;induction C with
 |nil=>intro G;exact rfl
 |cons p l D=>
  intro h;simp only[dF,List.filterMap_cons]at h⊢;have A:=List.length_filterMap_le g<|l.map gM;simp only[b8]at A;refine fI (B p) (λq=>?_) λq=>?_
  ·rw[q]at h⊢;simp only[eK,Nat.add_right_cancel_iff]at h;simp only[];exact af (D h) rfl
  ·rw[q]at h;simp only[eK]at h;exact pr<|bS 0x2e041d83248006200 Yt h A
theorem Da[Decidable c](B:c->a=x\/a=y)(A:¬c->b=x\/b=y):(if c then a else b)=x\/(if c then a else b)=y:=by
 by_cases q:c
 ·rw[ar q];exact B q
 ·rw[av q];exact A q
theorem Qdh{l:List<|ao×aY}(h:Ho e=ac):Wv [.Tuple (l.map gM) k p] e env=pure ab\/Wv [.Tuple (l.map gM) k p] e env=pure (aa (l.map (·.1))):=by
 cases e using yc with
 |Tuple vs k2 C=>have h:(vs.all (foldedForSure 8)|| !vs.all (constantsAlone 8))=ac:=h;rw[n7,oh]at h;refine Da (λ_=>.inl rfl) λ_=>Da (λ_=>.inl rfl) λ_=>Da (λ_=>.inl rfl) λA=>Da (λ_=>.inl rfl) λB=>?_;refine h.elim (λh=>absurd h B) λh=>.inr ((av (by rw[h];decide)).trans ?_);clear B h;have this:=aE λc=>A (Wn.mpr (.inl (bne_iff_ne.mpr c)));clear A;rw[b8]at this;rw[Qdg (λp=>?_) this];exact(Classical.em _).elim (λq=>.inl (ar q)) λq=>.inr (av q)
 |_=>exact .inl rfl
theorem IH{env:bu}:∀(l:List<|ao×aY),(A0 (l.map gM) env).map (·.2)=l.map (λp=>oj (gM p) env)/\(A0 (l.map gM) env).length =l.length/\(A0 (l.map gM) env).findIdx? (·.1)=ab
 |[]=>⟨rfl,rfl,rfl⟩
 |p::l=>by
  refine aE λA=>?_;refine fx (IH (env:=env) l) λa b c=>?_;apply A;clear A;refine⟨?_,?_,?_⟩
  ·show oj (gM p) env::_=_;refine af a ?_;rfl
  ·show(A0 (l.map gM) env).length +1=_;refine af b ?_;rfl
  ·show(List.findIdx? _<|(ae,oj (gM p) env)::A0 (l.map gM) env)=ab;rw[List.findIdx?_cons];exact af c rfl
theorem Qdi:yf e (aa<|.Tuple A k B) n env=pure ae:=by cases e using yc<;>rfl
theorem Qdj(L:Lib W T O N)(eo:EnvOk env)(aU:dP c env){ts:List au}{G:List Nat}(ht:t7 c ts=aa G)(hnd:G.Nodup)(yC:Ho e=ac)(he:SE W T O N env e m): CS W T O N Wf env (.Assign [.Tuple ts k M] e pos)<|.unp G m:=by
 intro fu A X0 w X f s fl u Q am cm i bG hQ;refine nl (Qbx bG) λds hd hp e_=>?_;clear bG;subst e_;refine ah (Rk ht) λl an hl=>?_;clear ht;subst an;rw[arm_exec_Assign];have e0:swapsWithSole [.Tuple (l.map gM) k M] e pos.line env=pure ae:=by have e1:swapsWithSole [.Tuple (l.map gM) k M] e pos.line env=yf e (aa<|.Tuple (l.map gM) k M) pos.line env:=rfl;refine af e1 ?_;exact Qdi
 refine bI<|s7 ?_;refine af e0 ?_;refine bI<|d6 ?_;simp only[AP,if_false];refine bI<|he 40 A X0 w X f s _ _ am i hd λv s1 x1 r1=>?_;refine aE λj=>?_;refine dy r1.tuple_inv λa n vs bW h1 h2 y=>?_;clear r1;subst bW;have d:=i.ext L.ok x1;have bk:=IF hp;have FK:s1.heap.IsTuple a vs.toArray:=⟨_,dZ h1,rfl,_,rfl⟩;have D:∀{h':bL},Heap.ExtBut s1.heap.objs.size s1.heap h'->∀tk,Ext W s1 {s1 with heap:=h',toks:=tk}:=λC tk=>Ext.grow L.ok tk λb o e=>C b o (Fa<|l5 e) e;have U:∀x,Ext W s x->∀B,Stp W X0 X X x B->SR W X0 env w X B.heap u->Q .next B:=λx x2 B H Y=>hQ w X B .next ((x2.stp i.tXX).trans H) Y .next;have r:∀(z:ao×aY->aq->cL Unit),(∀(p:ao×aY)(v:aq)(s:aC)(Q:Unit->aC->Prop),aI (aR W.prog W.w) A (AZ env p.1 v) Q a9 s->aI (aR W.prog W.w) A (z p v) Q a9 s)->Tgts W A a9 env (l.map z) G:=λz h=>hl A a9 env aU W z h;have ll:l.length=G.length:=by
  have:=r (λp v=>AZ env p.1 v) λp v s Q h=>h;have key:∀{a:List<|aq->cL Unit}{b:List Nat},Tgts W A a9 env a b->a.length=b.length:=λt=>by
   induction t with
   |nil=>rfl
   |cons _ _ _ _ ih=>simp[ih]
  simpa using key this
 apply j;clear j;refine fI (Qdh (l:=l) (k:=k) (p:=M) (env:=env) yC) (λq=>?_) λq=>?_
 ·refine af q ?_;refine bI<|d6 ?_;show aI _ _ (assignAll (.ref a) [oj (.Tuple (l.map gM) k M) env]>>=λ_=>pure Flow.next) _ _ _;refine aE λj=>?_;refine fx (IH (env:=env) l) λa1 a2 a3=>?_;apply j;clear j;refine bI (wpAny_assign_Tuple am.handled FK (by refine af a2<|af ll<|af bk ?_;rw[og];exact af y.length rfl) a3 λh' C=>?_);refine af a1 ?_;refine IE L.ok eo cm (r (λp=>oj (gM p) env) λp v s Q h=>Fe h) vs ds f _ _ u ((D C s1.toks).repL d.tXX y) hp (d.ext L.ok<|D C s1.toks) λB H Y=>d6<|U _ (x1.trans<|D C s1.toks) B H Y
 ·refine af q ?_;refine bI<|d6 ?_;unfold assignStores;dsimp only;refine bI<|wpAny_rule<|bI ?_;have el:(l.map (·.1)).length =vs.toArray.size:=by rw[b8];refine af ll<|af bk ?_;rw[og];exact af y.length rfl
  refine af el ?_;refine wpAny_unpackItems_tuple am.handled FK λh' C=>bI ?_;have et:((l.map (·.1)).reverse.map λn=>bindName env n)=(l.map λp=>bindName env p.1).reverse :=by rw[Lg,fg];rfl
  refine af et ?_;have hp':gK f G.reverse ds.reverse=aa u:=by rw[Qda hnd bk];exact hp
  have g:=(r (λp=>bindName env p.1) λp v s Q h=>wpAny_bindName h).rev;have rR:=(D C s1.toks).repL d.tXX y.reverse;have gP:=d.ext L.ok<|D C s1.toks;exact IE L.ok eo cm g vs.reverse ds.reverse f {s1 with heap:=h'} _ u rR hp' gP λB H Y=>d6<|U _ (x1.trans<|D C s1.toks) B H Y
theorem Rl(L:Lib W T O N)(G:SE W T O N env e m):CS W T O N Wf env (.Return (aa e) pos)<|.ret m:=by intro fu A X0 C X f s q y Q j u B U M;refine nl (QbC U) λd H Y z=>?_;subst Y;obtain rfl:=z.symm;exact Ww<|G 40 A X0 C X f s d _ j B H λv s1 x1 D=>M C X s1 (.ret v) (x1.stp B.tXX) (B.ext L.ok x1)<|.ret D
theorem Qdk:CS W T O N Wf env (.Break pos) .brk :=by intro fu A X0 C X f s M U Q j Y B G D;refine aG (QbI G) λH L=>?_;subst H;obtain rfl:=L.symm;exact wpAny_Break<|D C X s .brk (Stp.refl ..) B .brk
theorem Qdl{st:de}:CS W T O N Wf env st .rais :=by intro fu A X0 D X f s H L Q U M C B G;exact(QbJ B).elim
theorem Qdm(L:Lib W T O N)(D:iY W T O N env t m):CS W T O N Wf env (.Assert t ab pos)<|.asrt m:=by intro fu A X0 C X f s z q Q Y y B M H;refine fx (QbH M) λG U j=>?_;subst U;obtain rfl:=j.symm;exact wpAny_Assert_holds<|D 40 A X0 C X f s ac _ Y B G λs1 x1=>⟨rfl,H C X s1 .next (x1.stp B.tXX) (B.ext L.ok x1) .next⟩
theorem Qdn(h:pR op a b=aa d)(B:∀t k,Q (.int d t) {s with toks:=k}):aI (aR W.prog W.w) A (inplaceOp (ud op) (.int a t)<|.int b u) Q a9 s:=by
 cases op using BO.casesOn with
 |add=>obtain rfl:=aw h;exact P.iadd_int (B _ _)
 |sub=>obtain rfl:=aw h;exact P.isub_int (B _ _)
 |shl=>refine aG (jP h) λq e=>?_;obtain rfl:=aw e;simp only[bo,bH]at q;have:=CL q.2;exact ilshift_int q.1.1 (Nc q.1.2 this) (B _ _)
 |shr=>refine aG (mQ.mp h) λq e=>?_;obtain rfl:=aw e;refine irshift_int q ?_;rw[CK (Qb _)];exact B _ _
 |_=>exact ei h
theorem Qdo(L:Lib W T O N)(G:EnvOk env)(D:env.scope.names[i]?=aa (x,.local))(o:SE W T O N env e m):CS W T O N Wf env (.AugAssign (.Name x tp) (ud op) e pos)<|.aug i op m:=by intro fu A X0 M X f s fl f' Q h p C w n;refine Y1 (Qby w) λa b d r g l B aD=>?_;subst B;subst aD;refine aE λU=>?_;refine dJ (C.val D r) λm0 v y z q=>?_;refine aF q.int_inv λt B=>?_;clear q;subst B;apply U;clear U;refine wpAny_AugAssign_Name<|Qk6 G.kind (G.kindAt D) y z<|o 40 A X0 M X f s _ _ h C g λv1 s1 x1 H=>?_;refine aF H.int_inv λu B=>?_;clear H;subst B;refine Qdn l λt k=>?_;have x2:Ext W s {s1 with toks:=k}:=x1.trans<|Ext.tok _;exact zG L.ok G p D (.inl rfl) (C.ext L.ok x2) (.int _ _) λj Y c=>n M X j .next ((x2.stp C.tXX).trans Y) c .next
end
end
section
section
variable {W:Wd} {T:Tabs} {O:bC} {N Wf:Nat} {env:bu}
theorem Rm(L:Lib W T O N)(D:EnvOk env){e:au}{i:Nat}{x:ao}{G pos:aY}(hs:yf e (aa<|.Name x G) pos.line env=pure ae)(M:env.scope.names[i]?=aa (x,.local)){A:cX}{X0:List aj}{v:Nat->aj}{X:List aj}{f:Frm}{s:aC}{xs:List ak}{Q:kW->aC->Prop}(u:f.flat=ac)(B:SR W X0 env v X s.heap f)(k:∀y:aq->aC->Prop,(∀(a:aj)(s1:aC)(n:Nat)(vs:List aq),Ext W s s1->s.heap.get? a=ab->s1.heap.get? a=aa {cls:=.type "list",data:=.seq vs.toArray n}->vs.length<=cH->(∀g,RepL g vs xs)->y (.ref a) s1)->aI (aR W.prog W.w) A (eval e env) y a9 s)(o:∀c X' C j,Stp W X0 X X' s C->SR W X0 env c X' C.heap (f.put i<|.own xs)->FlOk X' C.heap .next j->Q j C):aI (aR W.prog W.w) A (exec (.Assign [.Name x G] e pos) env) Q a9 s:=by
 refine Ld (k _ λa s1 n vs x1 U d t l=>?_) hs;refine aE λz=>?_;have w:=B.ext L.ok x1;refine ah w.vars λm H hv=>?_;apply z;clear z;refine K8 (D.kindAt M) H (λh' r Y=>?_)<|af D.kind rfl;refine o _ (a::X) _ .next ?_ (B.ownNew L.ok D x1 U M u (λh q=>by refine bT (Rh H q) ?_;exact r) Y d t l) .next;have st:Stp W X0 X X s {s1 with heap:=h',toks:=s1.toks+1}:=(x1.stp B.tXX).trans<|Stp.mut _ Y B.loc.1 B.loc.2.1;exact⟨st.same,st.keep,st.keep0,λb q=>by
  rcases bF.mp q with p|q
  ·clear q;obtain rfl:=p.symm;exact .inr U
  ·exact .inl q⟩
theorem Qdp(L:Lib W T O N)(G:EnvOk env)(C:env.scope.names[i]?=aa (x,.local)):CS W T O N Wf env (.Assign [.Name x j] (.List [] q) pos)<|.own i<|.lst []:=by intro fu A X0 z X f s y v Q k u B H D;refine fx (Qbt H) λY M U=>?_;subst M;subst U;refine Rm L G (wP rfl _ _ _) C Y B (λo h=>?_) D;refine wpAny_List (Qk9 ⟨by simp only[eu];simp,?_⟩);exact h _ _ 0 [] (Ext.push L.ok _ _) (wK _) (kT _ rfl) (by simp) λg=>.nil
theorem Qdq(L:Lib W T O N)(eo:EnvOk env)(Y:∀e m,tr e=aa m->fE e=ac)(hi:env.scope.names[i]?=aa (x,.local))(mX:(jc.endLine==ox.line)=ac)(hb:wn o=ac)(bk:es.length<20)(ho:SE W T O N env o mo)(M:cA tr es=aa ms)(h:∀e∈es,∀m,tr e=aa m->SE W T O N env e m): CS W T O N Wf env (.Assign [.Name x tp] (.Call (.Attribute o "split" jc) es [] ox) pos)<|.own i<|.meth .split mo ms:=by
 intro fu A X0 oa X f s fl f' Q am cm D w hQ;refine Y2 (Qbu w) λxs od ds v cJ H Ma C z=>?_;subst C;subst z;refine Rm L eo (wP rfl _ _ _) hi Ma D (λQ' U=>?_) hQ;refine K4 (CW hb env _) (CY Y bk M) mX<|ho 39 A X0 oa X f s od _ am D v λov s1 x1 G=>?_;refine aE λB=>?_;refine fx (QU .split "split" rfl) λf1 f2 f3=>?_;refine aG (QV H G) λt1 t2=>?_;have j:=D.ext L.ok x1;apply B;clear B;refine⟨zB .split,ue .split .none,f1,f2,f3,t1,t2,?_⟩;refine C0 Y M<|nH L.ok am Y M cJ j h λvs s2 x2 k=>?_;refine aE λB=>?_;have tF:=j.rep_ext x2 G;refine ah (bO.mp H) λaQ c d=>?_;obtain⟨x,y⟩:=aQ;clear H;have:=gy (cV c).1;clear v G;subst this;refine dJ (k.of1 (cV c).2) λu e z p ru=>?_;clear k;subst z;have:=gy p;clear p;subst this;apply B;clear B;split at d<;>(clear w;cases d);rename_i q;simp only[n7,bJ,bH,not_or]at q;refine ah tF.str_inv λt C _=>?_;subst C;refine ah ru.str_inv λt' C _=>?_;subst C;refine Qr L.ok q.1 (No q.2) λa s3 x3 b ⟨n,l,e1,e2,e3,e4⟩=>U a s3 n (xZ l) (x1.trans<|x2.trans x3) ?_ e1 (by simpa[xZ]using e2) λg=>Qq l _ e3 e4;cases q':s.heap.get? a with
 |none=>rfl
 |some o=>
  exfalso;by_cases r:a∈W.T
  ·refine ah (L.ok.tStill _ (j.ext L.ok x2).tb a r) λo' e' _=>?_;exact qr _<|lZ (l5 e') b
  ·exact qr _<|lZ (l5<|(x1.trans x2).keep a o r q') b
theorem II(L:Lib W T O N)(l:EnvOk env){tr:au->Option ME}(z:∀e m,tr e=aa m->fE e=ac){i:Nat}{x name:ao}{id:String}(Y:fy x=ac)(q:Slot "list" name id)(Ft:typeOf (.builtin id)=pure (.type "method_descriptor"))(c:(w.endLine==b.line)=ac){es:List au}{ms:List ME}(bk:es.length<20)(j:cA tr es=aa ms)(h:∀e∈es,∀m,tr e=aa m->SE W T O N env e m){A:cX}(am:AOk A N){X0:List aj}{G:Nat->aj}{X:List aj}{f:Frm}{s:aC}{xs v ds:List ak}{Q:kW->aC->Prop}(D:SR W X0 env G X s.heap f)(k:env.scope.names[i]?=aa (x,.local))(o:f[i]?=aa (.own xs))(cJ:cZ (λe=>ai T O 40 e f) ms=aa ds)(hc:∀(B:aC)(n:Nat)(C vs:List aq)(r:aq->aC->Prop),B.heap.get? (G i)=aa {cls:=.type "list",data:=.seq C.toArray n}->C.length<=cH->RepL (mask X B.heap) C xs->RepL (mask X B.heap) vs ds->(∀h' u U,h'.get? (G i)=aa {cls:=.type "list",data:=.seq (KS U) u}->dG U<=cH->RepL (mask X B.heap) U v->jC (G i) B.heap h'->r .none {B with heap:=h'})->aI (aR W.prog W.w) A (call (.builtin id)<|.ref (G i)::vs) r a9 B)(hQ:∀cM X' H d,Stp W X0 X X' s H->SR W X0 env cM X' H.heap (f.put i<|.own v)->FlOk X' H.heap .next d->Q d H): aI (aR W.prog W.w) A (exec (.Expr (.Call (.Attribute (.Name x np) name w) es [] b) pos) env) Q a9 s:=by
 refine aE λg=>?_;unfold fy at Y;simp only[bo,bJ]at Y;have jK:A1 env=ae:=by unfold A1;exact af l.kind rfl
 obtain⟨x',m,y,hn,hm,hX,hb,n,FM,M,hz,hr⟩:=D.ownAt o;rw[k]at y;obtain⟨rfl,_⟩:=dc<|aw y;apply g;clear g;refine Wx ?_ jK<|wP rfl _ _ _;refine K4 (CW rfl env _) (CY z bk j) c<|pX l Y k hn (show VarAt env s.heap m x .local _ from hm) ?_;refine⟨"list",id,F.plainAttrs_list,q,Ft,⟨_,M,rfl⟩,λa e=>by obtain rfl:=tc e;exact(br _ M rfl),?_⟩;refine C0 z j<|nH L.ok am z j cJ D h λvs B x2 p=>?_;have bz:=D.ext L.ok x2;refine hc B n FM vs _ (x2.keep _ _ (pU L.ok D.tb M rfl) M) hz (x2.repL D.tXX hr) p λh' u U e1 e2 e3 t=>?_;exact hQ G X _ .next ((x2.stp D.tXX).trans<|Stp.mut B.toks t hX hb.1) (bz.mutOwn L.ok o t e1 e2 e3) .next
theorem Qdr(L:Lib W T O N)(c:EnvOk env){tr:au->Option ME}(bY:∀e m,tr e=aa m->fE e=ac)(k:fy x=ac)(u:(o.endLine==q.line)=ac)(g:env.scope.names[i]?=aa (x,.local))(M:tr e=aa m)(h:SE W T O N env e m): CS W T O N Wf env (.Expr (.Call (.Attribute (.Name x np) "append" o) [e] [] q) pos)<|.app i m:=by
 intro fu A X0 oa X f s fl f' Q am cm j bG b;refine B6 (QbD bG) λxs d r p bM D aD=>?_;subst D;subst aD;refine II (tr:=tr) (ds:=[d]) (es:=[e]) (ms:=[m]) L c bY k F.slot_list_append F.type_list_append u (by simp) (by simp[qU,qW,M]) (λe' H m' G=>by simp at H;subst H;rw[M]at G;obtain rfl:=aw G;exact h) am j g r
  (by show(match ai T O 40 m f with|some d=>(cZ _ []).map (d::·)|none=>ab)=aa [d];refine af p ?_;rfl) (λs2 n B vs Q' w a Y U l=>?_) b
 refine ah U.one λv D z=>?_;clear U;subst D;have t:=Y.length;refine Qlf (items:=B.toArray) ⟨n,w⟩ (λh' C hs=>?_) (by exact a);obtain⟨y,C⟩:=C;exact l h' y (B++[v]) (by simpa using C) (by simp only[cw,t,eu];simp;exact aH 0x1baebaebaebae40382892682640 Yt bM) (Y.append<|.cons z .nil) hs
theorem Qds(L:Lib W T O N)(eo:EnvOk env){tr:au->Option ME}(bY:∀e m,tr e=aa m->fE e=ac)(w:fy x=ac)(a:(jc.endLine==p.line)=ac)(hi:env.scope.names[i]?=aa (x,.local))(z:tr e=aa m)(h:SE W T O N env e m): CS W T O N Wf env (.Expr (.Call (.Attribute (.Name x np) "extend" jc) [e] [] p) pos)<|.ext i m:=by
 intro fu A X0 D X f s fl f' Q am cm t bG hQ;refine B6 (QbE bG) λxs d hf hd l H aD=>?_;subst H;subst aD;refine II (tr:=tr) (ds:=[.list d]) (es:=[e]) (ms:=[m]) L eo bY w F.slot_list_extend F.type_list_extend a (by simp) (by simp[qU,qW,z]) (λe' j m' Y=>by simp at j;subst j;rw[z]at Y;obtain rfl:=aw Y;exact h) am t hi hf
  (by show(match ai T O 40 m f with|some d=>(cZ _ []).map (d::·)|none=>ab)=aa [.list d];refine af hd ?_;rfl) (λg n B vs Q' G e2 k u hq=>?_) hQ
 refine aE λo=>?_;refine ah u.one λv H r=>?_;clear u;subst H;refine dy r.list_inv λb c C bW h1 h2 y=>?_;subst bW;have q:=k.length;have U:=y.length;have M:B.toArray.size+C.toArray.size<=cH:=by simp only[og,og,eu];exact Nz l q U
 have Mb:B.toArray.size<=cH:=by exact e2
 apply o;clear o;refine ve PySem.F.slot_list_extend ⟨_,G,rfl⟩ PySem.F.entry_list_extend (PySem.F.args_list_extend_2 _ _) (AutoSeq1.list_extend_list_list_0 (D i) B.toArray n b C.toArray c (extend_door M) Mb<|fS 0x1832500c8006403200 Yt M) ⟨G,dZ h1,?_⟩;have ea:B.toArray++C.toArray=(B++C).toArray :=by simp
 have jH:(g.heap.update (D i)<|Lh λx=>x++C.toArray).get? (D i)=aa {cls:=.type "list",data:=.seq (B++C).toArray<|if(B.toArray++C.toArray).size ==B.toArray.size then n else n+1}:=by rw[Qlj _ G (by rw[mapSeq_app];rfl),mapSeq_app];exact af ea rfl
 exact hq _ _ (B++C) jH (by rw[cw];refine af eu ?_;exact Nz l q U) (k.append y)<|Li ..
theorem Qdt(L:Lib W T O N)(t:EnvOk env)(q:fy x=ac)(z:(y.endLine==j.line)=ac)(u:env.scope.names[i]?=aa (x,.local)): CS W T O N Wf env (.Expr (.Call (.Attribute (.Name x np) "reverse" y) [] [] j) pos)<|.rev i:=by
 intro fu A X0 C X f s w f' Q b cm U r l;refine nl (QbF r) λxs k p c=>?_;subst p;subst c;refine II (tr:=λ_=>ab) (ds:=[]) L t (by intro e m h;injection h) q F.slot_list_reverse F.type_list_reverse z (by simp) rfl (by intro e o;simp at o) b U u k rfl (λY n B vs Q' G M g d v=>?_) l;cases d.none;have a:B.toArray.size<=cH:=by exact M
 refine ve PySem.F.slot_list_reverse ⟨_,G,rfl⟩ PySem.F.entry_list_reverse (PySem.F.args_list_reverse_1 _) (AutoSeq1.list_reverse_list_0 (C i) B.toArray n a) ⟨G,?_⟩;have D:∃H,(Y.heap.update (C i)<|Lh λx=>x.reverse).get? (C i)=aa {cls:=.type "list",data:=.seq B.reverse.toArray H}:=by refine(b9 n ?_);rw[Qlj _ G (by rw[mapSeq_reverse];rfl),mapSeq_reverse]
 refine aF D λH D=>?_;exact v _ _ B.reverse D (by simpa using M) g.reverse<|Li ..
theorem Ro(L:Lib W T O N)(eo:EnvOk env)(G:fy x=ac)(d:env.scope.names[i]?=aa (x,.local))(H:SE W T O N env w<|.ki k): CS W T O N Wf env (.Delete [.Subscript (.Name x np) w sp] pos)<|.del i k:=by
 intro fu A X0 u X f s fl f' Q am cm C bG hQ;refine pP (QbG bG) λxs j g hj U aD=>?_;subst U;subst aD;refine aE λB=>?_;unfold fy at G;simp only[bo,bJ]at G;obtain⟨x',m,Y,h,hm,hX,hb,n,r,l,hz,o⟩:=C.ownAt g;rw[d]at Y;obtain⟨rfl,_⟩:=dc<|aw Y;apply B;clear B;refine wpAny_Delete<|wpAny_deleteEach_cons<|wpAny_delete_Subscript<|pX eo G d h (show VarAt env s.heap m x .local _ from hm) ?_;refine H 1 A X0 u X f s (.int k) _ am C rfl λv s1 x1 q=>?_;refine aE λB=>?_;refine aF q.int_inv λt U=>?_;clear q;subst U;refine yZ (CQ hj) λa c b q4=>?_;have p:=x1.keep _ _ (pU L.ok C.tb l rfl) l;have Bx:=x1.repL C.tXX o;have M:=o.length;apply B;clear B;refine wpAny_delItem_plain ⟨n,p⟩ ?_ (by rw[og];refine af M ?_;exact a) (λh' D hs=>wpAny_deleteEach_nil ?_)<|by exact hz
 ·have z:(cH:Int)<2^63:=by refine af eu ?_;decide
  by_cases y:0<=k
  ·exact fitsIndex_of y<|W4 0xf0820820820820820820820820820820890060083ec400d9020f082082082082082082082082082082089b00 [_,_,_] [_] Yt hz b M z
  ·exact fitsIndex_neg (we y)<|W4 0x703c08208208208208208208208208208208918020703cb10d9020f082082082082082082082082082082089b00 [_,_,_] [_] Yt hz c M z
 ·refine aE λB=>?_;obtain⟨n',D⟩:=D;have e:r.toArray.eraseIdxIfInBounds j=(r.eraseIdx j).toArray :=by simp
  rw[e]at D;apply B;clear B;exact hQ u X _ .next ((x1.stp C.tXX).trans<|Stp.mut _ hs hX hb.1) ((C.ext L.ok x1).mutOwn L.ok g hs D (fV (List.length_eraseIdx_le ..) hz)<|Bx.eraseIdx j) .next
end
end
section
section
variable {W:Wd} {T:Tabs} {O:bC} {N Wf:Nat} {env:bu}
abbrev BS(W:Wd)(T:Tabs)(O:bC)(N Wf:Nat)(env:bu)(ss:List de)(ms:List MS):Prop:=
 ∀(fu:Nat)(A:cX)(X0:List aj)(oa:Nat->aj)(X:List aj)(f:Frm)(s:aC)(fl:Fl)(f':Frm)(Q:kW->aC->Prop),AOk A N->CellsMine W X0 env->SR W X0 env oa X s.heap f->
  bt T O Wf fu ms f=aa (fl,f')->(∀cM X' s' dY,Stp W X0 X X' s s'->SR W X0 env cM X' s'.heap f'->FlOk X' s'.heap fl dY->Q dY s')->aI (aR W.prog W.w) A (om ss env) Q a9 s
theorem Qdu(L:Lib W T O N){t:au}{mt:ME}{a b:List de}{q z:List MS}{pos:aY}(y:iY W T O N env t mt)(g:BS W T O N Wf env a q)(d:BS W T O N Wf env b z):CS W T O N Wf env (.If t a b pos)<|.ife mt q z:=by
 intro fu A X0 C X f s k o Q G l B D u;refine eE (Qbz D) λfu c v D=>?_;cases c with
 |true=>refine Lj (y 40 A X0 C X f s ac _ G B v λs1 x1=>?_);exact g fu A X0 C X f s1 k o Q G l (B.ext L.ok x1) D λY X' H U x2 j M=>u Y X' H U ((x1.stp B.tXX).trans x2) j M
 |false=>refine Lj (y 40 A X0 C X f s ae _ G B v λs1 x1=>?_);exact d fu A X0 C X f s1 k o Q G l (B.ext L.ok x1) D λY X' H U x2 j M=>u Y X' H U ((x1.stp B.tXX).trans x2) j M
inductive WhlInv(W:Wd)(T:Tabs)(O:bC)(Wf fu:Nat)(env:bu)(X0 X:List aj)(mt:ME)(mb:List MS)(r:Fl×Frm)(s:aC)(n:Nat)(st:aC):Prop
 |mk (k7:Nat->aj) (X1:List aj) (f1:Frm):Stp W X0 X X1 s st->SR W X0 env k7 X1 st.heap f1->gT (λf=>aS T O 40 mt f) (λf=>bt T O Wf fu mb f) n f1=aa r->WhlInv W T O Wf fu env X0 X mt mb r s n st
set_option tactic.hygienic true in
theorem Qdv(L:Lib W T O N){t:au}{mt:ME}{b:List de}{v:List MS}{pos:aY}(c:iY W T O N env t mt)(u:BS W T O N Wf env b v):CS W T O N Wf env (.While t b [] pos)<|.whl mt v:=by
 intro fu A X0 x X f s h l Q j g a e k;refine aF (QbA e) λfu e=>?_;refine wpAny_While<|codeAny_whileLoop (WhlInv W T O Wf fu env X0 X mt v (h,l) s) (λn st w=>?_) Wf ⟨x,X,f,Stp.refl ..,a,e⟩;obtain⟨C,G,y,xs,D,B⟩:=w;cases n with
 |zero=>injection B
 |succ n=>
  simp only[zp]at B;split at B<;>try contradiction
  ·rename_i o;refine wL<|c 40 A X0 C G y st ac _ j D o λs1 x1=>?_;refine wL ?_;have m:=D.ext L.ok x1;have p:=xs.trans<|x1.stp D.tXX;split at B
   ·rename_i q M;refine u fu A X0 C G y s1 .next q _ j g m M λY X' z i x2 U H=>?_;cases H;exact⟨n,Qlk n,⟨Y,X',q,p.trans x2,U,B⟩⟩
   ·rename_i q M;cases B;refine u fu A X0 C G y s1 .brk l _ j g m M λY X' z i x2 U H=>?_;cases H;exact k Y X' z .next (p.trans x2) U .next
   ·rename_i d q M;cases B;refine u fu A X0 C G y s1 (.ret d) l _ j g m M λY X' z i x2 U H=>?_;cases H;rename_i r;exact k Y X' z _ (p.trans x2) U<|.ret r
   ·injection B
  ·rename_i o;obtain⟨rfl,rfl⟩:=dc<|aw B;refine wL<|c 40 A X0 C G _ st ae _ j D o λs1 x1=>?_;exact yg<|k C G s1 .next (xs.trans<|x1.stp D.tXX) (D.ext L.ok x1) .next
theorem Stp.unhide0(x1:Stp W X0 X X s s1)(B:s.heap.get? I=ab)(x2:Stp W X0 (I::X) X' s1 H):Stp W X0 X X' s H:=by
 obtain⟨⟨z,Y,rfl⟩,k1,D,j⟩:=x1;obtain⟨⟨U,G,rfl⟩,k2,C,M⟩:=x2;have L:∀{b o},s.heap.get? b=aa o->b≠I:=λe q=>by rw[q,B]at e;injection e
 refine⟨(gH U G rfl),λb o n e=>k2 b o (λq=>by rcases bF.mp q with q|q;exact L e q;exact n q)<|k1 b o n e,λb o i n e=>C b o i n<|D b o i n e,λa Q=>?_⟩;refine fI (M a Q) (λr=>?_) λr=>?_
 ·refine fI (bF.mp r) (λr=>?_) λr=>?_
  ·exact .inr<|r▸B
  ·exact .inl r
 ·by_cases A:a∈X
  ·exact .inl A
  ·refine .inr ?_;cases e:s.heap.get? a with
   |none=>rfl
   |some o=>rw[k1 a o A e]at r;injection r
theorem Stp.weak(x:Stp W (I::X0) X X' s A):Stp W X0 X X' s A:=⟨x.same,x.keep,λb o i n e=>x.keep0 b o (bB _ i) n e,x.new⟩
def IJ(W:Wd)(env:bu)(target:au)(is:List Nat)(one:Bool):Prop:=
 ∀(A:cX)(n:Nat)(X0:List aj)(oa:Nat->aj)(X:List aj)(f f':Frm)(s:aC)(v:aq)(d:ak)(Q:Unit->aC->Prop)(E:aq->aC->Prop),AOk A n->CellsMine W X0 env->SR W X0 env oa X s.heap f->Rep (mask X s.heap) v d->gf is one d f=aa f'->
  (∀s',Stp W X0 X X s s'->SR W X0 env oa X s'.heap f'->Q () s')->aI (aR W.prog W.w) A (oj target env v) Q E s
theorem Qdw(k:W.Ok)(H:EnvOk env)(D:env.scope.names[i]?=aa (x,.local)):IJ W env (.Name x p) [i] ac:=by intro A n X0 M X f U s v d Q E Y L C r B G;simp only[gf,if_true,nB,nE]at B;obtain rfl:=aw B;exact Fe<|zG k H L D (.inl rfl) C r G
set_option tactic.hygienic true in
theorem Qdx(k:W.Ok)(i:EnvOk env)(aU:dP c env)(H:t7 c U=aa is):IJ W env (.Tuple U kk p) is ae:=by
 intro A n X0 oa X f m s v d Q E am w C r B u;simp only[gf,AP,if_false]at B;split at B<;>try contradiction
 rename_i ds;refine ah (Rk H) λl an y=>?_;clear H;subst an;refine dy r.tuple_inv λa n vs bW g h2 L=>?_;clear r;subst bW;have bk:=IF B;have FK:s.heap.IsTuple a vs.toArray:=⟨_,dZ g,rfl,_,rfl⟩;refine fx (IH (env:=env) l) λa1 a2 a3=>?_;have G:=y A E env aU W (λp=>oj (gM p) env) λp v s Q h=>Fe h;have j:l.length=is.length:=by
  have D:∀{a:List<|aq->cL Unit}{b:List Nat},Tgts W A E env a b->a.length=b.length:=λt=>by
   induction t with
   |nil=>rfl
   |cons _ _ _ _ z=>simp[z]
  simpa using D G
 refine wpAny_assign_Tuple am.handled FK (by refine af a2<|af j<|af bk ?_;rw[og];exact af L.length rfl) a3 λh' q=>?_;refine af a1 ?_;have x1:Ext W s {s with heap:=h'}:=Ext.grow k s.toks λb o e=>q b o (Fa<|l5 e) e;exact IE k i w G vs ds f {s with heap:=h'} _ m (x1.repL C.tXX L) B (C.ext k x1) λY M x=>u Y ((x1.stp C.tXX).trans M) x
set_option backward.match.sparseCases true in
theorem Qdy{E:aq->aC->Prop}{B:au}{I:aj}{v:aq}{o:bp}{Ty:String}{M:Array aq}{Q:Unit->aC->Prop}(L:s.heap.get? I=aa o)(H:o.cls=.type Ty)(D:uh Ty=ac)(G:o.data=.fields M)(C:Q () s): aI (aR W.prog W.w) A (Wm B (.ref I) v) Q E s:=by
 have body:aI (aR W.prog W.w) A (do
   let(.ref r,.ref a):=(ye I,v)|return
   let o<-load r
   match o.cls,o.data with
   | .type n,.fields vs=>
    if["enumerate","zip","dict_itemiterator","dict_reverseitemiterator","odict_iterator","itertools.zip_longest","itertools.pairwise"].contains n&&vs[0]?==aa (vq a)then
     rule "for.unpacks-the-owned-tuple"
     updateField r 0 .none
   |_,_=>pure ()) Q E s:=by
  cases v with
  |ref a=>
   refine bI<|wpAny_load L ?_
   refine af H<|af G ?_
   unfold uh at D
   simp only[bo,oh]at D
   dsimp only
   refine af D.2 ?_
   exact d6 C
  |_=>exact d6 C
 cases B<;>first|exact body|exact d6 C
inductive ForInv(W:Wd)(T:Tabs)(O:bC)(Wf fu:Nat)(env:bu)(X0 X:List aj)(I:aj)(mb:List MS)(is:List Nat)(one:Bool)(r:Fl×Frm)(xs:List ak)(s2:aC)(St:Nat->bL->Prop)(n:Nat)(st:aC):Prop
 |mk (i:Nat) (k7:Nat->aj) (X1:List aj) (f1:Frm):i+n=xs.length->Stp W X0 (I::X) X1 s2 st->SR W (I::X0) env k7 X1 st.heap f1->St i st.heap->gc (λf=>bt T O Wf fu mb f) (gf is one) (xs.drop i) f1=aa r->ForInv W T O Wf fu env X0 X I mb is one r xs s2 St n st
def Rp(Inv:Nat->aC->Prop)(n:Nat)(Q:kW->aC->Prop)(dY:kW)(s':aC):Prop:=match dY with
 | .next | .cont =>∃m,m<n/\Inv m s'
 | .brk =>Q .next s'
 | .ret v=>Q (.ret v) s'
set_option tactic.hygienic true in
theorem Rq(L:Lib W T O N){B it:au}{is:List Nat}{one:Bool}{b:List de}{w:List MS}(mf:nK it=ac)(ku:SI W T O N env it mi)(ht:IJ W env B is one)(hb:BS W T O N Wf env b w): CS W T O N Wf env (.For B it b [] pos)<|.forr is one mi w:=by
 intro fu A X0 oa X f s fl f' Q am cm u bG hQ;refine eE (QbB bG) λfu xs ow bG=>?_;refine wpAny_For (ku 40 A X0 oa X f s xs _ am u ow λyv s1 k x1 x2 hi=>?_)<|C5 mf env;obtain⟨I,fp,P,St,rfl,G,hW,bY,iR,mY,hP,vJ⟩:=hi;have Wk:=hW A am.handled;have x:=u.ext L.ok x1;have nT:∀a,s1.heap.get? a=ab->a∉W.T:=λa e q=>by refine ah (L.ok.tStill _ x.tb a q) λo e' _=>?_;rw[e]at e';injection e'
 have FN:s.heap.get? I=ab:=by
  cases q:s.heap.get? I with
  |none=>rfl
  |some o=>have:=x1.keep I o (nT I G) q;rw[G]at this;injection this
 refine wj (iR 0 _ bY) λoI _ _ eI _=>?_;have rQ:=x.hide L.ok (I:=[I]) x2 λa ha=>by simp at ha;obtain rfl:=ha.symm;exact⟨G,oI,eI⟩
 have Md:=cm.hide<|x.cellNe G;have FO:I∉X0:=λq=>x.ltX' I G<|x.sub I q;have base:Stp W X0 X X s k:=(x1.trans x2).stp u.tXX;refine codeAny_forLoop_any (ForInv W T O Wf fu env X0 X I w is one (fl,f') xs k St) (λn st LO=>?_) xs.length
  ⟨0,oa,I::X,f,n9 _,Stp.refl ..,rQ,bY,bG⟩
 obtain⟨i,k7,y,f1,jK,By,FQ,FR,D⟩:=LO;have I1:I∈y:=FQ.sub I dU;have h:∀a o,s1.heap.get? a=aa o->a∉X->a∉y/\st.heap.get? a=aa o:=λa o e n=>by
  have e2:=x2.keep a o (λq=>n<|u.tXX a q) e;have nI:a∉I::X:=λq=>by
   refine fI (bF.mp q) (λq=>?_) λq=>?_
   ·rw[q,G]at e;injection e
   ·exact n q
  refine⟨λq=>?_,By.keep a o nI e2⟩;refine fI (By.new a q) (λq=>?_) λq=>?_
  ·exact nI q
  ·rw[e2]at q;injection q
 have Bk:∀(h':bL)(tk:Nat),(∃o,h'.get? I=aa o)->(∀b o,b∉[I]->st.heap.get? b=aa o->h'.get? b=aa o)->
   Stp W X0 (I::X) y k {st with heap:=h',toks:=tk}/\SR W (I::X0) env k7 y h' f1:=λh' tk hal M=>by
  refine dy (iR i _ FR) λo Ty fs q1 q2 q3 q4=>?_
  have nf:=Io q1 q2 (Ig q3) q4
  refine⟨By.trans ⟨(gH h' tk rfl),λb o n e=>M b o (by simp;intro Y;clear e;obtain rfl:=Y.symm;exact n I1) e,λb o m n e=>M b o (by simp;intro Y;clear e;obtain rfl:=Y.symm;exact FO m) e,λa q=>.inl q⟩,FQ.other L.ok (Wr:=[I]) M λa ha=>?_⟩
  simp at ha;obtain rfl:=ha.symm
  exact⟨dU,L.ok.fresh x.bs G,nT _ G,hal,λo e=>⟨(nf o e).1,(nf o e).2.1⟩⟩
 by_cases c:i<xs.length
 ·refine Wk.item i st _ _ c FR λv h' tk LR Bl M=>?_;refine dy (iR _ _ Bl) λo' Ty' fs' Me al2 al3 al4=>?_;obtain⟨tD,gP⟩:=Bk h' tk (b9 o' Me) M;refine ah (hP i v LR c) λd LS rv=>?_;have LU:xs.drop i=d::xs.drop (i+1):=by
   refine af (Fd c) ?_;have:=mS.mp LS;exact af this.2 rfl
  rw[LU]at D;simp only[O6,r6]at D;split at D<;>try contradiction
  rename_i f2 hbd;refine Qdy (s:={st with heap:=h',toks:=tk}) Me al2 al3 al4 ?_;have rv':Rep (mask y h') v d:=rv.mono λa o e=>by refine aG (cy.mp e) λn1 e1=>?_;refine aG (h a o e1 n1) λn2 e2=>?_;exact cy.mpr ⟨n2,M a o (by simp;intro Y;clear e n1 e1 e2;obtain rfl:=Y.symm;exact n2 I1) e2⟩
  refine ht A N (I::X0) k7 y f1 f2 {st with heap:=h',toks:=tk} v d _ _ am Md gP rv' hbd λs3 x3 dH=>?_;refine wL ?_;have l:∀FS U,bt T O Wf fu w f2=aa (FS,U)->(∀j X' C p,Stp W X0 (I::X) X' k C->SR W (I::X0) env j X' C.heap U->FlOk X' C.heap FS p->St (i+1) C.heap->Rp (ForInv W T O Wf fu env X0 X I w is one (fl,f') xs k St) n Q p C)->aI (aR W.prog W.w) A (om b env) (Rp (ForInv W T O Wf fu env X0 X I w is one (fl,f') xs k St) n Q) a9 s3:=λFS U g yt=>by
   refine hb fu A (I::X0) k7 y f2 s3 FS U _ am Md dH g λj X' C p H z t=>?_;refine yt j X' C p ((tD.trans x3.weak).trans H.weak) z t ?_;have XC:=x3.trans H;refine Wk.frame _ _ _ Bl λb hbm o e=>?_;refine fI (mY b hbm) (λrL=>?_) λpE=>?_
   ·clear hW iR mY Wk FN eI rQ Md FO By FQ I1 Bk M Me tD gP x3 dH yt H z;subst rL;exact XC.keep0 b o dU (nT _ G) e
   ·obtain⟨n1,o1,e1⟩:=pE;exact XC.keep b o (h b o1 e1 n1).1 e
  split at D
  ·rename_i U g;refine l .next U g λj X' C p H z t Mf=>?_;cases t;exact⟨n-1,Nw jK c,⟨i+1,j,X',U,Nx jK jK c,H,z,Mf,D⟩⟩
  ·rename_i U g;cases D;refine l .brk f' g λj X' C p H z t Mf=>?_;cases t;exact hQ j X' C .next (base.unhide0 FN H) (SR.less (I:=[I]) z u.tX) .next
  ·rename_i d3 U g;cases D;refine l (.ret d3) f' g λj X' C p H z t Mf=>?_;cases t;rename_i r;exact hQ j X' C _ (base.unhide0 FN H) (SR.less (I:=[I]) z u.tX)<|.ret r
  ·injection D
 ·have hil:i=xs.length:=by exact Ny jK c
  clear jK c;obtain rfl:=hil.symm;rw[Qlg]at D;obtain⟨rfl,rfl⟩:=dc<|aw D;refine Wk.done st _ _ FR λh' tk M=>yg ?_;refine dy (iR _ _ FR) λo Ty fs q1 q2 q3 q4=>?_;have hY:∀b o,b≠I->st.heap.get? b=aa o->h'.get? b=aa o:=λb o n e=>M b o (by simpa using n) e;have stx:Stp W X0 (I::X) y k {st with heap:=h',toks:=tk}:=By.trans ⟨(gH h' tk rfl),λb o n e=>hY b o (by intro Y;clear e;obtain rfl:=Y.symm;exact n I1) e,λb o m n e=>hY b o (by intro Y;clear e;obtain rfl:=Y.symm;exact FO m) e,λa q=>.inl q⟩;exact hQ k7 _ _ .next ((base.unhide0 FN stx).sub λa q=>(pv.mp q).1) (FQ.drop L.ok u.tX FO hY (L.ok.fresh x.bs G)<|Io q1 q2 (Ig q3) q4) .next
end
end
section
section
variable {W:Wd} {T:Tabs} {O:bC} {N Wf:Nat} {env:bu}
theorem Qdz(h:t8 A x y z=aa D):∃i j r k,x=.int i/\y=.int j/\z=.int k/\0<=i/\0<=j/\A[i.toNat]?=aa r/\j.toNat<r.length/\D=A.set i.toNat (r.set j.toNat k):=by refine ah (b1 h) λL B h=>ah (b1 h) λk H h=>aG (mQ.mp h) λq h=>?_;obtain⟨i,j⟩:=L;refine ah (b1 h) λr G h=>aG (uf h) λC e=>?_;simp only[bo,bH]at q;exact⟨i,j,r,k,(nu B).1,(nu B).2,iF H,q.1,q.2,G,C,e⟩
theorem Own2.upd(o:Own2 W X0 X h a y)(m:gU h a L)(B:L[n]?=aa (.ref b))(hs:jC b h h')(p:gU h' b Y)(s:∀g,RepL g Y<|v.map .int): Own2 W X0 X h' a<|y.set n v:=by
 obtain⟨H,l,M,d,len,rows⟩:=o;obtain⟨k,Q,_⟩:=m;obtain⟨x,A,t⟩:=l;rw[Q]at A;obtain rfl:L=H.map .ref :=by injection A with A;injection A with _ _ A;injection A with A;exact congrArg E2 A
 rw[fW]at B;have B:H[n]?=aa b:=ah (cv.mp B) λc q e=>by obtain rfl:=tc e;exact q
 have U:=mR.mp M;have keep:∀{c D},c≠b->gU h c D->gU h' c D:=λu ⟨n,e,l⟩=>⟨n,(hs.2 _ u).trans e,l⟩;refine⟨H,keep (λq=>U.1<|q▸kf B) ⟨k,Q,t⟩,M,d,by rw[qo];exact len,λj c r C G=>?_⟩;by_cases q:j=n
 ·subst q;rw[B]at C;obtain rfl:=aw C;rw[Qll<|by rw[<-len];exact(mS.mp B).1]at G;obtain rfl:=aw G;exact⟨Y,p,s⟩
 ·rw[Wu<|gD q]at G;refine ah (rows j c r C G) λD i f=>⟨D,keep (λz=>q ?_) i,f⟩;subst z;exact(List.getElem?_inj (mS.mp C).1 U.2).mp<|C.trans B.symm
theorem RepL.setInt:∀{vs:List aq}{xs:List Int}{j:Nat},RepL g vs (xs.map .int)->RepL g (vs.set j<|.int k t) ((xs.set j k).map .int):=by
 intro C G;induction G generalizing C with
 |nil=>intro L r;obtain rfl:=r.unnil;exact .nil
 |cons x xs D=>
  intro j r;exact dJ r.uncons λv H e B A=>by
    subst e;cases j with
    |zero=>exact .cons (.int _ _) A
    |succ j=>exact .cons B (D A)
theorem QdA(L:Lib W T O N)(eo:EnvOk env)(hs:yf e (aa<|.Subscript (.Subscript (.Name x p) a p1) b p2) pos.line env=pure ae)(hx:fy x=ac)(hi:env.scope.names[i]?=aa (x,.local))(fJ:∀u v q,a≠.Slice u v ab q)(ha:SE W T O N env a ma)(hb:SE W T O N env b mb)(he:SE W T O N env e me):CS W T O N Wf env (.Assign [.Subscript (.Subscript (.Name x p) a p1) b p2] e pos)<|.sto i ma mb me:=by
 intro fu A X0 H X f s fl f' Q am cm y bG hQ;refine Y4 (Qbw bG) λrs u v z hr hz hu hv h=>nl h λmW hp an aD=>?_;subst an;subst aD;refine aE λcG=>?_;obtain⟨j,k,r,w,rfl,rfl,rfl,q1,q2,q3,q4,rfl⟩:=Qdz hp;have hf:=Rd hr;unfold fy at hx;simp only[bo,bJ]at hx;apply cG;clear cG;refine Qlm (hs:=hs)<|he 40 A X0 H X f s _ _ am y hz λv0 s0 x0 r0=>?_;refine aF r0.int_inv λC e=>?_;subst e;have U:=y.ext L.ok x0;refine nl (U.own2At hi hf) λm hn hm o=>?_;refine zy fJ<|pX eo hx hi hn (show VarAt env s0.heap m x .local _ from hm)<|ha 40 A X0 H X f s0 _ _ am U hu λv1 s1 x1 r1=>?_;refine aF r1.int_inv λt e=>?_;subst e;have M:=U.ext L.ok x1;have d:=o.ext L.ok U.tb x1;refine⟨⟨_,zx,?_⟩,Re d q1 q3 λc B hc hw l1 rp=>?_⟩
 ·obtain⟨as,⟨n,e,_⟩,_⟩:=d;exact⟨_,e,rfl⟩
 refine hb 40 A X0 H X f s1 _ _ am M hv λv2 D x2 r2=>?_;refine aF r2.int_inv λt' e=>?_;subst e;have bz:=M.ext L.ok x2;have o2:=d.ext L.ok M.tb x2;have kp:∀{c B},gU s1.heap c B->gU D.heap c B:=λ⟨n,e,l⟩=>⟨n,x2.keep _ _ (pU L.ok M.tb e rfl) e,l⟩;refine ah hw λws w1 w2=>?_;have l2:=kp l1;obtain⟨n,e,l⟩:=id l2;have bk:B.length=r.length:=by have:=(rp<|mask X D.heap).length;simpa using this
 have bM:k.toNat<B.length:=bk▸q4;have G:k<2^63:=by have:=Iz l2<|ee bM;exact GA this
 refine ki_setAt e q2 G (by simp only[og];exact W2 0xd4014228a28914228228a24fb0000e22c036200 [_,_] [_] Yt q4 bk) ?_;have Mg:jC c D.heap (D.heap.update c (Lh (·.setIfInBounds k.toNat (.int w C)))):=Li ..;have z:=Qln e<|λa=>a.setIfInBounds k.toNat<|.int w C;have ez:B.toArray.setIfInBounds k.toNat (.int w C)=(B.set k.toNat<|.int w C).toArray :=by apply AQ.mp;rw[Qlo]
 rw[ez]at z;have l3:gU _ c<|B.set k.toNat<|.int w C:=⟨_,z,by rw[qo];exact l⟩;have Y:=bz.mutOwn2 L.ok hi hf (n:=n) hc l2 Mg l3<|o2.upd (kp w1) w2 Mg l3 λg=>(rp g).setInt;exact hQ H X _ .next ((((x0.trans x1).trans x2).stp y.tXX).trans<|Stp.mut D.toks Mg hc.1 hc.2.1) Y .next
end
end
section
section
variable {W:Wd} {T:Tabs} {O:bC} {N Wf:Nat}
theorem QdB:SE W T O N env (.UnaryOp .USub (.Constant (.int k) kk p) D)<|.ki<|-k:=by
 intro fu A X0 G X f s d Q H r B C;cases fu with
 |zero=>injection B
 |succ fu=>obtain rfl:=aw B;exact We (Wb (Qk7 (C _ _ ((Ext.tok _).trans (Ext.tok _)) (.int _ _))))
def QdC(e:au):Prop:=IG e=ac\/∃elt gens sc pos,e=.ListComp elt gens sc pos
theorem QdD(h:bq n c e=aa m):IG e=ac\/∃elt A B pos,e=.ListComp elt A B pos:=by
 cases n with
 |zero=>injection h
 |succ n=>exact(show Says (bq (n+1) c e) (λ_=>QdC e)from by clear h;cases e using yc<;>first|exact i8|exact .of λ_ _=>.inl rfl|exact .of λ_ _=>.inr (Oz _ _ _ _ rfl)).get h
def Db(fr:List MS):Prop:=∀x∈fr,∃i,x=.frz i
theorem wQ(c:Cx)(e:ME):Db<|frz c e:=λx A=>by unfold frz at A;refine ah (gk.mp A) λi _ B=>?_;clear A;subst B;exact⟨i,rfl⟩
def kG(W:Wd)(T:Tabs)(O:bC)(N Wf:Nat)(env:bu)(st:de)(a:List MS):Prop:=∃fr ms,a=fr++[ms]/\Db fr/\CS W T O N Wf env st ms
theorem QdE{env:bu}{X0:List aj}{H:Nat->aj}{s:aC}(fr:List MS):∀(da:List MS)(fu:Nat)(f:Frm)(X:List aj)(r:Fl×Frm),Db fr->SR W X0 env H X s.heap f->bt T O Wf fu (fr++da) f=aa r->∃B C D,(∀a∈C,a∈X)/\SR W X0 env H C s.heap B/\bt T O Wf D da B=aa r:=by
 induction fr with
 |nil=>exact λda fu f X r _ A h=>B7 f X fu (λ_ h=>h) A h
 |cons x fr L=>
  intro da fu f X r G A h;refine aF (G x dU) λi l=>?_;subst l;obtain⟨k,o⟩:=r;refine wj (QI h) λn x g Q u=>?_;refine aG (QbK Q) λe v=>?_;clear Q;subst e;have M:bt T O Wf n (fr++da) g=aa (k,o):=u.elim (·.2) λq=>absurd rfl q.1;have U:Db fr:=λy Y=>G y<|bB _ Y;refine fI v (λq=>?_) λq=>?_
  ·refine ah q λxs j e=>?_;subst e;refine ky (L da n _ _ _ U (A.freeze j) M) λB C D a b c=>?_;exact B7 B C D (λz hz=>(pv.mp<|a z hz).1) b c
  ·obtain rfl:=q.symm;exact L da n _ X _ U A M
theorem Stp.less(x:Stp W X0 B X' s A)(h:∀a∈B,a∈X):Stp W X0 X X' s A:=⟨x.same,λb o n e=>x.keep b o (λq=>n<|h b q) e,x.keep0,λa q=>(x.new a q).imp (h a) id⟩
set_option tactic.hygienic true in
theorem sD(h:∀st a,tr st=aa a->kG W T O N Wf env st a):∀{j:List de}{Y:List MS},lf tr j=aa Y->BS W T O N Wf env j Y:=by
 intro aM;induction aM with
 |nil=>intro Y B;obtain rfl:=aw B;intro fu A X0 D X f s u k Q U L z M G;refine aG (QbL M) λan aD=>?_;subst an;obtain rfl:=aD.symm;exact yg (G D X s .next (Stp.refl ..) z .next)
 |cons st j aL=>
  intro Y B;refine ah (zc B) λa ha B=>ah (zc B) λb hb B=>?_;obtain rfl:=aw B;obtain⟨fr,ms,rfl,rP,XF⟩:=h st a ha;have ih:=aL hb;intro fu A X0 D X f s u k Q U L z M G;refine aE λw=>?_;rw[mT]at M;refine ky (QdE fr _ fu f X _ rP z M) λi X1 FU e aV m=>?_;apply w;clear w;refine wj (QI m) λn x g c p=>?_;refine fI p (λq=>?_) λq=>?_
  ·refine aG q λo m=>?_;clear p q;subst o;refine mU<|XF n A X0 D X1 i s .next g _ U L aV c λd t y H x2 l C=>?_;cases C;exact ih n A X0 d t g y u k Q U L l m λv X3 s3 H x3 dH C=>G v X3 s3 H ((x2.less e).trans x3) dH C
  ·refine fx q λcj o e2=>?_;obtain rfl:=o.symm;obtain rfl:=e2.symm;refine mU<|XF n A X0 D X1 i s u k _ U L aV c λd t y H x2 l C=>?_;have:=G d t y H (x2.less e) l C;cases C with
   |next=>exact absurd rfl cj
   |brk=>exact this
   |ret r=>exact this
theorem Rr(h:nn c o k=aa a):∃m,o=aa m/\a=frz c m++[k m]:=by refine aE λA=>?_;unfold nn at h;refine ah (cv.mp h) λm C B=>?_;apply A;clear A;exact(br m C B.symm)
section
variable {c:Cx} {env:bu}
theorem pY(L:Lib W T O N)(B:dP c env)(A:EnvOk env)(e:au)(m:ME)(h:bq 40 c e=aa m):Snd W T O N env e m:=kF L 40 c env e m B A h
theorem IK(e:au)(m:ME)(h:bq 40 c e=aa m):fE e=ac:=(gV h).1
theorem ul(L:Lib W T O N)(D:dP c env)(C:EnvOk env){e:au}{st:de}{k:ME->MS}{a:List MS}(h:nn c (bq 40 c e) k=aa a)(H:∀m,bq 40 c e=aa m->CS W T O N Wf env st (k m)):kG W T O N Wf env st a:=by refine ah (Rr h) λm A B=>?_;clear h;subst B;exact⟨_,_,rfl,wQ _ _,H m A⟩
theorem sE{st:de}{ms:MS}(h:CS W T O N Wf env st ms):kG W T O N Wf env st [ms]:=⟨[],_,rfl,λ_ q=>absurd q jb,h⟩
theorem QdF(L:Lib W T O N)(H:dP c env)(A:EnvOk env)(u:c.find x=aa (i,kd))(n:kd=.local \/kd=.cell)(M:bq 40 c e=aa m):CS W T O N Wf env (.Assign [.Name x p] e pos)<|.asg i m:=by
 refine aE λG=>?_;refine ah (Iw H u) λU Q l=>?_;have Y:U=.local \/U=.cell :=by
  clear Q;rcases l with rfl|⟨_,rfl⟩
  ·exact n
  ·exact .inr rfl
 apply G;clear G;rcases QdD M with o|⟨elt,B,j,b,rfl⟩
 ·exact Qdb L A (wP o _ _ _) Q Y (pY L H A e m M).se
 ·refine aE λG=>?_;obtain⟨D,iter,y,da,src,f,w,z,e,s,g2,r,g,d,t⟩:=ID L (λe m q=>(kF L 39 c env e m H A q).si) (λa C e m A q=>kF L 39 _ _ _ _ (λi x k v=>wM v) A q)<|show wp (bq 39) c elt B j=aa m from M;subst e;exact G<|Qde L A H g2 s Q Y r g d t
theorem QdG(L:Lib W T O N)(u:dP c env)(D:EnvOk env)(hi:c.find x=aa (i,.local))(h:OX c i e=aa a):kG W T O N Wf env (.Assign [.Name x tp] e pos) a:=by
 refine ah (b1 h) λaQ hv h=>ah (b1 h) λan y h=>aG (mQ.mp h) λo d=>?_;obtain⟨elt,f,A,p⟩:=aQ;obtain⟨M,U,Q,G⟩:=an;obtain rfl:=ON hv;have y:Ce elt=aa (M,U,Q,G):=y;obtain rfl:=ON y;refine aF (vh.mp o) λg z=>?_;refine ah (Rr d) λm j aD=>?_;clear h d;subst aD;refine⟨_,_,rfl,wQ _ _,?_⟩;have z:one f=aa g:=z;have j:wp (bq 39) c (.ListComp M U Q G) f A=aa m:=j;rw[wp,z]at j;refine aE λv=>?_;obtain⟨t,px,kd,src,ti,l,mi,ms,e1,n,h2,s,h4,h5,h6,r,h8,rfl⟩:=IB<|show Hm (bq 39) c (.ListComp M U Q G) g A=aa m from j;have vP:∀(B:List<|ao×aj)(C:aj) e m,EnvOk (fz A B C env)->bq 39 (iC A) e=aa m->Snd W T O N (fz A B C env) e m:=λB C e m D q=>kF L 39 _ _ _ _ (λi x k H=>wM H) D q;have he:∀C B,EnvOk (fz A B C env)->SEf ac W T O N (fz A B C env) (.ListComp M U Q G) l:=λC B D=>by refine aE λv=>?_;have w:dP (iC A)<|fz A B C env:=λi x k H=>wM H;obtain⟨Y,iter,ifs,da,src,ti,f0,out,e,g1,g2,g3,g4,g5,g6⟩:=ID L (c:=iC A) (env:=fz A B C env) (p:=G) (λe m q=>(kF L 38 _ _ e m w D q).si) (λB C e m D q=>kF L 38 _ _ _ _ (λi x k H=>wM H) D q)<|show wp (bq 38) (iC A) M U Q=aa l from h6;subst e;exact v<|Ra L D w g2 g1 g3 g4 g5 g6
 have lp:=Q5 L (b:=ac) (px:=px) (pos:=p) (iter:=g.iter) s n h4 h5 (λC B D=>IC h2 h8 λe m q=>(vP B C e m D q).st) he;refine v ?_;rw[lc z,e1];exact Qdf L D u s n (C9 u hi) (gV r).2.1 (kF L 39 c env _ _ u D r).si lp Q6
theorem QdH(L:Lib W T O N)(B:dP c env)(A:EnvOk env)(h:OY c t e=aa a):kG W T O N Wf env (.Assign [t] e pos) a:=by
 refine ah (b1 h) λz G h=>ah (b1 h) λj D h=>?_;obtain⟨o,d,y⟩:=z;obtain⟨i,x,p,a1,v⟩:=j;replace h:=oJ h;rcases h with⟨_,h⟩|⟨_,_,h⟩;case inr=>exact nA h
 refine ah (b1 h) λl C h=>ah (b1 h) λk M h=>ah (b1 h) λu H h=>aG (uf h) λ_ q=>?_;subst q;refine fx (Rf B D) λY U Q=>?_;rw[Hh G,show o=_ from Y];refine sE<|QdA L A ?_ Q U (gV C).2.2 (pY L B A _ _ C).se (pY L B A _ _ M).se (pY L B A _ _ H).se;cases e<;>rfl
theorem QdI(L:Lib W T O N)(B:dP c env)(A:EnvOk env)(G:c.find x=aa (i,.local))(h:Hp c i e=aa a):kG W T O N Wf env (.Assign [.Name x u] e pos) a:=by
 unfold Hp at h;split at h
 ·rename_i C;split at h
  ·rename_i q;obtain rfl:=aw h;simp only[Zj C,n8.mp q];exact sE<|Qdp L A<|C9 B G
  ·injection h
 ·split at h
  ·rename_i C;split at h
   ·rename_i j;split at h
    ·refine aE λH=>?_;rename_i q;simp only[bo,bH,n8]at q;obtain⟨⟨⟨⟨D,Y⟩,U⟩,Q⟩,M⟩:=q;obtain⟨k,ms,v,y,rfl⟩:=Ix h;have:=eq_of_beq D;clear D;subst this;apply H;clear H;simp only[Hg C,Hf j,M];exact⟨_,_,rfl,wQ _ _,Qdq L A IK (C9 B G) Y U Q (pY L B A _ _ v).se y λe _ m z=>(pY L B A e m z).se⟩
    ·injection h
   ·injection h
  ·injection h
set_option tactic.hygienic true in
theorem QdJ(L:Lib W T O N)(B:dP c env)(A:EnvOk env)(h:Hq c t e=aa a):kG W T O N Wf env (.Assign [t] e pos) a:=by
 unfold Hq at h;split at h
 ·rename_i D;refine af (t6 D) ?_;split at h
  ·rename_i i k M;split at h
   ·rename_i C;simp only[n7,bJ]at C;split at h
    ·split at h
     ·rename_i q;have:=eq_of_beq q;clear C q;subst this;exact QdG L B A M h
     ·injection h
    ·split at h
     ·split at h
      ·rename_i q;have:=eq_of_beq q;clear C q;subst this;exact QdI L B A M h
      ·injection h
     ·exact ul L B A h λm H=>QdF L B A M C H
   ·injection h
  ·injection h
 ·split at h
  ·rename_i D;refine af (OM D) ?_;split at h
   ·rename_i G;split at h
    ·rename_i q;simp only[bo,bH]at q;exact ul L B A h λm H=>Qdj L A B G q.1 q.2 (pY L B A _ _ H).se
    ·injection h
   ·injection h
  ·exact QdH L B A h
theorem QdK(L:Lib W T O N)(D:dP c env)(B:EnvOk env)(h:Hr c e=aa a):kG W T O N Wf env (.Expr e pos) a:=by
 unfold Hr at h;split at h
 ·rename_i j;split at h
  ·rename_i G;split at h
   ·rename_i z;refine aG (zF D z) λv Q=>?_;split at h
    ·refine aE λU=>?_;rename_i q;simp only[bo,n8]at q;refine aG q λu Y=>?_;obtain⟨M,H⟩:=u;apply U;clear U;simp only[Hg j,Hf G,v,Y];split at h
     ·rename_i y;refine af (lc y) ?_;split at h
      ·rename_i A;have:=eq_of_beq A;clear G;subst this;exact ul L D B h λm C=>Qdr L B IK M H Q C (pY L D B _ _ C).se
      ·split at h
       ·rename_i A;have:=eq_of_beq A;clear G;subst this;exact ul L D B h λm C=>Qds L B IK M H Q C (pY L D B _ _ C).se
       ·injection h
     ·split at h
      ·rename_i A;simp only[bo,n8]at A;have:=eq_of_beq A.1;clear G;subst this;obtain rfl:=aw h;refine af A.2 ?_;exact sE<|Qdt L B M H Q
      ·injection h
    ·injection h
   ·injection h
  ·injection h
 ·injection h
theorem QdL(L:Lib W T O N)(M:dP c env)(C:EnvOk env)(h:Hs c e=aa a):kG W T O N Wf env (.Delete [e] pos) a:=by
 unfold Hs at h;split at h
 ·rename_i D;split at h
  ·rename_i G;refine aG (zF M G) λH B=>?_;split at h
   ·rename_i q;refine af (Hh D)<|af H ?_;split at h
    ·rename_i A;obtain rfl:=aw h;refine af (OO A) ?_;exact sE<|Ro L C q B QJ
    ·split at h
     ·rename_i A;obtain rfl:=aw h;refine af (Zn A) ?_;exact sE<|Ro L C q B QdB
     ·injection h
   ·injection h
  ·injection h
 ·injection h
end
theorem IL(L:Lib W T O N):∀(n:Nat)(c:Cx)(env:bu)(st:de)(a:List MS),dP c env->EnvOk env->jQ n c st=aa a->kG W T O N Wf env st a:=by
 intro g;induction g with
 |zero=>intro _ _ _ _ _ _ h;injection h
 |succ n G=>
  intro c env st a B A h;have H:=λe m(h:bq 40 c e=aa m)=>pY L B A e m h;have G:=λst a(h:jQ n c st=aa a)=>G c env st a B A h;refine(show Says (jQ (n+1) c st) (λa=>kG W T O N Wf env st a)from ?_).get h;clear h a;cases st with
  |Assign k e p=>refine .of λa h=>?_;refine ah (bO.mp h) λt Y h=>?_;refine af (lc Y) ?_;exact QdJ L B A h
  |AugAssign t op e p=>
   refine .of λa(h:(match rY c t,Cd op with|some (i,_),aa o=>nn c (bq 40 c e) (.aug i o)|_,_=>ab)=aa a)=>?_
   split at h
   ·rename_i z d;refine aG (zF B z) λu v=>?_;have:=Rc d;clear d;subst this;refine af u ?_;exact ul L B A h λm U=>Qdo L A v (H _ _ U).se
   ·injection h
  |If t x y p=>refine .of λa h=>?_;refine aE λD=>?_;refine dy (sC h) λm ma Q C M w r=>?_;subst r;apply D;clear D;exact⟨_,_,rfl,wQ _ _,Qdu L (H _ _ C).st (sD G M) (sD G w)⟩
  |While t b j p=>
   refine .of λa(h:(match bq 40 c t,lf (jQ n c) b with|some m,aa Q=>if(frz c m).isEmpty &&j.isEmpty then aa [.whl m Q]else ab|_,_=>ab)=aa a)=>?_
   split at h
   ·rename_i C M;split at h
    ·rename_i q;simp only[bo,n8]at q;obtain rfl:=aw h;refine af q.2 ?_;exact sE<|Qdv L (H _ _ C).st<|sD G M
    ·injection h
   ·injection h
  |For t it b j p=>
   refine .of λa (h:(match bq 40 c it,lf (jQ n c) b with
    |some m,aa Q=>if j.isEmpty then(match rY c t with
      |some (i,_)=>aa (frz c m++[.forr [i] ac m Q])
      |none=>(match ze t with
       |some (k,_)=>(t7 c k).map λl=>frz c m++[.forr l ae m Q]
       |none=>ab))else ab
    |_,_=>ab)=aa a)=>?_
   split at h
   ·rename_i C M;split at h
    ·rename_i q;refine af (n8.mp q) ?_;split at h
     ·refine aE λD=>?_;rename_i z;refine aG (zF B z) λu v=>?_;apply D;clear D;obtain rfl:=aw h;refine af u ?_;exact⟨_,_,rfl,wQ _ _,Rq L (gV C).2.1 (H _ _ C).si (Qdw L.ok A v)<|sD G M⟩
     ·split at h
      ·rename_i f;refine ah (cv.mp h) λl Y aD=>?_;subst aD;refine af (OM f) ?_;exact⟨_,_,rfl,wQ _ _,Rq L (gV C).2.1 (H _ _ C).si (Qdx L.ok A B Y)<|sD G M⟩
      ·injection h
    ·injection h
   ·injection h
  |Return s p=>
   cases s with
   |none=>exact i8
   |some e=>exact .of λa h=>ul L B A h λm U=>Rl L (H _ _ U).se
  |Expr e p=>exact .of λa h=>QdK L B A h
  |Delete es p=>refine .of λa h=>?_;refine aE λD=>?_;refine ah (bO.mp h) λe Y h=>?_;apply D;clear D;refine af (lc Y) ?_;exact QdL L B A h
  |Assert t m p=>
   cases m with
   |none=>exact .of λa h=>ul L B A h λm U=>Qdm L (H _ _ U).st
   |some e=>exact i8
  |Break p=>exact(sE Qdk:kG W T O N Wf env _ _)
  |Raise a b p=>exact(sE Qdl:kG W T O N Wf env _ _)
  |_=>exact i8
end
end
section
section
variable {W:Wd} {T:Tabs} {O:bC} {N Wf:Nat}
theorem QdM:∀(b:List<|ao×aq)(m:ao->Option aq),x∉b.map (·.1)->bindL D b m x=m x:=by
 intro B;induction B with
 |nil=>intro H G;exact rfl
 |cons A r C=>
  obtain⟨n,v⟩:=A;intro m h;simp only[dF,bF,not_or]at h;unfold bindL;rw[C _ h.2];split
  ·simp[h.1]
  ·rfl
theorem QdN:∀(b:List<|ao×aq)(m:ao->Option aq),x∉b.map (·.1)->bindC D b m x=m x:=by
 intro B;induction B with
 |nil=>intro H G;exact rfl
 |cons A r C=>
  obtain⟨n,v⟩:=A;intro m h;simp only[dF,bF,not_or]at h;unfold bindC;rw[C _ h.2];split
  ·rfl
  ·simp[h.1]
theorem QdO(C:B x=aa .local):∀(b:List<|ao×aq)(m:ao->Option aq)(i:Nat),(b.map (·.1)).Nodup ->b[i]?=aa (x,v)->bindL B b m x=aa v:=by
 intro G;induction G with
 |nil=>intro M i L h;injection h
 |cons D r H=>
  obtain⟨n,u⟩:=D;intro m i A h;simp only[dF,mR]at A;unfold bindL;cases i with
  |zero=>simp at h;obtain⟨rfl,rfl⟩:=h;rw[QdM r _ A.1,ar C];simp
  |succ i=>exact H _ i A.2 (by simpa using h)
theorem QdP(C:B x≠aa .local):∀(b:List<|ao×aq)(m:ao->Option aq)(i:Nat),(b.map (·.1)).Nodup ->b[i]?=aa (x,v)->bindC B b m x=aa v:=by
 intro G;induction G with
 |nil=>intro M i L h;injection h
 |cons D r H=>
  obtain⟨n,u⟩:=D;intro m i A h;simp only[dF,mR]at A;unfold bindC;cases i with
  |zero=>simp at h;obtain⟨rfl,rfl⟩:=h;rw[QdN r _ A.1,av C];simp
  |succ i=>exact H _ i A.2 (by simpa using h)
structure FnForm(fd:qv)(body:List de)(ps:List ao):Prop where
 body:fd.body=.stmts body
 clo:fd.closure=[]
 glob:fd.globals=l4
 blt:fd.builtins=u9
 co:fd.scope.isCoroutine=ae
 gen:fd.scope.isGenerator=ae
 kind:fd.scope.kind=.function
 nodup:(fd.scope.names.map (·.1)).Nodup
 free:∀x∈fd.scope.names,x.2≠.free
 pars:∀(i:Nat)(x:ao),ps[i]?=aa x->∃kd,fd.scope.names[i]?=aa (x,kd)/\(kd=.local \/kd=.cell)
 bind:∀vs:List aq,vs.length=ps.length->oq fd ⟨vs,[]⟩=pure (ps.zip vs)
set_option tactic.hygienic true in
set_option backward.match.sparseCases true in
theorem IM(k:W.Ok)(F:FnForm fd body B)(ho:s.heap.get? a=aa o)(hd:o.data=.func fd)(kt:s.heap.CodeRec fd.code fd.qualname)(dk:A.depth<1000)(f:W.Bs s.heap)(tb:W.Tb s.heap)(tX:∀a∈W.T,a∈X)(m:∀a∈X,∃o,s.heap.get? a=aa o)(hr:RepL (mask X s.heap) vs args)(c:args.length=B.length)(h:∀(env:bu)(M:aC),env.scope=fd.scope->env.cells=ja (s.heap.objs.size+1) fd.scope.names []->EnvOk env->env.code=fd.code->env.qual=fd.qualname++".<locals>."->(∃hp tk,M={s with heap:=hp,toks:=tk})->(∀b o,s.heap.get? b=aa o->M.heap.get? b=aa o)->s.heap.get? env.locals=ab->(∀x D,(x,D)∈env.cells->s.heap.get? D=ab)->env.cells.Pairwise (λx y=>x.2≠y.2)->CellsMine W X env->SR W X env (λ_=>0) (env.locals::(env.cells.filterMap (λp=>env.cells.lookup p.1)++X)) M.heap (args.map .val ++cR (fd.scope.names.length-B.length) .un)->aI (aR W.prog W.w) (A.deeper env) (om body env) (λfl s'=>Q (match fl with| .ret v=>v|_=>.none) s') a9 M): aI (aR W.prog W.w) A (call (.ref a) vs) Q a9 s:=by
 have vQ:vs.length=B.length:=hr.length.trans c;have pn:B=(fd.scope.names.map (·.1)).take B.length:=by
  apply Wy;intro i;simp only[Lk];by_cases C:i<B.length
  ·rw[ar C];refine ah (F.pars i B[i]<|by simp[C]) λkd U _=>?_;simp only[fW,U];simp[C]
  ·rw[av C];simp[C]
 have FX:B.Nodup:=by exact af pn<|F.nodup.sublist<|Qlp ..
 have ple:B.length<=fd.scope.names.length:=by have:=congrArg dG pn;simp only[l6,b8]at this;exact bD 0x34800508228208a245082082289188016d08000 Yt this
 have zf:(B.zip vs).map (·.1)=B:=by rw[KU<|Gy vQ]
 refine wpAny_call<|codeAny_call_cells dk ho hd (k.bsLim _ f) kt F.body (F.bind vs vQ) F.clo (λx hx=>?_) (λM L=>?_) F.co F.gen F.kind
 ·refine aE λcG=>?_;obtain⟨i,C,e⟩:=rF hx;have yD:i<B.length:=by simp at C;exact fS 0xd40814208a08a28914208a08228938800ed10200 Yt C
  have t:B[i]?=aa x.1:=by
   have:((B.zip vs).map (·.1))[i]?=aa x.1:=by rw[fW];refine af (ee C)<|af e ?_;rfl
   rwa[zf]at this
  refine ah (F.pars i x.1 t) λkd U h2=>?_;have h3:=CI F.nodup U;apply cG;clear cG;rcases h2 with rfl|rfl
  ·exact .inl h3
  ·refine aF (Ik fd.scope.names (s.heap.objs.size+1) [] x.1<|kf U) λD G=>?_;refine aF (C7 G) λc' e'=>?_;exact .inr ⟨h3,by refine af e' ?_;rfl⟩
 ·generalize l:callEnvC fd s.heap.objs.size a=env at L;have Y:env.scope=fd.scope:=bT l rfl;have dN:env.cells=ja (s.heap.objs.size+1) fd.scope.names []:=bT l rfl;have eo:EnvOk env:=by
   refine⟨by refine af Y ?_;exact F.kind,by refine bT l ?_;exact F.glob,by refine bT l ?_;exact F.blt,by refine af Y ?_;exact F.nodup,λi x k C hk=>?_⟩;rw[Y]at C;have g:=kf C;clear C;rcases hk with rfl|rfl
   ·refine af dN ?_;refine aF (Ik fd.scope.names (s.heap.objs.size+1) [] x g) λD G=>?_;exact C7 G
   ·exact absurd rfl (F.free _ g)
  obtain⟨⟨hp,tk,e0⟩,fJ,n,XH⟩:=L.toInCall;have XI:∀b,s.heap.objs.size<=b->s.heap.get? b=ab:=λb H=>by
   cases e:s.heap.get? b with
   |none=>rfl
   |some z=>exact absurd (l5 e) (E1.mpr H)
  have Ln:s.heap.get? env.locals=ab:=XI _ XH;have Cn:∀x D,(x,D)∈env.cells->s.heap.get? D=ab:=λx D hm=>XI _<|fV XH<|KN<|L.above x D hm;have x1:Ext W s M:=by clear L fJ;subst e0;exact Ext.grow k tk n
  have FY:∀b,s.heap.get? b=ab->b∉X:=λb e q=>by refine aF (m b q) λo q=>?_;rw[e]at q;injection q
  have sr:SR W X env (λ_=>0) (env.locals::(env.cells.filterMap (λp=>env.cells.lookup p.1)++X)) M.heap<|args.map .val ++cR (fd.scope.names.length-B.length) .un:=by
   have hm:∀b r,mask X s.heap b=aa r->mask (env.locals::(env.cells.filterMap (λp=>env.cells.lookup p.1)++X)) M.heap b=aa r:=λb r e=>by
    refine aG (cy.mp e) λn1 t=>?_;refine cy.mpr ⟨λq=>?_,n b r t⟩;rcases bF.mp q with q|q
    ·simp only[q,Ln]at t;injection t
    ·rcases eO.mp q with q|q
     ·refine ah (vt.mp q) λp tI pK=>?_;have:=Cn p.1 b<|mem_of_lookup pK;rw[t]at this;injection this
     ·exact n1 q
   refine⟨x1.bs f,x1.tb tb,tX,λb H=>bB _<|qp _ H,λb H=>?_,⟨dU,FY _ Ln,k.fresh f Ln⟩,λx D G=>?_,(br _ fJ<|λi x kd C=>?_),λi j u w C _ _ hu=>?_,?_⟩
   ·rcases bF.mp H with rfl|H
    ·obtain⟨z,_,_,e,_⟩:=fJ;exact(b9 z e)
    ·rcases eO.mp H with H|H
     ·refine ah (vt.mp H) λp tI pK=>?_;obtain⟨z,e',_⟩:=L.cell _ _ pK;exact(b9 z e')
     ·refine aF (m b H) λz e=>?_;exact(b9 z<|n b z e)
   ·exact⟨bB _<|sY _<|vt.mpr<|br ((x,D)) (mem_of_lookup G) G,_,L.cell x D G⟩
   ·rw[Y]at C;by_cases d:i<args.length
    ·rw[List.getElem?_append_left (by simpa using d),fW];refine af (ee d) ?_;rw[b7];have BC:i<B.length:=yO c d;refine ah (F.pars i B[i]<|by simp[BC]) λpI U h2=>?_;rw[C]at U;refine aG (dc<|aw U) λaQ an=>?_;subst aQ;subst an;have BD:i<vs.length:=jO 0x390016608d9840e200 Yt c vQ d;have hz:(B.zip vs)[i]?=aa (B[i],vs[i]):=Wz.mpr ⟨ee BC,ee BD⟩;have fK:env.kindOf B[i]=aa kd:=by
      have:env.scope.names[i]?=aa (B[i],kd):=by exact af Y C
      exact eo.kindAt this
     refine⟨vs[i],?_,(hr.at i _ _ (by simp[BD])<|by simp[d]).mono hm⟩;clear U;rcases h2 with rfl|rfl
     ·exact QdO fK _ _ i (by refine af zf ?_;exact FX) hz
     ·obtain⟨D,G⟩:=eo.cellsAll i B[i] .cell (by refine af Y ?_;exact C)<|.inl rfl;refine⟨D,G,?_⟩;have:=L.cell _ _ G;rwa[QdP (by refine af fK ?_;decide) _ _ i (by refine af zf ?_;exact FX) hz]at this
    ·rw[Qlq (by rw[b8];exact GB d),List.getElem?_replicate];split<;>trivial
   ·exfalso;refine(eO.mp<|kf C).elim (λq=>?_) λq=>?_
    ·refine ah (gk.mp q) λ_ _ q=>?_;subst q;injection hu
    ·have:=Qlr q;subst this;injection hu
   ·simp only[Y,cw,b8,Ff,c];exact Nk ple
  have cm:CellsMine W X env:=⟨λx D _ G=>⟨FY _<|Cn x D<|mem_of_lookup G,k.fresh f<|Cn x D<|mem_of_lookup G⟩,L.apart⟩;refine jV (h env M Y dN eo (bT l rfl) (bT l rfl) (gH hp tk e0) n Ln Cn L.apart cm sr) λfl s' q=>?_;cases fl<;>exact q
set_option tactic.hygienic true in
theorem Rs(L:Lib W T O N)(F:FnForm fd body Y)(w:∀h,W.Bs h->h.get? a=aa o)(hd:o.data=.func fd)(r:∀h,W.Bs h->W.Tb h->h.CodeRec fd.code fd.qualname){c:Cx}(aU:c.names=fd.scope.names){j:List MS}{n:Nat}(Fs:lf (jQ n c) body=aa j){args:List ak}{d:ak}{ff:Frm}{fu:Nat}(bk:args.length=Y.length)(bG:bt T O Wf fu j (args.map .val ++cR (fd.scope.names.length-Y.length) .un)=aa (.ret d,ff)){A:cX}{X:List aj}{s:aC}{vs:List aq}{Q:aq->aC->Prop}(y:AOk A<|N+1)(G:W.Bs s.heap)(M:W.Tb s.heap)(u:∀a∈W.T,a∈X)(H:∀a∈X,∃o,s.heap.get? a=aa o)(f:RepL (mask X s.heap) vs args)(hQ:jT W X s d Q): aI (aR W.prog W.w) A (call (.ref a) vs) Q a9 s:=by
 have dk:A.depth<1000:=by have:=y.depth;exact bD 0x382aba240382aba2430c9200 Yt this
 refine IM L.ok F (w _ G) hd (r _ G M) dk G M u H f bk λenv aN eD dN eo _ _ same gw Ln Cn _ cm l=>?_;have cx:dP c env:=λi x k h=>(br k (by refine af eD<|bT aU ?_;exact h)<|.inl rfl);have Mj:=sD (λst a h=>IL (Wf:=Wf) L n c env st a cx eo h) Fs;refine Mj fu (A.deeper env) X _ _ _ aN (.ret d) ff _ y.deeper cm l bG λcM X' U dY st D fo=>?_;cases fo;rename_i v t;have keep:∀b C,b∉W.T->s.heap.get? b=aa C->U.heap.get? b=aa C:=λb C m e=>by
  have z:=gw b C e;by_cases q:b∈X
  ·exact st.keep0 b C q m z
  ·refine st.keep b C (λB=>?_) z;rcases bF.mp B with B|B
   ·rw[B,Ln]at e;injection e
   ·rcases eO.mp B with B|B
    ·refine ah (vt.mp B) λp tI g=>?_;have:=Cn p.1 b<|mem_of_lookup g;rw[e]at this;injection this
    ·exact q B
 exact hQ v U ⟨oU same st.same,keep,λ_=>D.bs,λ_=>D.tb⟩<|t.mono<|zv D.sub
end
end
section
section
variable {W:Wd}
theorem QdQ(k:W.Ok):∀b,re W b
 | .len =>Qaq k| .sum =>Qar k| .ord =>Qau k| .chr =>Qav k| .divmod =>Qaw k| .max =>Qas k| .list =>Qat k
theorem QdR(k:W.Ok):∀m,pW W m
 | .bitlen =>QaC| .split =>QaR k| .startswith =>QaD| .endswith =>QaE| .find =>QaH| .join =>QaJ| .lower =>QaI| .count =>QaL
end
end
section
noncomputable def zH(T:Tabs)(Wf:Nat)(defs:Nat->Option MF)(FZ:Nat->List ak->Option ak)(BE:Nat->Bool):Nat->bC
 |0=>λ_ _=>ab
 |k+1=>λg args=>if BE g then(if 30<=k then FZ g args else ab)else match defs g with
  |some m=>evF T (zH T Wf defs FZ BE k) Wf m args
  |none=>ab
theorem IN{d:Nat->Option MF}{p:Nat->List ak->Option ak}{i:Nat->Bool}:zH T Wf d p i (k+1) g args=if i g then(if 30<=k then p g args else ab)else match d g with
  |some m=>evF T (zH T Wf d p i k) Wf m args
  |none=>ab:=rfl
structure DefAt(W:Wd)(g:Nat)(m:MF):Prop where
 at_:∀x:ao,tV[g]?=aa x->∃(a:aj)(o:bp)(fd:qv)(body:List de)(ps:List ao)(c:Cx)(n:Nat),W.mg x=aa (.ref a)/\(∀h,W.Bs h->h.get? a=aa o)/\o.data=.func fd/\
  FnForm fd body ps/\(∀h,W.Bs h->W.Tb h->h.CodeRec fd.code fd.qualname)/\c.names=fd.scope.names/\lf (jQ n c) body=aa m.body/\m.nParams=ps.length/\m.nNames=fd.scope.names.length
def IP(W:Wd)(g:Nat)(f:List ak->Option ak):Prop:=∀(x:ao),tV[g]?=aa x->∃(a:aj)(o:bp)(fd:qv),W.mg x=aa (.ref a)/\(∀h,W.Bs h->h.get? a=aa o)/\o.data=.func fd/\
  ∀(args:List ak)(d:ak)(A:cX)(X:List aj)(s:aC)(vs:List aq)(Q:aq->aC->Prop),f args=aa d->AOk A 30->W.Bs s.heap->W.Tb s.heap->(∀a∈W.T,a∈X)->(∀a∈X,∃o,s.heap.get? a=aa o)->
   RepL (mask X s.heap) vs args->jT W X s d Q->aI (aR W.prog W.w) A (call (.ref a) vs) Q a9 s
theorem AOk.less(a:AOk A k)(h:n<=k):AOk A n:=⟨a.handled,by have:=a.depth;exact fN 0xe0aae890d0006210382aba243200 Yt h this,qt (Qls (WA (l7 10 h) _) _) a.units⟩
structure Lib0(W:Wd)(T:Tabs):Prop where
 ok:W.Ok
 consts:∀x m,tZ x=aa m->∃v,W.mg x=aa v/\((∃i t,m=.ki i/\v=.int i t)\/∃y t,m=.ks y/\v=.str (a8 y) t/\y.length<=1000)
 bis:∀x b,tW x=aa b->W.mg x=ab
 rng:W.mg "range"=ab
 rvd:W.mg "reversed"=ab
 tabs:TabOk W T
theorem Lib0.lib(L:Lib0 W T)(h:CU W O N):Lib W T O N:=⟨L.ok,h,L.consts,L.bis,L.rng,L.rvd,L.tabs,QdQ L.ok,QdR L.ok⟩
set_option tactic.hygienic true in
theorem QdS(L:Lib0 W T)(w:∀g m,r g=ae->defs g=aa m->DefAt W g m)(f:∀g,r g=ac->IP W g (FZ g)): ∀k,CU W (zH T Wf defs FZ r k) k:=by
 intro e;induction e with
 |zero=>exact λg x args d O h=>by injection h
 |succ k p=>
  exact λg x args d O h=>by
    simp only[IN]at h;split at h
    ·rename_i q;split at h
     ·refine aE λB=>?_;rename_i i;refine dy (f g q x O) λa o fd y G D z=>?_;apply B;clear B;exact(jj a o fd y G D<|λA X s vs Q u v H M C U Y=>z args d A X s vs Q h (u.less<|yP i) v H M C U Y)
     ·injection h
    ·rename_i q;split at h
     ·refine aE λB=>?_;rename_i m b;obtain⟨a,o,fd,body,ps,c,n,y,G,D,z,h5,h6,h7,j,h9⟩:=(w g m (by simpa using q) b).at_ x O;apply B;clear B;refine(jj a o fd y G D<|λA X s vs Q u v H M C U Y=>?_);unfold evF at h;split at h
      ·rename_i l;split at h
       ·refine aE λB=>?_;rename_i d' ff t;obtain rfl:=aw h;simp only[j,h9]at t;apply B;clear B;exact Rs (L.lib<|p) z G D h5 h6 h7 (N4 0x74114a08a08914a082282256400590236408588036200 [_,_,_] Yt j j l l) t u v H M C U Y
       ·injection h
      ·injection h
     ·injection h
end
section
open PySem.Calls
set_option backward.match.sparseCases true
noncomputable def Wc(W:Wd)(K:List (aj×bp)):Wd:={W with Bs:=λh=>W.Bs h/\∀p∈K,h.get? p.1=aa p.2,Base:=λa=>W.Base a\/a∈K.map (·.1)}
theorem zI(k:W.Ok){K:List<|aj×bp}(D:∀p∈K,p.1∉W.T):(Wc W K).Ok where
 bsG:=λh b=>k.bsG h b.1
 bsB:=λh b=>k.bsB h b.1
 bsLim:=λh b=>k.bsLim h b.1
 bsKeep:=λh h' b q=>⟨k.bsKeep h h' b.1 λc o n e=>q c o (.inl n) e,λp B=>q _ _ (.inr<|Fc B)<|b.2 p B⟩
 base:=λh b a A=>by
  rcases A with A|A
  ·exact k.base h b.1 a A
  ·refine aE λC=>?_;refine ah (gk.mp A) λp B G=>?_;clear A;subst G;apply C;clear C;exact⟨D p B,p.2,b.2 p B⟩
 tbKeep:=k.tbKeep
 tStill:=k.tStill
 builtins:=k.builtins
theorem Ext.ofWc{K:List<|aj×bp}(x:Ext (Wc W K) s A)(b:(Wc W K).Bs s.heap):Ext W s A:=⟨x.same,x.keep,λ_=>(x.bs b).1,x.tb⟩
theorem SR.toWc{X0:List aj}{A:Nat->aj}{X:List aj}(r:SR W X0 env A X h f){K:List<|aj×bp}(L:∀p∈K,h.get? p.1=aa p.2)(H:env.locals∉K.map (·.1))(B:f.all (λv=> !v.held)=ac): SR (Wc W K) X0 env A X h f:=by
 refine aE λC=>?_;refine ah r.vars λm G D=>?_;apply C;clear C;refine⟨⟨r.bs,L⟩,r.tb,r.tX,r.sub,r.alX,⟨r.loc.1,r.loc.2.1,λq=>q.elim r.loc.2.2 H⟩,r.cellI,(br m G<|λi x kd e=>?_),r.ownA,r.len⟩;have:=D i x kd e;cases q:f[i]? with
 |none=>trivial
 |some M=>cases M with
  |un=>trivial
  |val d=>simp only[q]at this;exact this
  |own xs=>exact gC (show ae=ac from du.mp B _ (kf q))
  |own2 xs=>exact gC (show ae=ac from du.mp B _ (kf q))
section
variable {W:Wd} {T:Tabs} {O:bC} {N Wf:Nat} {env:bu}
set_option tactic.hygienic true in
theorem QdT:∀{ms:List ME}{ds:List ak},cZ C (ms++[a,b])=aa ds->∃ds0 x y,ds=ds0++[x,y]/\cZ C ms=aa ds0/\C a=aa x/\C b=aa y:=by
 intro j;induction j with
 |nil=>
  intro ds h;dsimp only[qC,cO,cQ]at h;split at h<;>try contradiction
  rename_i x L;refine ah (cv.mp h) λl B A=>?_;clear h;subst A;split at B<;>try contradiction
  rename_i y H;refine ah (cv.mp B) λv G A=>?_;subst A;obtain rfl:=aw G;exact(jj ([]) x y rfl rfl L H)
 |cons m ms q=>
  intro ds h;dsimp only[vu,cO,cQ]at h;split at h<;>try contradiction
  refine aE λD=>?_;rename_i z hz;refine ah (cv.mp h) λl B A=>?_;clear h;subst A;refine dy (q B) λds0 x y Y U Q M=>?_;subst Y;apply D;clear D;exact(jj (z::ds0) x y rfl (by simp only[cO,cQ,hz,U,b7]) Q M)
theorem SR.cellVal(r:SR W X0 env U X h f)(D:env.scope.names[i]?=aa (x,kd))(L:kd=.cell \/kd=.free)(G:env.cells.lookup x=aa c)(M:f.get i=aa d): ∃v,h.IsCell c (aa v)/\Rep (mask X h) v d:=by
 refine aE λH=>?_;refine dJ (r.val D M) λm v _ C B=>?_;apply H;clear H;clear D;rcases L with rfl|rfl
 ·obtain⟨Q,e,A⟩:=C;rw[G]at e;obtain rfl:=aw e;exact(br v A B)
 ·obtain⟨Q,e,A⟩:=C;rw[G]at e;obtain rfl:=aw e;exact(br v A B)
def IQ(W:Wd)(O:bC)(N g:Nat)(f c1 c2:aj)(CX:List aj):Prop:=
 ∀(args:List ak)(d d1 d2:ak)(A:cX)(X:List aj)(s:aC)(vs:List aq)(v1 v2:aq)(Q:aq->aC->Prop),O g (args++[d1,d2])=aa d->AOk A N->W.Bs s.heap->W.Tb s.heap->(∀a∈W.T,a∈X)->(∀a∈X,∃o,s.heap.get? a=aa o)->
  (∀c∈CX,c∈X/\∃v,s.heap.IsCell c v)->s.heap.IsCell c1 (aa v1)->Rep (mask X s.heap) v1 d1->s.heap.IsCell c2 (aa v2)->Rep (mask X s.heap) v2 d2->
  RepL (mask X s.heap) vs args->jT W X s d Q->aI (aR W.prog W.w) A (call (.ref f) vs) Q a9 s
theorem Rt(k:W.Ok)(u:EnvOk env){tr:au->Option ME}(hs:∀e m,tr e=aa m->fE e=ac){x x1 x2:ao}{g i1 i2:Nat}{k1 k2:dn}{ci n c2 f:aj}{o:bp}{fd:qv}{es:List au}{ms:List ME}(G:fy x=ac)(C:env.kindOf x=aa .cell \/env.kindOf x=aa .free)(H:env.cells.lookup x=aa ci)(z:∀h,W.Bs h->h.IsCell ci (aa<|.ref f))(ho:∀h,W.Bs h->h.get? f=aa o)(w:o.data=.func fd)(cj:es≠[])(h1:env.scope.names[i1]?=aa (x1,k1))(M:k1=.cell \/k1=.free)(b:env.cells.lookup x1=aa n)(h2:env.scope.names[i2]?=aa (x2,k2))(i:k2=.cell \/k2=.free)(qM:env.cells.lookup x2=aa c2){CX:List aj}(m7:∀c∈CX,∃y,env.cells.lookup y=aa c)(a:IQ W O N g f n c2 CX)(q:cA tr es=aa ms)(h:∀e∈es,∀m,tr e=aa m->SE W T O N env e m):SE W T O N env (.Call (.Name x np) es [] pos)<|.call g<|ms++[.v i1,.v i2]:=by
 intro fu A X0 oa X fr s d Q p D U hQ;refine eE (QD U) λfu ds l U=>?_;refine aE λt=>?_;refine dy (QdT l) λds0 d1 d2 bW e0 j Y=>?_;clear l;subst bW;apply t;clear t;replace j:=QB j;replace Y:=QB Y;unfold fy at G;simp only[bo,bJ]at G;refine yd<|vl ?_ G.1;have body:aI (aR W.prog W.w) A (callWith pos (.ref f) [] (kj pos<|iN es env) []) Q a9 s:=by refine K3 (o:=o) (fd:=fd)<|sy (jU hs q).1 cj<|nH k p hs q e0 D h λvs s' x1 r=>?_;have B:=D.ext k x1;refine⟨⟨ho _ B.bs,w⟩,?_⟩;refine ah (B.cellVal h1 M b j) λv1 Mk r1=>?_;refine ah (B.cellVal h2 i qM Y) λv2 Ml L=>?_;exact a ds0 d d1 d2 A X s' vs v1 v2 Q U p B.bs B.tb B.tXX B.alX (λc H=>let⟨y,hy⟩:=m7 c H;B.cellI y c hy) Mk r1 Ml L r λv s2 x2 L=>hQ _ _ (x1.trans x2) L
 rcases C with C|C
 ·exact KZ u.kind C H (z _ D.bs) body
 ·exact K0 u.kind C H (z _ D.bs) body G.2
end
theorem Ext.toWc{K:List<|aj×bp}(C:∀p∈K,p.1∉W.T)(x:Ext W s B):Ext (Wc W K) s B:=⟨x.same,x.keep,λb=>⟨x.bs b.1,λp A=>x.keep _ _ (C p A)<|b.2 p A⟩,x.tb⟩
theorem Dc(L:Lib0 W T){K:List<|aj×bp}(H:∀p∈K,p.1∉W.T):Lib0 (Wc W K) T where
 ok:=zI L.ok H
 consts:=L.consts
 bis:=L.bis
 rng:=L.rng
 rvd:=L.rvd
 tabs:=⟨λt=>by refine aE λU=>?_;refine tU (L.tabs.tab t) λv z j Y O=>?_;apply U;clear U;refine(y5 v z (λneg A n X s u d b Q B C h r G=>j neg A n X s u d b Q ⟨B.1,B.2,B.3⟩ C.1 h r λD x=>G D<|x.toWc H) (λA n X s u d r Q B C h M G=>Y A n X s u d r Q ⟨B.1,B.2,B.3⟩ C.1 h M λv D x=>G v D<|x.toWc H)<|λd r h=>⟨λs C=>(O d r h).1 s C.1,λA n X s u Q B C M G=>(O d r h).2 A n X s u Q ⟨B.1,B.2,B.3⟩ C.1 M λv D x=>G v D<|x.toWc H⟩)⟩
structure CloForm(fd:qv)(body:List de)(ps:List ao)(cl:List (ao×aj)):Prop where
 body:fd.body=.stmts body
 clo:fd.closure=cl
 glob:fd.globals=l4
 blt:fd.builtins=u9
 co:fd.scope.isCoroutine=ae
 gen:fd.scope.isGenerator=ae
 kind:fd.scope.kind=.function
 nodup:(fd.scope.names.map (·.1)).Nodup
 cell:∀x∈fd.scope.names,x.2≠.cell
 free:∀(i:Nat)(x:ao),fd.scope.names[i]?=aa (x,.free)->∃c,cl.lookup x=aa c
 pars:∀(i:Nat)(x:ao),ps[i]?=aa x->fd.scope.names[i]?=aa (x,.local)
 bind:∀vs:List aq,vs.length=ps.length->oq fd ⟨vs,[]⟩=pure (ps.zip vs)
section
variable {W:Wd}
theorem Ru(k:W.Ok)(F:CloForm fd body B cl)(ho:s.heap.get? a=aa o)(hd:o.data=.func fd)(kt:s.heap.CodeRec fd.code fd.qualname)(O:A.depth<1000)(bs:W.Bs s.heap)(tb:W.Tb s.heap)(tX:∀a∈W.T,a∈X)(alX:∀a∈X,∃o,s.heap.get? a=aa o)(hr:RepL (mask X s.heap) vs args)(bk:args.length=B.length)(fl:f.length=fd.scope.names.length)(fa:∀i,i<args.length->f[i]?=(args[i]?).map .val)(fr:∀(i:Nat)(x:ao)(kd:dn),args.length<=i->fd.scope.names[i]?=aa (x,kd)->f[i]?=aa .un \/∃d c v,f[i]?=aa (.val d)/\kd=.free /\cl.lookup x=aa c/\s.heap.IsCell c (aa v)/\Rep (mask X s.heap) v d)(clX:∀x c,cl.lookup x=aa c->c∈X/\∃v,s.heap.IsCell c v)(T:cl.Pairwise λx y=>x.2≠y.2)(h:∀(env:bu)(aN:aC),env.scope=fd.scope->env.cells=cl->EnvOk env->env.func=aa a->(∃hp tk,aN={s with heap:=hp,toks:=tk})->(∀b o,s.heap.get? b=aa o->aN.heap.get? b=aa o)->s.heap.get? env.locals=ab->CellsMine W X env->SR W X env (λ_=>0) (env.locals::X) aN.heap f->aI (aR W.prog W.w) (A.deeper env) (om body env) (λfl s'=>Q (match fl with| .ret v=>v|_=>.none) s') a9 aN): aI (aR W.prog W.w) A (call (.ref a) vs) Q a9 s:=by
 have vQ:vs.length=B.length:=hr.length.trans bk;have pn:B=(fd.scope.names.map (·.1)).take B.length:=by
  apply Wy;intro i;rw[Lk];by_cases C:i<B.length
  ·rw[ar C];have z:=F.pars i B[i] (by simp[C]);rw[fW];refine af z ?_;simp[C]
  ·rw[av C];simp[C]
 have FX:B.Nodup:=by exact af pn<|F.nodup.sublist<|Qlp ..
 have zf:(B.zip vs).map (·.1)=B:=by rw[KU<|Gy vQ]
 refine wpAny_call<|codeAny_call_def O ho hd (k.bsLim _ bs) kt F.body (.of_eq<|F.bind vs vQ) F.cell (λx m=>?_) (λH fJ t=>?_) F.co F.gen F.kind
 ·obtain⟨i,C,e⟩:=rF m;have p:B[i]?=aa x.1:=by
   have:((B.zip vs).map (·.1))[i]?=aa x.1:=by simp only[fW,ee C,e];rfl
   rwa[zf]at this
  exact CI F.nodup<|F.pars i x.1 p
 ·generalize U:callEnv fd s.heap.objs.size a=env;have M:env.scope=fd.scope:=bT U rfl;have dN:env.cells=cl:=by exact bT U F.clo
  have Mm:env.locals=s.heap.objs.size:=bT U rfl;have eo:EnvOk env:=by
   refine⟨by refine af M ?_;exact F.kind,by refine bT U ?_;exact F.glob,by refine bT U ?_;exact F.blt,by refine af M ?_;exact F.nodup,λi x kd C hk=>?_⟩;rw[M]at C;rcases hk with rfl|rfl
   ·exact absurd rfl (F.cell _<|kf C)
   ·exact af dN<|F.free i x C
  have Ln:s.heap.get? env.locals=ab:=by
   refine af Mm ?_;cases e:s.heap.get? s.heap.objs.size with
   |none=>rfl
   |some g=>exact absurd (l5 e) (qr _)
  have FY:∀b,s.heap.get? b=ab->b∉X:=λb e q=>by refine aF (alX b q) λo q=>?_;rw[e]at q;cases q
  have Bn:∀b,s.heap.get? b=ab->¬W.Base b:=λb e q=>by obtain⟨_,o,q⟩:=k.base _ bs b q;rw[e]at q;cases q
  have cm:CellsMine W X env:=⟨λx c m _=>by
   exfalso;have m:fd.scope.names.lookup x=aa .cell :=by exact bT M m
   exact F.cell _ (mem_of_lookup m) rfl,by refine af dN ?_;exact T⟩
  have hm:∀b oo,mask X s.heap b=aa oo->mask (env.locals::X) H b=aa oo:=λb oo e=>by
   refine aG (cy.mp e) λn1 p=>?_;refine cy.mpr ⟨λq=>?_,t b oo p⟩;rcases bF.mp q with q|q
   ·rw[q,Ln]at p;cases p
   ·exact n1 q
  have kx:Ext W s {s with heap:=H,toks:=s.toks+(B.zip vs).length}:=Ext.grow k _ t;refine wL<|h env _ M dN eo (bT U rfl) (gH _ _ rfl) t Ln cm ⟨kx.bs bs,kx.tb tb,tX,λb n=>bB _ n,λb n=>?_,⟨dU,FY _ Ln,Bn _ Ln⟩,λx c hc=>?_,(br _ (Mm▸fJ)<|λi x kd C=>?_),λi j u w C _ _ hu=>?_,by exact af fl<|af M rfl⟩
  ·rcases bF.mp n with rfl|n
   ·obtain⟨g,_,_,e,_⟩:=fJ;exact(b9 g<|Mm▸e)
   ·refine aF (alX b n) λg e=>?_;exact(b9 g<|t b g e)
  ·refine aE λL=>?_;rw[dN]at hc;obtain⟨z,v,oc,h2,h3⟩:=clX x c hc;apply L;clear L;exact⟨bB _ z,v,oc,t _ _ h2,h3⟩
  ·rw[M]at C;by_cases D:i<args.length
   ·refine af (fa i D)<|af (ee D) ?_;rw[b7];have BC:i<B.length:=yO bk D;have z:=F.pars i B[i] (by simp[BC]);rw[C]at z;refine aG (dc<|aw z) λaQ an=>?_;subst aQ;subst an;have BD:i<vs.length:=jO 0x390016608d9840e200 Yt bk vQ D;refine⟨vs[i],?_,(hr.at i _ _ (by simp[BD])<|by simp[D]).mono hm⟩;show(B.zip vs).reverse.lookup B[i]=aa vs[i];refine aE λL=>?_;have hz:(B.zip vs)[i]?=aa (B[i],vs[i]):=Wz.mpr ⟨ee BC,ee BD⟩;have Y:((B.zip vs).reverse.map (·.1)).Nodup :=by simp only[Lg,zf];exact List.pairwise_reverse.mpr (FX.imp λh=>gD h)
    obtain⟨j,hj,e⟩:=rF<|Fb.mpr<|kf hz;have G:(B.zip vs).reverse[j]?=aa (B[i],vs[i]):=by exact af (ee hj)<|af e rfl
    clear hr h;apply L;clear L;revert G Y;generalize (B.zip vs).reverse =l;clear hj e hz;intro Y G;induction l generalizing j with
    |nil=>injection G
    |cons y r ih=>
     simp only[dF,mR]at Y;cases j with
     |zero=>simp at G;clear Y;subst G;simp
     |succ j=>
      have G:r[j]?=aa (B[i],vs[i]):=by simpa using G
      have:B[i]≠y.1:=λq=>Y.1<|q▸gk.mpr (br _ (kf G) rfl);obtain⟨y1,y2⟩:=y;rw[sX,show(B[i]==y1)=ae by simpa using this];exact ih j Y.2 G
   ·rcases fr i x kd (GB D) C with e|⟨d,c,v,e,rfl,hc,hcv,rp⟩
    ·refine af e ?_;trivial
    ·refine af e ?_;refine aE λL=>?_;obtain⟨oc,h2,h3⟩:=hcv;apply L;clear L;exact⟨v,⟨c,by refine af dN ?_;exact hc,oc,t _ _ h2,h3⟩,rp.mono hm⟩
  ·exfalso;by_cases D:i<args.length
   ·rw[fa i D,ee D]at C;obtain rfl:=aw C;injection hu
   ·have:i<fd.scope.names.length:=by exact bT fl ((mS.mp C).1)
    rcases fr i _ _ (GB D) (ee this)with e|⟨d,c,v,e,_⟩<;>(rw[C]at e;obtain rfl:=aw e;injection hu)
end
section
variable {W:Wd} {X0:List aj} {env:bu} {oa:Nat->aj} {X:List aj} {f:Frm}
theorem SR.holdCell(k:W.Ok)(T:EnvOk env)(U:CellsMine W X0 env)(r:SR W X0 env oa X h f)(O:h.Ns env.locals m)(u:∀j y kd,env.scope.names[j]?=aa (y,kd)->VarOk W X0 env oa X h m j y kd f[j]?)(Q:env.scope.names[i]?=aa (x,.cell))(B:env.cells.lookup x=aa c){s:Option aq}(A:h.IsCell c s)(H:h'.IsCell c<|aa v)(hs:jC c h h'):SR W X0 env oa X h'<|f.put i .un:=by
 have C:=(r.cellI x c B).1;have M:MutOk W X0 X c h h':=⟨hs,C,U.mine x c (T.kindAt Q) B,(λo e st=>by obtain⟨p,l,t⟩:=A;rw[l]at e;obtain rfl:=aw e;obtain⟨_,vs,q⟩:=st;rw[t]at q;injection q),(by obtain⟨o,e,_⟩:=H;exact(b9 o e))⟩;have Y:env.locals≠c:=(wE O A).symm;refine⟨M.bs k r.bs,M.tb k r.tb,r.tX,r.sub,M.alive r,r.loc,λy G e=>?_,(br m (O.sameBut hs Y)<|λj y kd e=>?_),zu r.ownA rfl,(qo ..).trans r.len⟩
 ·obtain⟨q,w,i⟩:=r.cellI y G e;by_cases L:G=c
  ·clear B A hs C M Y;subst L;exact⟨q,_,H⟩
  ·exact⟨q,w,i.sameBut hs L⟩
 ·simp only[pV];by_cases D:i=j
  ·rw[ar D];split<;>trivial
  ·rw[av D];have z:y≠x:=λq=>D<|zt T.nodup Q<|q▸e;exact(u j y kd e).mut hs C (λG v g i q=>z<|La U.apart (mem_of_lookup g)<|q▸mem_of_lookup B) (λb o vs n _ e d=>sn A e d) rfl
end
end
section
noncomputable def aW:List Nat:=[46,46,46]
noncomputable def oW(bj:List Nat)(e:Nat):List (List Nat)->Nat->Bool
 |[],_=>ac
 |w::r,s=>if iX w bj s e<0 then ae else oW bj e r ((iX w bj s e).toNat +w.length)
theorem QdU:oW A e [] s=ac:=rfl
theorem Dd:oW A e (w::r) s=if iX w A s e<0 then ae else oW A e r ((iX w A s e).toNat +w.length):=rfl
def lm(bj:List Nat)(s e:Nat)(ws:List (List Nat)):Bool:=if s>e then ae else oW bj e ws s
def lq(bj:List Nat)(s:Nat)(ws:List (List Nat)):Option Bool:=match ws.getLast? with
 |none=>ab
 |some w=>aa (if w.length=0 then lm bj s bj.length ws else if w.isSuffixOf bj then lm bj s (bj.length-w.length) ws.dropLast else ae)
def jo(gF bj:List Nat):Option Bool:=
 if oO aW gF=ae then aa (gF==bj)else
 match jk aW gF with
 |w::w1::r=>if w.length=0 then lq bj 0 (w::w1::r)else if w.isPrefixOf bj then lq bj w.length (w1::r)else aa ae
 |_=>ab
noncomputable def fa(w:List Nat):List Nat->Option (List Nat)
 |[]=>if w.isEmpty then aa []else ab
 |c::r=>if w.isPrefixOf (c::r)then aa ((c::r).drop w.length)else fa w r
theorem IR:fa w []=if w.isEmpty then aa []else ab:=rfl
theorem ls:fa w (c::r)=if w.isPrefixOf (c::r)then aa ((c::r).drop w.length)else fa w r:=rfl
noncomputable def ef:List (List Nat)->List Nat->Bool
 |[],_=>ac
 |w::ws,r=>(fa w r).elim ae (ef ws)
theorem wR:ef [] r=ac:=rfl
theorem jp:ef (w::A) r=(fa w r).elim ae (ef A):=rfl
theorem Rv{w g:List Nat}(A:k<=j):(decide (k+w.length<=j)&&w.isPrefixOf (g.drop k))=w.isPrefixOf ((g.take j).drop k):=by rw[iu,bo,bH,vj,vj,V7,List.prefix_take_iff];exact⟨λh=>⟨h.2,by exact fS 0x1501014228a24528228918b010206403200 Yt h.1⟩,λh=>⟨by exact fN 0x55020528228a24508a2822462030101884062d0200 Yt A h.2,h.1⟩⟩
theorem Rw(w g:List Nat)(j:Nat)(H:j<=g.length):∀n k:Nat,k+n=j+1->k<=j->(fa w ((g.take j).drop k)=ab->oL w g j n k<0)/\∀r,fa w ((g.take j).drop k)=aa r->∃p:Nat,oL w g j n k=p/\p+w.length<=j/\(g.take j).drop (p+w.length)=r:=by
 intro n;induction n with
 |zero=>intro k A B;exact⟨pr (bS 0x2e041d832480c1006200 Yt A B),pr (bS 0x2e041d832480c1006200 Yt A B)⟩
 |succ n D=>
  intro k A B;have e:oL w g j (n+1) k=if w.isPrefixOf ((g.take j).drop k)then(k:Int)else oL w g j n (k+1):=by rw[OZ,Rv B]
  cases q:w.isPrefixOf ((g.take j).drop k)with
  |true=>
   have G:k+w.length<=j:=by have:=(Rv B).trans q;exact of_decide_eq_true (fP.mp this).1
   have f:fa w ((g.take j).drop k)=aa ((g.take j).drop<|k+w.length):=by
    cases z:(g.take j).drop k with
    |nil=>
     rw[z]at q;have:w=[]:=by cases w with|nil=>rfl|cons a w=>injection q
     subst this;have:(g.take j).drop (k+([]:List Nat).length)=[]:=by simpa using z
     rw[this];rfl
    |cons c r=>rw[ls, <-z,ar q,AU]
   rw[e,ar q];refine⟨λh=>by rw[f]at h;injection h,λr h=>?_⟩;rw[f]at h;exact⟨k,rfl,G,aw h⟩
  |false=>
   rw[e,av<|by rw[q];decide];by_cases C:k=j
   ·subst C;have z:(g.take k).drop k=[]:=by simp
    rw[z]at q⊢;have f:fa w []=ab:=by
     show(if w.isEmpty=ac then aa []else ab)=ab;cases w with
     |nil=>injection q
     |cons a w=>rfl
    rw[f];have:n=0:=by exact Ni A
    subst this;exact⟨λ_=>(by decide:(-1:Int)<0),λr h=>by injection h⟩
   ·have L:k<(g.take j).length :=by rw[l6];exact jO 0x35821d64528208208208224528208228228975914a08208208208914a08208a0893b46080066085832480c325003e200 Yt H A C
    have z:=Fd L;have f:fa w ((g.take j).drop k)=fa w ((g.take j).drop<|k+1):=by rw[z]at q⊢;rw[ls,av<|by rw[q];decide]
    rw[f];exact D (k+1) (by exact Nj A A)<|by exact fN 0x75114a08914a2462032405832480c325003e200 Yt A C
theorem QdV(g:List Nat)(j:Nat)(H:j<=g.length):∀(A:List<|List Nat)(k:Nat),k<=j->oW g j A k=ef A ((g.take j).drop k):=by
 intro D;induction D with
 |nil=>intro _ _;exact rfl
 |cons w A G=>
  intro k C;have h:=Rw w g j H (j+1-k) k (by exact bD 0x1500324814228225d0452822452895832480cb003248006200 Yt C) C;rw[Dd,jp];cases z:fa w ((g.take j).drop k)with
  |none=>rw[ar (show iX w g k j<0 from h.1 z)];rfl
  |some r=>obtain⟨p,B,M,L⟩:=h.2 r z;have B:iX w g k j=p:=B;rw[B,av (by exact qQ),jE,G _ M,L];rfl
theorem wS(B:e<=g.length)(hs:s<=e)(A:List<|List Nat):lm g s e A=ef A ((g.take e).drop s):=by rw[lm,av (by exact bD 0x980206200 Yt hs),QdV g e B A s hs]
theorem Rx:∀{r x:List Nat},fa w r=aa x->w.length+x.length<=r.length:=by
 intro A;induction A with
 |nil=>
  intro x h;have h:(if w.isEmpty=ac then aa []else ab)=aa x:=h;split at h
  ·rename_i q;obtain rfl:=aw h;rw[n8.mp q];decide
  ·injection h
 |cons c r B=>
  intro x h;rw[ls]at h;split at h
  ·rename_i q;obtain rfl:=aw h;have:=(vj.mp q).length_le;rw[fX];exact bD 0x5402052822891422891880cb008006200 Yt this
  ·have:=B h;rw[eK];exact fS 0x1832500c8006403200 Yt this
theorem Ry:∀{A:List<|List Nat}{r:List Nat},ef A r=ac->(A.map dG).sum <=r.length:=by
 intro D;induction D with
 |nil=>intro L H;exact kh _
 |cons w A G=>
  intro r h;rw[jp]at h;cases z:fa w r with
  |none=>rw[z]at h;injection h
  |some x=>rw[z]at h;have C:=Rx z;have B:=G h;rw[dF,vi];exact iB 0x66030101980c8406200 Yt C B
theorem QdW(B:e<=g.length)(h:lm g s e A=ac):s+(A.map dG).sum <=e:=by
 by_cases q:s<=e
 ·rw[wS B q]at h;have:=Ry h;rw[fX,l6]at this;exact iB 0x35021563440814a08208208228a24508a08228228a089558d1020528208208208a28914228208a0822822462030181886062d8d10200 Yt q this
 ·rw[lm,ar<|by exact bD 0x38021e200 Yt q]at h;injection h
theorem De:∀x:List Nat,((x.map λc=>[c]).map dG).sum =x.length:=by
 intro A;induction A with
 |nil=>exact rfl
 |cons b x B=>have:=B;show 1+((x.map λc=>[c]).map dG).sum =x.length+1;omega
theorem QdX:∀{x r:List Nat},x.length=r.length->ef (x.map λc=>[c]) r=(x==r):=by
 intro A;induction A with
 |nil=>
  intro A;cases A with
  |nil=>intro M;exact rfl
  |cons O Q=>intro h;injection h
 |cons a x L=>
  intro H;cases H with
  |nil=>intro h;injection h
  |cons c r=>
   intro h;have h':x.length=r.length:=by simpa using h
   rw[dF,jp,ls];have e:i9 [a] (c::r)=(a==c):=by simp[i9]
   rw[e];by_cases q:a=c
   ·subst q;rw[ar<|beq_self_eq_true a];show ef _ (r.drop 0)=_;rw[vg,L h'];simp
   ·have D:(a==c)=ae:=by simpa using q
    rw[D,av<|by decide];have G:((a::x)==(c::r))=ae:=by simp[q]
    rw[G];cases z:fa [a] r with
    |none=>rfl
    |some y=>
     show ef _ y=ae;cases w:ef (x.map λc=>[c]) y with
     |false=>rfl
     |true=>have C:=Rx z;have B:=Ry w;have:=De x;rw[this]at B;simp at C;exact pr (mv 0xb81076210180406203009 Yt h' B C)
def fm(w:List Nat):Prop:=46∉w
theorem Rz(h:aW.isPrefixOf x=ac):46∈x:=by obtain⟨t,rfl⟩:=vj.mp h;simp[aW]
theorem QdY:∀(r:List<|List Nat)(w A:List Nat)(n:Nat),fm w->(∀v∈r,fm v)->(cB aW<|w::r).length <n->kz aW n A (cB aW<|w::r)=(A++w)::r:=by
 intro r;induction r with
 |nil=>
  intro w;induction w with
  |nil=>
   intro A n _ _ h;cases n with
   |zero=>simp at h
   |succ n=>simp[qZ,q7,oN,oM,nr,li]
  |cons c w D=>
   intro A n B _ h;cases n with
   |zero=>simp at h
   |succ n=>
    have G:aW.isPrefixOf (c::w)=ae:=by
     cases q:aW.isPrefixOf (c::w)with
     |false=>rfl
     |true=>exact absurd (Rz q) B
    have:=D (A++[c]) n (λq=>B<|bB _ q) (λ_ q=>nomatch q) (by simp[qZ,q7,oN]at h⊢;exact GC h);show kz aW (n+1) A (c::w)=_;rw[li,G,av<|by decide];simpa[qZ,q7,oN]using this
 |cons v r H=>
  intro w;induction w with
  |nil=>
   intro A n _ C h;cases n with
   |zero=>simp at h
   |succ n=>have e:cB aW ([]::v::r)=46::46::46::cB aW (v::r):=rfl;rw[e]at h⊢;rw[li,ar (by simp[aW,i9])];have:=H v [] n (C v dU) (λu q=>C u (bB _ q)) (by simp at h;exact bD 0x38800e203243240 Yt h);show A::kz aW n [] (cB aW (v::r))=_;rw[this];simp
  |cons c w D=>
   intro A n B C h;cases n with
   |zero=>simp at h
   |succ n=>
    have e:cB aW ((c::w)::v::r)=c::cB aW (w::v::r):=rfl;rw[e]at h⊢;have G:aW.isPrefixOf (c::cB aW (w::v::r))=ae:=by have:c≠46:=λq=>B<|q▸dU;simp[aW,i9,gD this]
    rw[li,G,av (by decide),D (A++[c]) n (λq=>B<|bB _ q) C<|by simp at h;exact GC h];simp
theorem QdZ:∀(a w b:List Nat),(fa w<|a++(w++b)).isSome =ac:=by
 intro A;induction A with
 |nil=>
  intro w b;rw[qC];cases q:w++b with
  |nil=>have:w=[]:=(List.append_eq_nil_iff.mp q).1;rw[this];rfl
  |cons c r=>rw[ls,ar (by rw[<-q];exact vj.mpr (List.prefix_append w b))];rfl
 |cons c a B=>
  intro w b;rw[vu,ls];split
  ·rfl
  ·exact B w b
theorem IS(w g:List Nat):oO w g=(fa w g).isSome :=by
 have h:=Rw w g g.length (eR _) (g.length+1) 0 (by exact Nl)<|kh _;rw[xY,vg]at h;show decide (0<=oL w g g.length (g.length+1-0) 0)=_;cases z:fa w g with
 |none=>have:=h.1 z;simp;exact this
 |some r=>obtain⟨p,A,_⟩:=h.2 r z;rw[Nat.sub_zero,A];simp
theorem RA(h:fm g):oO aW g=ae:=by
 rw[IS];induction g with
 |nil=>rfl
 |cons c r A=>
  have:aW.isPrefixOf (c::r)=ae:=by
   cases q:aW.isPrefixOf (c::r)with
   |false=>rfl
   |true=>exact absurd (Rz q) h
  rw[ls,this,av<|by decide];exact A λq=>h<|bB _ q
theorem RB(h:fm A):jo A B=aa (A==B):=by rw[jo,ar<|RA h]
theorem wT(B:fm w)(C:∀u∈v::r,fm u):jo (cB aW<|w::v::r) A=if w.length=0 then lq A 0 (w::v::r)else if w.isPrefixOf A then lq A w.length (v::r)else aa ae:=by
 have G:oO aW (cB aW<|w::v::r)=ac:=by rw[IS];show(fa aW<|w++aW++cB aW (v::r)).isSome =ac;rw[mT];exact QdZ _ _ _
 have D:jk aW (cB aW<|w::v::r)=w::v::r:=by have:=QdY (v::r) w [] ((cB aW<|w::v::r).length +1) B C<|Qlk _;rwa[qC]at this
 rw[jo,av (by rw[G];decide),D]
theorem RC(hs:s<=B.length)(G:A≠[])(h:B.length<s+(A.map dG).sum):lq B s A=aa ae:=by
 rw[lq];cases z:A.getLast? with
 |none=>exact absurd (List.getLast?_eq_none_iff.mp z) G
 |some l=>
  refine congrArg aa ?_;have M:A=A.dropLast++[l]:=by rw[Ll G]at z;obtain rfl:=aw z;exact(A2 G).symm
  have H:(A.map dG).sum =(A.dropLast.map dG).sum +l.length:=by
   conv=>lhs;rw[M]
   simp
  have L:∀{e:Nat}{C:List<|List Nat},e<=B.length->e<s+(C.map dG).sum ->lm B s e C=ae:=λ{e C} O Q=>by
   cases q:lm B s e C with
   |false=>rfl
   |true=>have:=QdW O q;exact pr (fN 0x2e041383200406403200 Yt Q this)
  by_cases q:l.length=0
  ·rw[ar q];exact L (eR _) h
  ·rw[av q];by_cases D:l.isSuffixOf B=ac
   ·rw[ar D];have:=(AV.mp D).length_le;exact L (by exact NA)<|by exact N3 0x54020528228a28914228a2893836202c020e0d0808583018406200 [_,_,_,_,_] Yt h H this
   ·rw[av D]
theorem Df(C:fm w)(D:∀u∈v::r,fm u)(h:B.length<w.length+((v::r).map dG).sum):jo (cB aW<|w::v::r) B=aa ae:=by
 rw[wT C D];by_cases q:w.length=0
 ·rw[ar q];exact RC (kh _) (by simp) (by rw[dF,vi];exact fS 0x3830d020100e0d0200 Yt h)
 ·rw[av q];by_cases A:w.isPrefixOf B=ac
  ·rw[ar A];exact RC (vj.mp A).length_le (by simp) h
  ·rw[av A]
theorem Dg(r:List Nat):fa [] r=aa r:=by cases r<;>rfl
theorem Qd0:∀(A:List<|List Nat)(r:List Nat),ef (A++[[]]) r=ef A r:=by
 intro B;induction B with
 |nil=>intro r;show((fa [] r).elim ae (ef []))=ac;rw[Dg];rfl
 |cons w A C=>
  intro r;rw[vu,jp,jp];cases fa w r with
  |none=>rfl
  |some x=>exact C x
theorem Qd1(w:List Nat):∀m,cB aW (cR m w++[[]])=(cR m<|w++aW).flatten :=by
 intro A;induction A with
 |zero=>exact rfl
 |succ m B=>
  rw[vv,vv,Lm, <-B,vu];cases h:cR m w++[[]]with
  |nil=>simp at h
  |cons a r=>simp[qZ,q7,oN]
theorem wU:fm []:=λh=>nomatch h
theorem Qd2(A:fm w)(m:Nat):∀u∈cR m w++[[]],fm u:=λu h=>(eO.mp h).elim (λh=>Qlr h▸A) λh=>eW.mp h▸wU
theorem Qd3(B:fm w)(m:Nat)(A:List Nat):jo (aW++(cR m<|w++aW).flatten) A=aa (ef (cR m w) A):=by
 rw[<-Qd1 w m];cases h:cR m w++[[]]with
 |nil=>simp at h
 |cons a r=>
  have e:aW++cB aW (a::r)=cB aW ([]::a::r):=by simp[qZ,q7,oN]
  rw[e,wT wU<|h▸Qd2 B m];refine(ar rfl).trans ?_;rw[lq];have C:([]::a::r).getLast? =aa []:=by rw[<-h, <-vu];exact Qlt
  rw[C];refine congrArg aa ?_;refine(ar rfl).trans ?_;rw[wS (eR _)<|kh _,xY,vg,jp,Dg, <-h];exact Qd0 _ _
noncomputable def aJ(a b:Nat):List Nat->Nat
 |x::r=>(if x=a/\r.head?=aa b then 1 else 0)+aJ a b r
 |[]=>0
theorem pZ:aJ a b []=0:=rfl
theorem gW:aJ a b (x::r)=(if x=a/\r.head?=aa b then 1 else 0)+aJ a b r:=rfl
theorem Qd4(a:Nat):∀(r:List Nat)(m:Nat),ef (cR m [a]) r=decide (m<=r.count a):=by
 intro A;induction A with
 |nil=>
  intro A;cases A with
  |zero=>exact by simp[wR,jp]
  |succ m=>exact by simp[vv,wR,jp,IR,ls]
 |cons c r B=>
  intro D;cases D with
  |zero=>exact by simp[wR,jp]
  |succ m=>
   have e:i9 [a] (c::r)=(a==c):=by simp[i9]
   rw[vv,jp,ls,e];by_cases q:a=c
   ·subst q;rw[ar<|beq_self_eq_true a];show ef (cR m [a]) (r.drop 0)=_;rw[vg,B m,List.count_cons_self];simp
   ·have C:(a==c)=ae:=by simpa using q
    rw[C,av<|by decide];have:=B<|m+1;rw[vv,jp]at this;rw[this,List.count_cons_of_ne<|gD q]
theorem Qd5(G:a≠b):∀(n:Nat)(r:List Nat)(m:Nat),r.length<=n->ef (cR m [a,b]) r=decide (m<=aJ a b r):=by
 intro n;induction n with
 |zero=>intro r m h;obtain rfl:=AR.mp (WB.mp h);cases m<;>simp[vv,wR,jp,IR,ls,pZ,gW]
 |succ n B=>
  intro r m h;cases m with
  |zero=>simp[wR,jp]
  |succ m=>
   cases r with
   |nil=>simp[vv,wR,jp,IR,ls,pZ,gW]
   |cons c r=>
    have C:=B r (m+1) (by simpa using h);rw[vv,jp]at C⊢;rw[ls,gW];by_cases q:c=a/\r.head?=aa b
    ·obtain⟨rfl,A⟩:=q;cases r with
     |nil=>injection A
     |cons d r=>
      obtain rfl:d=b:=aw A;rw[ar (by simp[i9]),ar ⟨rfl,rfl⟩];show ef (cR m [c,d]) r=_;have D:aJ c d (d::r)=aJ c d r:=by rw[gW,av<|λz=>G z.1.symm];exact GD
      rw[B r m (by simp at h;exact BX h),D,decide_eq_decide,vx 1];exact Nat.succ_le_succ_iff.symm
    ·have e:i9 [a,b] (c::r)=ae:=by
      cases z:i9 [a,b] (c::r)with
      |false=>rfl
      |true=>
       exfalso;apply q;cases r with
       |nil=>simp[i9]at z
       |cons d r=>simp[i9]at z;exact⟨z.1.symm,by simp[z.2]⟩
     rw[e,av (by decide),av q,C];simp
theorem IT(hz:z≠46)(A:g≠[]):jo (aW++[z]) g=aa (g.getLast?==aa z)/\jo ([z]++aW) g=aa (g.head?==aa z):=by
 have B:fm [z]:=λh=>hz (eW.mp h).symm;have pos:1<=g.length:=List.length_pos_iff.mpr A;constructor
 ·show jo (cB aW [[],[z]]) g=_;rw[wT wU<|λu h=>eW.mp h▸B];refine(ar rfl).trans ?_;rw[lq];refine congrArg aa ?_;have e:Lo [z] g=(g.getLast?==aa z):=by
   obtain⟨h,d,rfl⟩:∃h d,g=h++[d]:=⟨g.dropLast,g.getLast A,(A2 A).symm⟩;rw[iu,AV,bJ,Qlt,Qlu];exact⟨λ⟨t,q⟩=>(Qlv.mp (WC q rfl).2).symm,λq=>q▸Qlw _ _⟩
  refine(av<|show¬[z].length =0 from WD).trans ?_;show(if Lo [z] g=ac then lm g 0 (g.length-1) [[]]else ae)=_;rw[wS (WE _ _)<|kh _,jp,Dg,e];cases g.getLast?==aa z<;>rfl
 ·show jo (cB aW [[z],[]]) g=_;rw[wT B<|λu h=>eW.mp h▸wU];refine(av<|show¬[z].length =0 from WD).trans ?_;have e:i9 [z] g=(g.head?==aa z):=by
   cases g with
   |nil=>exact absurd rfl A
   |cons c r=>show(z==c&&ac)=(aa c==aa z);rw[Bool.and_true,iu,bJ,bJ,Qlu];exact eq_comm
  rw[e];have:lq g 1 [[]]=aa ac:=by rw[lq];refine congrArg aa ?_;refine(ar rfl).trans ?_;rw[wS (eR _) pos,jp,Dg];rfl
  cases q:g.head?==aa z
  ·rw[av<|by decide]
  ·rw[ar rfl];exact this
theorem Qd6(L:fm x)(A:x.length=g.length)(B:2<=g.length):jo (cB aW<|x.map λc=>[c]) g=aa (x==g):=by
 obtain⟨a,x1,rfl⟩:∃a x1,x=a::x1:=by cases x with|nil=>simp at A;exact pr (pO 0x2e041180476001 Yt B A)|cons a x1=>exact⟨a,x1,rfl⟩
 obtain⟨c,D,rfl⟩:∃a x1,g=a::x1:=by cases g with|nil=>simp at B|cons a x1=>exact⟨a,x1,rfl⟩
 have Q:x1≠[]:=by rintro rfl;simp at A B;rw[A]at B;exact absurd B<|by decide
 have O:D≠[]:=by rintro rfl;simp at B
 obtain⟨y,z,rfl⟩:∃h d,x1=h++[d]:=⟨x1.dropLast,x1.getLast Q,(A2 Q).symm⟩;obtain⟨h,d,rfl⟩:∃h d,D=h++[d]:=⟨D.dropLast,D.getLast O,(A2 O).symm⟩;have M:y.length=h.length:=by simpa using A
 have H:∀u∈(y++[z]).map (λc=>[c]),fm u:=λu q=>by obtain⟨c,U,rfl⟩:=gk.mp q;exact λq=>L<|eW.mp q▸bB _ U
 have T:fm [a]:=λq=>L<|eW.mp q▸dU;cases C:(y++[z]).map (λc=>[c])with
 |nil=>simp at C
 |cons v r=>
  rw[dF,C,wT T<|C▸H];refine(av<|show¬[a].length =0 from WD).trans ?_;have e:i9 [a] (c::(h++[d]))=(a==c):=by simp[i9]
  rw[e];by_cases q:a=c
  ·subst q;rw[ar<|beq_self_eq_true a,lq, <-C];have A:((y++[z]).map λc=>[c]).getLast? =aa [z]:=by simp
   rw[A];refine congrArg aa ?_;show(if 1=0 then _ else if Lo [z] (a::(h++[d]))then lm (a::(h++[d])) 1 ((a::(h++[d])).length -1) ((y++[z]).map λc=>[c]).dropLast else ae)=_;have k:Lo [z] (a::(h++[d]))=(z==d):=by rw[iu,AV, <-vu,bJ];exact⟨λ⟨t,q⟩=>(WC q rfl).2|>λq=>Qlv.mp q,λq=>q▸Qlw _ _⟩
   have j:((y++[z]).map λc=>[c]).dropLast =y.map λc=>[c]:=by simp
   rw[av (by decide),k,j];by_cases G:z=d
   ·subst G;rw[ar<|beq_self_eq_true z,wS (WE _ _)<|by simp];have Y:((a::(h++[z])).take<|(a::(h++[z])).length -1).drop 1=h:=by simp
    rw[Y,QdX M];simp
   ·rw[show(z==d)=ae by simpa using G,av<|by decide];simp[G,M]
  ·rw[show(a==c)=ae by simpa using q,av<|by decide];simp[q]
theorem Dh(A:fm g)(h:∀c∈w,c∈g):fm w:=λq=>A<|h _ q
def sF(g:List Nat):List (List Nat×Bool):=[(g.drop 1,ae),(g.take 1++[46]++g.drop 2,ae),(g++aW++g,ae),(cB aW ((g.map λc=>[c])++[[g.getLastD 0]]),ae),(g.take 3++aW++g.drop 3,ac),
 (aW++g.take 4++aW++g.drop 3++aW,ae),(g.take 1++aW++(g.take 4).drop 1++aW++g.drop 3,ae)]
theorem Qd7(A:fm g)(B:6<=g.length):∀t∈sF g,jo t.1 g=aa t.2:=by
 have H:∀n,fm<|g.take n:=λn=>Dh A λc h=>WF h;have C:∀n,fm<|g.drop n:=λn=>Dh A λc h=>AY h;have two:∀{a b:List Nat},fm a->fm b->∀u∈[a,b],fm u:=λY U u h=>by
  simp only[bF,jb,or_false]at h;rcases h with rfl|rfl
  ·exact Y
  ·exact U
 intro t L;simp only[sF,bF,jb,or_false]at L;rcases L with rfl|rfl|rfl|rfl|rfl|rfl|rfl
 ·dsimp only;rw[RB<|C 1];refine congrArg aa<|beq_eq_false_iff_ne.mpr λq=>?_;have:=congrArg dG q;rw[fX]at this;exact pO 0x1524014228914228226e041180c7600b240 Yt B this
 ·dsimp only;have y:oO aW (g.take 1++[46]++g.drop 2)=ae:=by
   obtain⟨a,b,c,r,rfl⟩:∃a b c r,g=a::b::c::r:=by
    match g,B with
    |a::b::c::r,_=>exact⟨a,b,c,r,rfl⟩
   have T:a≠46:=λq=>A<|q▸dU;have G:c≠46:=λq=>A (q▸by simp);show oO aW (a::46::c::r)=ae;have:=RA<|C 2;rw[IS]at this⊢;have z:i9 aW (a::46::c::r)=ae:=by simp[aW,i9,gD T]
   have j:i9 aW (46::c::r)=ae:=by simp[aW,i9,gD G]
   rw[ls,z,av (by decide),ls,j,av<|by decide];exact this
  rw[jo,ar y];refine congrArg aa<|beq_eq_false_iff_ne.mpr λq=>A ?_;rw[<-q];simp
 ·dsimp only;have e:g++aW++g=cB aW [g,g]:=rfl;rw[e];exact Df A (λu h=>eW.mp h▸A) (by simp;exact aH 0x380046031 Yt B)
 ·dsimp only;obtain⟨a,b,r,rfl⟩:∃a b r,g=a::b::r:=by
   match g,B with
   |a::b::r,_=>exact⟨a,b,r,rfl⟩
  have D:∀u∈((a::b::r).map λc=>[c])++[[(a::b::r).getLastD 0]],fm u:=λu h=>by
   refine Dh A λc G=>?_;rcases eO.mp h with h|h
   ·obtain⟨d,Q,rfl⟩:=gk.mp h;exact eW.mp G▸Q
   ·obtain rfl:=eW.mp h;rw[eW.mp G];have:(a::b::r).getLastD 0=(a::b::r).getLast (by simp):=by rw[List.getLastD_eq_getLast?,Ll<|by simp];rfl
    rw[this];exact List.getLast_mem _
  refine Df (w:=[a]) (v:=[b]) (r:=(r.map λc=>[c])++[[(a::b::r).getLastD 0]]) (D _<|by simp) (λu h=>D u (by simp at h⊢;rcases h with h|h|h<;>simp[h])) ?_;have:=De r;simp at this⊢;exact bD 0x3830c32402490c90c9236200 Yt this
 ·dsimp only;have e:g.take 3++aW++g.drop 3=cB aW [g.take 3,g.drop 3]:=rfl;have O:(g.take 3).length =3:=by rw[l6];exact aH 0x34064508208228225d04528208914a082089599d00646031 Yt B
  have M:(g.drop 3).length ≠0:=by rw[fX];exact aH 0x1564014228208914a08a089f812d9006031 Yt B
  rw[e,wT (H 3)<|λu h=>eW.mp h▸C 3,O,av (by decide),ar<|vj.mpr<|List.take_prefix 3 g,lq];refine congrArg aa ?_;show(if(g.drop 3).length =0 then _ else if(g.drop 3).isSuffixOf g then lm g 3 (g.length-(g.drop 3).length) []else ae)=ac;rw[av M,ar<|AV.mpr<|QkY 3 g,wS (WE _ _)<|by rw[fX];exact aH 0x55900508a08954b64000508a08914a08228918b2d9000646031 Yt B];rfl
 ·dsimp only;have e:aW++g.take 4++aW++g.drop 3++aW=cB aW [[],g.take 4,g.drop 3,[]]:=by simp[qZ,q7,oN]
  rw[e];refine Df wU (λu h=>?_) (by simp;exact aH 0x55900508a08934084508208228208224508208a08a0893832d9034021006031 Yt B);simp only[bF,jb,or_false]at h;rcases h with rfl|rfl|rfl
  ·exact H 4
  ·exact C 3
  ·exact wU
 ·dsimp only;have e:g.take 1++aW++(g.take 4).drop 1++aW++g.drop 3=cB aW [g.take 1,(g.take 4).drop 1,g.drop 3]:=by simp[qZ,q7,oN]
  rw[e];exact Df (H 1) (two (Dh A λc h=>WF<|AY h)<|C 3) (by simp;exact aH 0x55900508a08934084508208228208225527402114228208224d00914208228228208208a08208914208228228208208a08a0893830cb6402c9d00874009006031 Yt B)
noncomputable def zJ{α:Type}(n:Nat)(k:Nat->α):α:=AL (k 0) (λm _=>k (kU m)) n
def nS:Nat->Nat->(List Nat->Nat->List eB)->List eB:=AL (λ_ _=>[]) λ_ ih n k=>AL (motive:=λ_=>List eB) (zJ (n/131072) λn=>k [] n) (λm _=>zJ (n/131072) λn=>ih n λl n=>k (kU m::l) n) (n%131072)
def dE:Nat->Nat->Nat->List eB:=AL (λ_ _=>[]) λ_ ih t n=>zJ (n%131072) λi=>zJ (n/131072) λn=>nS 20 n λl n=>zJ (t+3) λt'=>⟨fO i,.int (fO i) t,.str ⟨bx l⟩ (kU t)⟩::ih t' n
noncomputable abbrev ik:=cL aq×cL aq
noncomputable def im(run:List ik)(main:Option aj):cL (Option aj):=do
  if run.isEmpty then return main
  match main with
  |none=>return aa (<-subDict run)
  |some d=>
   let sub<-E8 [.ref d] (subDict run)
   (E8 [.ref d,.ref sub] (mergeMapping d (.ref sub) ae)).onRaise λx=>do let _<-E8 [.ref d,x] (runValue (.builtin "proto.let_go" {}))
   return aa d
noncomputable def iZ:List ik->Option aj->List ik->cL (Option aj)
 |[],main,run=>im run main
 |x::l,main,run=>if(run++[x]).length ==17 then im (run++[x]) main>>=λm=>iZ l m []else iZ l main (run++[x])
noncomputable def Di:Option aj->cL aq
 |some d=>pure (.ref d)
 |none=>newDict
noncomputable def zK(l:List ik):List (Option (cL aq)×cL aq):=l.map λx=>(aa x.1,x.2)
theorem Dj(x:cL α)(f:α->cL β)(g:β->cL γ):(x>>=f)>>=g=x>>=λa=>f a>>=g:=by show(x.bind f).bind g=x.bind λa=>(f a).bind g;simp only[Sem.bind_eq_wrap,Sem.wrap_wrap];rfl
theorem IU{f g:α->cL β}(h:∀a,f a=g a):x>>=f=x>>=g:=by exact af (funext h) rfl
theorem RD(a:α)(f:α->cL β):(pure a:cL α)>>=f=f a:=rfl
theorem Qd8(B:Option (cL aq)×cL aq->Option aj×List ik->cL (ForInStep<|Option aj×List ik))(G:Option aj×List ik->cL aq)(D:∀k v r,B (aa k,v) r=if((r.2++[(k,v)]).length ==17)=ac then im (r.2++[(k,v)]) r.1>>=λm=>pure (.yield (m,[]))else pure (.yield (r.1,r.2++[(k,v)])))(C:∀r,G r=im r.2 r.1>>=Di):∀(l:List ik)(main:Option aj)(run:List ik),(forIn (m:=cL) (zK l) (main,run) B>>=G)=iZ l main run>>=Di:=by
 intro l;induction l with
 |nil=>intro main run;exact C _
 |cons x l A=>
  intro main run;show(forIn (m:=cL) ((aa x.1,x.2)::zK l) _ _)>>=_=(if(run++[x]).length ==17 then im (run++[x]) main>>=λm=>iZ l m []else iZ l main (run++[x]))>>=Di;rw[E4,D];dsimp only;cases h:(run++[(x.1,x.2)]).length ==17 with
  |true=>simp only[if_true];rw[Dj,Dj,Dj];exact IU λm=>by dsimp only[RD];exact A m []
  |false=>simp only[AP,if_false];dsimp only[RD];exact A main (run++[x])
theorem Qd9(l:List ik):Lp (zK l)=iZ l ab []>>=Di:=by unfold Lp;exact Qd8 _ _ (λk v r=>rfl) (λr=>IU λm=>by cases m<;>rfl) l ab []
theorem Qea:∀(c l:List ik)(main:Option aj)(run:List ik),run.length<17->run.length+c.length=17->iZ (c++l) main run=im (run++c) main>>=λm=>iZ l m []:=by
 intro B;induction B with
 |nil=>intro l main run h e;exact by simp only[kg]at e;exact pr (pO 0x2e04138a440d8a443040 Yt h e)
 |cons x c C=>
  intro l main run h e;show(if(run++[x]).length ==17 then im (run++[x]) main>>=λm=>iZ (c++l) m []else iZ (c++l) main (run++[x]))=_;simp only[eK]at e;have A:(run++[x]).length =run.length+1:=by simp
  by_cases z:run.length+1=17
  ·have:c=[]:=AR.mp<|bS 0x74114a08a24525604858a4430c9200d8a443240 Yt e z;clear e;subst this;rw[ar<|by refine af A<|af z ?_;rfl];rfl
  ·rw[av (by refine af A ?_;simpa using z),C l main (run++[x]) (N3 0x75914a08914a28224e29120e2910160c9008f8a443240 [_,_] Yt h A z)<|N4 0x1d04528228224528208a08958a44340058a4430c9408d8a4430c94085832480360c9200 [_,_,_] Yt e e A A,mT];rfl
theorem Qeb:∀(c:List ik)(main:Option aj)(run:List ik),run.length+c.length<17->iZ c main run=im (run++c) main:=by
 intro B;induction B with
 |nil=>intro main run _;exact by rw[py];rfl
 |cons x c C=>intro main run e;show(if(run++[x]).length ==17 then im (run++[x]) main>>=λm=>iZ c m []else iZ c main (run++[x]))=_;simp only[eK]at e;refine(?_:((run++[x]).length =run.length+1)->_) (by simp);intro A;rw[av (by refine af A ?_;have:run.length+1≠17:=bD 0x142289f8a44324038a4430c9200 Yt e;simpa using this),C main (run++[x]) (fN 0xe2910d000e2910c32502160c9200 Yt e A),mT];rfl
theorem Dk(x:cL α)(f:α->cL β)(K:β->cL γ)(H:aq->cL γ)(B:Bool->Bool)(A:List aq->List aq):(x>>=f).wrap K H B A=x.wrap (λa=>(f a).wrap K H B A) H B A:=by simp only[Sem.bind_eq_wrap',Sem.wrap_wrap];rfl
noncomputable def Dl:Option aj->kW
 |some a=>.ret (.ref a)
 |none=>.next
theorem RE(h:Dl m=.ret (.ref a)):m=aa a:=by
 cases m with
 |none=>injection h
 |some b=>obtain rfl:=tc (PySem.Flow.ret.inj h);rfl
section
variable {tb:String->Option Builtin} {p:pu} {w:d9} {oy:Nat} {oA:Option aq} {q:aY} {H:aq->cL Fin} {N n:Nat} {s:SharedT} {s':SharedT} {r:aC} {c:Code} {pos p':aY}
abbrev wV(x:cL (Option aj))(c:Code)(p:aY)(B:List Frame):Thread:=⟨x.wrap (λa=>.pure (.done (Dl a))) yh id id,c,p,B⟩
theorem d0{K:Option aj->cL Fin}{L:List ik}(A:Nat.ble (17*(j+1)) L.length=ac)(h:pz tb p w oy oA 1 n s (wV (im ((L.drop<|17*j).take 17) m) c pos [gv q])=aa (.ret<|.ref d,s',c,p'))(k:th tb p w oy oA N s'.abs ⟨(iZ (L.drop<|17*(j+1)) (aa d) []).wrap K H id id,c,p',[gv q]⟩=aa r): th tb p w oy oA (n+N) s.abs ⟨(iZ (L.drop<|17*j) m []).wrap K H id id,c,pos,[gv q]⟩=aa r:=by refine(?_:_->_)<|Qlx A;intro A;refine(?_:(L.drop (17*j)=(L.drop<|17*j).take 17++L.drop (17*(j+1)))->_) (by rw[show 17*(j+1)=17*j+17 from cN 0x7411491495832914c02914c3240291 Yt, <-AU,Lq]);intro e;refine af e ?_;rw[Qea _ _ _ [] (by decide) (by simp only[l6,fX];simp;exact VU<|Nat.le_sub_of_add_le<|by rw[vx];exact A),qC,Dk];refine ah (seg_top (res:=Dl) (K':=λa=>(iZ (L.drop<|17*(j+1)) a []).wrap K H id id) (H':=H) (B:=[gv q]) rfl n s.abs (wV (im ((L.drop<|17*j).take 17) m) c pos [gv q]) ⟨(im ((L.drop<|17*j).take 17) m).wrap (λa=>(iZ (L.drop<|17*(j+1)) a []).wrap K H id id) H id id,c,pos,[gv q]⟩ _ _ _ _ ⟨rfl,rfl,.inl ⟨rfl,rfl,_,rfl,rfl⟩⟩ (Fg h)) λa C D=>?_;obtain rfl:=RE C;exact D N r k
theorem Qec{K:Option aj->cL Fin}{L:List ik}(A:Nat.blt L.length (17*j+17)=ac)(h:pz tb p w oy oA 1 n s (wV (im (L.drop<|17*j) m) c pos [gv q])=aa (.ret<|.ref d,s',c,p'))(k:th tb p w oy oA N s'.abs ⟨K<|aa d,c,p',[gv q]⟩=aa r): th tb p w oy oA (n+N) s.abs ⟨(iZ (L.drop<|17*j) m []).wrap K H id id,c,pos,[gv q]⟩=aa r:=by refine(?_:(L.length<17*j+17)->_)<|Qlx A;intro A;rw[Qeb _ _ [] (by rw[fX];simp;exact bD 0x154c829100528224508a28938a44b4c829100e0ca45320a440 Yt A),qC];refine ah (seg_top (res:=Dl) (K':=K) (H':=H) (B:=[gv q]) rfl n s.abs (wV (im (L.drop<|17*j) m) c pos [gv q]) ⟨(im (L.drop<|17*j) m).wrap K H id id,c,pos,[gv q]⟩ _ _ _ _ ⟨rfl,rfl,.inl ⟨rfl,rfl,_,rfl,rfl⟩⟩ (Fg h)) λa C D=>?_;obtain rfl:=RE C;exact D N r k
theorem Qed{K:Unit->cL Fin}{x:cL Unit}(h:pz tb p w oy oA 1 n s ⟨x.wrap (λ_=>.pure<|.done .next) yh id id,c,pos,[gv q]⟩=aa (.next,s',c,p'))(k:th tb p w oy oA N s'.abs ⟨K (),c,p',[gv q]⟩=aa r):th tb p w oy oA (n+N) s.abs ⟨x.wrap K H id id,c,pos,[gv q]⟩=aa r:=by refine ah (seg_top (res:=λ_=>Flow.next) (K':=K) (H':=H) (B:=[gv q]) rfl n s.abs ⟨x.wrap (λ_=>.pure<|.done .next) yh id id,c,pos,[gv q]⟩ ⟨x.wrap K H id id,c,pos,[gv q]⟩ _ _ _ _ ⟨rfl,rfl,.inl ⟨rfl,rfl,_,rfl,rfl⟩⟩ (Fg h)) λa C A=>?_;exact A N r k
theorem Qee{K:kW->cL Fin}{x:cL kW}{f:kW}(h:pz tb p w oy oA 1 n s ⟨x.wrap doneF yh id id,c,pos,[gv q]⟩=aa (f,s',c,p'))(k:th tb p w oy oA N s'.abs ⟨K f,c,p',[gv q]⟩=aa r):th tb p w oy oA (n+N) s.abs ⟨x.wrap K H id id,c,pos,[gv q]⟩=aa r:=by refine ah (seg_top (res:=id) (K':=K) (H':=H) (B:=[gv q]) rfl n s.abs ⟨x.wrap doneF yh id id,c,pos,[gv q]⟩ ⟨x.wrap K H id id,c,pos,[gv q]⟩ _ _ _ _ ⟨rfl,rfl,.inl ⟨rfl,rfl,_,rfl,rfl⟩⟩ (Fg h)) λa A C=>?_;clear h;obtain rfl:a=f:=A;exact C N r k
end
end
section
noncomputable abbrev pw:pu:=PySem.Challenge.pw_uc0059_02
noncomputable abbrev R(a:Nat):aq:=.ref a
noncomputable abbrev S(x:String)(t:Nat):aq:=.str (aK x) t
noncomputable abbrev I(i:Int)(t:Nat):aq:=.int i t
noncomputable abbrev K(P:aT)(x:String)(t:Nat)(v:aq):eB:=⟨PyData.keyHash P (aK x),.str (aK x) t,v⟩
noncomputable abbrev J(i t:Nat)(v:aq):eB:=⟨fO i,.int (fO i) t,v⟩
noncomputable abbrev N:=BT.node
noncomputable abbrev E:=BT.nil
def jW:List de:=behindTheImports pw
def bN(i:Nat):de:=jW.getD i (.Pass default)
noncomputable def um:de->EY| .FunctionDef _ a .. =>a|_=>default
noncomputable def cF:de->List de| .FunctionDef _ _ b .. =>b|_=>[]
noncomputable def eG:de->fH| .FunctionDef _ _ _ _ _ _ sc .. =>sc|_=>default
def F(i:Nat)(x:String)(gl:Nat)(pm cd:aq)(bi:Nat):qv:={name:=aK x,qualname:=aK x,params:=um (bN i),body:=.stmts (cF (bN i)),scope:=eG (bN i),globals:=gl,closure:=[],defaults:=.none,kwdefaults:=.none,pyModule:=pm,code:=cd,builtins:=bi}
def jX:bu:={scope:=pw.main.scope,locals:=mainNs,globals:=mainNs,cells:=[],code:=.ref 13,frame:=aa 14}
def cE:Code:=.body jW jX
noncomputable def kH:List Frame:=[gv ⟨0,0,0,0⟩]
noncomputable def RF:Life:={}
abbrev jq(T:BT)(n toks:Nat)(os:vy):SharedT:=⟨T,n,RF,bx [],⟨0,0,0,0⟩,toks,os⟩
abbrev iJ(a b:Nat):List de:=(jW.drop a).take b
abbrev jr(w:d9)(os:vy)(n:Nat)(T:BT)(k toks:Nat)(l:List de)(p:aY)(T':BT)(k' Mo:Nat)(p':aY):Prop:=pz ot pw w 11 (aa (.ref 6)) 1 n (jq T k toks os) (piecesOf l jX cE p kH)=aa (.next,jq T' k' Mo os,cE,p')
def ns3(P:aT):List eB:=[K P "__doc__" 166 .none,K P "__package__" 167 .none,K P "__loader__" 168 (.builtin "__main__.__loader__#opaque"),K P "__spec__" 169 .none,K P "__annotations__" 170 (R 6),K P "__builtins__" 171 (R 4),K P "__file__" 173 (S "/claim/cut.py" 172),K P "__cached__" 174 .none,K P "_DIV_LIMIT" 190 (I 4000 189),K P "_div2n1n" 207 (R 21),K P "_div3n2n" 221 (R 28),K P "_int2digits" 232 (R 35),K P "_digits2int" 243 (R 42),K P "_divmod_pos" 258 (R 49),K P "int_divmod" 268 (R 56),K P "ELLIPSIS_MARKER" 272 (S "..." 271),K P "_ellipsis_match" 284 (R 63),K P "b1_set" 346 (R 71),K P "in_table_b1" 353 (R 81),K P "b3_exceptions" 2304 (R 82),K P "map_table_b3" 2312 (R 127),K P "ENDMARKER" 2316 (I 0 2315),K P "LPAR" 2318 (I 7 2317),K P "RPAR" 2320 (I 8 2319),K P "LSQB" 2322 (I 9 2321),K P "RSQB" 2324 (I 10 2323),K P "COLON" 2326 (I 11 2325),K P "COMMA" 2328 (I 12 2327),K P "SEMI" 2330 (I 13 2329),K P "PLUS" 2332 (I 14 2331),K P "MINUS" 2334 (I 15 2333),K P "STAR" 2336 (I 16 2335),K P "SLASH" 2338 (I 17 2337),K P "VBAR" 2340 (I 18 2339),K P "AMPER" 2342 (I 19 2341),K P "LESS" 2344 (I 20 2343),K P "GREATER" 2346 (I 21 2345),K P "EQUAL" 2348 (I 22 2347),K P "DOT" 2350 (I 23 2349),K P "PERCENT" 2352 (I 24 2351),K P "LBRACE" 2354 (I 25 2353),K P "RBRACE" 2356 (I 26 2355),K P "EQEQUAL" 2358 (I 27 2357),K P "NOTEQUAL" 2360 (I 28 2359),K P "LESSEQUAL" 2362 (I 29 2361),K P "GREATEREQUAL" 2364 (I 30 2363),K P "TILDE" 2366 (I 31 2365),K P "CIRCUMFLEX" 2368 (I 32 2367),K P "LEFTSHIFT" 2370 (I 33 2369),K P "RIGHTSHIFT" 2372 (I 34 2371),K P "DOUBLESTAR" 2374 (I 35 2373),K P "PLUSEQUAL" 2376 (I 36 2375),K P "MINEQUAL" 2378 (I 37 2377),K P "STAREQUAL" 2380 (I 38 2379),K P "SLASHEQUAL" 2382 (I 39 2381),K P "PERCENTEQUAL" 2384 (I 40 2383),K P "AMPEREQUAL" 2386 (I 41 2385),K P "VBAREQUAL" 2388 (I 42 2387),K P "CIRCUMFLEXEQUAL" 2390 (I 43 2389),K P "LEFTSHIFTEQUAL" 2392 (I 44 2391),K P "RIGHTSHIFTEQUAL" 2394 (I 45 2393),K P "DOUBLESTAREQUAL" 2396 (I 46 2395),K P "DOUBLESLASH" 2398 (I 47 2397),K P "DOUBLESLASHEQUAL" 2400 (I 48 2399),K P "AT" 2402 (I 49 2401),K P "ATEQUAL" 2404 (I 50 2403),K P "RARROW" 2406 (I 51 2405),K P "ELLIPSIS" 2408 (I 52 2407),K P "COLONEQUAL" 2410 (I 53 2409),K P "EXCLAMATION" 2412 (I 54 2411),K P "NT_OFFSET" 2414 (I 256 2413),K P "EXACT_TOKEN_TYPES" 2511 (R 128),K P "ISTERMINAL" 2518 (R 137),K P "ISNONTERMINAL" 2525 (R 144),K P "ISEOF" 2532 (R 151),K P "_law_unseen" 2541 (R 158),K P "_law_spelled" 2549 (R 165),K P "_law_words" 2555 (R 172),K P "_law_drawn" 2561 (R 177),K P "_law_read" 2567 (R 182),K P "_law_divided" 2578 (R 189),K P "_law_height" 2587 (R 196),K P "_law_line" 2593 (R 201),K P "_law_trees" 2599 (R 206),K P "_law_orders" 2608 (R 213),K P "_law_rows" 2619 (R 220),K P "law" 2625 (R 225)]
def o3(P:aT)(n e:Nat)(v:aq):bp:=⟨.type "dict",ab,.dict (bx (K P "__name__" 165 v::(ns3 P).take (n-1))) e,bx []⟩
def Qeg:List aq:=[I 3 0,I 0 0,R 20,I 19 0,I 0 0,R 27,I 29 0,I 0 0,R 34,I 45 0,I 0 0,R 41,I 54 0,I 0 0,R 48,I 65 0,I 0 0,R 55,I 78 0,I 0 0,R 62,I 108 0,I 0 0,R 80,I 111 0,I 0 0,R 126,I 168 0,I 0 0,R 136,I 170 0,I 0 0,R 143,I 172 0,I 0 0,R 150,I 175 0,I 0 0,R 157,I 179 0,I 0 0,R 164,I 185 0,I 0 0,R 171,I 187 0,I 0 0,R 176,I 209 0,I 0 0,R 181,I 223 0,I 0 0,R 188,I 236 0,I 0 0,R 195,I 241 0,I 0 0,R 200,I 247 0,I 0 0,R 205,I 259 0,I 0 0,R 212,I 264 0,I 0 0,R 219,I 273 0,I 0 0,R 224]
def gX(n:Nat):bp:=⟨.none,ab,.fields (bx (Qeg.take n)),bx []⟩
noncomputable abbrev oT(l:List aq):bp:=⟨.type "tuple",ab,.seq (bx l) 0,bx []⟩
noncomputable abbrev oC(l:List aq):bp:=⟨.type "code",ab,.fields (bx l),bx []⟩
abbrev oK(n:String)(a l k:Nat)(e:Int)(r:Nat)(b:Bool)(v1 v2 v3 v4 v5:aq)(m:Nat):bp:=oC [S n a,S n (a+1),S "/claim/cut.py" (a+2),I l 0,I k 0,I 0 0,I 0 0,I e 0,R r,.bool b,I 181 0,v1,v2,v3,v4,v5,I m 0,I l 0,S "/claim/cut.py" (m+1)]
noncomputable abbrev oG(l:List aq):bp:=⟨.none,ab,.fields (bx l),bx []⟩
noncomputable abbrev oF(d:Data):bp:=⟨.type "function",ab,d,bx []⟩
def ag:=oT []
def gN:=oK "<module>" 182 1 0 0 11 ae (R 12) .none .none .none .none 185
def fF:bp:=⟨(.type "frame"),ab,.plain,bx [aa (R 13),aa (R 3),aa (R 3),ab,aa (S "__main__" 164),ab,aa (R 0)]⟩
def jY:=oG []
def jZ:=oT [S "a" 194,S "b" 195,S "n" 196,S "pad" 197,S "half_n" 198,S "mask" 199,S "b1" 200,S "b2" 201,S "q1" 202,S "r" 203,S "q2" 204]
def j0:bp:=⟨.none,ab,(.func (F 2 "_div2n1n" 0 .none .none 0)),bx []⟩
def j1:=oK "_div2n1n" 191 3 3 3 15 ac (R 16) .none (R 17) (R 18) (R 19) 205
def j2:=oF (.func (F 2 "_div2n1n" 3 (S "cpy313._pylong" 187) (R 20) 0))
def i0:=oG []
def js:=oT [S "a12" 211,S "a3" 212,S "b" 213,S "b1" 214,S "b2" 215,S "n" 216,S "q" 217,S "r" 218]
def lu:bp:=⟨.none,ab,(.func (F 3 "_div3n2n" 0 .none .none 0)),bx []⟩
def ju:=oK "_div3n2n" 208 19 6 3 22 ac (R 23) .none (R 24) (R 25) (R 26) 219
def jv:=oF (.func (F 3 "_div3n2n" 3 (S "cpy313._pylong" 187) (R 27) 0))
def j3:=oG []
def kI:=oT [S "a" 225,S "n" 226]
def kJ:=oT [S "n" 227,S "a_digits" 228,S "inner" 229]
def kK:bp:=⟨.none,ab,(.func (F 4 "_int2digits" 0 .none .none 0)),bx []⟩
def ct:=oK "_int2digits" 222 29 2 3 29 ac (R 30) .none (R 31) (R 32) (R 33) 230
def kL:=oF (.func (F 4 "_int2digits" 3 (S "cpy313._pylong" 187) (R 34) 0))
def lB:=oG []
def lC:=oT [S "digits" 236,S "n" 237]
def jw:=oT [S "digits" 238,S "n" 239,S "inner" 240]
def kM:bp:=⟨.none,ab,(.func (F 5 "_digits2int" 0 .none .none 0)),bx []⟩
def kN:=oK "_digits2int" 233 45 2 3 36 ac (R 37) .none (R 38) (R 39) (R 40) 241
def mE:=oF (.func (F 5 "_digits2int" 3 (S "cpy313._pylong" 187) (R 41) 0))
def lD:=oG []
def lE:=oT [S "a" 247,S "b" 248,S "n" 249,S "a_digits" 250,S "r" 251,S "q_digits" 252,S "a_digit" 253,S "q_digit" 254,S "q" 255]
def lG:bp:=⟨.none,ab,(.func (F 6 "_divmod_pos" 0 .none .none 0)),bx []⟩
def lH:=oK "_divmod_pos" 244 54 2 3 43 ac (R 44) .none (R 45) (R 46) (R 47) 256
def lI:=oF (.func (F 6 "_divmod_pos" 3 (S "cpy313._pylong" 187) (R 48) 0))
def lJ:=oG []
def lK:=oT [S "a" 262,S "b" 263,S "q" 264,S "r" 265]
def lL:bp:=⟨.none,ab,(.func (F 7 "int_divmod" 0 .none .none 0)),bx []⟩
def j4:=oK "int_divmod" 259 65 2 3 50 ac (R 51) .none (R 52) (R 53) (R 54) 266
def kO:=oF (.func (F 7 "int_divmod" 3 (S "cpy313._pylong" 187) (R 55) 0))
def oX:=oG []
def lM:=oT [S "want" 276,S "got" 277,S "ws" 278,S "startpos" 279,S "endpos" 280,S "w" 281]
def lN:bp:=⟨.none,ab,(.func (F 10 "_ellipsis_match" 0 .none .none 0)),bx []⟩
def lO:=oK "_ellipsis_match" 273 78 2 3 57 ac (R 58) .none (R 59) (R 60) (R 61) 282
def mF:=oF (.func (F 10 "_ellipsis_match" 3 (S "cpy313.doctest" 269) (R 62) 0))
def nM:bp:=⟨(.type "list"),ab,(.seq (bx [I 173 287,I 847 288,I 6150 289,I 6155 290,I 6156 291,I 6157 292,I 8203 293,I 8204 294,I 8205 295,I 8288 296,I 65279 297]) 0),bx []⟩
def nN:bp:=⟨(.type "range"),ab,(.fields (bx [I 65024 298,I 65040 299,I 1 300])),bx []⟩
def cK:bp:=⟨(.type "list"),ab,(.seq (bx [I 65024 303,I 65025 304,I 65026 305,I 65027 306,I 65028 307,I 65029 308,I 65030 309,I 65031 310,I 65032 311,I 65033 312,I 65034 313,I 65035 314,I 65036 315,I 65037 316,I 65038 317,I 65039 318]) 18),bx []⟩
def oY:bp:=⟨(.type "range_iterator"),ab,(.fields (bx [I 65040 0,I 0 0,I 1 0])),bx []⟩
def oZ:bp:=⟨(.type "StopIteration"),ab,(.fields (bx [R 68,.none,.none,.none,.bool ae,.none])),bx []⟩
def o0:bp:=⟨(.type "list"),ab,(.seq (bx [I 173 287,I 847 288,I 6150 289,I 6155 290,I 6156 291,I 6157 292,I 8203 293,I 8204 294,I 8205 295,I 8288 296,I 65279 297,I 65024 303,I 65025 304,I 65026 305,I 65027 306,I 65028 307,I 65029 308,I 65030 309,I 65031 310,I 65032 311,I 65033 312,I 65034 313,I 65035 314,I 65036 315,I 65037 316,I 65038 317,I 65039 318]) 0),bx []⟩
def jx(P:aT):bp:=⟨(.type "set"),ab,(.set (bx [(65024,(I 65024 303)),(65025,(I 65025 304)),(65026,(I 65026 305)),(65027,(I 65027 306)),(65028,(I 65028 307)),(65029,(I 65029 308)),(6150,(I 6150 289)),(65030,(I 65030 309)),(65031,(I 65031 310)),(65032,(I 65032 311)),(65033,(I 65033 312)),(6155,(I 6155 290)),(6156,(I 6156 291)),(6157,(I 6157 292)),(8203,(I 8203 293)),(8204,(I 8204 294)),(8205,(I 8205 295)),(65034,(I 65034 313)),(65035,(I 65035 314)),(65036,(I 65036 315)),(65037,(I 65037 316)),(65038,(I 65038 317)),(65039,(I 65039 318)),(173,(I 173 287)),(847,(I 847 288)),(8288,(I 8288 296)),(65279,(I 65279 297))]) 29 ⟨127,bx [0,1,2,3,4,5,6,7,8,9,10,11,12,13,14,15,16,17,18,19,20,21,22,45,79,96,127],bx [],0,(!P.followText "set-order"),2,ac⟩),bx []⟩
def nO:bp:=⟨(.type "list_iterator"),ab,(.fields (bx [.none,I 27 0])),bx []⟩
def rh:bp:=⟨(.type "StopIteration"),ab,(.fields (bx [R 73,.none,.none,.none,.bool ae,.none])),bx []⟩
def o5:=oG []
def o6:=oT [S "code" 350]
def o7:bp:=⟨.none,ab,(.func (F 13 "in_table_b1" 0 .none .none 0)),bx []⟩
def o8:=oK "in_table_b1" 347 108 1 3 75 ac (R 76) .none (R 77) (R 78) (R 79) 351
def o9:=oF (.func (F 13 "in_table_b1" 3 (S "cpy313.stringprep" 285) (R 80) 0))
def uo:=oG []
def uq:=oT [S "code" 2308,S "r" 2309]
def ur:bp:=⟨.none,ab,(.func (F 15 "map_table_b3" 0 .none .none 0)),bx []⟩
def ut:=oK "map_table_b3" 2305 111 1 3 121 ac (R 122) .none (R 123) (R 124) (R 125) 2310
def uu:=oF (.func (F 15 "map_table_b3" 3 (S "cpy313.stringprep" 285) (R 126) 0))
def qc(P:aT):bp:=⟨(.type "dict"),ab,(.dict (bx [K P "!" 2415 (I 54 2411),K P "!=" 2417 (I 28 2359),K P "%" 2419 (I 24 2351),K P "%=" 2421 (I 40 2383),K P "&" 2423 (I 19 2341),K P "&=" 2425 (I 41 2385),K P "(" 2427 (I 7 2317),K P ")" 2429 (I 8 2319),K P "*" 2431 (I 16 2335),K P "**" 2433 (I 35 2373),K P "**=" 2435 (I 46 2395),K P "*=" 2437 (I 38 2379),K P "+" 2439 (I 14 2331),K P "+=" 2441 (I 36 2375),K P "," 2443 (I 12 2327),K P "-" 2445 (I 15 2333),K P "-=" 2447 (I 37 2377),K P "->" 2449 (I 51 2405),K P "." 2451 (I 23 2349),K P "..." 2453 (I 52 2407),K P "/" 2455 (I 17 2337),K P "//" 2457 (I 47 2397),K P "//=" 2459 (I 48 2399),K P "/=" 2461 (I 39 2381),K P ":" 2463 (I 11 2325),K P ":=" 2465 (I 53 2409),K P ";" 2467 (I 13 2329),K P "<" 2469 (I 20 2343),K P "<<" 2471 (I 33 2369),K P "<<=" 2473 (I 44 2391),K P "<=" 2475 (I 29 2361),K P "=" 2477 (I 22 2347),K P "==" 2479 (I 27 2357),K P ">" 2481 (I 21 2345),K P ">=" 2483 (I 30 2363),K P ">>" 2484 (I 34 2371),K P ">>=" 2485 (I 45 2393),K P "@" 2486 (I 49 2401),K P "@=" 2487 (I 50 2403),K P "[" 2488 (I 9 2321),K P "]" 2489 (I 10 2323),K P "^" 2490 (I 32 2367),K P "^=" 2491 (I 43 2389),K P "{" 2492 (I 25 2353),K P "|" 2493 (I 18 2339),K P "|=" 2494 (I 42 2387),K P "}" 2495 (I 26 2355),K P "~" 2496 (I 31 2365)]) 48),bx []⟩
def uv(P:aT):bp:=⟨(.type "dict"),ab,(.dict (bx [K P "->" 2449 (I 51 2405),K P "." 2451 (I 23 2349),K P "..." 2453 (I 52 2407),K P "/" 2455 (I 17 2337),K P "//" 2457 (I 47 2397),K P "//=" 2459 (I 48 2399),K P "/=" 2461 (I 39 2381),K P ":" 2463 (I 11 2325),K P ":=" 2465 (I 53 2409),K P ";" 2467 (I 13 2329),K P "<" 2469 (I 20 2343),K P "<<" 2471 (I 33 2369),K P "<<=" 2473 (I 44 2391),K P "<=" 2475 (I 29 2361),K P "=" 2477 (I 22 2347),K P "==" 2479 (I 27 2357),K P ">" 2481 (I 21 2345)]) 17),bx []⟩
def uw(P:aT):bp:=⟨(.type "dict"),ab,(.dict (bx [K P ">=" 2483 (I 30 2363),K P ">>" 2484 (I 34 2371),K P ">>=" 2485 (I 45 2393),K P "@" 2486 (I 49 2401),K P "@=" 2487 (I 50 2403),K P "[" 2488 (I 9 2321),K P "]" 2489 (I 10 2323),K P "^" 2490 (I 32 2367),K P "^=" 2491 (I 43 2389),K P "{" 2492 (I 25 2353),K P "|" 2493 (I 18 2339),K P "|=" 2494 (I 42 2387),K P "}" 2495 (I 26 2355),K P "~" 2496 (I 31 2365)]) 14),bx []⟩
def zL:=oG []
def zM:=oT [S "x" 2515]
def wW:bp:=⟨.none,ab,(.func (F 68 "ISTERMINAL" 0 .none .none 0)),bx []⟩
def zN:=oK "ISTERMINAL" 2512 168 1 3 131 ac (R 132) .none (R 133) (R 134) (R 135) 2516
def zO:=oF (.func (F 68 "ISTERMINAL" 3 (S "cpy313.token" 2313) (R 136) 0))
def zP:=oG []
def zQ:=oT [S "x" 2522]
def zR:bp:=⟨.none,ab,(.func (F 69 "ISNONTERMINAL" 0 .none .none 0)),bx []⟩
def wX:=oK "ISNONTERMINAL" 2519 170 1 3 138 ac (R 139) .none (R 140) (R 141) (R 142) 2523
def wY:=oF (.func (F 69 "ISNONTERMINAL" 3 (S "cpy313.token" 2313) (R 143) 0))
def wZ:=oG []
def w0:=oT [S "x" 2529]
def w5:bp:=⟨.none,ab,(.func (F 70 "ISEOF" 0 .none .none 0)),bx []⟩
def w8:=oK "ISEOF" 2526 172 1 3 145 ac (R 146) .none (R 147) (R 148) (R 149) 2530
def w9:=oF (.func (F 70 "ISEOF" 3 (S "cpy313.token" 2313) (R 150) 0))
def zS:=oG []
def zT:=oT [S "place" 2538]
def zU:bp:=⟨.none,ab,(.func (F 72 "_law_unseen" 0 .none .none 0)),bx []⟩
def zV:=oK "_law_unseen" 2535 175 1 3 152 ac (R 153) .none (R 154) (R 155) (R 156) 2539
def zW:=oF (.func (F 72 "_law_unseen" 3 (S "law_uc0059_02" 2533) (R 157) 0))
def zX:=oG []
def zY:=oT [S "code" 2545,S "way" 2546]
def Dm:bp:=⟨.none,ab,(.func (F 73 "_law_spelled" 0 .none .none 0)),bx []⟩
def Dn:=oK "_law_spelled" 2542 179 2 3 159 ac (R 160) .none (R 161) (R 162) (R 163) 2547
def Do:=oF (.func (F 73 "_law_spelled" 3 (S "law_uc0059_02" 2533) (R 164) 0))
def zZ:=oG []
def Dp:bp:=⟨.none,ab,(.func (F 74 "_law_words" 0 .none .none 0)),bx []⟩
def Dq:=oK "_law_words" 2550 185 0 3 166 ac (R 167) .none (R 168) (R 169) (R 170) 2553
def Dr:=oF (.func (F 74 "_law_words" 3 (S "law_uc0059_02" 2533) (R 171) 0))
def IV:=oG []
def Ds:bp:=⟨.none,ab,(.func (F 75 "_law_drawn" 0 .none .none 0)),bx []⟩
def Dt:=oK "_law_drawn" 2556 187 1 3 173 ac (R 174) .none .none .none (R 175) 2559
def Du:=oF (.func (F 75 "_law_drawn" 3 (S "law_uc0059_02" 2533) (R 176) 0))
def Dv:=oG []
def Dx:bp:=⟨.none,ab,(.func (F 76 "_law_read" 0 .none .none 0)),bx []⟩
def Dy:=oK "_law_read" 2562 209 1 3 178 ac (R 179) .none .none .none (R 180) 2565
def Dz:=oF (.func (F 76 "_law_read" 3 (S "law_uc0059_02" 2533) (R 181) 0))
def DA:=oG []
def DB:=oT [S "top" 2571,S "low" 2572,S "way" 2573,S "quotient" 2574,S "rest" 2575]
def DC:bp:=⟨.none,ab,(.func (F 77 "_law_divided" 0 .none .none 0)),bx []⟩
def DD:=oK "_law_divided" 2568 223 3 3 183 ac (R 184) .none (R 185) (R 186) (R 187) 2576
def DE:=oF (.func (F 77 "_law_divided" 3 (S "law_uc0059_02" 2533) (R 188) 0))
def IW:=oG []
def IX:=oT [S "piece" 2582,S "signs" 2583,S "height" 2584]
def IY:bp:=⟨.none,ab,(.func (F 78 "_law_height" 0 .none .none 0)),bx []⟩
def RG:=oK "_law_height" 2579 236 2 3 190 ac (R 191) .none (R 192) (R 193) (R 194) 2585
def RH:=oF (.func (F 78 "_law_height" 3 (S "law_uc0059_02" 2533) (R 195) 0))
def RI:=oG []
def IZ:bp:=⟨.none,ab,(.func (F 79 "_law_line" 0 .none .none 0)),bx []⟩
def RJ:=oK "_law_line" 2588 241 3 3 197 ac (R 198) .none .none .none (R 199) 2591
def RK:=oF (.func (F 79 "_law_line" 3 (S "law_uc0059_02" 2533) (R 200) 0))
def RL:=oG []
def RM:bp:=⟨.none,ab,(.func (F 80 "_law_trees" 0 .none .none 0)),bx []⟩
def RN:=oK "_law_trees" 2594 247 2 3 202 ac (R 203) .none .none .none (R 204) 2597
def RO:=oF (.func (F 80 "_law_trees" 3 (S "law_uc0059_02" 2533) (R 205) 0))
def RP:=oG []
def RQ:=oT [S "count" 2603,S "ways" 2604,S "k" 2605]
def RS:bp:=⟨.none,ab,(.func (F 81 "_law_orders" 0 .none .none 0)),bx []⟩
def RT:=oK "_law_orders" 2600 259 1 3 207 ac (R 208) .none (R 209) (R 210) (R 211) 2606
def RU:=oF (.func (F 81 "_law_orders" 3 (S "law_uc0059_02" 2533) (R 212) 0))
def RV:=oG []
def RW:=oT [S "front" 2612,S "left" 2613,S "rows" 2614,S "b" 2615,S "place" 2616]
def RX:bp:=⟨.none,ab,(.func (F 82 "_law_rows" 0 .none .none 0)),bx []⟩
def RY:=oK "_law_rows" 2609 264 2 3 214 ac (R 215) .none (R 216) (R 217) (R 218) 2617
def RZ:=oF (.func (F 82 "_law_rows" 3 (S "law_uc0059_02" 2533) (R 219) 0))
def R0:=oG []
def R1:bp:=⟨.none,ab,(.func (F 83 "law" 0 .none .none 0)),bx []⟩
def R3:=oK "law" 2620 273 1 3 221 ac (R 222) .none .none .none (R 223) 2623
def R4:=oF (.func (F 83 "law" 3 (S "law_uc0059_02" 2533) (R 224) 0))
def pd:List eB:=dE 647 354 0x78fd7a6000000f1baf4a000001e2f5e90000003c4ebd1800000787d7a2000000ee3af42000001e0f5e80000003c0ebcf80000077fd79e000000efbaf3a000001def5e70000003bcebcd800000777d79a000000eebaf32000001dcf5e60000003b8ebcb80000076fd796000000edbaf2a000001daf5e50000003b4ebc9800000767d792000000ecbaf22000001d8f5e40000003c3ebc0800000793d76e000000f23aeda000001e3f5db0000003c6ebb580000078bd76a000000f13aed2000001e1f5da0000003b8ebb3800000783d766000000f03aeca000001dff5d90000003beebb180000077bd762000000ef3aec2000001ddf5d80000003baebaf800000773d75e000000ee3aeba000001dbf5d70000003b6ebad80000076bd75a000000ed3aeb2000001d9f5d60000003b2ebab800000763d756000000f0fae8e000001e4f5cd0000003c8eb9980000078fd732000000f1bae62000001e2f5cc0000003c4eb97800000787d72e000000ee3ae5a000001e0f5cb0000003c0eb9580000077fd72a000000efbae52000001def5ca0000003bceb93800000777d726000000eebae4a000001dcf5c90000003b8eb9180000076fd722000000edbae42000001daf5c80000003b4eb8f800000767d71e000000ecbae3a000001d8f5c70000003c3eb86800000793d6fa000000f23adf2000001e3f5be0000003c6eb7b80000078bd6f6000000f13adea000001e1f5bd0000003b8eb79800000783d6f2000000f03ade2000001dff5bc0000003beeb7780000077bd6ee000000ef3adda000001ddf5bb0000003baeb75800000773d6ea000000ee3add2000001dbf5ba0000003b6eb7380000076bd6e6000000ed3adca000001d9f5b90000003b2eb71800000763d6e2000000f0fada6000001e4f5b00000003c8eb5f80000078fd6be000000f1bad7a000001e2f5af0000003c4eb5d800000787d6ba000000ee3ad72000001e0f5ae0000003c0eb5b80000077fd6b6000000efbad6a000001def5ad0000003bceb59800000777d6b2000000eebad62000001dcf5ac0000003b8eb5780000076fd6ae000000edbad5a000001daf5ab0000003b4eb55800000767d6aa000000ecbad52000001d8f5aa00000007aeb448000000f3d6880000001e3ad0e0000003bf5a1800000076eb428000000ebd6840000001d3ad0600000039f5a0800000072eb408000000e3d6800000001c3acfe00000037f59f80000006eeb3e8000000dbd67c0000001b3acf600000035f59e80000006aeb3c8000000d3d6780000001a3acee00000033f59d800000066eb3a8000000cbd674000000193ace600000031f59c800000062eb388000000c3d6700000001ebacaa0000003cf595000000078eb298000000efd6520000001dbaca20000003af594000000074eb278000000e7d64e0000001cbac9a00000038f593000000070eb258000000dfd64a0000001bbac9200000036f59200000006ceb238000000d7d6460000001abac8a00000034f591000000068eb218000000cfd64200000019bac8200000032f590000000064eb1f8000000c7d63e00000018bac7a00000030f58f00000007aeb108000000f3d6200000001e3ac3e0000003bf587800000076eb0e8000000ebd61c0000001d3ac3600000039f586800000072eb0c8000000e3d6180000001c3ac2e00000037f58580000006eeb0a8000000dbd6140000001b3ac2600000035f58480000006aeb088000000d3d6100000001a3ac1e00000033f583800000066eb068000000cbd60c000000193ac1600000031f582800000062eb048000000c3d6080000001ebabda0000003cf57b000000078eaf58000000efd5ea0000001dbabd20000003af57a000000074eaf38000000e7d5e60000001cbabca00000038f579000000070eaf18000000dfd5e20000001bbabc200000036f57800000006ceaef8000000d7d5de0000001ababba00000034f577000000068eaed8000000cfd5da00000019babb200000032f576000000064eaeb8000000c7d5d600000018babaa00000030f57500000007aeadc8000000f3d5b80000001e3ab6e0000003bf56d800000076eada8000000ebd5b40000001d3ab6600000039f56c800000072ead88000000e3d5b00000001c3ab5e00000037f56b80000006eead68000000dbd5ac0000001b3ab5600000035f56a80000006aead48000000d3d5a80000001a3ab4e00000033f569800000066ead28000000cbd5a4000000193ab4600000031f568800000062ead08000000c3d5a00000001ebab0a0000003cf561000000078eac18000000efd5820000001dbab020000003af560000000074eabf8000000e7d57e0000001cbaafa00000038f55f000000070eabd8000000dfd57a0000001bbaaf200000036f55e00000006ceabb8000000d7d5760000001abaaea00000034f55d000000068eab98000000cfd57200000019baae200000032f55c000000064eab78000000c7d56e00000018baada00000030f55b000000079eaa80000000f1d54f0000001dfaa9c0000003b7553400000075eaa60000000e9d54b0000001cfaa9400000037f55180000006deaa20000000d9d5430000001afaa84000000357550400000069eaa00000000cfd53e00000019baa7a00000032f54f000000064ea9d8000000c5d539000000187aa700000003cf547000000078ea8d8000000efd51a0000001dbaa320000003af546000000074ea8b8000000e7d5160000001c7aa28000000387544c0000006fea890000000ddd5110000001b7aa20000000367543c0000006bea870000000d5d50d00000019faa14000000337542400000065ea840000000c9d50700000018baa0a00000030f54100000007aea748000000f3d4e80000001e3a9ce0000003bf539800000076ea728000000ebd4e40000001d3a9c600000039f538800000072ea708000000e3d4e00000001c3a9be00000037f53780000006eea6e8000000dbd4dc0000001b3a9b600000035f53680000006aea6c8000000d3d4d80000001a3a9ae00000033f535800000066ea6a8000000cbd4d4000000193a9a600000031f534800000062ea688000000c3d4d00000001eba96a0000003cf52d000000078ea598000000efd4b20000001dba9620000003af52c000000074ea578000000e7d4ae0000001c7a95800000038752ac0000006fea550000000ddd4a90000001afa94c000000357529400000067ea510000000c9d49f00000018fa93c00000030f52700000007aea408000000f3d4800000001e3a8fe0000003bf51f800000076ea3e8000000ebd47c0000001d3a8f600000039f51e800000072ea3c8000000e3d4780000001c3a8ee00000037f51d80000006eea3a8000000dbd4740000001b3a8e600000035f51c80000006aea388000000d3d4700000001a3a8de00000033f51b800000066ea368000000cbd46c000000193a8d600000031f51a800000062ea348000000c3d4680000001eba89a0000003cf513000000078ea258000000efd44a0000001dba8920000003af512000000074ea238000000e7d4460000001cba88a00000038f511000000070ea218000000dfd4420000001bba88200000036f51000000006cea1f8000000d7d43e0000001aba87a00000034f50f000000068ea1d8000000cfd43a00000019ba87200000032f50e000000064ea1b8000000c7d43600000018ba86a00000030f50d00000007aea0c8000000f3d4180000001e3a82e0000003bf505800000076ea0a8000000ebd4140000001d3a82600000039f504800000072ea088000000e3d4100000001c3a81e00000037f50380000006eea068000000dbd40c0000001b3a81600000035f50280000006aea048000000d3d4080000001a3a80e00000033f501800000066ea028000000cbd404000000193a80600000031f500800000062ea008000000c3d4000000015b40ae8fb170000015d80afcfb160000015ac0ae8fb150000015940ae8fb140000015d80ae8fb130000001d000e6fb060000001d000e6fb050000001b000cc00667d820000000d2006600333ec0c0000006c00333ec080000006900333ec040000006600333ec0000000062003b8cf740000007600398cf700000007200380cf680000006d0038001c067b200000034001c067ae00000036801ac679c00000035801ac679a00000038001a067960000003c8019c67920000003100190679000000017001bc00c633c700000019c00d6221500318cf180000007100310cf0c000003c900368cf04000003c900358cf000000007700368cefc0000007700358cef80000007700368cef40000007701de0cef00000007700370ceec0000007700380cee80000007600368cee40000007600358cee00000007600368cedc0000007601de0ced80000007600370ced40000007600380ced00000006100380019c675800000030801c000da33ab00000018400e0006b19d50000000c2007019d48000000f40068003a0ce500000007a00340019c67260000003d001a000da33920000001e800d0006b19c88000000f4006819c80000000cc03bc19c60000000cc006e19c58000000cc007019c50000000c4006719c38000000c4006d19c30000000c4006b19c28000000c2006b19c20000000c2006d19c18000000c203bc19c10000000c2006e19c08000000c2007019c00000000ec006f19ba8000000ea006119b98000000c2007000340cdc40000006410a2800000780213f000000ecc427c00000036884cc0000006610988000000ca213000000018c425a00000031084b00000007a10940000000f421240000001b400e821220000001b000ca007410908000000da007310900000000e4211d0000001c84238000000390846c00000071108d0000000e021190000001bc00dc21160000001b8422a00000036084480000006910888000000d221100000001a0421a00000034084300000006810858000000cc00b010848000004b6210700000018c0160210300000018c420400000039801c84150000001dc80f243ff8000001dc80d0807921ff7000000d0807921ff6000000ee4079c1ff4000000ee407921ff3000000ee43ef81ff2000000d08061003c50ff380000068403c50ff300000062603c10ff2000000602030801e287f8c00000300018400f143fc4000001a100c2007721fd7000000d0807721fd6000000c04061003b90fe9800000600030801dc87f48000003b901db87f30000003b901a100edc3f8e000001a100edc3f8c000001dc80eb83f88000001dc80edc3f86000001dc87dd03f84000001dc87ef8000003b901d887ef0000003b901a100ec43f6e000001a100ec43f6c000001dc80eb03f68000001dc80ec43f66000001dc87dc03f64000001dc87d9c3f5e000001dc87d983f5c000001dc87d943f5a000001dc87d903f58000001dc87d8c3f56000001dc87d883f54000001dc87d843f52000001dc87d803f50000001dc87d9c3f4e000001dc87d983f4c000001dc87d943f4a000001dc87d903f48000001dc87d8c3f46000001dc87d883f44000001dc87d843f42000001dc87d803f40000001dc87c9c3f3e000001dc87c983f3c000001dc87c943f3a000001dc87c903f38000001dc87c8c3f36000001dc87c883f34000001dc87c843f32000001dc87c803f30000001dc87c9c3f2e000001dc87c983f2c000001dc87c943f2a000001dc87c903f28000001dc87c8c3f26000001dc87c883f24000001dc87c843f22000001dc87c803f20000001dc87c1c3f1e000001dc87c183f1c000001dc87c143f1a000001dc87c103f18000001dc87c0c3f16000001dc87c083f14000001dc87c043f12000001dc87c003f10000001dc87c1c3f0e000001dc87c183f0c000001dc87c143f0a000001dc87c103f08000001dc87c0c3f06000001dc87c083f04000001dc87c043f02000001dc87c003f00000001a100c4c078a1f56000000c04062603c50faa000000600031301e287d480000031301e287d4000001e610f4d80000057c00610f4d00000061400790f4c80000061400770f4c00000061000740f4b80000066200680f4b000000b04056502c380000076a03f5000000f0c07e4000001e080fc4000003ba01f800000078003d6000000f1807aa000001e580f50000003cd01e980000078a03d2000000ee007a2000001d900f40000003c301e1000000602030801e280ec000000301018400ee40720000001dc8008006f4000001dc80d140000030c0035007c00000007300bf8000000dc02bc00a480000060e006900980000000e60073006f80000077800b5++[J 120743 2294 (S "ψ" 2295),J 120744 2296 (S "ω" 2297),J 120763 2298 (S "σ" 2299)]
def oD(n:Nat):bp:=⟨.type "dict",ab,.dict (bx (pd.take n)) n,bx []⟩
def oS(j n:Nat):bp:=⟨.type "dict",ab,.dict (bx ((pd.drop (17*j)).take 17)) n,bx []⟩
abbrev Lf(o:bp):BT:=N o E E
abbrev Le(o:bp)(l:BT):BT:=N o l E
def tA(P:aT):=N (bV P) (N (dw P) (N (boot_o_3 P) (Lf (iP P)) (Lf ag)) (N (fC P) (Lf (gE P)) (Lf gN))) (N (cf P) (N (eX P) (Lf (hU P)) (Lf (gX 0))) (N (cg P) (Lf (ch P)) (Lf fF)))
def R5(P:aT):=N (bV P) (N (dw P) (N (o3 P 12 12 (S "cpy313._pylong" 187)) (N (iP P) (Lf ag) (Lf i0)) (N ag (Lf j0) (Lf ju))) (N (fC P) (N (gE P) (Lf jZ) (Lf ag)) (Le gN (Lf j2)))) (N (cf P) (N (eX P) (N (hU P) (Lf jY) (Lf js)) (N (gX 6) (Lf j1) (Lf jv))) (N (cg P) (N (ch P) (Lf ag) (Lf lu)) (Le fF (Lf ag))))
def R6(P:aT):=N (bV P) (N (dw P) (N (o3 P 14 14 (S "cpy313._pylong" 187)) (N (iP P) (Le ag (Lf kI)) (Le i0 (Lf jw))) (N ag (Le j0 (Lf kL)) (Lf ju))) (N (fC P) (N (gE P) (Le jZ (Lf kK)) (Le ag (Lf kN))) (N gN (Le j2 (Lf lB)) (Lf ag)))) (N (cf P) (N (eX P) (N (hU P) (Le jY (Lf kJ)) (Le js (Lf kM))) (N (gX 12) (Le j1 (Lf ag)) (Lf jv))) (N (cg P) (N (ch P) (Le ag (Lf ct)) (Le lu (Lf mE))) (N fF (Le ag (Lf lC)) (Lf j3))))
def R7(P:aT):=N (bV P) (N (dw P) (N (o3 P 17 17 (S "cpy313.doctest" 269)) (N (iP P) (N ag (Lf kI) (Lf lG)) (N i0 (Lf jw) (Lf j4))) (N ag (N j0 (Lf kL) (Lf lJ)) (Le ju (Lf ag)))) (N (fC P) (N (gE P) (N jZ (Lf kK) (Lf lI)) (Le ag (Lf kN))) (N gN (N j2 (Lf lB) (Lf ag)) (Le ag (Lf lE))))) (N (cf P) (N (eX P) (N (hU P) (N jY (Lf kJ) (Lf lH)) (N js (Lf kM) (Lf kO))) (N (gX 18) (N j1 (Lf ag) (Lf lK)) (Le jv (Lf lD)))) (N (cg P) (N (ch P) (N ag (Lf ct) (Lf ag)) (Le lu (Lf mE))) (N fF (N ag (Lf lC) (Lf lL)) (Le j3 (Lf ag)))))
def R8(P:aT):=N (bV P) (N (dw P) (N (o3 P 18 18 (S "cpy313.stringprep" 285)) (N (iP P) (N ag (Le kI (Lf mF)) (Lf lG)) (N i0 (Lf jw) (Lf j4))) (N ag (N j0 (Lf kL) (Lf lJ)) (N ju (Lf ag) (Lf lM)))) (N (fC P) (N (gE P) (N jZ (Lf kK) (Lf lI)) (N ag (Lf kN) (Lf ag))) (N gN (N j2 (Lf lB) (Lf ag)) (N ag (Lf lE) (Lf lN))))) (N (cf P) (N (eX P) (N (hU P) (N jY (Lf kJ) (Lf lH)) (N js (Lf kM) (Lf kO))) (N (gX 21) (N j1 (Lf ag) (Lf lK)) (N jv (Lf lD) (Lf ag)))) (N (cg P) (N (ch P) (N ag (Lf ct) (Lf ag)) (N lu (Lf mE) (Lf oX))) (N fF (N ag (Lf lC) (Lf lL)) (N j3 (Lf ag) (Lf lO)))))
def qd:=N lu (Le mE (Lf rh)) (Lf oX)
def R9(P:aT):=N (bV P) (N (dw P) (N (o3 P 19 19 (S "cpy313.stringprep" 285)) (N (iP P) (N ag (Le kI (Lf mF)) (Lf lG)) (N i0 (Le jw (Lf (jx P))) (Lf j4))) (N ag (N j0 (Le kL (Lf oY)) (Lf lJ)) (N ju (Lf ag) (Lf lM)))) (N (fC P) (N (gE P) (N jZ (Le kK (Lf nN)) (Lf lI)) (N ag (Le kN (Lf ag)) (Lf ag))) (N gN (N j2 (Le lB (Lf oZ)) (Lf ag)) (N ag (Lf lE) (Lf lN))))) (N (cf P) (N (eX P) (N (hU P) (N jY (Le kJ (Lf nM)) (Lf lH)) (N js (Le kM (Lf nO)) (Lf kO))) (N (gX 21) (N j1 (Le ag (Lf ag)) (Lf lK)) (N jv (Lf lD) (Lf ag)))) (N (cg P) (N (ch P) (N ag (Le ct (Lf cK)) (Lf ag)) qd) (N fF (N ag (Le lC (Lf o0)) (Lf lL)) (N j3 (Lf ag) (Lf lO)))))
def DF(P:aT):=N (iP P) (N ag (Le kI (Lf mF)) (Le lG (Lf o7))) (N i0 (Le jw (Lf (jx P))) (Lf j4))
def I0(P:aT):=N (gE P) (N jZ (Le kK (Lf nN)) (Le lI (Lf o9))) (N ag (Le kN (Lf ag)) (Lf ag))
def I2(P:aT):=N (fC P) (I0 P) (N gN (N j2 (Le lB (Lf oZ)) (Lf ag)) (N ag (Le lE (Lf o6)) (Lf lN)))
def Sa(P:aT):=N (dw P) (N (o3 P 20 20 (S "cpy313.stringprep" 285)) (DF P) (N ag (N j0 (Le kL (Lf oY)) (Lf lJ)) (N ju (Le ag (Lf ag)) (Lf lM)))) (I2 P)
def z3(P:aT):=N (hU P) (N jY (Le kJ (Lf nM)) (Le lH (Lf o8))) (N js (Le kM (Lf nO)) (Lf kO))
def I3(P:aT):=N (eX P) (z3 P) (N (gX 24) (N j1 (Le ag (Lf ag)) (Lf lK)) (N jv (Le lD (Lf o5)) (Lf ag)))
def z5:=N fF (N ag (Le lC (Lf o0)) (Lf lL)) (N j3 (Le ag (Lf ag)) (Lf lO))
def z6(P:aT):=N (bV P) (Sa P) (N (cf P) (I3 P) (N (cg P) (N (ch P) (N ag (Le ct (Lf cK)) (Lf ag)) qd) z5))
def I4:=N ag (N kI (Lf mF) (Lf (oS 13 17))) (N lG (Lf o7) (Lf (oS 29 17)))
def I5(P:aT):=N i0 (N jw (Lf (jx P)) (Lf (oS 21 17))) (N j4 (Lf (oS 5 17)) (Lf (oS 37 17)))
def z7:=N j0 (N kL (Lf oY) (Lf (oS 17 17))) (N lJ (Lf (oS 1 17)) (Lf (oS 33 17)))
def sG:=N ju (N ag (Lf ag) (Lf (oS 25 17))) (Le lM (Lf (oS 9 17)))
def DG:=N jZ (N kK (Lf nN) (Lf (oS 15 17))) (N lI (Lf o9) (Lf (oS 31 17)))
def ux:=N ag (N kN (Lf ag) (Lf (oS 23 17))) (Le ag (Lf (oS 7 17)))
def Sb:=N j2 (N lB (Lf oZ) (Lf (oS 19 17))) (N ag (Lf (oS 3 17)) (Lf (oS 35 17)))
def z8:=N ag (N lE (Lf o6) (Lf (oS 27 17))) (Le lN (Lf (oS 11 17)))
def I6(P:aT):=N (fC P) (N (gE P) DG ux) (N gN Sb z8)
def DH:=N jY (N kJ (Lf nM) (Lf (oS 14 17))) (N lH (Lf o8) (Lf (oS 30 17)))
def I7:=N js (N kM (Lf nO) (Lf (oS 22 17))) (N kO (Lf (oS 6 17)) (Lf (oS 38 4)))
def I8:=N j1 (N ag (Lf ag) (Lf (oS 18 17))) (N lK (Lf (oS 2 17)) (Lf (oS 34 17)))
def DI:=N jv (N lD (Lf o5) (Lf (oS 26 17))) (Le ag (Lf (oS 10 17)))
def Sc:=N ag (N ct (Lf cK) (Lf (oS 16 17))) (N ag (Lf (oD 650)) (Lf (oS 32 17)))
def kP:=N lu (N mE (Lf rh) (Lf (oS 24 17))) (Le oX (Lf (oS 8 17)))
def DJ:=N ag (N lC (Lf o0) (Lf (oS 20 17))) (N lL (Lf (oS 4 17)) (Lf (oS 36 17)))
def pe:=N j3 (N ag (Lf ag) (Lf (oS 28 17))) (Le lO (Lf (oS 12 17)))
def Sd(P:aT):=N (cf P) (N (eX P) (N (hU P) DH I7) (N (gX 24) I8 DI)) (N (cg P) (N (ch P) Sc kP) (N fF DJ pe))
def I9(P:aT):=N (bV P) (N (dw P) (N (o3 P 21 21 (S "cpy313.stringprep" 285)) (N (iP P) I4 (I5 P)) (N ag z7 sG)) (I6 P)) (Sd P)
def xc(P:aT):=N (iP P) (N ag (N kI (Le mF (Lf uu)) (Lf (oS 13 17))) (N lG (Lf o7) (Lf (oS 29 17)))) (I5 P)
def xd:=N ag z7 (N ju (N ag (Lf ag) (Lf (oS 25 17))) (N lM (Lf (oS 9 17)) (Lf uq)))
def Se:=N ag (N kN (Lf ag) (Lf (oS 23 17))) (N ag (Lf (oS 7 17)) (Lf ag))
def Sf:=N gN Sb (N ag (N lE (Lf o6) (Lf (oS 27 17))) (N lN (Lf (oS 11 17)) (Lf ur)))
def z9(P:aT):=N (fC P) (N (gE P) DG Se) Sf
def Sg:=N (gX 27) I8 (N jv (N lD (Lf o5) (Lf (oS 26 17))) (N ag (Lf (oS 10 17)) (Lf ag)))
def Sh:=N lu (N mE (Lf rh) (Lf (oS 24 17))) (N oX (Lf (oS 8 17)) (Lf uo))
def Si:=N fF DJ (N j3 (N ag (Lf ag) (Lf (oS 28 17))) (N lO (Lf (oS 12 17)) (Lf ut)))
def Aa(P:aT):=N (cf P) (N (eX P) (N (hU P) DH I7) Sg) (N (cg P) (N (ch P) Sc Sh) Si)
def Sj(P:aT):=N (bV P) (N (dw P) (N (o3 P 28 28 (S "cpy313.token" 2313)) (xc P) xd) (z9 P)) (Aa P)
def Sk(P:aT):=N (bV P) (N (dw P) (N (o3 P 39 39 (S "cpy313.token" 2313)) (xc P) xd) (z9 P)) (Aa P)
def Sl(P:aT):=N (bV P) (N (dw P) (N (o3 P 50 50 (S "cpy313.token" 2313)) (xc P) xd) (z9 P)) (Aa P)
def Sm(P:aT):=N (bV P) (N (dw P) (N (o3 P 61 61 (S "cpy313.token" 2313)) (xc P) xd) (z9 P)) (Aa P)
def Sn(P:aT):=N (bV P) (N (dw P) (N (o3 P 72 72 (S "cpy313.token" 2313)) (xc P) xd) (z9 P)) (Aa P)
def So(P:aT):=N (bV P) (N (dw P) (N (o3 P 73 73 (S "cpy313.token" 2313)) (xc P) xd) (N (fC P) (N (gE P) (N jZ (N kK (Le nN (Lf (uv P))) (Lf (oS 15 17))) (N lI (Lf o9) (Lf (oS 31 17)))) Se) Sf)) (N (cf P) (N (eX P) (N (hU P) (N jY (N kJ (Le nM (Lf (qc P))) (Lf (oS 14 17))) (N lH (Lf o8) (Lf (oS 30 17)))) I7) Sg) (N (cg P) (N (ch P) (N ag (N ct (Le cK (Lf (uw P))) (Lf (oS 16 17))) (N ag (Lf (oD 650)) (Lf (oS 32 17)))) Sh) Si))
def Sp(P:aT):=N (bV P) (N (dw P) (N (o3 P 76 76 (S "law_uc0059_02" 2533)) (N (iP P) (N ag (N kI (Le mF (Lf uu)) (Lf (oS 13 17))) (N lG (Le o7 (Lf wX)) (Lf (oS 29 17)))) (N i0 (N jw (Le (jx P) (Lf wW)) (Lf (oS 21 17))) (N j4 (Le (oS 5 17) (Lf w9)) (Lf (oS 37 17))))) (N ag (N j0 (N kL (Le oY (Lf ag)) (Lf (oS 17 17))) (N lJ (Le (oS 1 17) (Lf w0)) (Lf (oS 33 17)))) (N ju (N ag (Le ag (Lf zP)) (Lf (oS 25 17))) (N lM (Lf (oS 9 17)) (Lf uq))))) (N (fC P) (N (gE P) (N jZ (N kK (Le nN (Lf (uv P))) (Lf (oS 15 17))) (N lI (Le o9 (Lf ag)) (Lf (oS 31 17)))) (N ag (N kN (Le ag (Lf zO)) (Lf (oS 23 17))) (N ag (Lf (oS 7 17)) (Lf ag)))) (N gN (N j2 (N lB (Le oZ (Lf zM)) (Lf (oS 19 17))) (N ag (Le (oS 3 17) (Lf w5)) (Lf (oS 35 17)))) (N ag (N lE (Le o6 (Lf ag)) (Lf (oS 27 17))) (N lN (Lf (oS 11 17)) (Lf ur)))))) (N (cf P) (N (eX P) (N (hU P) (N jY (N kJ (Le nM (Lf (qc P))) (Lf (oS 14 17))) (N lH (Le o8 (Lf wY)) (Lf (oS 30 17)))) (N js (N kM (Le nO (Lf zN)) (Lf (oS 22 17))) (N kO (Lf (oS 6 17)) (Lf (oS 38 4))))) (N (gX 36) (N j1 (N ag (Le ag (Lf zL)) (Lf (oS 18 17))) (N lK (Le (oS 2 17) (Lf ag)) (Lf (oS 34 17)))) (N jv (N lD (Le o5 (Lf zQ)) (Lf (oS 26 17))) (N ag (Lf (oS 10 17)) (Lf ag))))) (N (cg P) (N (ch P) (N ag (N ct (Le cK (Lf (uw P))) (Lf (oS 16 17))) (N ag (Le (oD 650) (Lf wZ)) (Lf (oS 32 17)))) (N lu (N mE (Le rh (Lf ag)) (Lf (oS 24 17))) (N oX (Lf (oS 8 17)) (Lf uo)))) (N fF (N ag (N lC (Le o0 (Lf ag)) (Lf (oS 20 17))) (N lL (Le (oS 4 17) (Lf w8)) (Lf (oS 36 17)))) (N j3 (N ag (Le ag (Lf zR)) (Lf (oS 28 17))) (N lO (Lf (oS 12 17)) (Lf ut))))))
def Sq(P:aT):=N (bV P) (N (dw P) (N (o3 P 79 79 (S "law_uc0059_02" 2533)) (N (iP P) (N ag (N kI (Le mF (Lf uu)) (Le (oS 13 17) (Lf ag))) (N lG (Le o7 (Lf wX)) (Lf (oS 29 17)))) (N i0 (N jw (Le (jx P) (Lf wW)) (Le (oS 21 17) (Lf zZ))) (N j4 (Le (oS 5 17) (Lf w9)) (Lf (oS 37 17))))) (N ag (N j0 (N kL (Le oY (Lf ag)) (Le (oS 17 17) (Lf Dm))) (N lJ (Le (oS 1 17) (Lf w0)) (Lf (oS 33 17)))) (N ju (N ag (Le ag (Lf zP)) (Le (oS 25 17) (Lf Dq))) (N lM (Le (oS 9 17) (Lf ag)) (Lf uq))))) (N (fC P) (N (gE P) (N jZ (N kK (Le nN (Lf (uv P))) (Le (oS 15 17) (Lf zY))) (N lI (Le o9 (Lf ag)) (Lf (oS 31 17)))) (N ag (N kN (Le ag (Lf zO)) (Le (oS 23 17) (Lf ag))) (N ag (Le (oS 7 17) (Lf zS)) (Lf ag)))) (N gN (N j2 (N lB (Le oZ (Lf zM)) (Le (oS 19 17) (Lf Do))) (N ag (Le (oS 3 17) (Lf w5)) (Lf (oS 35 17)))) (N ag (N lE (Le o6 (Lf ag)) (Lf (oS 27 17))) (N lN (Le (oS 11 17) (Lf zV)) (Lf ur)))))) (N (cf P) (N (eX P) (N (hU P) (N jY (N kJ (Le nM (Lf (qc P))) (Le (oS 14 17) (Lf zX))) (N lH (Le o8 (Lf wY)) (Lf (oS 30 17)))) (N js (N kM (Le nO (Lf zN)) (Le (oS 22 17) (Lf ag))) (N kO (Le (oS 6 17) (Lf ag)) (Lf (oS 38 4))))) (N (gX 45) (N j1 (N ag (Le ag (Lf zL)) (Le (oS 18 17) (Lf Dn))) (N lK (Le (oS 2 17) (Lf ag)) (Lf (oS 34 17)))) (N jv (N lD (Le o5 (Lf zQ)) (Le (oS 26 17) (Lf Dr))) (N ag (Le (oS 10 17) (Lf zU)) (Lf ag))))) (N (cg P) (N (ch P) (N ag (N ct (Le cK (Lf (uw P))) (Le (oS 16 17) (Lf ag))) (N ag (Le (oD 650) (Lf wZ)) (Lf (oS 32 17)))) (N lu (N mE (Le rh (Lf ag)) (Le (oS 24 17) (Lf Dp))) (N oX (Le (oS 8 17) (Lf zT)) (Lf uo)))) (N fF (N ag (N lC (Le o0 (Lf ag)) (Le (oS 20 17) (Lf ag))) (N lL (Le (oS 4 17) (Lf w8)) (Lf (oS 36 17)))) (N j3 (N ag (Le ag (Lf zR)) (Lf (oS 28 17))) (N lO (Le (oS 12 17) (Lf zW)) (Lf ut))))))
def Sr(P:aT):=N (bV P) (N (dw P) (N (o3 P 82 82 (S "law_uc0059_02" 2533)) (N (iP P) (N ag (N kI (Le mF (Lf uu)) (Le (oS 13 17) (Lf ag))) (N lG (Le o7 (Lf wX)) (Le (oS 29 17) (Lf Ds)))) (N i0 (N jw (Le (jx P) (Lf wW)) (Le (oS 21 17) (Lf zZ))) (N j4 (Le (oS 5 17) (Lf w9)) (Le (oS 37 17) (Lf ag))))) (N ag (N j0 (N kL (Le oY (Lf ag)) (Le (oS 17 17) (Lf Dm))) (N lJ (Le (oS 1 17) (Lf w0)) (Le (oS 33 17) (Lf Dv)))) (N ju (N ag (Le ag (Lf zP)) (Le (oS 25 17) (Lf Dq))) (N lM (Le (oS 9 17) (Lf ag)) (Le uq (Lf DC)))))) (N (fC P) (N (gE P) (N jZ (N kK (Le nN (Lf (uv P))) (Le (oS 15 17) (Lf zY))) (N lI (Le o9 (Lf ag)) (Le (oS 31 17) (Lf Du)))) (N ag (N kN (Le ag (Lf zO)) (Le (oS 23 17) (Lf ag))) (N ag (Le (oS 7 17) (Lf zS)) (Le ag (Lf DB))))) (N gN (N j2 (N lB (Le oZ (Lf zM)) (Le (oS 19 17) (Lf Do))) (N ag (Le (oS 3 17) (Lf w5)) (Le (oS 35 17) (Lf Dy)))) (N ag (N lE (Le o6 (Lf ag)) (Le (oS 27 17) (Lf ag))) (N lN (Le (oS 11 17) (Lf zV)) (Le ur (Lf DE))))))) (N (cf P) (N (eX P) (N (hU P) (N jY (N kJ (Le nM (Lf (qc P))) (Le (oS 14 17) (Lf zX))) (N lH (Le o8 (Lf wY)) (Le (oS 30 17) (Lf Dt)))) (N js (N kM (Le nO (Lf zN)) (Le (oS 22 17) (Lf ag))) (N kO (Le (oS 6 17) (Lf ag)) (Le (oS 38 4) (Lf DA))))) (N (gX 54) (N j1 (N ag (Le ag (Lf zL)) (Le (oS 18 17) (Lf Dn))) (N lK (Le (oS 2 17) (Lf ag)) (Le (oS 34 17) (Lf Dx)))) (N jv (N lD (Le o5 (Lf zQ)) (Le (oS 26 17) (Lf Dr))) (N ag (Le (oS 10 17) (Lf zU)) (Le ag (Lf DD)))))) (N (cg P) (N (ch P) (N ag (N ct (Le cK (Lf (uw P))) (Le (oS 16 17) (Lf ag))) (N ag (Le (oD 650) (Lf wZ)) (Le (oS 32 17) (Lf ag)))) (N lu (N mE (Le rh (Lf ag)) (Le (oS 24 17) (Lf Dp))) (N oX (Le (oS 8 17) (Lf zT)) (Le uo (Lf ag))))) (N fF (N ag (N lC (Le o0 (Lf ag)) (Le (oS 20 17) (Lf ag))) (N lL (Le (oS 4 17) (Lf w8)) (Le (oS 36 17) (Lf Dz)))) (N j3 (N ag (Le ag (Lf zR)) (Le (oS 28 17) (Lf IV))) (N lO (Le (oS 12 17) (Lf zW)) (Lf ut))))))
def Ss:=N kL (N oY (Lf ag) (Lf RG)) (Le (oS 17 17) (Lf Dm))
def Su:=N ag (N ag (Lf zP) (Lf RL)) (Le (oS 25 17) (Lf Dq))
def Sv:=N kN (N ag (Lf zO) (Lf RK)) (Le (oS 23 17) (Lf ag))
def Sw:=N lB (N oZ (Lf zM) (Lf ag)) (Le (oS 19 17) (Lf Do))
def Sx:=N lE (N o6 (Lf ag) (Lf RN)) (Le (oS 27 17) (Lf ag))
def Sy:=N kM (N nO (Lf zN) (Lf RJ)) (Le (oS 22 17) (Lf ag))
def Sz:=N ag (N ag (Lf zL) (Lf RH)) (Le (oS 18 17) (Lf Dn))
def SA:=N lD (N o5 (Lf zQ) (Lf RM)) (Le (oS 26 17) (Lf Dr))
def SD:=N mE (N rh (Lf ag) (Lf ag)) (Le (oS 24 17) (Lf Dp))
def SF:=N lC (N o0 (Lf ag) (Lf RI)) (Le (oS 20 17) (Lf ag))
def SG:=N ag (N ag (Lf zR) (Lf RO)) (Le (oS 28 17) (Lf IV))
def SH(P:aT):=N (bV P) (N (dw P) (N (o3 P 85 85 (S "law_uc0059_02" 2533)) (N (iP P) (N ag (N kI (N mF (Lf uu) (Lf IW)) (Le (oS 13 17) (Lf ag))) (N lG (Le o7 (Lf wX)) (Le (oS 29 17) (Lf Ds)))) (N i0 (N jw (N (jx P) (Lf wW) (Lf IZ)) (Le (oS 21 17) (Lf zZ))) (N j4 (Le (oS 5 17) (Lf w9)) (Le (oS 37 17) (Lf ag))))) (N ag (N j0 Ss (N lJ (Le (oS 1 17) (Lf w0)) (Le (oS 33 17) (Lf Dv)))) (N ju Su (N lM (Le (oS 9 17) (Lf ag)) (Le uq (Lf DC)))))) (N (fC P) (N (gE P) (N jZ (N kK (N nN (Lf (uv P)) (Lf ag)) (Le (oS 15 17) (Lf zY))) (N lI (Le o9 (Lf ag)) (Le (oS 31 17) (Lf Du)))) (N ag Sv (N ag (Le (oS 7 17) (Lf zS)) (Le ag (Lf DB))))) (N gN (N j2 Sw (N ag (Le (oS 3 17) (Lf w5)) (Le (oS 35 17) (Lf Dy)))) (N ag Sx (N lN (Le (oS 11 17) (Lf zV)) (Le ur (Lf DE))))))) (N (cf P) (N (eX P) (N (hU P) (N jY (N kJ (N nM (Lf (qc P)) (Lf IX)) (Le (oS 14 17) (Lf zX))) (N lH (Le o8 (Lf wY)) (Le (oS 30 17) (Lf Dt)))) (N js Sy (N kO (Le (oS 6 17) (Lf ag)) (Le (oS 38 4) (Lf DA))))) (N (gX 63) (N j1 Sz (N lK (Le (oS 2 17) (Lf ag)) (Le (oS 34 17) (Lf Dx)))) (N jv SA (N ag (Le (oS 10 17) (Lf zU)) (Le ag (Lf DD)))))) (N (cg P) (N (ch P) (N ag (N ct (N cK (Lf (uw P)) (Lf IY)) (Le (oS 16 17) (Lf ag))) (N ag (Le (oD 650) (Lf wZ)) (Le (oS 32 17) (Lf ag)))) (N lu SD (N oX (Le (oS 8 17) (Lf zT)) (Le uo (Lf ag))))) (N fF (N ag SF (N lL (Le (oS 4 17) (Lf w8)) (Le (oS 36 17) (Lf Dz)))) (N j3 SG (N lO (Le (oS 12 17) (Lf zW)) (Le ut (Lf ag)))))))
def DK(P:aT):=N (bV P) (N (dw P) (N (o3 P 88 88 (S "law_uc0059_02" 2533)) (N (iP P) (N ag (N kI (N mF (Lf uu) (Lf IW)) (N (oS 13 17) (Lf ag) (Lf R1))) (N lG (N o7 (Lf wX) (Lf ag)) (Le (oS 29 17) (Lf Ds)))) (N i0 (N jw (N (jx P) (Lf wW) (Lf IZ)) (Le (oS 21 17) (Lf zZ))) (N j4 (N (oS 5 17) (Lf w9) (Lf RV)) (Le (oS 37 17) (Lf ag))))) (N ag (N j0 Ss (N lJ (N (oS 1 17) (Lf w0) (Lf RS)) (Le (oS 33 17) (Lf Dv)))) (N ju Su (N lM (N (oS 9 17) (Lf ag) (Lf RY)) (Le uq (Lf DC)))))) (N (fC P) (N (gE P) (N jZ (N kK (N nN (Lf (uv P)) (Lf ag)) (N (oS 15 17) (Lf zY) (Lf R4))) (N lI (N o9 (Lf ag) (Lf RQ)) (Le (oS 31 17) (Lf Du)))) (N ag Sv (N ag (N (oS 7 17) (Lf zS) (Lf ag)) (Le ag (Lf DB))))) (N gN (N j2 Sw (N ag (N (oS 3 17) (Lf w5) (Lf RU)) (Le (oS 35 17) (Lf Dy)))) (N ag Sx (N lN (N (oS 11 17) (Lf zV) (Lf ag)) (Le ur (Lf DE))))))) (N (cf P) (N (eX P) (N (hU P) (N jY (N kJ (N nM (Lf (qc P)) (Lf IX)) (N (oS 14 17) (Lf zX) (Lf R3))) (N lH (N o8 (Lf wY) (Lf RP)) (Le (oS 30 17) (Lf Dt)))) (N js Sy (N kO (N (oS 6 17) (Lf ag) (Lf RW)) (Le (oS 38 4) (Lf DA))))) (N (gX 72) (N j1 Sz (N lK (N (oS 2 17) (Lf ag) (Lf RT)) (Le (oS 34 17) (Lf Dx)))) (N jv SA (N ag (N (oS 10 17) (Lf zU) (Lf RZ)) (Le ag (Lf DD)))))) (N (cg P) (N (ch P) (N ag (N ct (N cK (Lf (uw P)) (Lf IY)) (Le (oS 16 17) (Lf ag))) (N ag (N (oD 650) (Lf wZ) (Lf ag)) (Le (oS 32 17) (Lf ag)))) (N lu SD (N oX (N (oS 8 17) (Lf zT) (Lf RX)) (Le uo (Lf ag))))) (N fF (N ag SF (N lL (N (oS 4 17) (Lf w8) (Lf ag)) (Le (oS 36 17) (Lf Dz)))) (N j3 SG (N lO (N (oS 12 17) (Lf zW) (Lf R0)) (Le ut (Lf ag)))))))
def SJ(P:aT):=N (bV P) (Sa P) (N (cf P) (I3 P) (N (cg P) (N (ch P) (N ag (Le ct (Lf cK)) (Le ag (Lf (oD 17)))) qd) z5))
def Ab:=N ag (N j0 (Le kL (Lf oY)) (Le lJ (Lf (oS 1 17)))) (N ju (Le ag (Lf ag)) (Lf lM))
def SK(P:aT):=N (bV P) (N (dw P) (N (o3 P 20 20 (S "cpy313.stringprep" 285)) (DF P) Ab) (I2 P)) (N (cf P) (I3 P) (N (cg P) (N (ch P) (N ag (Le ct (Lf cK)) (Le ag (Lf (oD 34)))) qd) z5))
def sH:=N (gX 24) (N j1 (Le ag (Lf ag)) (Le lK (Lf (oS 2 17)))) (N jv (Le lD (Lf o5)) (Lf ag))
def SL(P:aT):=N (bV P) (N (dw P) (N (o3 P 20 20 (S "cpy313.stringprep" 285)) (DF P) Ab) (I2 P)) (N (cf P) (N (eX P) (z3 P) sH) (N (cg P) (N (ch P) (N ag (Le ct (Lf cK)) (Le ag (Lf (oD 51)))) qd) z5))
def DL:=N gN (N j2 (Le lB (Lf oZ)) (Le ag (Lf (oS 3 17)))) (N ag (Le lE (Lf o6)) (Lf lN))
def SM(P:aT):=N (dw P) (N (o3 P 20 20 (S "cpy313.stringprep" 285)) (DF P) Ab) (N (fC P) (I0 P) DL)
def SN(P:aT):=N (bV P) (SM P) (N (cf P) (N (eX P) (z3 P) sH) (N (cg P) (N (ch P) (N ag (Le ct (Lf cK)) (Le ag (Lf (oD 68)))) qd) z5))
def sI:=N fF (N ag (Le lC (Lf o0)) (Le lL (Lf (oS 4 17)))) (N j3 (Le ag (Lf ag)) (Lf lO))
def SO(P:aT):=N (bV P) (SM P) (N (cf P) (N (eX P) (z3 P) sH) (N (cg P) (N (ch P) (N ag (Le ct (Lf cK)) (Le ag (Lf (oD 85)))) qd) sI))
def DM(P:aT):=N (iP P) (N ag (Le kI (Lf mF)) (Le lG (Lf o7))) (N i0 (Le jw (Lf (jx P))) (Le j4 (Lf (oS 5 17))))
def SP(P:aT):=N (dw P) (N (o3 P 20 20 (S "cpy313.stringprep" 285)) (DM P) Ab) (N (fC P) (I0 P) DL)
def SQ(P:aT):=N (bV P) (SP P) (N (cf P) (N (eX P) (z3 P) sH) (N (cg P) (N (ch P) (N ag (Le ct (Lf cK)) (Le ag (Lf (oD 102)))) qd) sI))
def sJ(P:aT):=N (hU P) (N jY (Le kJ (Lf nM)) (Le lH (Lf o8))) (N js (Le kM (Lf nO)) (Le kO (Lf (oS 6 17))))
def SS(P:aT):=N (bV P) (SP P) (N (cf P) (N (eX P) (sJ P) sH) (N (cg P) (N (ch P) (N ag (Le ct (Lf cK)) (Le ag (Lf (oD 119)))) qd) sI))
def Ac(P:aT):=N (gE P) (N jZ (Le kK (Lf nN)) (Le lI (Lf o9))) (N ag (Le kN (Lf ag)) (Le ag (Lf (oS 7 17))))
def SU(P:aT):=N (dw P) (N (o3 P 20 20 (S "cpy313.stringprep" 285)) (DM P) Ab) (N (fC P) (Ac P) DL)
def SV(P:aT):=N (bV P) (SU P) (N (cf P) (N (eX P) (sJ P) sH) (N (cg P) (N (ch P) (N ag (Le ct (Lf cK)) (Le ag (Lf (oD 136)))) qd) sI))
def j5:=N lu (Le mE (Lf rh)) (Le oX (Lf (oS 8 17)))
def SW(P:aT):=N (bV P) (SU P) (N (cf P) (N (eX P) (sJ P) sH) (N (cg P) (N (ch P) (N ag (Le ct (Lf cK)) (Le ag (Lf (oD 153)))) j5) sI))
def Ja:=N ag (N j0 (Le kL (Lf oY)) (Le lJ (Lf (oS 1 17)))) (N ju (Le ag (Lf ag)) (Le lM (Lf (oS 9 17))))
def SX(P:aT):=N (dw P) (N (o3 P 20 20 (S "cpy313.stringprep" 285)) (DM P) Ja) (N (fC P) (Ac P) DL)
def SY(P:aT):=N (bV P) (SX P) (N (cf P) (N (eX P) (sJ P) sH) (N (cg P) (N (ch P) (N ag (Le ct (Lf cK)) (Le ag (Lf (oD 170)))) j5) sI))
def Ad:=N (gX 24) (N j1 (Le ag (Lf ag)) (Le lK (Lf (oS 2 17)))) (N jv (Le lD (Lf o5)) (Le ag (Lf (oS 10 17))))
def SZ(P:aT):=N (bV P) (SX P) (N (cf P) (N (eX P) (sJ P) Ad) (N (cg P) (N (ch P) (N ag (Le ct (Lf cK)) (Le ag (Lf (oD 187)))) j5) sI))
def DN:=N gN (N j2 (Le lB (Lf oZ)) (Le ag (Lf (oS 3 17)))) (N ag (Le lE (Lf o6)) (Le lN (Lf (oS 11 17))))
def S0(P:aT):=N (dw P) (N (o3 P 20 20 (S "cpy313.stringprep" 285)) (DM P) Ja) (N (fC P) (Ac P) DN)
def S1(P:aT):=N (bV P) (S0 P) (N (cf P) (N (eX P) (sJ P) Ad) (N (cg P) (N (ch P) (N ag (Le ct (Lf cK)) (Le ag (Lf (oD 204)))) j5) sI))
def sK:=N fF (N ag (Le lC (Lf o0)) (Le lL (Lf (oS 4 17)))) (N j3 (Le ag (Lf ag)) (Le lO (Lf (oS 12 17))))
def S4(P:aT):=N (bV P) (S0 P) (N (cf P) (N (eX P) (sJ P) Ad) (N (cg P) (N (ch P) (N ag (Le ct (Lf cK)) (Le ag (Lf (oD 221)))) j5) sK))
def Jb:=N ag (N kI (Lf mF) (Lf (oS 13 17))) (Le lG (Lf o7))
def DO(P:aT):=N (o3 P 20 20 (S "cpy313.stringprep" 285)) (N (iP P) Jb (N i0 (Le jw (Lf (jx P))) (Le j4 (Lf (oS 5 17))))) Ja
def S5(P:aT):=N (bV P) (N (dw P) (DO P) (N (fC P) (Ac P) DN)) (N (cf P) (N (eX P) (sJ P) Ad) (N (cg P) (N (ch P) (N ag (Le ct (Lf cK)) (Le ag (Lf (oD 238)))) j5) sK))
def DP:=N jY (N kJ (Lf nM) (Lf (oS 14 17))) (Le lH (Lf o8))
def DQ(P:aT):=N (eX P) (N (hU P) DP (N js (Le kM (Lf nO)) (Le kO (Lf (oS 6 17))))) Ad
def S6(P:aT):=N (bV P) (N (dw P) (DO P) (N (fC P) (Ac P) DN)) (N (cf P) (DQ P) (N (cg P) (N (ch P) (N ag (Le ct (Lf cK)) (Le ag (Lf (oD 255)))) j5) sK))
def xe:=N jZ (N kK (Lf nN) (Lf (oS 15 17))) (Le lI (Lf o9))
def DR(P:aT):=N (fC P) (N (gE P) xe (N ag (Le kN (Lf ag)) (Le ag (Lf (oS 7 17))))) DN
def S7(P:aT):=N (bV P) (N (dw P) (DO P) (DR P)) (N (cf P) (DQ P) (N (cg P) (N (ch P) (N ag (Le ct (Lf cK)) (Le ag (Lf (oD 272)))) j5) sK))
def S8(P:aT):=N (bV P) (N (dw P) (DO P) (DR P)) (N (cf P) (DQ P) (N (cg P) (N (ch P) (N ag (N ct (Lf cK) (Lf (oS 16 17))) (Le ag (Lf (oD 289)))) j5) sK))
def Ae:=N j0 (N kL (Lf oY) (Lf (oS 17 17))) (Le lJ (Lf (oS 1 17)))
def DS:=N ag Ae (N ju (Le ag (Lf ag)) (Le lM (Lf (oS 9 17))))
def DT(P:aT):=N (o3 P 20 20 (S "cpy313.stringprep" 285)) (N (iP P) Jb (N i0 (Le jw (Lf (jx P))) (Le j4 (Lf (oS 5 17))))) DS
def S9(P:aT):=N (bV P) (N (dw P) (DT P) (DR P)) (N (cf P) (DQ P) (N (cg P) (N (ch P) (N ag (N ct (Lf cK) (Lf (oS 16 17))) (Le ag (Lf (oD 306)))) j5) sK))
def Jc:=N j1 (N ag (Lf ag) (Lf (oS 18 17))) (Le lK (Lf (oS 2 17)))
def Ta:=N (gX 24) Jc (N jv (Le lD (Lf o5)) (Le ag (Lf (oS 10 17))))
def DU(P:aT):=N (eX P) (N (hU P) DP (N js (Le kM (Lf nO)) (Le kO (Lf (oS 6 17))))) Ta
def Tc(P:aT):=N (bV P) (N (dw P) (DT P) (DR P)) (N (cf P) (DU P) (N (cg P) (N (ch P) (N ag (N ct (Lf cK) (Lf (oS 16 17))) (Le ag (Lf (oD 323)))) j5) sK))
def Af:=N j2 (N lB (Lf oZ) (Lf (oS 19 17))) (Le ag (Lf (oS 3 17)))
def Jd:=N gN Af (N ag (Le lE (Lf o6)) (Le lN (Lf (oS 11 17))))
def DV(P:aT):=N (fC P) (N (gE P) xe (N ag (Le kN (Lf ag)) (Le ag (Lf (oS 7 17))))) Jd
def Td(P:aT):=N (bV P) (N (dw P) (DT P) (DV P)) (N (cf P) (DU P) (N (cg P) (N (ch P) (N ag (N ct (Lf cK) (Lf (oS 16 17))) (Le ag (Lf (oD 340)))) j5) sK))
def ri:=N ag (N lC (Lf o0) (Lf (oS 20 17))) (Le lL (Lf (oS 4 17)))
def sL:=N fF ri (N j3 (Le ag (Lf ag)) (Le lO (Lf (oS 12 17))))
def Te(P:aT):=N (bV P) (N (dw P) (DT P) (DV P)) (N (cf P) (DU P) (N (cg P) (N (ch P) (N ag (N ct (Lf cK) (Lf (oS 16 17))) (Le ag (Lf (oD 357)))) j5) sL))
def Ag(P:aT):=N (iP P) Jb (N i0 (N jw (Lf (jx P)) (Lf (oS 21 17))) (Le j4 (Lf (oS 5 17))))
def Tf(P:aT):=N (bV P) (N (dw P) (N (o3 P 20 20 (S "cpy313.stringprep" 285)) (Ag P) DS) (DV P)) (N (cf P) (DU P) (N (cg P) (N (ch P) (N ag (N ct (Lf cK) (Lf (oS 16 17))) (Le ag (Lf (oD 374)))) j5) sL))
def DW:=N js (N kM (Lf nO) (Lf (oS 22 17))) (Le kO (Lf (oS 6 17)))
def DX(P:aT):=N (eX P) (N (hU P) DP DW) Ta
def Tg(P:aT):=N (bV P) (N (dw P) (N (o3 P 20 20 (S "cpy313.stringprep" 285)) (Ag P) DS) (DV P)) (N (cf P) (DX P) (N (cg P) (N (ch P) (N ag (N ct (Lf cK) (Lf (oS 16 17))) (Le ag (Lf (oD 391)))) j5) sL))
def Th(P:aT):=N (dw P) (N (o3 P 20 20 (S "cpy313.stringprep" 285)) (Ag P) DS) (N (fC P) (N (gE P) xe ux) Jd)
def Ti(P:aT):=N (bV P) (Th P) (N (cf P) (DX P) (N (cg P) (N (ch P) (N ag (N ct (Lf cK) (Lf (oS 16 17))) (Le ag (Lf (oD 408)))) j5) sL))
def Tj(P:aT):=N (bV P) (Th P) (N (cf P) (DX P) (N (cg P) (N (ch P) (N ag (N ct (Lf cK) (Lf (oS 16 17))) (Le ag (Lf (oD 425)))) kP) sL))
def Tk(P:aT):=N (dw P) (N (o3 P 20 20 (S "cpy313.stringprep" 285)) (Ag P) (N ag Ae sG)) (N (fC P) (N (gE P) xe ux) Jd)
def Tl(P:aT):=N (bV P) (Tk P) (N (cf P) (DX P) (N (cg P) (N (ch P) (N ag (N ct (Lf cK) (Lf (oS 16 17))) (Le ag (Lf (oD 442)))) kP) sL))
def DY(P:aT):=N (eX P) (N (hU P) DP DW) (N (gX 24) Jc DI)
def Tm(P:aT):=N (bV P) (Tk P) (N (cf P) (DY P) (N (cg P) (N (ch P) (N ag (N ct (Lf cK) (Lf (oS 16 17))) (Le ag (Lf (oD 459)))) kP) sL))
def Tn(P:aT):=N (dw P) (N (o3 P 20 20 (S "cpy313.stringprep" 285)) (Ag P) (N ag Ae sG)) (N (fC P) (N (gE P) xe ux) (N gN Af z8))
def To(P:aT):=N (bV P) (Tn P) (N (cf P) (DY P) (N (cg P) (N (ch P) (N ag (N ct (Lf cK) (Lf (oS 16 17))) (Le ag (Lf (oD 476)))) kP) sL))
def Tp(P:aT):=N (bV P) (Tn P) (N (cf P) (DY P) (N (cg P) (N (ch P) (N ag (N ct (Lf cK) (Lf (oS 16 17))) (Le ag (Lf (oD 493)))) kP) (N fF ri pe)))
def DZ(P:aT):=N (iP P) I4 (N i0 (N jw (Lf (jx P)) (Lf (oS 21 17))) (Le j4 (Lf (oS 5 17))))
def Tq(P:aT):=N (dw P) (N (o3 P 20 20 (S "cpy313.stringprep" 285)) (DZ P) (N ag Ae sG)) (N (fC P) (N (gE P) xe ux) (N gN Af z8))
def Ts(P:aT):=N (bV P) (Tq P) (N (cf P) (DY P) (N (cg P) (N (ch P) (N ag (N ct (Lf cK) (Lf (oS 16 17))) (Le ag (Lf (oD 510)))) kP) (N fF ri pe)))
def D0(P:aT):=N (eX P) (N (hU P) DH DW) (N (gX 24) Jc DI)
def Tt(P:aT):=N (bV P) (Tq P) (N (cf P) (D0 P) (N (cg P) (N (ch P) (N ag (N ct (Lf cK) (Lf (oS 16 17))) (Le ag (Lf (oD 527)))) kP) (N fF ri pe)))
def Tu(P:aT):=N (dw P) (N (o3 P 20 20 (S "cpy313.stringprep" 285)) (DZ P) (N ag Ae sG)) (N (fC P) (N (gE P) DG ux) (N gN Af z8))
def Tv(P:aT):=N (bV P) (Tu P) (N (cf P) (D0 P) (N (cg P) (N (ch P) (N ag (N ct (Lf cK) (Lf (oS 16 17))) (Le ag (Lf (oD 544)))) kP) (N fF ri pe)))
def Tw(P:aT):=N (bV P) (Tu P) (N (cf P) (D0 P) (N (cg P) (N (ch P) (N ag (N ct (Lf cK) (Lf (oS 16 17))) (N ag (Lf (oD 561)) (Lf (oS 32 17)))) kP) (N fF ri pe)))
def Tx(P:aT):=N (dw P) (N (o3 P 20 20 (S "cpy313.stringprep" 285)) (DZ P) (N ag z7 sG)) (N (fC P) (N (gE P) DG ux) (N gN Af z8))
def Tz(P:aT):=N (bV P) (Tx P) (N (cf P) (D0 P) (N (cg P) (N (ch P) (N ag (N ct (Lf cK) (Lf (oS 16 17))) (N ag (Lf (oD 578)) (Lf (oS 32 17)))) kP) (N fF ri pe)))
def D1(P:aT):=N (eX P) (N (hU P) DH DW) (N (gX 24) I8 DI)
def TA(P:aT):=N (bV P) (Tx P) (N (cf P) (D1 P) (N (cg P) (N (ch P) (N ag (N ct (Lf cK) (Lf (oS 16 17))) (N ag (Lf (oD 595)) (Lf (oS 32 17)))) kP) (N fF ri pe)))
def TC(P:aT):=N (dw P) (N (o3 P 20 20 (S "cpy313.stringprep" 285)) (DZ P) (N ag z7 sG)) (I6 P)
def TD(P:aT):=N (bV P) (TC P) (N (cf P) (D1 P) (N (cg P) (N (ch P) (N ag (N ct (Lf cK) (Lf (oS 16 17))) (N ag (Lf (oD 612)) (Lf (oS 32 17)))) kP) (N fF ri pe)))
def TE(P:aT):=N (bV P) (TC P) (N (cf P) (D1 P) (N (cg P) (N (ch P) (N ag (N ct (Lf cK) (Lf (oS 16 17))) (N ag (Lf (oD 629)) (Lf (oS 32 17)))) kP) (N fF DJ pe)))
def TF(P:aT):=N (dw P) (N (o3 P 20 20 (S "cpy313.stringprep" 285)) (N (iP P) I4 (I5 P)) (N ag z7 sG)) (I6 P)
def Je(P:aT):=N (bV P) (TF P) (N (cf P) (D1 P) (N (cg P) (N (ch P) (N ag (N ct (Lf cK) (Lf (oS 16 17))) (N ag (Lf (oD 646)) (Lf (oS 32 17)))) kP) (N fF DJ pe)))
def Jf(P:aT):=N (bV P) (TF P) (Sd P)
def rj:aY:=match bN 14 with| .Assign _ (.Dict _ _ dp) _=>dp|_=>default
def TG:aY:=match bN 14 with| .Assign _ _ p=>p|_=>default
def TH:List au:=match bN 14 with| .Assign ts _ _=>ts|_=>[]
def Qeh:au:=match bN 14 with| .Assign _ v _=>v|_=>default
def cW:List ik:=match bN 14 with
 | .Assign _ (.Dict ks vs dp) _=>(evalEach (ks.filterMap id) jX).zip ((evalEach vs jX).map λv=>do let x<-v;qw dp;pure x)
 |_=>[]
def Jg(v:aq):cL kW:=do assignStores jX v (<-Wv TH Qeh jX) ((A0 TH jX).map (·.2))
abbrev chk(w:d9)(os:vy)(j:Nat)(m:Option aj)(T:BT)(k toks:Nat)(T':BT)(k' Mo:Nat):Prop:=pz ot pw w 11 (aa (.ref 6)) 1 1000 (jq T k toks os) (wV (im ((cW.drop (17*j)).take 17) m) cE rj kH)=aa (.ret (.ref 82),jq T' k' Mo os,cE,rj)
noncomputable def uy(a b:Int):Bool:=match a with
 | .ofNat x=>match b with| .ofNat y=>gj x y| .negSucc _=>ae
 | .negSucc x=>match b with| .ofNat _=>ae| .negSucc y=>gj x y
variable (w:d9)(os:vy)
theorem Qei(a b:Int):uy a b=(a==b):=by cases a<;>cases b<;>dsimp only[uy,BT.beq_eq]<;>rw[iu]<;>simp<;>lia
noncomputable def qe(h:Int):List eB->Nat->List Nat
 |[],_=>[]
 |e::r,i=>match uy e.hash h with
  |true=>i::qe h r (kU i)
  |false=>qe h r (kU i)
theorem Qej(es:Array eB)(h:Int):Fh es.size (λi=>es[i]?.map (·.hash)) h=qe h es.toList 0:=by
 refine(?_:(∀(l:List eB)(n:Nat),qe h l n=(vf n l.length).filter λi=>(l[i-n]?.map (·.hash))==aa h)->_) (by
  intro l;induction l with
  |nil=>intro n;rfl
  |cons e r C=>
   intro n;simp only[eK,QkX,yi];refine(?_:((vf (n+1) r.length).filter (λi=>((e::r)[i-n]?.map (·.hash))==aa h)=qe h r (n+1))->_) (by refine af (C<|n+1) ?_;refine Qly λi B=>?_;rw[List.mem_range']at B;obtain⟨j,_,rfl⟩:=B;simp only[show n+1+1*j-n=(n+1+1*j-(n+1))+1 from ig 0x5432400d32090c90150034c824324014225d04528228224528a0895400d32090c900508974114a08a24528a0822560c92c32400d32090c900b0034c8243240 Yt,dD]);intro D;refine af D ?_;simp only[Nat.sub_self,dq,b7];show(match uy e.hash h with|true=>n::qe h r (n+1)|false=>qe h r<|n+1)=_
   simp only[Qei];cases q:e.hash==h with
   |true=>rw[ar (by exact q)]
   |false=>rw[av (by simpa using q)])
 intro A;refine af (A es.toList 0) ?_;unfold Fh;simp only[List.range_eq_range', <-Array.length_toList];refine Qly λi _=>?_;simp only[Nat.sub_zero,V4]
noncomputable def Jh(a b:Int):Bool:=@Int.rec (λ_=>Bool) (λx=>@Int.rec (λ_=>Bool) (λy=>gj x y) (λ_=>ae) b) (λx=>@Int.rec (λ_=>Bool) (λ_=>ae) (λy=>gj x y) b) a
theorem Qek(a b:Int):Jh a b=uy a b:=by cases a<;>cases b<;>rfl
def Ah(h:Int)(l:List eB):Nat->List Nat:=@KA eB (λ_=>Nat->List Nat) (λ_=>[]) (λe _ ih i=>@gu (λ_=>List Nat) (ih (kU i)) (i::ih (kU i)) (Jh (@DictEntry.rec (λ_=>Int) (λh _ _=>h) e) h)) l
theorem Qel(h:Int):∀(l:List eB)(i:Nat),qe h l i=Ah h l i:=by
 intro A;induction A with
 |nil=>intro _;exact rfl
 |cons e r B=>
  intro i;show(match uy e.hash h with|true=>i::qe h r (kU i)|false=>qe h r<|kU i)=@gu (λ_=>List Nat) (Ah h r<|kU i) (i::Ah h r (kU i)) (Jh e.hash h)
  rw[Qek,B];cases uy e.hash h<;>rfl
theorem Qem(es:Array eB)(h:Int):Fh es.size (λi=>es[i]?.map (·.hash)) h=Ah h es.toList 0:=by simp only[Qej,Qel]
noncomputable def Ji(x:eB)(l:List eB):List eB:=@KA eB (λ_=>List eB) [x] (λe _ ih=>e::ih) l
theorem Qen(x:eB):∀l:List eB,l++[x]=Ji x l:=by
 intro A;induction A with
 |nil=>exact rfl
 |cons e r B=>exact by show e::(r++[x])=e::Ji x r;exact af (B) rfl
def TI(es:Array eB)(x:eB):Array eB:=bx (Ji x es.toList)
theorem Qeo:@Array.push eB=TI:=by funext es x;unfold TI;rw[<-Qen];exact AQ.mp<|by rw[Array.toList_push]
noncomputable def TJ(es:Array eB)(h:Int):List Nat:=Fh es.size (λi=>es[i]?.map (·.hash)) h
theorem Qep(es:Array eB)(h:Int):Fh es.size (λi=>es[i]?.map (·.hash)) h=TJ es h:=rfl
def plQ(es:Array eB)(h:Int):List Nat:=Ah h es.toList 0
theorem Qer:TJ=plQ:=funext λes=>funext λh=>Qem es h
noncomputable def TK(d:aj)(key:aq)(h:Int):{x:cL (Option Nat)//dictFind d key h=x}:=by
 refine⟨?_,?_⟩;rotate_left
 ·delta dictFind;dsimp only[Qep];rw[Qer]
def Qes(d:aj)(key:aq)(h:Int):cL (Option Nat):=(TK d key h).1
theorem Qet:dictFind=Qes:=by funext d key h;exact(TK d key h).2
def TL(run:List ik)(main:Option aj):{x:cL (Option aj)//im run main=x}:=by
 refine⟨?_,?_⟩;rotate_left
 ·delta im subDict mergeMapping dictSet dictSetHashed dictPut;rw[Qeo,Qet,PySem.W.Fast.te10540108854288196387]
def Qeu(run:List ik)(main:Option aj):cL (Option aj):=(TL run main).1
theorem dQ(run:List ik)(main:Option aj):im run main=Qeu run main:=(TL run main).2
theorem dK:pz ot=PySem.W.Fast.tw10110043849684766642 PySem.W.Fast.tw14364793385576792824:=by rw[PySem.W.Fast.te10110043849684766642,PySem.W.Fast.te14364793385576792824]
theorem dz{P:d9->Prop}(f:∀w:d9,P<|w.withFollow "special-get-raises" ae)(t:∀w:d9,P<|w.withFollow "special-get-raises" ac)(w:d9):P w:=byRow2 "special-get-raises" f t w
theorem ck0:chk w os 0 ab (z6 w.params) 82 354 (SJ w.params) 83 405:=by unfold chk;rw[dQ,dK];revert os w;refine dz ?_ ?_<;>(intros;kernel_rfl)
theorem ck1:chk w os 1 (aa 82) (SJ w.params) 83 405 (SK w.params) 84 456:=by unfold chk;rw[dQ,dK];revert os w;refine dz ?_ ?_<;>(intros;kernel_rfl)
theorem ck2:chk w os 2 (aa 82) (SK w.params) 84 456 (SL w.params) 85 507:=by unfold chk;rw[dQ,dK];revert os w;refine dz ?_ ?_<;>(intros;kernel_rfl)
theorem ck3:chk w os 3 (aa 82) (SL w.params) 85 507 (SN w.params) 86 558:=by unfold chk;rw[dQ,dK];revert os w;refine dz ?_ ?_<;>(intros;kernel_rfl)
theorem ck4:chk w os 4 (aa 82) (SN w.params) 86 558 (SO w.params) 87 609:=by unfold chk;rw[dQ,dK];revert os w;refine dz ?_ ?_<;>(intros;kernel_rfl)
theorem ck5:chk w os 5 (aa 82) (SO w.params) 87 609 (SQ w.params) 88 660:=by unfold chk;rw[dQ,dK];revert os w;refine dz ?_ ?_<;>(intros;kernel_rfl)
theorem ck6:chk w os 6 (aa 82) (SQ w.params) 88 660 (SS w.params) 89 711:=by unfold chk;rw[dQ,dK];revert os w;refine dz ?_ ?_<;>(intros;kernel_rfl)
theorem ck7:chk w os 7 (aa 82) (SS w.params) 89 711 (SV w.params) 90 762:=by unfold chk;rw[dQ,dK];revert os w;refine dz ?_ ?_<;>(intros;kernel_rfl)
theorem ck8:chk w os 8 (aa 82) (SV w.params) 90 762 (SW w.params) 91 813:=by unfold chk;rw[dQ,dK];revert os w;refine dz ?_ ?_<;>(intros;kernel_rfl)
theorem ck9:chk w os 9 (aa 82) (SW w.params) 91 813 (SY w.params) 92 864:=by unfold chk;rw[dQ,dK];revert os w;refine dz ?_ ?_<;>(intros;kernel_rfl)
theorem QeF:chk w os 10 (aa 82) (SY w.params) 92 864 (SZ w.params) 93 915:=by unfold chk;rw[dQ,dK];revert os w;refine dz ?_ ?_<;>(intros;kernel_rfl)
theorem QeG:chk w os 11 (aa 82) (SZ w.params) 93 915 (S1 w.params) 94 966:=by unfold chk;rw[dQ,dK];revert os w;refine dz ?_ ?_<;>(intros;kernel_rfl)
theorem QeH:chk w os 12 (aa 82) (S1 w.params) 94 966 (S4 w.params) 95 1017:=by unfold chk;rw[dQ,dK];revert os w;refine dz ?_ ?_<;>(intros;kernel_rfl)
theorem QeI:chk w os 13 (aa 82) (S4 w.params) 95 1017 (S5 w.params) 96 1068:=by unfold chk;rw[dQ,dK];revert os w;refine dz ?_ ?_<;>(intros;kernel_rfl)
theorem QeJ:chk w os 14 (aa 82) (S5 w.params) 96 1068 (S6 w.params) 97 1119:=by unfold chk;rw[dQ,dK];revert os w;refine dz ?_ ?_<;>(intros;kernel_rfl)
theorem QeK:chk w os 15 (aa 82) (S6 w.params) 97 1119 (S7 w.params) 98 1170:=by unfold chk;rw[dQ,dK];revert os w;refine dz ?_ ?_<;>(intros;kernel_rfl)
theorem QeL:chk w os 16 (aa 82) (S7 w.params) 98 1170 (S8 w.params) 99 1221:=by unfold chk;rw[dQ,dK];revert os w;refine dz ?_ ?_<;>(intros;kernel_rfl)
theorem QeM:chk w os 17 (aa 82) (S8 w.params) 99 1221 (S9 w.params) 100 1272:=by unfold chk;rw[dQ,dK];revert os w;refine dz ?_ ?_<;>(intros;kernel_rfl)
theorem QeN:chk w os 18 (aa 82) (S9 w.params) 100 1272 (Tc w.params) 101 1323:=by unfold chk;rw[dQ,dK];revert os w;refine dz ?_ ?_<;>(intros;kernel_rfl)
theorem QeO:chk w os 19 (aa 82) (Tc w.params) 101 1323 (Td w.params) 102 1374:=by unfold chk;rw[dQ,dK];revert os w;refine dz ?_ ?_<;>(intros;kernel_rfl)
theorem QeP:chk w os 20 (aa 82) (Td w.params) 102 1374 (Te w.params) 103 1425:=by unfold chk;rw[dQ,dK];revert os w;refine dz ?_ ?_<;>(intros;kernel_rfl)
theorem QeQ:chk w os 21 (aa 82) (Te w.params) 103 1425 (Tf w.params) 104 1476:=by unfold chk;rw[dQ,dK];revert os w;refine dz ?_ ?_<;>(intros;kernel_rfl)
theorem QeR:chk w os 22 (aa 82) (Tf w.params) 104 1476 (Tg w.params) 105 1527:=by unfold chk;rw[dQ,dK];revert os w;refine dz ?_ ?_<;>(intros;kernel_rfl)
theorem QeS:chk w os 23 (aa 82) (Tg w.params) 105 1527 (Ti w.params) 106 1578:=by unfold chk;rw[dQ,dK];revert os w;refine dz ?_ ?_<;>(intros;kernel_rfl)
theorem QeT:chk w os 24 (aa 82) (Ti w.params) 106 1578 (Tj w.params) 107 1629:=by unfold chk;rw[dQ,dK];revert os w;refine dz ?_ ?_<;>(intros;kernel_rfl)
theorem QeU:chk w os 25 (aa 82) (Tj w.params) 107 1629 (Tl w.params) 108 1680:=by unfold chk;rw[dQ,dK];revert os w;refine dz ?_ ?_<;>(intros;kernel_rfl)
theorem QeV:chk w os 26 (aa 82) (Tl w.params) 108 1680 (Tm w.params) 109 1731:=by unfold chk;rw[dQ,dK];revert os w;refine dz ?_ ?_<;>(intros;kernel_rfl)
theorem QeW:chk w os 27 (aa 82) (Tm w.params) 109 1731 (To w.params) 110 1782:=by unfold chk;rw[dQ,dK];revert os w;refine dz ?_ ?_<;>(intros;kernel_rfl)
theorem QeX:chk w os 28 (aa 82) (To w.params) 110 1782 (Tp w.params) 111 1833:=by unfold chk;rw[dQ,dK];revert os w;refine dz ?_ ?_<;>(intros;kernel_rfl)
theorem QeY:chk w os 29 (aa 82) (Tp w.params) 111 1833 (Ts w.params) 112 1884:=by unfold chk;rw[dQ,dK];revert os w;refine dz ?_ ?_<;>(intros;kernel_rfl)
theorem QeZ:chk w os 30 (aa 82) (Ts w.params) 112 1884 (Tt w.params) 113 1935:=by unfold chk;rw[dQ,dK];revert os w;refine dz ?_ ?_<;>(intros;kernel_rfl)
theorem Qe0:chk w os 31 (aa 82) (Tt w.params) 113 1935 (Tv w.params) 114 1986:=by unfold chk;rw[dQ,dK];revert os w;refine dz ?_ ?_<;>(intros;kernel_rfl)
theorem Qe1:chk w os 32 (aa 82) (Tv w.params) 114 1986 (Tw w.params) 115 2037:=by unfold chk;rw[dQ,dK];revert os w;refine dz ?_ ?_<;>(intros;kernel_rfl)
theorem Qe2:chk w os 33 (aa 82) (Tw w.params) 115 2037 (Tz w.params) 116 2088:=by unfold chk;rw[dQ,dK];revert os w;refine dz ?_ ?_<;>(intros;kernel_rfl)
theorem Qe3:chk w os 34 (aa 82) (Tz w.params) 116 2088 (TA w.params) 117 2139:=by unfold chk;rw[dQ,dK];revert os w;refine dz ?_ ?_<;>(intros;kernel_rfl)
theorem Qe4:chk w os 35 (aa 82) (TA w.params) 117 2139 (TD w.params) 118 2190:=by unfold chk;rw[dQ,dK];revert os w;refine dz ?_ ?_<;>(intros;kernel_rfl)
theorem Qe5:chk w os 36 (aa 82) (TD w.params) 118 2190 (TE w.params) 119 2241:=by unfold chk;rw[dQ,dK];revert os w;refine dz ?_ ?_<;>(intros;kernel_rfl)
theorem Qe6:chk w os 37 (aa 82) (TE w.params) 119 2241 (Je w.params) 120 2292:=by unfold chk;rw[dQ,dK];revert os w;refine dz ?_ ?_<;>(intros;kernel_rfl)
theorem Qe7:chk w os 38 (aa 82) (Je w.params) 120 2292 (Jf w.params) 121 2304:=by unfold chk;rw[dQ,dK];revert os w;refine dz ?_ ?_<;>(intros;kernel_rfl)
theorem uz:jr w os 94 (tA w.params) 15 187 (iJ 0 4) ⟨0,0,0,0⟩ (R5 w.params) 29 222 ⟨19,0,28,17⟩:=by kernel_rfl
theorem uA:jr w os 67 (R5 w.params) 29 222 (iJ 4 2) ⟨19,0,28,17⟩ (R6 w.params) 43 244 ⟨45,0,53,49⟩:=by kernel_rfl
theorem xf:jr w os 88 (R6 w.params) 43 244 (iJ 6 4) ⟨45,0,53,49⟩ (R7 w.params) 57 273 ⟨77,0,77,15⟩:=by kernel_rfl
theorem hd3:jr w os 44 (R7 w.params) 57 273 (iJ 10 2) ⟨77,0,77,15⟩ (R8 w.params) 64 287 ⟨106,0,106,8⟩:=by kernel_rfl
theorem hd4:jr w os 999 (R8 w.params) 64 287 (iJ 12 1) ⟨106,0,106,8⟩ (R9 w.params) 75 347 ⟨107,0,107,6⟩:=by
 show pz ot _ _ _ _ _ _ _ _=_;rw[dK];revert os w;refine byRow2 "set-order" ?_ ?_
 ·refine dz ?_ ?_<;>(intros;kernel_rfl)
 ·refine dz ?_ ?_<;>(intros;kernel_rfl)
theorem hd5:jr w os 30 (R9 w.params) 75 347 (iJ 13 1) ⟨107,0,107,6⟩ (z6 w.params) 82 354 ⟨108,0,109,30⟩:=by kernel_rfl
theorem hd7:jr w os 94 (I9 w.params) 121 2305 (iJ 15 8) ⟨110,0,110,13⟩ (Sj w.params) 128 2327 ⟨122,0,122,5⟩:=by kernel_rfl
theorem hd8:jr w os 100 (Sj w.params) 128 2327 (iJ 23 11) ⟨122,0,122,5⟩ (Sk w.params) 128 2349 ⟨133,0,133,5⟩:=by kernel_rfl
theorem hd9:jr w os 100 (Sk w.params) 128 2349 (iJ 34 11) ⟨133,0,133,5⟩ (Sl w.params) 128 2371 ⟨144,0,144,9⟩:=by kernel_rfl
theorem Qfe:jr w os 100 (Sl w.params) 128 2371 (iJ 45 11) ⟨144,0,144,9⟩ (Sm w.params) 128 2393 ⟨155,0,155,14⟩:=by kernel_rfl
theorem Qff:jr w os 100 (Sm w.params) 128 2393 (iJ 56 11) ⟨155,0,155,14⟩ (Sn w.params) 128 2415 ⟨166,0,166,9⟩:=by kernel_rfl
theorem Qfg:jr w os 979 (Sn w.params) 128 2415 (iJ 67 1) ⟨166,0,166,9⟩ (So w.params) 131 2512 ⟨167,0,167,17⟩:=by revert os w;refine dz ?_ ?_<;>(intros;kernel_rfl)
theorem Qfh:jr w os 97 (So w.params) 131 2512 (iJ 68 4) ⟨167,0,167,17⟩ (Sp w.params) 152 2535 ⟨174,0,174,8⟩:=by kernel_rfl
theorem Qfi:jr w os 88 (Sp w.params) 152 2535 (iJ 72 3) ⟨174,0,174,8⟩ (Sq w.params) 173 2556 ⟨185,0,186,148⟩:=by kernel_rfl
theorem Qfj:jr w os 86 (Sq w.params) 173 2556 (iJ 75 3) ⟨185,0,186,148⟩ (Sr w.params) 190 2579 ⟨223,0,235,29⟩:=by kernel_rfl
theorem Qfk:jr w os 84 (Sr w.params) 190 2579 (iJ 78 3) ⟨223,0,235,29⟩ (SH w.params) 207 2600 ⟨247,0,258,17⟩:=by kernel_rfl
theorem Qfl:jr w os 91 (SH w.params) 207 2600 (iJ 81 3) ⟨247,0,258,17⟩ (DK w.params) 226 2626 ⟨273,0,315,15⟩:=by kernel_rfl
theorem TM:jW.length=84:=by kernel_rfl
theorem Qfm(i:Nat)(h:i<84):jW.drop i=bN i::jW.drop (i+1):=by
 have h':i<jW.length:=by rw[TM];exact h
 rw[Fd h'];unfold bN;rw[yj,ee h'];rfl
abbrev tR(w:d9)(N:Nat)(s:aC)(t:Thread):Option aC:=th ot pw w 11 (aa (.ref 6)) N s t
theorem jy{w:d9}{n N a b:Nat}{s A:SharedT}{r:aC}{p B:aY}(h:pz ot pw w 11 (aa<|.ref 6) 1 n s (piecesOf (iJ a b) jX cE p kH)=aa (.next,A,cE,B))(k:tR w N A.abs (yk (jW.drop<|a+b) jX cE B kH)=aa r):tR w (n+N) s.abs (yk (jW.drop a) jX cE p kH)=aa r:=by
 have e:jW.drop a=iJ a b++jW.drop (a+b):=by rw[<-AU,Lq]
 rw[e];exact piece_app (Fg h) k
theorem Qfn:exec (bN 14) jX=(qw TG>>=λ_=>qw rj)>>=λ_=>(Lp (zK cW)>>=λv=>Jg v):=by kernel_rfl
theorem Qfo(w:d9)(os:vy):pz ot pw w 11 (aa<|.ref 6) 1 4 (jq (z6 w.params) 82 354 os) ⟨(qw TG>>=λ_=>qw rj:cL Unit).wrap (λ_=>.pure<|.done .next) yh id id,cE,⟨108,0,109,30⟩,kH⟩= aa (.next,jq (z6 w.params) 82 354 os,cE,rj):=by kernel_rfl
theorem Qfp(w:d9)(os:vy):pz ot pw w 11 (aa<|.ref 6) 1 200 (jq (Jf w.params) 121 2304 os) ⟨(Jg<|.ref 82).wrap doneF yh id id,cE,rj,kH⟩= aa (.next,jq (I9 w.params) 121 2305 os,cE,⟨110,0,110,13⟩):=by kernel_rfl
theorem dL:cW.length=650:=by kernel_rfl
theorem ckz:pz ot pw w 11 (aa<|.ref 6) 1 1000 (jq (Je w.params) 120 2292 os) (wV (im (cW.drop<|17*38)<|aa 82) cE rj kH)=aa (.ret<|.ref 82,jq (Jf w.params) 121 2304 os,cE,rj):=by
 have e:cW.drop (17*38)=(cW.drop<|17*38).take 17:=by rw[rG];rw[fX,dL];decide
 rw[e];exact Qe7 w os
theorem Qfr(w:d9)(os:vy){N:Nat}{r:aC}(k:tR w N (jq (I9 w.params) 121 2305 os).abs (yk (jW.drop 15) jX cE ⟨110,0,110,13⟩ kH)=aa r): tR w (4+(1000+(1000+(1000+(1000+(1000+(1000+(1000+(1000+(1000+(1000+(1000+(1000+(1000+(1000+(1000+(1000+(1000+(1000+(1000+(1000+(1000+(1000+(1000+(1000+(1000+(1000+(1000+(1000+(1000+(1000+(1000+(1000+(1000+(1000+(1000+(1000+(1000+(1000+(1000+(200+N))))))))))))))))))))))))))))))))))))))))) (jq (z6 w.params) 82 354 os).abs (yk (jW.drop 14) jX cE ⟨108,0,109,30⟩ kH)=aa r:=by rw[Qfm 14<|by decide];unfold yk;rw[execs_cons_wrap,Qfn,Dk];refine Qed (Qfo w os) ?_;show tR w _ _ ⟨(Lp (zK cW)>>=λv=>Jg v).wrap _ _ id id,cE,rj,kH⟩=_;rw[Dk,Qd9,Dk];refine d0 (L:=cW) (j:=0) (by rw[dL];rfl) (ck0 w os) ?_;refine d0 (L:=cW) (j:=1) (by rw[dL];rfl) (ck1 w os) ?_;refine d0 (L:=cW) (j:=2) (by rw[dL];rfl) (ck2 w os) ?_;refine d0 (L:=cW) (j:=3) (by rw[dL];rfl) (ck3 w os) ?_;refine d0 (L:=cW) (j:=4) (by rw[dL];rfl) (ck4 w os) ?_;refine d0 (L:=cW) (j:=5) (by rw[dL];rfl) (ck5 w os) ?_;refine d0 (L:=cW) (j:=6) (by rw[dL];rfl) (ck6 w os) ?_;refine d0 (L:=cW) (j:=7) (by rw[dL];rfl) (ck7 w os) ?_;refine d0 (L:=cW) (j:=8) (by rw[dL];rfl) (ck8 w os) ?_;refine d0 (L:=cW) (j:=9) (by rw[dL];rfl) (ck9 w os) ?_;refine d0 (L:=cW) (j:=10) (by rw[dL];rfl) (QeF w os) ?_;refine d0 (L:=cW) (j:=11) (by rw[dL];rfl) (QeG w os) ?_;refine d0 (L:=cW) (j:=12) (by rw[dL];rfl) (QeH w os) ?_;refine d0 (L:=cW) (j:=13) (by rw[dL];rfl) (QeI w os) ?_;refine d0 (L:=cW) (j:=14) (by rw[dL];rfl) (QeJ w os) ?_;refine d0 (L:=cW) (j:=15) (by rw[dL];rfl) (QeK w os) ?_;refine d0 (L:=cW) (j:=16) (by rw[dL];rfl) (QeL w os) ?_;refine d0 (L:=cW) (j:=17) (by rw[dL];rfl) (QeM w os) ?_;refine d0 (L:=cW) (j:=18) (by rw[dL];rfl) (QeN w os) ?_;refine d0 (L:=cW) (j:=19) (by rw[dL];rfl) (QeO w os) ?_;refine d0 (L:=cW) (j:=20) (by rw[dL];rfl) (QeP w os) ?_;refine d0 (L:=cW) (j:=21) (by rw[dL];rfl) (QeQ w os) ?_;refine d0 (L:=cW) (j:=22) (by rw[dL];rfl) (QeR w os) ?_;refine d0 (L:=cW) (j:=23) (by rw[dL];rfl) (QeS w os) ?_;refine d0 (L:=cW) (j:=24) (by rw[dL];rfl) (QeT w os) ?_;refine d0 (L:=cW) (j:=25) (by rw[dL];rfl) (QeU w os) ?_;refine d0 (L:=cW) (j:=26) (by rw[dL];rfl) (QeV w os) ?_;refine d0 (L:=cW) (j:=27) (by rw[dL];rfl) (QeW w os) ?_;refine d0 (L:=cW) (j:=28) (by rw[dL];rfl) (QeX w os) ?_;refine d0 (L:=cW) (j:=29) (by rw[dL];rfl) (QeY w os) ?_;refine d0 (L:=cW) (j:=30) (by rw[dL];rfl) (QeZ w os) ?_;refine d0 (L:=cW) (j:=31) (by rw[dL];rfl) (Qe0 w os) ?_;refine d0 (L:=cW) (j:=32) (by rw[dL];rfl) (Qe1 w os) ?_;refine d0 (L:=cW) (j:=33) (by rw[dL];rfl) (Qe2 w os) ?_;refine d0 (L:=cW) (j:=34) (by rw[dL];rfl) (Qe3 w os) ?_;refine d0 (L:=cW) (j:=35) (by rw[dL];rfl) (Qe4 w os) ?_;refine d0 (L:=cW) (j:=36) (by rw[dL];rfl) (Qe5 w os) ?_;refine d0 (L:=cW) (j:=37) (by rw[dL];rfl) (Qe6 w os) ?_;refine Qec (L:=cW) (j:=38) (by rw[dL];rfl) (ckz w os) ?_;exact Qee (Qfp w os) k
def H1(P:aT):bL:=absHeap (DK P) 226 RF
noncomputable def TN:Nat:=12+(1+(94+(67+(88+(44+(999+(30+(4+(1000+(1000+(1000+(1000+(1000+(1000+(1000+(1000+(1000+(1000+(1000+(1000+(1000+(1000+(1000+(1000+(1000+(1000+(1000+(1000+(1000+(1000+(1000+(1000+(1000+(1000+(1000+(1000+(1000+(1000+(1000+(1000+(1000+(1000+(1000+(1000+(1000+(1000+(1000+(200+(94+(100+(100+(100+(100+(979+(97+(88+(86+(84+(91+2)))))))))))))))))))))))))))))))))))))))))))))))))))))))))))
theorem Qfs:tR w 2 (jq (DK w.params) 226 2626 os).abs (yk (jW.drop 84) jX cE ⟨273,0,315,15⟩ kH)=aa (jq (DK w.params) 226 2626 os).abs :=by rw[AT<|by rw[TM];exact eR _];kernel_rfl
theorem Qft:topGo ot pw w 11 (aa<|.ref 6) 12 ⟨vz w.params,bx [],boot_drawn,boot_toks,os⟩ (topStub pw)=aa ((jq (tA w.params) 15 187 os).abs,⟨denote ot cE,cE,⟨0,0,0,0⟩,kH⟩):=by kernel_rfl
theorem Qfu:segRun ot pw w 11 (aa<|.ref 6) 1 1 (jq (tA w.params) 15 187 os).abs (blockOf jW jX cE ⟨0,0,0,0⟩ kH)=aa (.next,(jq (tA w.params) 15 187 os).abs,cE,⟨0,0,0,0⟩):=by kernel_rfl
theorem Qfv:tR w TN ⟨vz w.params,bx [],boot_drawn,boot_toks,os⟩ (topStub pw)=aa ⟨H1 w.params,bx [],⟨0,0,0,0⟩,2626,os⟩:=by refine go_top (Qft w os) ?_;refine piece_block (Qfu w os) ?_;show tR w _ _ (yk (jW.drop 0) jX cE _ kH)=_;refine jy (uz w os) ?_;refine jy (uA w os) ?_;refine jy (xf w os) ?_;refine jy (hd3 w os) ?_;refine jy (hd4 w os) ?_;refine jy (hd5 w os) ?_;refine Qfr w os ?_;refine jy (hd7 w os) ?_;refine jy (hd8 w os) ?_;refine jy (hd9 w os) ?_;refine jy (Qfe w os) ?_;refine jy (Qff w os) ?_;refine jy (Qfg w os) ?_;refine jy (Qfh w os) ?_;refine jy (Qfi w os) ?_;refine jy (Qfj w os) ?_;refine jy (Qfk w os) ?_;refine jy (Qfl w os) ?_;exact Qfs w os
def qV:pu:={pw with main:={pw.main with body:=[bN 83]}}
noncomputable def loose:List PySem.Str:=[aK "_DIV_LIMIT",aK "_div2n1n",aK "_div3n2n",aK "_int2digits",aK "_digits2int",aK "_divmod_pos",aK "int_divmod",aK "ELLIPSIS_MARKER",aK "_ellipsis_match",aK "b1_set",aK "in_table_b1",aK "b3_exceptions",aK "map_table_b3",aK "ENDMARKER",aK "LPAR",aK "RPAR",aK "LSQB",aK "RSQB",aK "COLON",aK "COMMA",aK "SEMI",aK "PLUS",aK "MINUS",aK "STAR",aK "SLASH",aK "VBAR",aK "AMPER",aK "LESS",aK "GREATER",aK "EQUAL",aK "DOT",aK "PERCENT",aK "LBRACE",aK "RBRACE",aK "EQEQUAL",aK "NOTEQUAL",aK "LESSEQUAL",aK "GREATEREQUAL",aK "TILDE",aK "CIRCUMFLEX",aK "LEFTSHIFT",aK "RIGHTSHIFT",aK "DOUBLESTAR",aK "PLUSEQUAL",aK "MINEQUAL",aK "STAREQUAL",aK "SLASHEQUAL",aK "PERCENTEQUAL",aK "AMPEREQUAL",aK "VBAREQUAL",aK "CIRCUMFLEXEQUAL",aK "LEFTSHIFTEQUAL",aK "RIGHTSHIFTEQUAL",aK "DOUBLESTAREQUAL",aK "DOUBLESLASH",aK "DOUBLESLASHEQUAL",aK "AT",aK "ATEQUAL",aK "RARROW",aK "ELLIPSIS",aK "COLONEQUAL",aK "EXCLAMATION",aK "NT_OFFSET",aK "EXACT_TOKEN_TYPES",aK "ISTERMINAL",aK "ISNONTERMINAL",aK "ISEOF",aK "_law_unseen",aK "_law_spelled",aK "_law_words",aK "_law_drawn",aK "_law_read",aK "_law_divided",aK "_law_height",aK "_law_line",aK "_law_trees",aK "_law_orders",aK "_law_rows"]
noncomputable def Jj:List Nat:=[3,11,12,13,14,15,16,17,18,19,20,21,22,23,24,25,26,27,28,29,30,31,32,33,34,35,36,37,38,39,40,41,42,43,44,45,46,47,48,49,50,51,52,53,54,55,56,57,58,59,60,61,62,63,64,65,66,67,68,69,70,71,72,73,74,75,76,77,78,79,80,81,82,121,122,123,124,125,126,127,128,129,130,131,132,133,134,135,136,137,138,139,140,141,142,143,144,145,146,147,148,149,150,151,152,153,154,155,156,157,158,159,160,161,162,163,164,165,166,167,168,169,170,171,172,173,174,175,176,177,178,179,180,181,182,183,184,185,186,187,188,189,190,191,192,193,194,195,196,197,198,199,200,201,202,203,204,205,206,207,208,209,210,211,212,213,214,215,216,217,218,219,220,221,222,223,224,225]
def nQ(P:aT):List (Nat×bp):=[(3,(o3 P 88 88 (S "law_uc0059_02" 2533))),(11,ag),(12,(gX 72)),(13,gN),(14,fF),(15,ag),(16,jY),(17,jZ),(18,ag),(19,j0),(20,j1),(21,j2),(22,ag),(23,i0),(24,js),(25,ag),(26,lu),(27,ju),(28,jv),(29,ag),(30,j3),(31,kI),(32,kJ),(33,kK),(34,ct),(35,kL),(36,ag),(37,lB),(38,lC),(39,jw),(40,kM),(41,kN),(42,mE),(43,ag),(44,lD),(45,lE),(46,ag),(47,lG),(48,lH),(49,lI),(50,ag),(51,lJ),(52,lK),(53,ag),(54,lL),(55,j4),(56,kO),(57,ag),(58,oX),(59,lM),(60,ag),(61,lN),(62,lO),(63,mF),(64,nM),(65,nN),(66,cK),(67,oY),(68,ag),(69,oZ),(70,o0),(71,(jx P)),(72,nO),(73,ag),(74,rh),(75,ag),(76,o5),(77,o6),(78,ag),(79,o7),(80,o8),(81,o9),(82,(oD 650)),(121,ag),(122,uo),(123,uq),(124,ag),(125,ur),(126,ut),(127,uu),(128,(qc P)),(129,(uv P)),(130,(uw P)),(131,ag),(132,zL),(133,zM),(134,ag),(135,wW),(136,zN),(137,zO),(138,ag),(139,zP),(140,zQ),(141,ag),(142,zR),(143,wX),(144,wY),(145,ag),(146,wZ),(147,w0),(148,ag),(149,w5),(150,w8),(151,w9),(152,ag),(153,zS),(154,zT),(155,ag),(156,zU),(157,zV),(158,zW),(159,ag),(160,zX),(161,zY),(162,ag),(163,Dm),(164,Dn),(165,Do),(166,ag),(167,zZ),(168,ag),(169,ag),(170,Dp),(171,Dq),(172,Dr),(173,ag),(174,IV),(175,Ds),(176,Dt),(177,Du),(178,ag),(179,Dv),(180,Dx),(181,Dy),(182,Dz),(183,ag),(184,DA),(185,DB),(186,ag),(187,DC),(188,DD),(189,DE),(190,ag),(191,IW),(192,IX),(193,ag),(194,IY),(195,RG),(196,RH),(197,ag),(198,RI),(199,IZ),(200,RJ),(201,RK),(202,ag),(203,RL),(204,RM),(205,RN),(206,RO),(207,ag),(208,RP),(209,RQ),(210,ag),(211,RS),(212,RT),(213,RU),(214,ag),(215,RV),(216,RW),(217,ag),(218,RX),(219,RY),(220,RZ),(221,ag),(222,R0),(223,R1),(224,R3),(225,R4)]
theorem Qfw:∀w:d9,(fencedOpening ot pw w 200000).map (λs=>(s.heap,s.gens,s.drawn,s.toks))=aa (vz w.params,bx [],boot_drawn,boot_toks):=boot_open (by kernel_rfl) (by decide+kernel)<|λs=>by kernel_rfl
theorem Qfx(w:d9):((vz w.params).isNs l4&&(bx []:Array GenState).size ==0,(vz w.params).objs.size,(vz w.params).nsMap l4 "__annotations__")=(ac,11,aa<|.ref 6):=by kernel_rfl
abbrev s1(w:d9)(os:vy):aC:=⟨H1 w.params,bx [],⟨0,0,0,0⟩,2626,os⟩
theorem Qfy:(staticsOk (importedModules pw.main.body) (vz w.params) (H1 w.params)&&namesBound pw (H1 w.params)&&gensDone (s1 w os)&&laidKept (vz w.params) (H1 w.params))=ac:=by kernel_rfl
theorem Qfz:openSeen qV loose (importedModules pw.main.body) (λs=>recOk [] s) ac (s1 w os)=openGood qV loose:=by unfold openSeen openGood;refine rI ?_<|rI ?_<|rI ?_<|rI ?_<|rI ?_<|rI ?_<|rI ?_<|rI ?_ ?_;all_goals kernel_rfl
theorem QfA:Jj.map (s1 w os).heap.get? =(nQ w.params).map λp=>aa p.2:=by kernel_rfl
theorem QfB:LeftO pw qV loose (λs=>recOk [] s) (λs=>Jj.map s.heap.get?) (λw=>(nQ w.params).map λp=>aa p.2) 200000:=LeftO.of_pieces (M:=TN) Qfw Qfx (λw os=>Qfv w os) (by decide+kernel) (λw=>by funext os;exact rI (Qfy w os)<|rI (Qfz w os)<|QfA w os)
end
section
open PySem.Calls
noncomputable def fe:List Nat:=[30,37]
def kB(P:aT):List (Nat×bp):=(nQ P).filter λp=> !fe.contains p.1
theorem QfC(g:Nat->Bool):∀{l:List<|Nat×α},(l.filter λp=>g p.1).lookup a=aa o->l.lookup a=aa o:=by
 intro L;induction L with
 |nil=>intro h;injection h
 |cons D r A=>
  obtain⟨b,x⟩:=D;intro h;rw[yi]at h;rw[sX];split at h
  ·rw[sX]at h;cases q:a==b with
   |true=>rw[q]at h;exact h
   |false=>rw[q]at h;exact A h
  ·rename_i C;cases q:a==b with
   |true=>
    exfalso;have:(r.filter λp=>g p.1).lookup a=ab:=by
     rw[List.lookup_eq_none_iff];intro p B;have:=(pv.mp B).2;cases z:a==p.1 with
     |false=>simp[bne,z]
     |true=>have H:=bJ.mp z;have G:=bJ.mp q;rw[<-H,G]at this;exact absurd this C
    rw[this]at h;injection h
   |false=>exact A h
def TbAt(c P:aj)(pos:aY)(qual:ao)(h:bL):Prop:=
 ∃ps:Array aq,CodeHd h c P/\h.get? P=aa (tabObj ps)/\TriplesOk ps.toList/\
  (codeAmong pos ps.toList=ab\/∃(c':aj)(o:bp)(vs:Array aq)(t:gm),codeAmong pos ps.toList=aa (.ref c')/\h.get? c'=aa o/\o.cls=.type "code"/\o.data=.fields vs/\vs[1]?=aa (.str qual t))
theorem TbAt.keep(x:TbAt c P pos qual h)(k:∀b o,h.get? b=aa o->oR o->h'.get? b=aa o):TbAt c P pos qual h':=by obtain⟨D,⟨o,vs,B,T,A,Q,d,text,O,u,M,L,r⟩,z,Y,j⟩:=x;refine⟨D,⟨o,vs,B,T,A,Q,d,text,O,k _ _ u ⟨.inr M,vs,L⟩,M,L,r⟩,k _ _ z ⟨.inl rfl,D,rfl⟩,Y,j.imp id ?_⟩;rintro⟨l,U,C,t,v,y,H,G,q⟩;exact(wk l U C t v (k _ _ y ⟨.inr H,C,G⟩) H G q)
def xg(i j:Nat):aY:=match(cF (bN i)).getD j (.Pass default)with
 | .FunctionDef _ _ _ _ _ _ _ _ _ p=>p
 |_=>default
def QfD(h:bL):Prop:=∃ob,h.get? 4=aa ob/\ob.cls=.type "module"/\ob.dict=aa u9/\ob.data=.plain
def cu(w:d9)(mg mb:ao->Option aq):Wd where
 prog:=pw
 w:=w
 mg:=mg
 mb:=mb
 T:=fe
 Bs:=λh=>h.Ns l4 mg/\h.Ns u9 mb/\h.NoLimit/\pA.In (kB w.params) h/\QfD h
 Tb:=λh=>TbAt 34 30 (xg 4 1) "_int2digits.<locals>.inner" h/\TbAt 41 37 (xg 5 0) "_digits2int.<locals>.inner" h
 Base:=λa=>a=0\/a=2\/a=3\/a=4\/((kB w.params).lookup a).isSome =ac
theorem QfE(P:aT):∀a,((kB P).lookup a).isSome =ac->a∉fe:=λa h q=>by obtain⟨o,e⟩:=vh.mp h;have:(a,o)∈kB P:=mem_of_lookupK e;have:=(pv.mp this).2;rw[show fe.contains a=ac from WG.mpr q]at this;injection this
theorem QfF(d:∀x:ao,x≠"__name__"->mb x=AO x):(cu w mg mb).Ok where
 bsG:=λh b=>b.1
 bsB:=λh b=>b.2.1
 bsLim:=λh b=>b.2.2.1
 bsKeep:=λh h' x k=>by obtain⟨⟨j,uH,u,H,Q⟩,⟨Y,uJ,v,G,O⟩,⟨z,⟨o3,y,q,D,M⟩,T⟩,B,⟨U,C,L⟩⟩:=x;exact⟨⟨j,uH,u,k _ _ (.inr<|.inr<|.inl rfl) H,Q⟩,⟨Y,uJ,v,k _ _ (.inl rfl) G,O⟩,⟨z,⟨o3,y,q,k _ _ (.inr<|.inl rfl) D,M⟩,T⟩,λa o e=>k a o (.inr<|.inr<|.inr<|.inr<|af e rfl)<|B a o e,⟨U,k _ _ (.inr<|.inr<|.inr<|.inl rfl) C,L⟩⟩
 base:=λh x a A=>by
  obtain⟨⟨j,uH,u,H,Q⟩,⟨Y,uJ,v,G,O⟩,⟨z,⟨o3,y,q,D,M⟩,T⟩,B,⟨U,C,L⟩⟩:=x;rcases A with rfl|rfl|rfl|rfl|A
  ·exact⟨show 0∉fe by decide,_,G⟩
  ·exact⟨show 2∉fe by decide,_,D⟩
  ·exact⟨show 3∉fe by decide,_,H⟩
  ·exact⟨show 4∉fe by decide,_,C⟩
  ·refine aF (vh.mp A) λo e=>?_;exact⟨QfE _ a A,o,B a o e⟩
 tbKeep:=λh h' x k=>⟨x.1.keep k,x.2.keep k⟩
 tStill:=λh x a A=>by
  obtain⟨⟨r,_,m,_⟩,⟨l,_,g,_⟩⟩:=x;have:a=30\/a=37:=by simpa[cu,fe]using A
  clear A;rcases this with rfl|rfl
  ·exact⟨_,m,.inl rfl,_,rfl⟩
  ·exact⟨_,g,.inl rfl,_,rfl⟩
 builtins:=λx _ t=>d x t
theorem QfG{w:d9}{Q s:aC}{XP:(ao->Option aq)->bL->Prop}{mg A:ao->Option aq}(G:Ground qV loose [] XP w Q mg A s.heap)(Y:pA.In (nQ w.params) s.heap): (cu w mg A).Ok /\(cu w mg A).Bs s.heap/\(cu w mg A).Tb s.heap:=by
 have B:mg "__builtins__"=aa (.ref 4):=fh Y G.T.g (by kernel_rfl);refine⟨QfF G.T.builtins,⟨G.T.g,G.T.b,G.T.nolimit,λa o e=>Y a o<|QfC (λb=> !fe.contains b) e,?_⟩,?_,?_⟩
 ·refine YZ G.T.bmain λT C b1 O M L H D=>?_;rw[B]at b1;clear O;obtain rfl:=tc<|aw b1;exact⟨C,M,L,H,D⟩
 ·refine⟨#[],⟨_,_,_,_,_,_,_,_,_,Y 34 _ rfl,rfl,rfl,rfl,rfl,rfl,rfl,rfl,rfl,by decide⟩,Y 30 _ rfl,trivial,.inl rfl⟩
 ·refine⟨#[],⟨_,_,_,_,_,_,_,_,_,Y 41 _ rfl,rfl,rfl,rfl,rfl,rfl,rfl,rfl,rfl,by decide⟩,Y 37 _ rfl,trivial,.inl rfl⟩
noncomputable def qf:List Int:=[65024,65025,65026,65027,65028,65029,6150,65030,65031,65032,65033,6155,6156,6157,8203,8204,8205,65034,65035,65036,65037,65038,65039,173,847,8288,65279]
noncomputable def uB:aq->Option (Int×gm)| .int i t=>aa (i,t)|_=>ab
noncomputable def xh:aq->Option (ao×gm)| .str x t=>aa (x,t)|_=>ab
theorem Jk(h:uB v=aa (i,t)):v=.int i t:=(show Says (uB v) (λp=>v=.int p.1 p.2)from by clear h;cases v using Value.casesOn<;>first|exact i8|exact rfl).get h
theorem TO(h:xh v=aa (x,t)):v=.str x t:=(show Says (xh v) (λp=>v=.str p.1 p.2)from by clear h;cases v using Value.casesOn<;>first|exact i8|exact rfl).get h
def D4(e:eB):Option (Int×List Nat):=(two (uB e.key) (xh e.val)).map λp=>(p.1.1,p.2.1.cps.toList)
def D5:List (Int×List Nat):=pd.filterMap D4
noncomputable def eM:List (List Nat×Int):=[([33],54),([33,61],28),([37],24),([37,61],40),([38],19),([38,61],41),([40],7),([41],8),([42],16),([42,42],35),([42,42,61],46),([42,61],38),([43],14),([43,61],36),([44],12),([45],15),([45,61],37),([45,62],51),([46],23),([46,46,46],52),([47],17),([47,47],47),([47,47,61],48),([47,61],39),([58],11),([58,61],53),([59],13),([60],20),([60,60],33),([60,60,61],44),([60,61],29),([61],22),([61,61],27),([62],21),([62,61],30),([62,62],34),([62,62,61],45),([64],49),([64,61],50),([91],9),([93],10),([94],32),([94,61],43),([123],25),([124],18),([124,61],42),([125],26),([126],31)]
def aA:Tabs:=⟨qf,D5,eM⟩
theorem Jl{x y:ao}:x=y↔x.cps.toList=y.cps.toList:=by
 constructor
 ·rintro rfl;rfl
 ·intro h;cases x;cases y;simp only[Str.mk.injEq];exact AQ.mp h
def Ai(e:eB):Bool:=match two (uB e.key) (xh e.val)with
 |some p=>e.hash==tj p.1.1
 |none=>ae
set_option tactic.hygienic true in
theorem Jm(h:Ai e=ac):∃i t x u,e=⟨tj i,.int i t,.str x u⟩:=by
 unfold Ai at h;split at h
 ·rename_i p q;obtain⟨⟨i,t⟩,⟨x,u⟩⟩:=p;obtain⟨hs,k,v⟩:=e;have B:=Jk (cV q).1;have A:=TO (cV q).2;dsimp only at B A;subst B;subst A;have C:hs=tj i:=eq_of_beq h;exact⟨i,t,x,u,by exact af C rfl⟩
 ·injection h
theorem QfH(i:Int)(es:List eB)(h:es.all Ai=ac):(es.filterMap D4).lookup i=((es.find? λe=>tm i e.key).map (·.val)).bind λv=>(xh v).map λp=>p.1.cps.toList:=by
 induction es with
 |nil=>rfl
 |cons e r C=>
  rw[KT]at h;refine aG (fP.mp h) λA D=>?_;refine B8 (Jm A) λj t x u B=>?_;clear h A;subst B;have G:(⟨tj j,.int j t,.str x u⟩::r).filterMap D4=(j,x.cps.toList)::r.filterMap D4:=rfl;refine af G ?_;rw[sX,Qlz];refine af (show tm i (DictEntry.key ⟨tj j,.int j t,.str x u⟩)=(j==i)from rfl) ?_;by_cases e:i=j
  ·subst e;rw[beq_self_eq_true];rfl
  ·refine af (beq_eq_false_iff_ne.mpr e)<|af (beq_eq_false_iff_ne.mpr (λq:j=i=>e q.symm)) ?_;exact C D
theorem QfI(i:Int){es:List eB}(h:es.all Ai=ac)(A:(es.find? λe=>tm i e.key)=aa e):∃x t,e.val=.str x t:=by refine B8 (Jm<|du.mp h e<|KW A) λj t x u B=>?_;clear A;subst B;exact(gH x u rfl)
theorem Jn:pd.all Ai=ac:=by kernel_rfl
theorem QfJ:pd.all (λe=>match e.val with| .str x _=>decide (x.length<=1000)|_=>ac)=ac:=by kernel_rfl
theorem TP{prog:pu}{w:d9}{h:bL}{a:aj}{n:Nat}(D:h.get? a=aa (oD n))(B:pd.take n=pd): h.MapOf (Fi prog w) a λi=>(pd.find? λe=>tm i e.key).map (·.val):=by
 refine⟨_,_,_,D,⟨rfl,rfl,rfl⟩,rfl,λe A=>?_,λk=>?_⟩
 ·rw[B]at A;have A:=QlA.mpr A;have:=du.mp Jn e A;refine B8 (Jm this) λj t x u C=>?_;subst C;exact⟨j,by simp[Fi,tm],rfl⟩
 ·refine af B ?_;unfold findBy;rw[<-QlB];rfl
def D6(e:Int×aq):Bool:=match uB e.2 with
 |some p=>e.1==tj p.1
 |none=>ae
def setInt(e:Int×aq):Int:=match uB e.2 with
 |some p=>p.1
 |none=>0
set_option tactic.hygienic true in
theorem TQ(h:D6 e=ac):∃i t,e=(tj i,.int i t):=by
 unfold D6 at h;split at h
 ·rename_i p q;obtain⟨i,t⟩:=p;obtain⟨hs,v⟩:=e;have A:=Jk q;dsimp only at A;subst A;have B:hs=tj i:=eq_of_beq h;exact⟨i,t,by exact af B rfl⟩
 ·injection h
theorem QfK(k:Int)(es:List<|Int×aq)(h:es.all D6=ac):(es.map setInt).contains k=ac↔∃e∈es,tm k e.2=ac:=by
 induction es with
 |nil=>simp
 |cons e r G=>
  rw[KT]at h;refine aG (fP.mp h) λB H=>?_;refine kw (TQ B) λi t M=>?_;clear h B;subst M;rw[dF,List.contains_cons,n7,G H];have L:setInt (tj i,.int i t)=i:=rfl;have C:tm k (.int i t)=(i==k):=rfl;refine af L ?_;constructor
  ·rintro(q|⟨e,A,q⟩)
   ·exact(br _ dU<|by refine af C<|af (eq_of_beq q) ?_;rw[beq_self_eq_true])
   ·exact(br e (bB _ A) q)
  ·rintro⟨e,A,q⟩;refine fI (bF.mp A) (λD=>?_) λA=>?_
   ·clear A;subst D;rw[C]at q;exact .inl (by refine af (eq_of_beq q) ?_;rw[beq_self_eq_true])
   ·exact .inr<|br e A q
theorem QfL{prog:pu}{w:d9}{h:bL}{a:aj}{P:aT}(G:h.get? a=aa (jx P)):h.SetOf (Fi prog w) a (λi=>qf.contains i) 27:=by
 have A:∀es C t,(jx P).data =.set es C t->es.toList.all D6=ac/\es.toList.map setInt=qf/\es.size=27/\t.fits es.size=ac:=λes C t e=>by obtain⟨rfl,rfl,rfl⟩:=PySem.Data.set.inj e;exact⟨by kernel_rfl,by kernel_rfl,by kernel_rfl,by kernel_rfl⟩
 refine yZ (A _ _ _ rfl) λk1 k2 B D=>?_;refine⟨_,_,_,_,G,⟨rfl,rfl,rfl⟩,rfl,λe H=>?_,λk=>?_,by refine af B ?_;decide,D,B⟩
 ·have:=du.mp k1 e H;refine kw (TQ this) λi t L=>?_;subst L;exact⟨(br i (by simp[Fi,tm]) rfl),rfl⟩
 ·refine bT k2 ?_;exact QfK k _ k1
noncomputable def StrEnts(w:d9):List eB->Prop
 |[]=>True
 |e::r=>(∃(x:ao)(t:gm),e.key=.str x t/\e.hash=hashStr w x)/\StrEnts w r
theorem StrEnts.at(h:StrEnts w es):∀e∈es,∃(x:ao)(t:gm),e.key=.str x t/\e.hash=hashStr w x:=by
 induction es with
 |nil=>exact λ_ m=>absurd m jb
 |cons a r A=>exact λe m=>(bF.mp m).elim (λq=>q▸h.1) (A h.2 e)
def Aj(e:eB):List Nat×Option Int:=match two (xh e.key) (uB e.val)with
 |some p=>(p.1.1.cps.toList,aa p.2.1)
 |none=>([],ab)
set_option tactic.hygienic true in
theorem QfM(h:Aj e=(c,aa i)):∃x t u,e.key=.str x t/\e.val=.int i u/\x.cps.toList=c:=by
 unfold Aj at h;split at h
 ·rename_i p q;obtain⟨⟨x,t⟩,⟨j,u⟩⟩:=p;have B:x.cps.toList=c:=congrArg Prod.fst h;have A:aa j=aa i:=congrArg Prod.snd h;obtain rfl:=aw A;exact⟨x,t,u,TO (cV q).1,Jk (cV q).2,B⟩
 ·exact absurd (congrArg Prod.snd h)<|λz=>nomatch z
theorem QfN{w:d9}(y:ao)(es:List eB):∀(l:List<|List Nat×Int),StrEnts w es->es.map Aj=l.map (λp=>(p.1,aa p.2))->(∃t:Int->gm,((es.find? λe=>Lr y e.key).map (·.val))=(l.lookup y.cps.toList).map λi=>.int i<|t i):=by
 induction es with
 |nil=>
  intro l _ h;cases l with
  |nil=>exact(b9 (λ_=>0) rfl)
  |cons _ _=>injection h
 |cons e r A=>
  intro l hs h;cases l with
  |nil=>injection h
  |cons p l=>
   rw[dF,dF]at h;refine aG (Lb h) λB G=>?_;refine aF (A l hs.2 G) λt' A=>?_;obtain⟨D,C⟩:=p;have B:Aj e=(D,aa C):=B;refine ky (QfM B) λx t u O M L=>?_;have H:Lr y e.key=(x==y):=af O rfl;rw[Qlz,sX];refine af H<|bT L ?_;by_cases q:x=y
   ·subst q;rw[beq_self_eq_true];exact⟨λ_=>u,by rw[beq_self_eq_true];exact congrArg aa M⟩
   ·refine af (beq_eq_false_iff_ne.mpr q)<|af (beq_eq_false_iff_ne.mpr (λz:y.cps.toList=x.cps.toList=>q<|Jl.mpr z.symm)) ?_;exact⟨t',A⟩
theorem QfO(w:d9):∀es A,(qc w.params).data =.dict es A->StrEnts w es.toList/\es.toList.map Aj=eM.map (λp=>(p.1,aa p.2)):=λes A e=>by obtain⟨rfl,rfl⟩:=Qli e;refine⟨?_,by kernel_rfl⟩;repeat(first|exact trivial|refine⟨(jh _ _ rfl rfl),?_⟩)
theorem TR{prog:pu}{w:d9}{h:bL}{a:aj}(A:h.get? a=aa (qc w.params)): ∃f:ao->Option aq,h.MapOf (Ls prog w) a f/\∀y,∃t:Int->gm,f y=(eM.lookup y.cps.toList).map λi=>.int i<|t i:=by
 refine aG (QfO w _ _ rfl) λk1 k2=>?_;refine(br _ (⟨_,_,_,A,⟨rfl,rfl,rfl⟩,rfl,λe B=>?_,λk=>rfl⟩)<|λy=>?_)
 ·refine eE (k1.at e<|QlA.mpr B) λx t D C=>?_;exact(br x (by refine af D ?_;simp[Ls,Lr]) C)
 ·refine aF (QfN y _ _ k1 k2) λt e=>?_;refine(b9 t ?_);refine bT e ?_;unfold findBy;rw[<-QlB];rfl
theorem Jo(x:ao)(t:gm):(Ls pw w).is x (.str x t)=ac:=by simp[Ls,Lr]
theorem QfP{w:d9}{mg Y:ao->Option aq}{G:∀t,mg (mD t)=aa (match t with| .b1 =>.ref 71| .b3 =>.ref 82| .tok =>.ref 128)}:TabOk (cu w mg Y) aA:=by
 have o:∀h,(cu w mg Y).Bs h->h.get? 71=aa (jx w.params):=λh b=>b.2.2.2.1 71 _ rfl;have l:∀h,(cu w mg Y).Bs h->h.get? 82=aa (oD pd.length):=λh b=>b.2.2.2.1 82 _ rfl;have c:∀h,(cu w mg Y).Bs h->h.get? 128=aa (qc w.params):=λh b=>b.2.2.2.1 128 _ rfl;refine⟨λt=>(y5 _ (G t) ?_ ?_ ?_)⟩
 ·intro neg A n X s u d b Q p O h r L;cases t with
  |b3=>injection h
  |b1=>
   refine ah (cv.mp h) λi C B=>?_;have D:=iF C;clear C;subst D;have B:qf.contains i=b:=B;subst B;refine aF r.int_inv λt T=>?_;clear r;subst T;have S:=QfL (prog:=pw) (w:=w)<|o _ O;cases neg
   ·exact wpAny_inSet_of (intKind_is pw w i _) rfl S (by have z:=L _<|Ext.tok<|s.toks+1;simpa[aA]using z)
   ·exact wpAny_notInSet_of (intKind_is pw w i _) rfl S (by have z:=L _<|Ext.tok<|s.toks+1;simpa[aA]using z)
  |tok=>
   refine ah (cv.mp h) λx C B=>?_;have D:=gy C;clear C;subst D;have B:(eM.lookup x.cps.toList).isSome =b:=B;subst B;refine ah r.str_inv λt T _=>?_;clear r;subst T;refine ah (TR (prog:=pw)<|c _ O) λf M y=>?_;refine aF (y x) λtk e=>?_;have m:(f x).isSome =(eM.lookup x.cps.toList).isSome :=by refine af e ?_;simp
   cases neg
   ·exact wpAny_in_of (Jo x _) rfl M (by refine af m ?_;have z:=L _<|Ext.tok<|s.toks+1;simpa[aA]using z)
   ·exact wpAny_notIn_of (Jo x _) rfl M (by refine af m ?_;have z:=L _<|Ext.tok<|s.toks+1;simpa[aA]using z)
 ·intro A n X s u d r Q p O h U L;have j:t=.tok :=by cases t<;>first|rfl|injection h
  subst j;refine ah (bO.mp h) λx C B=>?_;have D:=gy C;clear C;subst D;refine ah U.str_inv λt T _=>?_;clear U;subst T;refine ah (TR (prog:=pw)<|c _ O) λf M y=>?_;refine aF (y x) λtk e=>?_;refine ah (cv.mp B) λi hi e2=>?_;subst e2;refine⟨(br _ QaX M.typeIs),wpAny_getItem_of (k:=x) (v:=.int i<|tk i) (Jo x _) M ?_<|L _ _ (Ext.tok _)<|.int _ _⟩;refine af e ?_;have:eM.lookup x.cps.toList=aa i:=hi;exact af this rfl
 ·intro d r h;have j:t=.b3 :=by cases t<;>first|rfl|injection h
  subst j;refine ah (cv.mp h) λi C B=>?_;have D:=iF C;clear C;subst D;subst B;refine⟨λs O=>⟨(TP (prog:=pw) (w:=w) (l _ O) xY).typeIs,λa ha=>?_⟩,λA n X s u Q p O U L=>?_⟩
  ·obtain rfl:=tc ha;exact(br _ (l _ O) rfl)
  ·refine aF U.int_inv λt T=>?_;clear U;subst T;have M:=TP (prog:=pw) (w:=w) (l _ O) xY;refine call_meetsIn PySem.F.slot_dict_get M.typeIs PySem.F.entry_dict_get (PySem.F.args_dict_get_2 _ _) (meets_dict_get (Fi pw w) 82 (intKind_is pw w i _) rfl) ⟨_,M,?_⟩;have H:=QfH i pd Jn;cases q:pd.find? λe=>tm i e.key with
   |none=>rw[q]at H;refine L _ _ (Ext.tok _) ?_;have:aA.b3.lookup i=ab:=H;refine af this ?_;exact .none
   |some e=>refine kw (QfI i Jn q) λx t' D=>?_;rw[q,b7,D]at H;refine L _ _ (Ext.tok _) ?_;have:aA.b3.lookup i=aa x.cps.toList:=H;refine af this ?_;rw[b7];refine af D ?_;have g:=du.mp QfJ e (KW q);rw[D]at g;exact .str _ _ (fV (of_decide_eq_true g) (by decide))
noncomputable def uC:List (ao×dn)->List ao->Bool
 |_,[]=>ac
 |[],_::_=>ae
 |(y,k)::r,x::ps=>y==x&&(k==.local ||k==.cell)&&uC r ps
theorem QfQ:uC l []=ac:=by cases l<;>rfl
theorem QfR:uC ((y,k)::r) (x::A)=(y==x&&(k==.local ||k==.cell)&&uC r A):=rfl
theorem QfS:uC [] (x::A)=ae:=rfl
theorem TS:∀{names:List<|ao×dn}{A:List ao},uC names A=ac->∀(i:Nat)(x:ao),A[i]?=aa x->∃kd,names[i]?=aa (x,kd)/\(kd=.local \/kd=.cell)
 |_,[],_,i,x,h=>by injection h
 |[],_::_,h,_,_,_=>by injection h
 |(y,k)::r,p::A,h,i,x,B=>by
  simp only[QfQ,QfS,QfR,bo,n7,bJ]at h;obtain⟨⟨rfl,D⟩,C⟩:=h;cases i with
  |zero=>simp at B;subst B;exact(br k rfl D)
  |succ i=>simpa using TS C i x (by simpa using B)
def TT(sc:fH)(ps:List ao):Bool:= !sc.isCoroutine&& !sc.isGenerator&&sc.kind==.function &&decide (sc.names.map (·.1)).Nodup &&sc.names.all (λx=>x.2 !=.free)&&uC sc.names ps
theorem gn(h:TT (eG<|bN i) A=ac)(C:∀vs:List aq,vs.length=A.length->oq (F i x 3 B Q 0) ⟨vs,[]⟩=pure (A.zip vs)): FnForm (F i x 3 B Q 0) (cF<|bN i) A:=by simp only[TT,bo,oh,bJ,bH,du,bne_iff_ne]at h;obtain⟨⟨⟨⟨⟨O,M⟩,L⟩,H⟩,G⟩,D⟩:=h;exact⟨rfl,rfl,rfl,rfl,O,M,L,H,G,TS D,C⟩
def uD(i:Nat):Option MF:=Hu (um (bN i)) (eG (bN i)) (cF (bN i))
set_option tactic.hygienic true in
theorem TU(h:Hu a A b=aa m):∃c:Cx,c.names=A.names/\lf (jQ 20 c) b=aa m.body/\m.nParams=a.args.length/\m.nNames=A.names.length:=by
 unfold Hu at h;dsimp only at h;split at h
 ·rename_i B e;obtain rfl:=aw h;exact(y5 _ rfl e rfl rfl)
 ·injection h
theorem D7(X:pA.In (kB P) h)(e:(kB P).lookup A=aa o)(C:o.data=.fields vs)(B:vs[1]?=aa (.str (aK x) t)): h.CodeRec (.ref A)<|aK x:=⟨A,o,vs,t,rfl,X _ _ e,C,B⟩
theorem xi(h:vs.length=n+1):∃a r,vs=a::r/\r.length=n:=by
 cases vs with
 |nil=>cases h
 |cons a r=>exact(jh a r rfl (KH h))
theorem TV(h:vs.length=1):∃A,vs=[A]:=by refine eE (xi h) λa r B h'=>?_;clear h;subst B;exact(b9 a<|by exact af (AR.mp h') rfl)
theorem Jp(h:vs.length=2):∃B A,vs=[B,A]:=by refine eE (xi h) λB r D h'=>?_;clear h;subst D;refine aF (TV h') λA C=>?_;subst C;exact(gH B A rfl)
theorem Jq(h:vs.length=3):∃C B A,vs=[C,B,A]:=by refine eE (xi h) λC r D h'=>?_;clear h;subst D;refine kw (Jp h') λB A D=>?_;subst D;exact(Oy C B A rfl)
theorem QfT(h:vs.length=4):∃D C B A,vs=[D,C,B,A]:=by refine eE (xi h) λD r H h'=>?_;clear h;subst H;refine y6 (Jq h') λC B A G=>?_;subst G;exact(Oz D C B A rfl)
theorem QfU(h:vs.length=5):∃G D C B A,vs=[G,D,C,B,A]:=by refine eE (xi h) λG r L h'=>?_;clear h;subst L;refine B8 (QfT h') λD C B A H=>?_;subst H;exact(Y8 G D C B A rfl)
theorem QfV(h:vs.length=6):∃H G D C B A,vs=[H,G,D,C,B,A]:=by refine eE (xi h) λH r M h'=>?_;clear h;subst M;refine Y7 (QfU h') λG D C B A L=>?_;subst L;exact(OB H G D C B A rfl)
theorem QfW(h:oq (F i x 3 A B 0) ⟨[],[]⟩=pure []):∀vs:List aq,vs.length=0->oq (F i x 3 A B 0) ⟨vs,[]⟩=pure (([]:List ao).zip vs):=λvs e=>by obtain rfl:=AR.mp e;exact h
theorem qg(h:∀A,oq (F i x 3 B D 0) ⟨[A],[]⟩=pure [(C,A)]):∀vs:List aq,vs.length=1->oq (F i x 3 B D 0) ⟨vs,[]⟩=pure ([C].zip vs):=λvs e=>by refine aF (TV e) λA q=>?_;subst q;exact h A
theorem rk(h:∀B A,oq (F i x 3 C G 0) ⟨[B,A],[]⟩=pure [(D,B),(p1,A)]):∀vs:List aq,vs.length=2->oq (F i x 3 C G 0) ⟨vs,[]⟩=pure ([D,p1].zip vs):=λvs e=>by refine kw (Jp e) λB A q=>?_;subst q;exact h B A
theorem Jr(h:∀C B A,oq (F i x 3 D H 0) ⟨[C,B,A],[]⟩=pure [(G,C),(p1,B),(p2,A)]):∀vs:List aq,vs.length=3->oq (F i x 3 D H 0) ⟨vs,[]⟩=pure ([G,p1,p2].zip vs):=λvs e=>by refine y6 (Jq e) λC B A q=>?_;subst q;exact h C B A
theorem QfX(h:∀H G D C B A,oq (F i x 3 L U 0) ⟨[H,G,D,C,B,A],[]⟩=pure [(T,H),(p1,G),(p2,D),(Q,C),(O,B),(M,A)]):∀vs:List aq,vs.length=6->oq (F i x 3 L U 0) ⟨vs,[]⟩=pure ([T,p1,p2,Q,O,M].zip vs):=λvs e=>by refine OA (QfV e) λH G D C B A q=>?_;subst q;exact h H G D C B A
theorem QfY:FnForm (F 2 "_div2n1n" 3 (S "cpy313._pylong" 187) (R 20) 0) (cF<|bN 2) [aK "a",aK "b",aK "n"]:=gn (by kernel_rfl)<|Jr<|λ_ _ _=>rfl
theorem QfZ:FnForm (F 3 "_div3n2n" 3 (S "cpy313._pylong" 187) (R 27) 0) (cF<|bN 3) [aK "a12",aK "a3",aK "b",aK "b1",aK "b2",aK "n"]:=gn (by kernel_rfl)<|QfX<|λ_ _ _ _ _ _=>rfl
theorem Qf0:FnForm (F 4 "_int2digits" 3 (S "cpy313._pylong" 187) (R 34) 0) (cF<|bN 4) [aK "a",aK "n"]:=gn (by kernel_rfl)<|rk<|λ_ _=>rfl
theorem Qf1:FnForm (F 5 "_digits2int" 3 (S "cpy313._pylong" 187) (R 41) 0) (cF<|bN 5) [aK "digits",aK "n"]:=gn (by kernel_rfl)<|rk<|λ_ _=>rfl
theorem Qf2:FnForm (F 6 "_divmod_pos" 3 (S "cpy313._pylong" 187) (R 48) 0) (cF<|bN 6) [aK "a",aK "b"]:=gn (by kernel_rfl)<|rk<|λ_ _=>rfl
theorem Qf3:FnForm (F 7 "int_divmod" 3 (S "cpy313._pylong" 187) (R 55) 0) (cF<|bN 7) [aK "a",aK "b"]:=gn (by kernel_rfl)<|rk<|λ_ _=>rfl
theorem Qf4:FnForm (F 10 "_ellipsis_match" 3 (S "cpy313.doctest" 269) (R 62) 0) (cF<|bN 10) [aK "want",aK "got"]:=gn (by kernel_rfl)<|rk<|λ_ _=>rfl
theorem Qf5:FnForm (F 13 "in_table_b1" 3 (S "cpy313.stringprep" 285) (R 80) 0) (cF<|bN 13) [aK "code"]:=gn (by kernel_rfl)<|qg<|λ_=>rfl
theorem Qf6:FnForm (F 15 "map_table_b3" 3 (S "cpy313.stringprep" 285) (R 126) 0) (cF<|bN 15) [aK "code"]:=gn (by kernel_rfl)<|qg<|λ_=>rfl
theorem Qf7:FnForm (F 68 "ISTERMINAL" 3 (S "cpy313.token" 2313) (R 136) 0) (cF<|bN 68) [aK "x"]:=gn (by kernel_rfl)<|qg<|λ_=>rfl
theorem Qf8:FnForm (F 69 "ISNONTERMINAL" 3 (S "cpy313.token" 2313) (R 143) 0) (cF<|bN 69) [aK "x"]:=gn (by kernel_rfl)<|qg<|λ_=>rfl
theorem Qf9:FnForm (F 70 "ISEOF" 3 (S "cpy313.token" 2313) (R 150) 0) (cF<|bN 70) [aK "x"]:=gn (by kernel_rfl)<|qg<|λ_=>rfl
theorem Qga:FnForm (F 72 "_law_unseen" 3 (S "law_uc0059_02" 2533) (R 157) 0) (cF<|bN 72) [aK "place"]:=gn (by kernel_rfl)<|qg<|λ_=>rfl
theorem Qgb:FnForm (F 73 "_law_spelled" 3 (S "law_uc0059_02" 2533) (R 164) 0) (cF<|bN 73) [aK "code",aK "way"]:=gn (by kernel_rfl)<|rk<|λ_ _=>rfl
theorem Qgc:FnForm (F 74 "_law_words" 3 (S "law_uc0059_02" 2533) (R 171) 0) (cF<|bN 74) []:=gn (by kernel_rfl)<|QfW<|rfl
theorem Qgd:FnForm (F 75 "_law_drawn" 3 (S "law_uc0059_02" 2533) (R 176) 0) (cF<|bN 75) [aK "script"]:=gn (by kernel_rfl)<|qg<|λ_=>rfl
theorem Qge:FnForm (F 76 "_law_read" 3 (S "law_uc0059_02" 2533) (R 181) 0) (cF<|bN 76) [aK "text"]:=gn (by kernel_rfl)<|qg<|λ_=>rfl
theorem Qgf:FnForm (F 77 "_law_divided" 3 (S "law_uc0059_02" 2533) (R 188) 0) (cF<|bN 77) [aK "top",aK "low",aK "way"]:=gn (by kernel_rfl)<|Jr<|λ_ _ _=>rfl
theorem Qgg:FnForm (F 78 "_law_height" 3 (S "law_uc0059_02" 2533) (R 195) 0) (cF<|bN 78) [aK "piece",aK "signs"]:=gn (by kernel_rfl)<|rk<|λ_ _=>rfl
theorem Qgh:FnForm (F 79 "_law_line" 3 (S "law_uc0059_02" 2533) (R 200) 0) (cF<|bN 79) [aK "a",aK "marks",aK "signs"]:=gn (by kernel_rfl)<|Jr<|λ_ _ _=>rfl
theorem Qgi:FnForm (F 80 "_law_trees" 3 (S "law_uc0059_02" 2533) (R 205) 0) (cF<|bN 80) [aK "table",aK "keep"]:=gn (by kernel_rfl)<|rk<|λ_ _=>rfl
theorem Qgj:FnForm (F 81 "_law_orders" 3 (S "law_uc0059_02" 2533) (R 212) 0) (cF<|bN 81) [aK "count"]:=gn (by kernel_rfl)<|qg<|λ_=>rfl
theorem Qgk:FnForm (F 82 "_law_rows" 3 (S "law_uc0059_02" 2533) (R 219) 0) (cF<|bN 82) [aK "front",aK "left"]:=gn (by kernel_rfl)<|rk<|λ_ _=>rfl
theorem Qgl:FnForm (F 83 "law" 3 (S "law_uc0059_02" 2533) (R 224) 0) (cF<|bN 83) [aK "script"]:=gn (by kernel_rfl)<|qg<|λ_=>rfl
section
variable {w:d9} {mg mb:ao->Option aq} {h₀:bL}
theorem gY{g i a A:Nat}{x:String}{C:aq}{B:List ao}{dd:Option aj}{G:Array<|Option aq}{cls:aq}{oc:bp}{vs:Array aq}{t:gm}{m:MF}(Q:uD i=aa m)(O:tV[g]?=aa (aK x))(j:mg (aK x)=aa (.ref a))(M:(kB w.params).lookup a=aa ⟨cls,dd,.func<|F i x 3 C (.ref A) 0,G⟩)(Y:FnForm (F i x 3 C (.ref A) 0) (cF<|bN i) B)(L:(um<|bN i).args.length =B.length)(U:(kB w.params).lookup A=aa oc)(T:oc.data=.fields vs)(H:vs[1]?=aa (.str (aK x) t)):DefAt (cu w mg mb) g m:=by refine tU (TU Q) λc z c2 c3 c4=>?_;refine⟨λy D=>?_⟩;rw[O]at D;obtain rfl:=aw D;exact⟨a,_,_,_,_,c,20,j,λh b=>b.2.2.2.1 a _ M,rfl,Y,λh b _=>D7 b.2.2.2.1 U T H,z,c2,c3.trans L,c4⟩
end
noncomputable def TW:List (Nat×Nat):=[(0,2),(1,3),(4,6),(5,7),(6,10),(7,13),(8,15),(9,68),(10,69),(11,70),(12,72),(13,73),(14,75),(15,76),(16,77),(17,74),(18,78),(19,79),(20,80),(21,81),(22,82)]
def gp(g:Nat):Option MF:=(TW.lookup g).bind uD
theorem gZ{P:α->Prop}{r:List<|Nat×α}(B:g=a->P b)(A:Says (r.lookup g) P):Says (List.lookup g<|(a,b)::r) P:=by
 show Says (match g==a with|true=>aa b|false=>r.lookup g) P
 cases h:g==a with
 |true=>exact B (eq_of_beq h)
 |false=>exact A
noncomputable def xj(g:Nat):Bool:=g==2||g==3
theorem Qgm{mg B:ao->Option aq}(X:pA.In (nQ w.params) A)(G:A.Ns l4 mg)(g:Nat)(m:MF)(h:gp g=aa m):DefAt (cu w mg B) g m:=by
 refine ah (bO.mp h) λi D C=>?_;exact(show Says (TW.lookup g) (λi=>∀m,uD i=aa m->DefAt (cu w mg B) g m)from
  gZ (λe m h=>e▸gY (a:=21) (x:="_div2n1n") h rfl (fh X G<|by kernel_rfl) rfl QfY rfl rfl rfl rfl)<|
  gZ (λe m h=>e▸gY (a:=28) (x:="_div3n2n") h rfl (fh X G<|by kernel_rfl) rfl QfZ rfl rfl rfl rfl)<|
  gZ (λe m h=>e▸gY (a:=49) (x:="_divmod_pos") h rfl (fh X G<|by kernel_rfl) rfl Qf2 rfl rfl rfl rfl)<|
  gZ (λe m h=>e▸gY (a:=56) (x:="int_divmod") h rfl (fh X G<|by kernel_rfl) rfl Qf3 rfl rfl rfl rfl)<|
  gZ (λe m h=>e▸gY (a:=63) (x:="_ellipsis_match") h rfl (fh X G<|by kernel_rfl) rfl Qf4 rfl rfl rfl rfl)<|
  gZ (λe m h=>e▸gY (a:=81) (x:="in_table_b1") h rfl (fh X G<|by kernel_rfl) rfl Qf5 rfl rfl rfl rfl)<|
  gZ (λe m h=>e▸gY (a:=127) (x:="map_table_b3") h rfl (fh X G<|by kernel_rfl) rfl Qf6 rfl rfl rfl rfl)<|
  gZ (λe m h=>e▸gY (a:=137) (x:="ISTERMINAL") h rfl (fh X G<|by kernel_rfl) rfl Qf7 rfl rfl rfl rfl)<|
  gZ (λe m h=>e▸gY (a:=144) (x:="ISNONTERMINAL") h rfl (fh X G<|by kernel_rfl) rfl Qf8 rfl rfl rfl rfl)<|
  gZ (λe m h=>e▸gY (a:=151) (x:="ISEOF") h rfl (fh X G<|by kernel_rfl) rfl Qf9 rfl rfl rfl rfl)<|
  gZ (λe m h=>e▸gY (a:=158) (x:="_law_unseen") h rfl (fh X G<|by kernel_rfl) rfl Qga rfl rfl rfl rfl)<|
  gZ (λe m h=>e▸gY (a:=165) (x:="_law_spelled") h rfl (fh X G<|by kernel_rfl) rfl Qgb rfl rfl rfl rfl)<|
  gZ (λe m h=>e▸gY (a:=177) (x:="_law_drawn") h rfl (fh X G<|by kernel_rfl) rfl Qgd rfl rfl rfl rfl)<|
  gZ (λe m h=>e▸gY (a:=182) (x:="_law_read") h rfl (fh X G<|by kernel_rfl) rfl Qge rfl rfl rfl rfl)<|
  gZ (λe m h=>e▸gY (a:=189) (x:="_law_divided") h rfl (fh X G<|by kernel_rfl) rfl Qgf rfl rfl rfl rfl)<|
  gZ (λe m h=>e▸gY (a:=172) (x:="_law_words") h rfl (fh X G<|by kernel_rfl) rfl Qgc rfl rfl rfl rfl)<|
  gZ (λe m h=>e▸gY (a:=196) (x:="_law_height") h rfl (fh X G<|by kernel_rfl) rfl Qgg rfl rfl rfl rfl)<|
  gZ (λe m h=>e▸gY (a:=201) (x:="_law_line") h rfl (fh X G<|by kernel_rfl) rfl Qgh rfl rfl rfl rfl)<|
  gZ (λe m h=>e▸gY (a:=206) (x:="_law_trees") h rfl (fh X G<|by kernel_rfl) rfl Qgi rfl rfl rfl rfl)<|
  gZ (λe m h=>e▸gY (a:=213) (x:="_law_orders") h rfl (fh X G<|by kernel_rfl) rfl Qgj rfl rfl rfl rfl)<|
  gZ (λe m h=>e▸gY (a:=220) (x:="_law_rows") h rfl (fh X G<|by kernel_rfl) rfl Qgk rfl rfl rfl rfl)<|
  trivial).get D m C
theorem Qgn(ok:(cu w mg mb).Ok)(X:pA.In (nQ w.params) A)(G:A.Ns l4 mg):Lib0 (cu w mg mb) aA where
 ok:=ok
 consts:=λx m h=>(show Says (tZ x) (λm=>∃v,(cu w mg mb).mg x=aa v/\((∃i t,m=.ki i/\v=.int i t)\/∃y t,m=.ks y/\v=.str (a8 y) t/\y.length<=1000))from
  iI (λe=>e▸(br ((I 4000 189)) (fh X G<|by kernel_rfl)<|.inl<|jh _ _ rfl rfl)) (iI (λe=>e▸(br ((I 256 2413)) (fh X G<|by kernel_rfl)<|.inl<|jh _ _ rfl rfl))
  (iI (λe=>e▸(br ((I 0 2315)) (fh X G (by kernel_rfl)) (.inl (jh _ _ rfl rfl)))) (iI (λe=>e▸(br ((S "..." 271)) (fh X G (by kernel_rfl)) (.inr (ji _ _ rfl rfl (by decide))))) trivial)))).get h
 bis:=λx b h=>by refine af (QM h) ?_;cases b<;>exact mg_none_of X G<|by kernel_rfl
 rng:=mg_none_of X G<|by kernel_rfl
 rvd:=mg_none_of X G<|by kernel_rfl
 tabs:=QfP (G:=λt=>by cases t<;>exact fh X G<|by kernel_rfl)
end
section
open PySem.Calls
noncomputable def gA(n:Nat):List Int->Int
 |[]=>0
 |d::r=>d+gA n r*2^n
theorem xk:gA n []=0:=rfl
theorem xl:gA n (d::r)=d+gA n r*2^n:=rfl
theorem TX(n:Nat):∀a b:List Int,gA n (a++b)=gA n a+gA n b*2^(n*a.length):=by
 intro A;induction A with
 |nil=>intro b;simp[xk,xl]
 |cons d a B=>intro b;simp only[vu,xk,xl,B b,eK];simp only[show n*(a.length+1)=n*a.length+n by simp only[to,Lu],Lv,rE,KB];exact Z0 0x1d0452452570d00c80030d0200 [_,_,_] Yt
noncomputable def rm(n:Nat)(ds:List Int):Bool:=ds.all (λd=>decide (0<=d)&&decide (d<2^n))&&decide (n*ds.length<=900000)&&decide (ds.length<=65536)
theorem Qgo(n:Nat):∀ds:List Int,(∀d∈ds,0<=d/\d<2^n)->0<=gA n ds/\gA n ds<2^(n*ds.length):=by
 intro B;induction B with
 |nil=>intro _;simp[xk,xl]
 |cons d r C=>
  intro h;refine aE λA=>?_;refine aG (h d<|.head _) λM L=>?_;refine aG (C λx D=>h x<|.tail _ D) λH G=>?_;apply A;clear A;simp only[xk,xl,eK];simp only[show n*(r.length+1)=n*r.length+n by simp only[to,Lu],Lv];have p:(0:Int)<2^n:=E0 (by decide);generalize O:(2:Int)^n=P at*;generalize (2:Int)^(n*r.length)=Q at*;constructor
  ·have:=VQ H<|n3 p;exact qR 0x70c02011c8047001 Yt M this
  ·have:(gA n r+1)*P<=Q*P:=QkV G<|n3 p;simp only[rE]at this;exact Z2 0xf4030183c86074034c8240 [_,_,_,_] Yt L this
def o4:List ak->Option ((Int×Int)×List Int×Int)
 |[a,b,c,d]=>two (mw a b) (two ((iE c).bind fU) (iD d))
 |_=>ab
theorem Qgp{args:List ak}{L R z:Int}{ds:List Int}(h:o4 args=aa ((L,R),ds,z)):∃xs,args=[.int L,.int R,.list xs,.int z]/\fU xs=aa ds:=by
 rcases args with _|⟨a,_|⟨b,_|⟨c,_|⟨d,_|⟨e,r⟩⟩⟩⟩⟩
 ·injection h
 ·injection h
 ·injection h
 ·injection h
 ·refine aG (cV h) λH G=>?_;refine aG (cV G) λD C=>?_;refine ah (bO.mp D) λxs B A=>?_;refine aG (nu H) λO M=>?_;subst O;subst M;refine af (iF C)<|af (lk B) ?_;exact(br xs rfl A)
 ·injection h
def j6(m:Nat):bC:=λg args=>if g=40 then((o4 args).bind λp=>if 0<=p.2.2/\rm p.2.2.toNat p.2.1=ac/\0<=p.1.1/\p.1.1<p.1.2/\p.1.2<=p.2.1.length/\2*(p.1.2-p.1.1)<=2^m then aa (.int (gA p.2.2.toNat ((p.2.1.drop p.1.1.toNat).take (p.1.2-p.1.1).toNat)))else ab)else ab
theorem TY(m:Nat){N:Nat}:CU W (j6 m) N:=λg x args d A h=>by
 exfalso;have:g=40:=by
  unfold j6 at h;split at h
  ·assumption
  ·injection h
 clear h;subst this;injection A
theorem TZ{m:Nat}{args:List ak}(h:j6 m 40 (args++[G,D])=aa d):∃(L R z:Int)(xs:List ak)(ds:List Int),args=[.int L,.int R]/\G=.list xs/\D=.int z/\fU xs=aa ds/\0<=z/\rm z.toNat ds=ac/\ 0<=L/\L<R/\R<=ds.length/\2*(R-L)<=2^m/\d=.int (gA z.toNat<|(ds.drop L.toNat).take (R-L).toNat):=by
 refine aE λA=>?_;unfold j6 at h;rw[ar rfl]at h;refine ah (bO.mp h) λq M B=>?_;obtain⟨⟨L,R⟩,ds,z⟩:=q;refine ah (Qgp M) λxs e T=>?_;clear h;apply A;clear A;split at B
 ·refine aE λA=>?_;rename_i H;refine YY H λj c2 c3 c4 Y U=>?_;have C:args=[.int L,.int R]/\[G,D]=[.list xs,.int z]:=WC e rfl;refine aG (Lb C.2) λQ O=>?_;apply A;clear A;exact⟨L,R,z,xs,ds,C.1,Q,(Lb O).1,T,j,c2,c3,c4,Y,U,(aw B).symm⟩
 ·injection B
theorem Js{m:Nat}{L R z:Int}{xs:List ak}{ds:List Int}(M:fU xs=aa ds)(H:0<=z)(G:rm z.toNat ds=ac)(D:0<=L)(C:L<R)(B:R<=ds.length)(A:2*(R-L)<=2^m): j6 m 40 [.int L,.int R,.list xs,.int z]=aa (.int<|gA z.toNat<|(ds.drop L.toNat).take (R-L).toNat):=by refine(?_:(o4 [.int L,.int R,.list xs,.int z]=aa ((L,R),ds,z))->_) (by show two (aa (L,R)) (two (fU xs)<|aa z)=_;refine af M ?_;rfl);intro e;unfold j6;rw[ar rfl];refine af e ?_;rw[WH,ar ⟨H,G,D,C,B,A⟩]
theorem T0(h:fU xs=aa ds):xs.length=ds.length/\xs=ds.map .int :=by have e:xs=ds.map .int :=Hv (λ_ _=>iF) h;exact⟨by refine af e ?_;rw[b8],e⟩
noncomputable def Jt:List MS:=[.ife (.cmp .eq (.bin .add (.v 0) (.ki 1)) (.v 1)) [.ret (.idx (.v 4) (.v 0))] [],.asg 2 (.bin .shr (.bin .add (.v 0) (.v 1)) (.ki 1)),.asg 3 (.bin .mul (.bin .sub (.v 2) (.v 0)) (.v 6)),.ret (.bin .add (.bin .shl (.call 40 [.v 2,.v 1,.v 4,.v 6]) (.v 3)) (.call 40 [.v 0,.v 2,.v 4,.v 6]))]
theorem xm(B:0<=x)(h:x<2^k)(A:k<=999999):cb x=ac:=by
 unfold cb;have:x.natAbs<2^k:=by
  have:(x.natAbs:Int)<((2^k:Nat):Int):=by refine af (KJ B) ?_;simpa using h
  exact_mod_cast this
 by_cases z:x.natAbs=0
 ·refine af z ?_;decide
 ·have:=(xV z).mpr this;simp;exact NB A this
theorem Qgq(m:Nat){L R z:Int}{xs:List ak}{ds:List Int}(s:fU xs=aa ds)(Q:0<=z)(O:rm z.toNat ds=ac)(C:0<=L)(G:L<R)(D:R<=ds.length)(t:2*(R-L)<=2^(m+1))(T:Tabs)(Wf:Nat): ∃f',bt T (j6 m) Wf 20 Jt [.val<|.int L,.val<|.int R,.un,.un,.val<|.list xs,.un,.val<|.int z]=aa (.ret<|.int<|gA z.toNat<|(ds.drop L.toNat).take (R-L).toNat,f'):=by
 refine aG (T0 s) λhl hx=>?_;unfold Jt;by_cases q:L+1=R
 ·have i1:L.toNat<ds.length:=W3 0x3500528228a28914a082282289380b001c0047b00217203240 [_] [_,_] Yt C D q;have ix:xs[L.toNat]?=aa (.int ds[L.toNat]):=by simp only[hx,fW,ee i1];rfl
  refine(?_:(idx2 (.list xs) (.int L)=aa (.int ds[L.toNat]))->_) (by show(e9 L xs.length).bind (λj=>xs[j]?)=_;unfold e9;rw[ar C,ar<|by exact W3 0x3ec0001ec208d88017203240 [_,_] [_,_] Yt D hl q];exact ix);intro i2;refine(?_:((ds.drop L.toNat).take (R-L).toNat =[ds[L.toNat]])->_) (by simp only[show(R-L).toNat =1 from qR 0xd4b00814228225d04528a082082245282282089589b0b0085c80c9037203240 Yt q q,Fd i1];rfl);intro e;have p:gA z.toNat [ds[L.toNat]]=ds[L.toNat]:=by simp[xk,xl]
  refine af e<|af p ?_;have v:bP .add (.int L) (.int 1)=aa (.int<|L+1):=rfl;have y:cY .eq (.int<|L+1) (.int R)=aa ac:=by show aa (L+1==R)=_;exact af (bJ.mpr q) rfl
  exact⟨_,by simp only[jn,jm,mz,jR,gz,dh,Frm.get,dq,ii,v,kD,Frm.peek,dD,y,b7,ey,nF,Cv,i2];rfl⟩
 ·have l:(L+R)/2^(1:Int).toNat =(L+R)/2:=rfl;generalize H:(L+R)/2=M at*;have b1:L<M:=NC G q H;have Y:M<R:=ND G H;have w:2*(M-L)<=2^m/\2*(R-M)<=2^m:=by
   cases m with
   |zero=>exfalso;simp at t;exact NE G q t
   |succ m=>
    have Mr:(2:Int)^(m+1+1)=2*(2*2^m):=by rw[yl,yl];exact NF
    have Ms:(2:Int)^(m+1)=2*2^m:=by rw[yl];exact NG
    exact OC H t Mr Ms
  have c1:=Js (m:=m) (R:=R) s Q O (L:=M) (qR 0x72011c004f200 Yt C b1) Y D w.2;have c2:=Js (m:=m) s Q O C b1 (NH G D H) w.1;simp only[rm,bo,du,bH]at O;refine aG O λaQ g=>?_;obtain⟨r,i⟩:=aQ;generalize x:z.toNat=n at*;have hz:z=(n:Int):=W3 0xd4074114a08914a28208a08974114a08a08208914a282082082257b00007001580b00d80b00 [_] [_] Yt Q x x;generalize h:gA n ((ds.drop M.toNat).take (R-M).toNat)=A at*;generalize hB:gA n ((ds.drop L.toNat).take (M-L).toNat)=B at*;have qN:∀(a b:Nat),∀d∈(ds.drop a).take b,0<=d/\d<2^n:=λa b d hd=>r d<|AY<|WF hd;have c:=Qgo n _<|qN M.toNat (R-M).toNat;rw[h]at c;have lA:((ds.drop M.toNat).take (R-M).toNat).length <=ds.length:=by rw[l6,fX];exact W4 0x15b0003500528208a08a28914a08208a08208a24d2ec000b0b00814208a08208a245082282282289180d0bb0002c2c02074013c8407b0020f200 [_] [_,_,_] Yt C G D Y
  have sA:cb A=ac:=xm c.1 c.2 (by have:=l7 n lA;exact NI i this);have u:(n:Int)<2^20/\((M-L)*n)<=900000/\0<=(M-L)*n:=by
   have f:n*1<=n*ds.length:=l7 n<|W3 0x60091c804f0081ec000 [_] [_,_] Yt C G D;have p:n*(M-L).toNat <=n*ds.length:=l7 n<|W3 0x2d443200d4b01014a08208208914a08a28208a28a291180b0b0101c0047b0023741b443200 [_] [_,_,_] Yt C D H;have U:((n*(M-L).toNat :Nat):Int)=(M-L)*n:=by rw[iq,E3 (by exact yQ b1),uY]
   refine⟨NJ i f,W3 0x70a2caa69a6401828b2a9a699206200dc0b00 [_,_] [_] Yt i p U,pN 0x70015c0b00 Yt U⟩
  have s1:cb (M-L)=ac:=xm (k:=20) (yQ b1) (W4 0xb510c800528208a48a29224f08208208284b0101c0047b0023741b443200182082082440 [_] [_,_,_] Yt C D H g) (by decide);have s2:cb z=ac:=xm (k:=20) (fT 0x1c0047001 Yt Q) (pM 0xf0820820828405ec0003c20820820a1b00 Yt hz u.1) (by decide);have o:gA n ((ds.drop L.toNat).take (R-L).toNat)=A*2^((M-L)*n).toNat +B:=by
   have e:(ds.drop L.toNat).take (R-L).toNat =(ds.drop L.toNat).take (M-L).toNat ++(ds.drop M.toNat).take (R-M).toNat :=by have f:(R-L).toNat =(M-L).toNat +(R-M).toNat :=Z3 0x352c020508a082089d4b4001422820820822752d020508a08208208208974114a28208228208914a08a08a0822560ec2c022c2d002c2d020f2103c040f200 [_,_,_] Yt G b1 Y;refine af f ?_;rw[List.take_add,AU];congr 3;exact qR 0xd48142282289d4b00814228208208227501d04528a08a08208a08224528228228225d04528a08228208224528228208a0895ac203b0b008b001c004f200 Yt C b1
   refine af e ?_;rw[TX];refine af h<|af hB ?_;rw[l6,fX,Int.add_comm];congr 3;have U:((n*(M-L).toNat :Nat):Int)=(M-L)*n:=by rw[iq,E3 (by exact yQ b1),uY]
   refine bT U ?_;rw[jE];congr 1;exact W5 0xd4b400142282082089d5034bb1002c2d0015b1000508a08208208a08208208a28914a08208208a28228208228228225d04528208914a08208934bb1002c2d0015b1000508a08208208a08208208208a24528208208228a08228208208228225d04528208914a0820895ac2d00342ec400b0b4001d004f2101ec0083c040f200 [_] [_,_,_] Yt C G D b1 Y
  refine af o ?_;have t1:bP .mul (.int<|M-L) (.int z)=aa (.int<|(M-L)*n):=by show(if(cb (M-L)&&cb z)=ac then aa (bQ<|(M-L)*z)else ab)=_;refine af s1<|af s2<|af hz ?_;rfl
  have t2:bP .shl (.int A) (.int<|(M-L)*n)=aa (.int<|A*2^((M-L)*n).toNat):=by show(if(decide (0<=(M-L)*(n:Int))&&decide ((M-L)*(n:Int)<=1000000)&&cb A)=ac then aa (bQ<|A*2^((M-L)*(n:Int)).toNat)else ab)=_;refine af sA<|af (df u.2.2) ?_;rw[df<|xP u.2.1<|by decide];rfl
  have v:bP .add (.int L) (.int R)=aa (.int<|L+R):=rfl;have y:bP .shr (.int<|L+R) (.int 1)=aa (.int M):=bT l rfl;have u3:bP .sub (.int M) (.int L)=aa (.int<|M-L):=rfl;have u4:bP .add (.int L) (.int 1)=aa (.int<|L+1):=rfl;have u5:bP .add (.int<|A*2^((M-L)*n).toNat) (.int B)=aa (.int<|A*2^((M-L)*n).toNat +B):=rfl;have u6:cY .eq (.int<|L+1) (.int R)=aa ae:=by show aa (L+1==R)=_;exact af (beq_eq_false_iff_ne.mpr q) rfl
  simp only[jn,jm,mz,jR,gz,dh,Frm.get,eK,kg,n9,WI,WJ,getElem?_pos,WK,ii,u4,kD,Frm.peek,WL,WM,u6,b7,ey,nG,jS,v,y,Frm.put,dW,dX,u3,Nat.lt_add_one,t1,nF,kA,cO,cQ,c1,t2,c2,u5,vA,WN,true_and,exists_eq']
def jz:de:=(cF (bN 5)).getD 0 (.Pass default)
noncomputable def D8:au->Option (au×Operator×au×aY)| .BinOp l o r p=>aa (l,o,r,p)|_=>ab
theorem T1(h:D8 e=aa (l,o,r,p)):e=.BinOp l o r p:=(show Says (D8 e) (λv=>e=.BinOp v.1 v.2.1 v.2.2.1 v.2.2.2)from by clear h;cases e using yc<;>first|exact i8|exact rfl).get h
noncomputable def Ju:de->Option (au×aY)| .Return (aa e) p=>aa (e,p)|_=>ab
theorem Qgr{st:de}{e:au}(h:Ju st=aa (e,p)):st=.Return (aa e) p:=(show Says (Ju st) (λv=>st=.Return (aa v.1) v.2)from by
 cases st with
 |Return A p=>cases A with
  |none=>exact i8
  |some e=>exact rfl
 |_=>exact i8).get h
def D9(e:au):Option (List au×aY×aY):=match wm e with
 |some (g,es,ks,p)=>(match qY g with
  |some (x,q)=>if x=="inner"&&ks.isEmpty&& !es.isEmpty then aa (es,q,p)else ab
  |none=>ab)
 |none=>ab
theorem T2(h:D9 e=aa (es,q,p)):e=.Call (.Name "inner" q) es [] p/\es.isEmpty=ae:=by
 unfold D9 at h;split at h
 ·rename_i D;split at h
  ·rename_i C;split at h
   ·rename_i A;obtain⟨rfl,B⟩:=dc<|aw h;clear h;obtain⟨rfl,rfl⟩:=dc B;simp only[bo,bJ,oh,n8]at A;refine af (Hg D)<|af (t6 C)<|af A.1.1<|af A.1.2 ?_;exact⟨rfl,A.2⟩
   ·injection h
  ·injection h
 ·injection h
def T3(c:Cx)(st:de):Option (List MS):=(Ju st).bind λv=>(D8 v.1).bind λb=>(two (D8 b.1) (D9 b.2.2.1)).bind λp=>
 (D9 p.1.1).bind λq=>if b.2.1==.Add &&p.1.2.1==.LShift then(two (cA (bq 20 c) q.1) (two (bq 20 c p.1.2.2.1) (cA (bq 20 c) p.2.1))).map
  λm=>[.ret (.bin .add (.bin .shl (.call 40 (m.1++[.v 4,.v 6])) m.2.1) (.call 40 (m.2.2++[.v 4,.v 6])))]else ab
def Ea(c:Cx)(st:de):Option (List MS):=match T3 c st with
 |some a=>aa a
 |none=>jQ 20 c st
def cD:Cx:={names:=(eG jz).names}
theorem Qgs:lf (Ea cD) (cF jz)=aa Jt:=by kernel_rfl
noncomputable def xn:List (ao×dn):=[("L",.local),("R",.local),("mid",.local),("shift",.local),("digits",.free),("inner",.free),("n",.free)]
theorem rq:(eG jz).names =xn:=by kernel_rfl
noncomputable abbrev xo(cn ci cd:aj):List (ao×aj):=[("n",cn),("inner",ci),("digits",cd)]
noncomputable abbrev qD:ao:="_digits2int.<locals>.inner"
abbrev T4(k8:List (ao×aj))(fR pm f8:aq)(c':aj):qv:=fnX "inner" qD (um jz) (cF jz) (eG jz) k8 .none .none fR pm ab (.ref c') f8
theorem Qgt{A ci B:aj}{D C G:aq}{H:aj}:CloForm (T4 (xo A ci B) D C G H) (cF jz) ["L","R"] (xo A ci B) where
 body:=rfl
 clo:=rfl
 glob:=rfl
 blt:=rfl
 co:=by kernel_rfl
 gen:=by kernel_rfl
 kind:=by kernel_rfl
 nodup:=by show((eG jz).names.map (·.1)).Nodup;refine af rq ?_;decide
 cell:=by show∀x∈(eG jz).names,x.2≠.cell;refine af rq ?_;decide
 free:=λi x h=>by
  refine(?_:((eG jz).names[i]?=aa (x,.free))->_)<|h;intro h;rw[rq]at h;unfold xn at h;rcases i with _|_|_|_|_|_|_|i<;>simp at h<;>subst h
  ·exact⟨B,by rfl⟩
  ·exact⟨ci,by rfl⟩
  ·exact⟨A,by rfl⟩
 pars:=λi x h=>by show(eG jz).names[i]?=_;refine af rq ?_;rcases i with _|_|i<;>simp at h<;>subst h<;>rfl
 bind:=λvs h=>by refine kw (Jp h) λa b L=>?_;clear h;subst L;rfl
theorem Qgu{N Wf:Nat}(L:Lib W T O N)(D:EnvOk env)(G:env.scope.names=xn){Y ci j f:aj}(H:env.cells=xo Y ci j){o:bp}{fd:qv}(t:∀h,W.Bs h->h.IsCell ci (aa<|.ref f))(C:∀h,W.Bs h->h.get? f=aa o)(g:o.data=.func fd)(d:IQ W O N 40 f j Y [Y,ci,j]): ∀st a,Ea cD st=aa a->kG W T O N Wf env st a:=by
 have v:dP cD env:=λi x k h=>(br k (by refine af G ?_;rw[show cD.names=xn from rq]at h;exact h)<|.inl rfl);have sub:∀e m,bq 20 cD e=aa m->SE W T O N env e m:=λe m h=>(kF L 20 cD env e m v D h).se;refine(?_:(∀{x:ao}{es:List au}{ms:List ME}{np pos:aY},x="inner"->es.isEmpty=ae->cA (bq 20 cD) es=aa ms->SE W T O N env (.Call (.Name x np) es [] pos) (.call 40<|ms++[.v 4,.v 6]))->_) (λ{x es ms np pos} A cj ht=>by
  subst A;exact Rt L.ok D (λe m h=>(gV h).1) (x1:="digits") (x2:="n") (k1:=.free) (k2:=.free) rfl (.inr<|D.kindAt (i:=5)<|by refine af G ?_;rfl) (af H rfl) t C g (by rintro rfl;injection cj)
   (af G rfl) (.inr rfl) (af H rfl) (af G rfl) (.inr rfl) (af H rfl) (λc y=>by
    simp only[bF,jb,or_false]at y;refine af H ?_;rcases y with e|e|e<;>refine af e ?_
    ·exact(b9 ("n") rfl)
    ·exact(b9 ("inner") rfl)
    ·exact(b9 ("digits") rfl)) d ht λe _ m h=>sub e m h)
 intro call st a h;refine(?_:(jQ 20 cD st=aa a->kG W T O N Wf env st a)->_)<|λh=>IL L 20 cD env st a v D h;intro z;cases A:T3 cD st with
 |none=>exact z (by unfold Ea at h;rwa[A]at h)
 |some a'=>
  refine aE λu=>?_;clear z;obtain rfl:a'=a:=by unfold Ea at h;rw[A]at h;exact aw h
  refine ah (bO.mp A) λB hr A=>?_;obtain⟨e,p0⟩:=B;refine ah (bO.mp A) λB hb A=>?_;obtain⟨l,o,r,p⟩:=B;refine ah (bO.mp A) λB Q A=>?_;obtain⟨⟨a1,q,s,n⟩,uJ,q2,p3⟩:=B;refine aG (cV Q) λhl Mu=>?_;refine ah (bO.mp A) λB ha A=>?_;obtain⟨uH,q1,p1⟩:=B;refine aG (mQ.mp A) λC A=>?_;refine ah (cv.mp A) λB M aD=>?_;obtain⟨m1,m2,m3⟩:=B;subst aD;have C:=fP.mp C;refine aG (cV M) λh1 U=>?_;refine aG (cV U) λh2 h3=>?_;refine aG (T2 ha) λi1 w=>?_;refine aG (T2 Mu) λi2 b=>?_;have e2:e=.BinOp l o r p:=T1 hb;have e3:l=.BinOp a1 q s n:=T1 hl;apply u;clear u;refine af (Qgr hr)<|af e2<|af e3<|af (show o=.Add from eq_of_beq C.1)<|af (show q=.LShift from eq_of_beq C.2)<|af (show a1=_ from i1)<|af (show r=_ from i2) ?_;exact⟨[],_,rfl,(λ_ M=>nomatch M),Rl L<|Ib L (Ib L (call rfl w h1)<|sub _ _ h2)<|call rfl b h3⟩
theorem Qgv{W:Wd}{X X':List aj}{env:bu}{s C B:aC}{H:Nat->aj}{f:Frm}{X0:List aj}{T:bu}(Q:∃M tk,C={s with heap:=M,toks:=tk})(O:∀b o,s.heap.get? b=aa o->C.heap.get? b=aa o)(U:s.heap.get? env.locals=ab)(st:Stp W X (env.locals::X) X' C B)(D:SR W X0 T H X' B.heap f):Ext W s B:=by
 refine⟨?_,λb o L e=>?_,λ_=>D.bs,λ_=>D.tb⟩
 ·exact oU Q st.same
 ·refine(?_:_->_)<|O b o e;intro G;by_cases q:b∈X
  ·exact st.keep0 b o q L G
  ·refine st.keep b o (λA=>?_) G;rcases bF.mp A with A|A
   ·simp only[A,U]at e;injection e
   ·exact q A
set_option tactic.hygienic true in
theorem Qgw(L0:Lib0 W T){C ci D f G:aj}{fR pm f8:aq}{B H oc:bp}{j:Array aq}{t:gm}(yG:B.data=.cell (aa<|.ref f))(w:H.data=.func (T4 (xo C ci D) fR pm f8 G))(BH:oc.data=.fields j)(hv:j[1]?=aa (.str qD t))(hK:∀p∈[(ci,B),(f,H),(G,oc)],p.1∉W.T)(l:C≠ci/\C≠D/\ci≠D): ∀m,IQ (Wc W [(ci,B),(f,H),(G,oc)]) (j6 m) (m+1) 40 f D C [C,ci,D]:=by
 intro m;induction m with
 |zero=>exact λargs d d1 d2 A X s vs n r Q h=>by obtain⟨L,R,z,xs,ds,_,_,_,_,_,_,_,u,_,U,_⟩:=TZ h;simp at U;exact pr (NK u U)
 |succ m ih=>
  exact λargs d d1 d2 A X s vs n r Q h am o tb tX g m7 Mk r1 Ml r2 hr hQ=>by
   refine aE λcG=>?_;obtain⟨L,R,z,xs,ds,rfl,rfl,rfl,u,U,h3,h4,h5,h6,h7,rfl⟩:=TZ h;refine(?_:_->_)<|zI L0.ok hK;intro k;refine aF (Qgq m u U h3 h4 h5 h6 h7 T 100) λf' bG=>?_;have Y:∀h,(Wc W [(ci,B),(f,H),(G,oc)]).Bs h->h.get? ci=aa B/\h.get? f=aa H/\h.get? G=aa oc:=λh b=>⟨b.2 (ci,B) (by simp),b.2 (f,H) (by simp),b.2 (G,oc)<|by simp⟩;refine(?_:(∀(x:ao)(c:aj),(xo C ci D).lookup x=aa c->c∈[C,ci,D])->_) (λx c q=>by
    have:=mem_of_lookup q;simp only[bF,WN,jb,or_false]at this⊢;rcases this with⟨_,e⟩|⟨_,e⟩|⟨_,e⟩
    ·exact .inl e
    ·exact .inr<|.inl e
    ·exact .inr (.inr e))
   intro Mv;have L1:Lib (Wc W [(ci,B),(f,H),(G,oc)]) T (j6 m)<|m+1:=(Dc L0 hK).lib<|TY m;apply cG;clear cG;refine Ru k Qgt (f:=[.val<|.int L,.val<|.int R,.un,.un,.val<|.list xs,.un,.val<|.int z]) (Y _ o).2.1 w ⟨G,oc,j,t,rfl,(Y _ o).2.2,BH,hv⟩ (by have:=am.depth;exact NL this) o tb tX g hr rfl ?_ ?_ ?_ (λx c q=>m7 c<|Mv x c q) ?_ ?_
   ·show _=(eG jz).names.length;simp only[rq];rfl
   ·intro i O;rcases i with _|_|i
    ·rfl
    ·rfl
    ·exact absurd O (by show¬i+1+1<2;exact cN 0x26443243240 Yt)
   ·intro i x kd O M;have M:(eG jz).names[i]?=aa (x,kd):=M;rw[rq]at M;rcases i with _|_|_|_|_|_|_|i
    ·simp at O
    ·simp at O
    ·exact .inl rfl
    ·exact .inl rfl
    ·obtain⟨rfl,rfl⟩:=dc<|aw M;exact .inr<|y7 _ D n rfl rfl rfl Mk r1
    ·exact .inl rfl
    ·obtain⟨rfl,rfl⟩:=dc<|aw M;exact .inr<|y7 _ C r rfl rfl rfl Ml r2
    ·simp[xn]at M
   ·simp only[QlC,bF,jb,or_false];refine⟨?_,?_,?_,.nil⟩
    ·rintro y (rfl|rfl)
     ·exact l.1
     ·exact l.2.1
    ·rintro y rfl;exact l.2.2
    ·intro y hy;cases hy
   ·intro env aN eD dN eo _ same gw Ln cm sr;have Mj:=sD (Qgu (Wf:=100) L1 eo (by refine af eD ?_;exact rq) dN (λh b=>⟨B,(Y h b).1,yG⟩) (λh b=>(Y h b).2.1) w ih) Qgs;refine Mj 20 (A.deeper env) X _ _ _ aN _ f' _ am.deeper cm sr bG λcM X' s' dY st gP fo=>?_;cases fo;rename_i v a;refine hQ v s' (Qgv same gw Ln st gP) ?_;refine aF a.int_inv λt an=>?_;clear a;subst an;exact .int _ _
section
variable {M:Model} {A:cX} {E:aq->aC->Prop} {s:aC} {name qual:ao} {params:EY} {body:List de} {scope:fH} {env:bu} {c P:aj} {pos:aY} {line:Nat} {mg:ao->Option aq} {k8:List (ao×aj)} {Q:aq->aC->Prop}
def Qgx(s:aC)(P c:aj)(pos:aY)(name qual:ao)(params:EY)(body:List de)(scope:fH)(k8:List (ao×aj))(Q:aq->aC->Prop):Prop:=
 ∀(c':aj)(fR pm f8:aq)(h':bL)(tk:gm)(oc:bp)(vc:Array aq)(t:gm),(∀b o,b≠P->s.heap.get? b=aa o->h'.get? b=aa o)->TbAt c P pos qual h'->h'.get? c'=aa oc->oc.cls=.type "code"->oc.data=.fields vc->vc[1]?=aa (.str qual t)->
  Q (.ref h'.objs.size) {s with heap:=h'.push {cls:=.type "function",data:=.func (fnX name qual params body scope k8 .none .none fR pm ab (.ref c') f8)},toks:=tk}
theorem Qgy(dN:vr scope env=pure k8)(cj:k8.isEmpty=ae)(XU:env.globals=l4)(a:s.heap.Ns l4 mg)(i:env.code=.ref c)(tb:TbAt c P pos qual s.heap)(v:l4≠P)(w:s.heap.BuiltinsAt mg P)(h:Qgx s P c pos name qual params body scope k8 Q):aI M A (makeFunction name qual params (.stmts body) scope env [] [] [] pos line) Q E s:=by
 refine aE λT=>?_;obtain⟨y,C,Y,H,g⟩:=tb;apply T;clear T;refine fI g (λXV=>?_) λpE=>?_
 ·obtain⟨bm,U,e1,e2,e3,e4,e5,e6,e7,e8⟩:=w;rw[makeFunction_eq];simp only[List.zip_nil_right,List.filterMap_nil,List.isEmpty_nil,if_true,pure_bind];unfold makeTail;refine af dN<|af XU ?_;refine bI<|d6 ?_;refine af cj ?_;simp only[AP,if_false];refine bI<|wpAny_newTextTuple ?_;have keep:∀(o:bp) b U,s.heap.get? b=aa U->(s.heap.push o).get? b=aa U:=λo b U e=>qn _ e;refine bI<|wpAny_functionCodeX i ((C.keeps<|keep _).code (keep _ _ _ Y) H) ((C.keeps<|keep _).tab<|keep _ _ _ Y) XV λB h' tk hx vR bM hic l k ⟨P',_,_,u⟩=>?_;have G:Heap.ExtBut P s.heap h':=λb o n e=>hx b o n<|keep _ _ _ e;have XW:=a.extBut G v;refine bI<|wpAny_builtinsFor XW e1 e2 (G _ _ e4 e5) e6 e7 e8 ?_;refine bI<|wpAny_nsGet XW ?_;refine aE λT=>?_;obtain⟨⟨oc,vs,z,g2,j,g4⟩,_⟩:=u;obtain⟨c₂,QoB,QoC,m,r1,f,p,r4⟩:=l;apply T;clear T;obtain rfl:=tc r1;rw[z]at f;obtain rfl:=aw f;rw[j]at p;obtain rfl:=Qom p;have e:(y++#[vq pos.line,vq pos.col,ye B]).toList =y.toList++[vq pos.line,vq pos.col,.ref B]:=by simp
  have cP:c≠P:=by obtain⟨_,_,_,_,_,_,_,_,_,_,_,_,_,_,_,_,_,_,q⟩:=C;exact q
  have BJ:TbAt c P pos qual h':=by obtain⟨o,vs,O,tf,D,tg,BG,text,tt,a1,a2⟩:=C;refine⟨_,⟨o,vs,O,tf,D,tg,BG,text,tt,G _ _ cP a1,a2⟩,k.2,by refine af e ?_;exact TriplesOk_snoc _ _ _ _ H,.inr<|wk B oc _ m ?_ z g2 j r4⟩;refine af e ?_;rw[codeAmong_snoc _ H XV]
  cases QoD:docOf body with
  |none=>exact bI (d6 (Wq (h B _ _ _ h' tk oc _ m G BJ z g2 j r4) (by size_fits)))
  |some d=>exact bI (wpAny_mkText (Wq (h B _ _ _ h' _ oc _ m G BJ z g2 j r4) (by size_fits)))
 ·obtain⟨B,oc,r,t,x,h1,h2,h3,h4⟩:=pE;refine makeFunction_hit dN XU a i C Y H x w λf8 fR h' tk L _=>?_;exact h B fR _ f8 h' tk oc r t (λb o _ e=>L b o e) ⟨y,C.keeps L,L _ _ Y,H,.inr<|wk B oc r t x (L _ _ h1) h2 h3 h4⟩ (L _ _ h1) h2 h3 h4
end
theorem TbAt.but(x:TbAt c P pos qual h)(d:∀o,h.get? D=aa o->o.cls=.none)(H:P≠D)(k:∀b o,b≠D->h.get? b=aa o->h'.get? b=aa o):TbAt c P pos qual h':=by
 refine aE λT=>?_;obtain⟨v,⟨o,vs,B,j,A,Y,i,text,U,Q,O,p,r⟩,m,l,g⟩:=x;have G:∀(b:aj)(C:bp),h.get? b=aa C->C.cls=.type "code"->b≠D:=λb C e q z=>by clear H k;subst z;rw[d _ e]at q;injection q
 apply T;clear T;refine⟨v,⟨o,vs,B,j,A,Y,i,text,U,k _ _ (G _ _ Q O) Q,O,p,r⟩,k _ _ H m,l,g.imp id ?_⟩;rintro⟨f,u,y,t,n,M,L,s⟩;exact(Ca f u y t n (k _ _ (G _ _ M L) M) L s)
section
variable {w:d9} {mg mb:ao->Option aq} {X0:List aj} {env:bu} {oa:Nat->aj} {X:List aj} {f:Frm}
structure TabOf(c P:aj)(pos:aY)(qual:ao):Prop where
 mem:P∈fe
 one:∀{w:d9}{mg mb:ao->Option aq}(h:bL),(cu w mg mb).Tb h->TbAt c P pos qual h
 new:∀{w:d9}{mg mb:ao->Option aq}(h h':bL),(cu w mg mb).Tb h->(∀b o,b≠P->h.get? b=aa o->h'.get? b=aa o)->TbAt c P pos qual h'->(cu w mg mb).Tb h'
theorem Jv(C:(cu w mg mb).Tb h):∀a∈fe,∀o,h.get? a=aa o->o.cls=.none :=λa A o e=>by
 refine aE λB=>?_;obtain⟨⟨L,_,H,_⟩,⟨D,_,G,_⟩⟩:=C;have:a=30\/a=37:=by simpa[fe]using A
 apply B;clear B;clear A;rcases this with rfl|rfl
 ·rw[H]at e;obtain rfl:=aw e;rfl
 ·rw[G]at e;obtain rfl:=aw e;rfl
theorem Qgz:TabOf 34 30 (xg 4 1) "_int2digits.<locals>.inner":=⟨by decide,λh x=>x.1,λh h' x k y=>⟨y,x.2.but (Jv x 30<|by decide) (by decide) k⟩⟩
theorem QgA:TabOf 41 37 (xg 5 0) "_digits2int.<locals>.inner":=⟨by decide,λh x=>x.2,λh h' x k y=>⟨x.1.but (Jv x 37<|by decide) (by decide) k,y⟩⟩
theorem T5(k:(cu w mg mb).Ok)(rT:mg "__builtins__"=aa (.ref 4))(C:TabOf c P pos qual)(L:EnvOk env)(cm:CellsMine (cu w mg mb) X0 env)(M:SR (cu w mg mb) X0 env oa X s.heap f){params:EY}{body:List de}{scope:fH}(kt:env.code=.ref c)(BK:env.qual++name=qual)(uz:params.defaults=[])(LK:params.kw_defaults=[])(ha:annTrees params ab env=[]){i:Nat}(x:env.scope.names[i]?=aa (name,.cell)){ci:aj}(Y:env.cells.lookup name=aa ci){U:List<|ao×aj}(Qna:vr scope env=pure U)(cj:U.isEmpty=ae){Q:kW->aC->Prop}(h:∀(fa D:aj)(j O y:aq)(T B oc:bp)(g:Array aq)(t:gm)(G:aC),Stp (cu w mg mb) X0 X X s G->SR (cu w mg mb) X0 env oa X G.heap (f.put i .un)->G.heap.get? ci=aa T->T.data=.cell (aa<|.ref fa)->G.heap.get? fa=aa B->B.data=.func (fnX name qual params body scope U .none .none j O ab (.ref D) y)->G.heap.get? D=aa oc->oc.data=.fields g->g[1]?=aa (.str qual t)->(ci∉fe/\fa∉fe/\D∉fe)->fa∉X->(∀b o,b∉fe->b≠ci->s.heap.get? b=aa o->G.heap.get? b=aa o)->Q .next G): aI (aR pw w) A (exec (.FunctionDef name params body [] ab [] scope ab name pos) env) Q a9 s:=by
 have bs:=M.bs;have tbs:=M.tb;have nP:∀a,a∉fe->a≠P:=λa q e=>q<|e▸C.mem;refine nestDef_K uz LK ha ?_;have hq:qualnameIn env name name=qual:=by unfold qualnameIn;refine af (L.kindAt x) ?_;exact BK
 refine af hq ?_;refine Qgy (mg:=mg) Qna cj L.glob (k.bsG _ bs) kt (C.one _ tbs) (gD λe=>by have:=C.mem;rw[e]at this;revert this;decide) ?_ ?_
 ·refine aE λu=>?_;obtain⟨H,e1,e2,e3,e4⟩:=bs.2.2.2.2;apply u;clear u;exact⟨4,H,rT,by decide,by decide,nP _ (by decide),e1,e2,e3,e4⟩
 ·intro D j O y h' tk oc g t hx htb g1 g2 g3 g4;have BL:∀(o:bp) b H,b≠P->s.heap.get? b=aa H->(h'.push o).get? b=aa H:=λo b H n e=>qn _<|hx b H n e;generalize r:({cls:=.type "function",data:=.func<|fnX name qual params body scope U .none .none j O ab (.ref D) y}:bp)=B;have XY:B.data=.func (fnX name qual params body scope U .none .none j O ab (.ref D) y):=by exact bT r rfl
  have x1:Ext (cu w mg mb) s {s with heap:=h'.push B,toks:=tk}:=by have kp:∀b o,b∉(cu w mg mb).T ->s.heap.get? b=aa o->(h'.push B).get? b=aa o:=λb o n e=>BL B b o (nP b n) e;refine⟨(gH _ _ rfl),kp,λb=>k.bsKeep _ _ b λa o ba e=>kp a o (k.base _ b a ba).1 e,λtb=>C.new _ _ tb (λb o n e=>BL B b o n e) ?_⟩;exact htb.keep λb o e _=>qn _ e
  have aV:=M.ext k x1;refine ah aV.vars λm hn hv=>?_;obtain⟨l8,v0,p⟩:=aV.cellI name ci Y;refine K9 L.kind (L.kindAt x) Y p λh2 qM l=>?_;refine aE λu=>?_;obtain⟨T,i1,i2⟩:=qM;have bz:=aV.holdCell k L cm hn hv x Y p ⟨T,i1,i2⟩ l (v:=.ref h'.objs.size);have cT:ci∉fe:=sj k aV.tb p;have XZ:∀(b:aj)(o:bp),(h'.push B).get? b=aa o->(∀v,o.data≠.cell v)->h2.get? b=aa o:=λb o e n=>(l.2 b λq=>by clear Y h l8 l i1 cT;subst q;obtain⟨o',e',d⟩:=p;rw[show(h'.push B).get? b=aa o from e]at e';obtain rfl:=aw e';exact n _ d).trans e;have f1:h2.get? h'.objs.size=aa B:=XZ _ _ (kT _<|by refine bT r ?_;rfl) λv q=>by rw[XY]at q;injection q
  have c1:h2.get? D=aa oc:=XZ _ _ (qn _ g1) λv q=>by rw[g3]at q;injection q
  have tn:=Jv bz.tb;apply u;clear u;refine h h'.objs.size D j O y T B oc g t _ (Stp.trans (x1.stp M.tXX)<|Stp.mut _ l l8 (cm.mine name ci (L.kindAt x) Y).1) bz i1 i2 f1 XY c1 g3 g4 ⟨cT,λq=>?_,λq=>?_⟩ (λq=>?_) λb o nT nc e=>(l.2 b nc).trans<|x1.keep b o nT e
  ·have:=tn _ q _ f1;rw[<-r]at this;injection this
  ·have:=tn _ q _ c1;rw[g2]at this;injection this
  ·refine aF (M.alX _ q) λo e=>?_;by_cases z:h'.objs.size∈fe
   ·have:=tn _ z _ f1;rw[<-r]at this;injection this
   ·exact absurd (l5<|hx _ _ (nP _ z) e)<|qr _
end
end
section
open PySem.Calls
def Eb(vs:List ak):Option ak:=(za vs).bind λp=>(two (iE p.1) (iD p.2)).bind λq=>(fU q.1).bind λds=>if 0<=q.2/\rm q.2.toNat ds=ac then aa (.int (gA q.2.toNat ds))else ab
def Ec:de:=(cF (bN 5)).getD 1 (.Pass default)
noncomputable def Jw(s:de):au:=if h:s.ctorIdx=24 then Stmt.Expr.elim s h (λe _=>e)else default
noncomputable def T6(s:de):au×List de:=if h:s.ctorIdx=12 then Stmt.If.elim s h (λt b _ _=>(t,b))else(default,[])
noncomputable def QgB(s:de):au:=if h:s.ctorIdx=5 then Stmt.Assign.elim s h (λ_ v _=>v)else default
noncomputable def T7(s:de):au×aY:=if h:s.ctorIdx=3 then Stmt.Return.elim s h (λe p=>(e.getD default,p))else default
noncomputable def QgC(e:au):au:=if h:e.ctorIdx=2 then Expr.BinOp.elim e h (λ_ _ r _=>r)else default
noncomputable def QgD(e:au):au:=if h:e.ctorIdx=5 then Expr.IfExp.elim e h (λ_ b _ _=>b)else default
def Ed(e:au):List au:=(wm e).elim [] λc=>c.2.1
def Jx:List au:=Ed (QgD (T7 Ec).1)
noncomputable def Ak:List (ao×dn):=[("digits",.cell),("n",.cell),("inner",.cell),("len",.globalImplicit)]
theorem QgE:cF (bN 5)=[.FunctionDef "inner" (um jz) (cF jz) [] ab [] (eG jz) ab "inner" (xg 5 0),Ec]:=by kernel_rfl
theorem Jy:(eG<|bN 5).names =Ak:=by kernel_rfl
theorem QgF:∃G D C B A k,Ec=.Return (aa<|.IfExp (.Name "digits" G) (.Call (.Name "inner" D) Jx [] C) (.Constant (.int 0) k B) A) (T7 Ec).2:=(OB _ _ _ _ _ _ rfl)
theorem T8:cA (bq 20 {names:=Ak}) Jx=aa [.ki 0,.bi .len [.v 0]]:=by kernel_rfl
noncomputable def T9(n:Nat):List (ao×aj):=[("inner",n+2),("n",n+1),("digits",n)]
theorem QgG(n:Nat):ja n Ak []=T9 n:=rfl
theorem QgH{A ci B:aj}(G:env.cells.lookup ("n":ao)=aa A)(D:env.cells.lookup ("inner":ao)=aa ci)(C:env.cells.lookup ("digits":ao)=aa B):vr (eG jz) env=pure (xo A ci B):=by unfold vr;refine af rq ?_;unfold xn;simp only[E4,Wp,cellOf,G,D,C];rfl
theorem QgI(Q:∃L tk,G={s with heap:=L,toks:=tk})(M:∀b o,s.heap.get? b=aa o->G.heap.get? b=aa o)(O:∀b∈T,b∈X\/s.heap.get? b=ab)(st:Stp W X T X' G C)(B:SR W X0 j U Y C.heap f):Ext W s C:=by
 refine⟨?_,λb o H e=>?_,λ_=>B.bs,λ_=>B.tb⟩
 ·exact oU Q st.same
 ·have D:=M b o e;by_cases q:b∈X
  ·exact st.keep0 b o q H D
  ·refine st.keep b o (λA=>?_) D;refine fI (O b A) (λA=>?_) λA=>?_
   ·exact q A
   ·rw[A]at e;injection e
theorem QgJ{w:d9}{mg M:ao->Option aq}(L0:Lib0 (cu w mg M) aA)(X0:pA.In (nQ w.params) f)(G:f.Ns l4 mg):IP (cu w mg M) 3 Eb:=by
 intro x hx;obtain rfl:x="_digits2int":=(aw hx).symm;have k:=L0.ok;have rT:mg "__builtins__"=aa (.ref 4):=fh X0 G (by kernel_rfl);refine⟨42,mE,_,fh X0 G (by kernel_rfl),λh b=>b.2.2.2.1 42 _ rfl,rfl,?_⟩;intro args d A X s vs Q B am bs tb tX alX hr hQ;refine ah (bO.mp B) λaQ tI hq=>?_;obtain⟨x1,x2⟩:=aQ;refine ah (bO.mp hq) λaQ pK rR=>?_;obtain⟨xs,z⟩:=aQ;refine aG (cV pK) λy1 y2=>?_;obtain rfl:x1=.list xs:=lk y1;obtain rfl:x2=.int z:=iF y2;obtain rfl:=Ck tI;refine ah (bO.mp rR) λds cJ hs=>?_;clear B hq tI pK y1 y2 rR;refine aG (mQ.mp hs) λhc e=>?_;obtain rfl:=aw e;clear hs e;refine aG hc λhz dt=>?_;refine IM k Qf1 (bs.2.2.2.1 42 _ rfl) rfl (D7 bs.2.2.2.1 rfl rfl rfl) (by have:=am.depth;exact NM this) bs tb tX alX hr rfl ?_;intro env aN eD u eo kt BK same gw Ln Cn apart cm sr;have eD:env.scope=eG (bN 5):=eD;have y:env.scope.names=Ak:=by rw[eD];exact Jy
 have u:env.cells=T9 (s.heap.objs.size+1):=by rw[u];show ja _ (eG<|bN 5).names []=_;rw[Jy,QgG]
 obtain⟨ci,r,n,u,ap⟩:∃ci r n:aj,env.cells=[(("inner":ao),ci),(("n":ao),r),(("digits":ao),n)]/\(r≠ci/\r≠n/\ci≠n):=⟨s.heap.objs.size+1+2,s.heap.objs.size+1+1,s.heap.objs.size+1,u,by refine⟨?_,?_,?_⟩<;>(intro q;exact absurd q<|by simp)⟩;have l1:env.cells.lookup ("n":ao)=aa r:=by rw[u];rfl
 have l2:env.cells.lookup ("inner":ao)=aa ci:=by rw[u];rfl
 have l3:env.cells.lookup ("digits":ao)=aa n:=by rw[u];rfl
 rw[QgE];refine mU (T5 k rT QgA eo cm sr kt (by rw[BK];rfl) (by kernel_rfl) (by kernel_rfl) (by kernel_rfl) (i:=2) (by rw[y];rfl) l2 (QgH l1 l2 l3) rfl ?_);intro fa U fR pm f8 D H oc vc t s2 F0 bz i1 i2 f1 f2 c1 c2 c3 nT nX _;dsimp only;have hK:∀p∈[(ci,D),(fa,H),(U,oc)],p.1∉(cu w mg M).T :=λp B=>by
  simp only[bF,jb,or_false]at B;rcases B with rfl|rfl|rfl
  ·exact nT.1
  ·exact nT.2.1
  ·exact nT.2.2
 have k2:=zI k hK;have hf:Frm.put (km FV.val [tq xs,bQ z]++cR ((eG<|bN 5).names.length -([aK "digits",aK "n"]:List ao).length) FV.un) 2 .un =[.val<|.list xs,.val<|.int z,.un,.un]:=by rw[Jy];rfl
 have bz:SR (cu w mg M) X env (λ_=>0) _ s2.heap [.val<|.list xs,.val<|.int z,.un,.un]:=hf▸bz;have vS:∀p∈[(ci,D),(fa,H),(U,oc)],s2.heap.get? p.1=aa p.2:=λp B=>by
  simp only[bF,jb,or_false]at B;rcases B with rfl|rfl|rfl
  ·exact i1
  ·exact f1
  ·exact c1
 refine ah bz.vars λm2 hn2 _=>?_;have ln:∀(p:aj×bp),p∈[(ci,D),(fa,H),(U,oc)]->env.locals≠p.1:=λp B q=>by
  obtain⟨o,es,ep,e,l,_⟩:=hn2;have C:=vS p B;rw[<-q,e]at C;have C:=aw C;simp only[bF,jb,or_false]at B;clear q;rcases B with rfl|rfl|rfl
  ·dsimp only at C;subst C;rw[i2]at l;injection l
  ·dsimp only at C;subst C;rw[f2]at l;injection l
  ·dsimp only at C;subst C;rw[c2]at l;injection l
 have dH:=bz.toWc vS (λq=>by refine ah (gk.mp q) λp B e=>?_;exact ln p B e.symm) rfl;have bi:∀h,(Wc (cu w mg M) [(ci,D),(fa,H),(U,oc)]).Bs h->h.get? ci=aa D/\h.get? fa=aa H/\h.get? U=aa oc:=λh b=>⟨b.2 (ci,D) (by simp),b.2 (fa,H) (by simp),b.2 (U,oc)<|by simp⟩;have xs2:Ext (cu w mg M) s s2:=QgI same gw (λb j=>by
  rcases bF.mp j with rfl|j
  ·exact .inr Ln
  ·rcases eO.mp j with j|j
   ·refine ah (vt.mp j) λp _ B=>?_;exact .inr<|Cn p.1 b<|mem_of_lookup B
   ·exact .inl j) F0 bz
 have a:∀(s':aC)(t:gm)(i:Int),Ext (Wc (cu w mg M) [(ci,D),(fa,H),(U,oc)]) s2 s'->i=gA z.toNat ds->Q (.int i t) s':=λs' t i x e=>by subst e;have x2:=x.ofWc dH.bs;exact hQ _ _ (xs2.trans x2)<|.int _ _
 refine OA QgF λp1 p2 p3 p4 p5 kk hrt=>?_;rw[hrt];refine mU<|Ww<|Wi ?_;rw[QK rfl];refine dJ (dH.val (i:=0) (x:="digits") (kd:=.cell) (d:=.list xs) (by rw[y];rfl) rfl) λm3 v3 Mx F1 BN=>?_;refine bI (pX eo (i:=0) (by decide) (by rw[y];rfl) Mx F1<|bI<|s7<|E7 ?_);refine dy BN.list_inv λla lnn Y bW F2 bk X4=>?_;clear F1 BN;subst bW;have BF:=(T0 cJ).1;have ll:Y.length=ds.length:=by rw[X4.length,BF]
 refine wpAny_truthy_list (items:=Y.toArray) ⟨_,dZ F2,rfl,_,rfl⟩ (by
  have:Y.length<=cH:=bk;simp only[og];have h2:cH<2^63:=by decide
  exact bS 0x3c208208208208208208208208208208226c206008382082082082082082082082082082082240 Yt bk h2) ?_
 by_cases uz:ds=[]
 ·have:(!(Y.toArray).isEmpty)=ae:=by
   rw[uz]at ll;have:Y=[]:=AR.mp ll;clear F2 bk X4;subst this;rfl
  rw[this];exact Wb<|a _ _ _ (Ext.tok _)<|by rw[uz];rfl
 ·have F3:0<ds.length:=by
   cases ds with
   |nil=>exact absurd rfl uz
   |cons=>simp
  have:(!(Y.toArray).isEmpty)=ac:=by
   cases Y with
   |nil=>rw[<-ll]at F3;cases F3
   |cons=>rfl
  rw[this];have X5:=dt;simp only[rm,bo,bH]at X5;have cx:dP {names:=Ak} env:=λi x kd h=>(br kd (by rw[y];exact h)<|.inl rfl);have L1:Lib (Wc (cu w mg M) [(ci,D),(fa,H),(U,oc)]) aA (j6 17) 18:=(Dc L0 hK).lib<|TY 17;have se:=Rt (T:=aA) (O:=j6 17) (N:=18) (g:=40) (i1:=0) (i2:=1) (np:=p2) (pos:=p3) k2 eo (λe m h=>(gV h).1) (x:="inner") (x1:="digits") (x2:="n") (k1:=.cell) (k2:=.cell) (by decide) (.inl<|eo.kindAt (i:=2)<|by rw[y];rfl) l2 (λh b=>⟨D,(bi h b).1,i2⟩) (λh b=>(bi h b).2.1) f2 (es:=Jx)
   (by intro q;have:=T8;rw[q]at this;injection this with e_;injection e_) (by rw[y];rfl) (.inl rfl) l3 (by rw[y];rfl) (.inl rfl) l1 (CX:=[r,ci,n]) (λc hc=>by
    simp only[bF,jb,or_false]at hc;rcases hc with e|e|e<;>rw[e]
    ·exact(b9 _ l1)
    ·exact(b9 _ l2)
    ·exact(b9 _ l3)) (Qgw L0 i2 f2 c2 c3 hK ap 17) T8 λe _ m h=>(kF L1 20 _ env e m cx eo h).se
  have bG:ai aA (j6 17) 10 (.call 40<|[.ki 0,.bi .len [.v 0]]++[.v 0,.v 1]) [.val<|.list xs,.val<|.int z,.un,.un]=aa (.int<|gA z.toNat ds):=by
   have e1:=Js (m:=17) (L:=0) (R:=ds.length) cJ hz dt (by exact iV 0x7041 Yt) (by exact oH F3) (by exact cN 0x7b00b00 Yt) (by
    have:(2:Int)^17=131072:=by decide
    exact NN X5.2)
   have C:(ds.drop (0:Int).toNat).take ((ds.length:Int)-0).toNat =ds:=by rw[show((ds.length:Int)-0).toNat =ds.length by exact aH 0x352c1b0014228225d04528914a089580b0b06c00e001 Yt F3];exact xY
   rw[C]at e1;have hm:cZ (λe=>ai aA (j6 17) 9 e [.val<|.list xs,.val<|.int z,.un,.un]) ([.ki 0,.bi .len [.v 0]]++[.v 0,.v 1])=aa [.int 0,.int xs.length,.list xs,.int z]:=rfl;show(match cZ (λe=>ai aA (j6 17) 9 e [.val<|.list xs,.val<|.int z,.un,.un]) ([.ki 0,.bi .len [.v 0]]++[.v 0,.v 1])with|some vs=>j6 17 40 vs|none=>ab)=_;rw[hm];show j6 17 40 _=_;rw[BF];exact e1
  rw[ar rfl];exact se 10 (A.deeper env) X (λ_=>0) _ _ _ _ _ (am.deeper.less<|by exact iV 0x6a99491 Yt) (dH.ext k2<|Ext.tok _) bG λv s' x3 r3=>by refine aF r3.int_inv λt3 an=>?_;clear r3;subst an;exact a _ _ _ ((Ext.tok _).trans x3) rfl
set_option backward.match.sparseCases true
theorem QgK(x s:Nat):x^^^(x/2^s*2^s)=x%2^s:=by
 apply QlD;intro i;simp only[Nat.testBit_xor,Nat.testBit_mul_two_pow,QlE,QlF];by_cases h:i<s
 ·simp[h,Nat.not_le.mpr h]
 ·have h':s<=i:=E1.mp h;simp[h,h',EU h']
noncomputable def dg(n:Nat)(x:Int)(k:Nat):Int:=x/2^(n*k)%2^n
noncomputable def Jz:List MS:=[.asg 3 (.bin .shr (.bin .add (.v 1) (.v 2)) (.ki 1)),.asg 4 (.bin .mul (.bin .sub (.v 3) (.v 1)) (.v 9)),.asg 5 (.bin .shr (.v 0) (.v 4)),.asg 6 (.bin .bxor (.v 0) (.bin .shl (.v 5) (.v 4)))]
theorem QgL(T:Tabs)(O:bC)(Wf:Nat){n:Nat}{x L R M:Int}{c:Nat}(A:0<=x)(u:x<2^(n*(R-L).toNat))(C:0<=L)(z:(L+R)/2=M)(b1:L<M)(q:M<R)(B:R<=c)(D:n*c<=900000)(s:c<=65536): bt T O Wf 20 Jz [.val<|.int x,.val<|.int L,.val<|.int R,.un,.un,.un,.un,.un,.un,.val<|.int n]= aa (.next,[.val<|.int x,.val<|.int L,.val<|.int R,.val<|.int M,.val<|.int<|(M-L)*n,.val<|.int<|x/2^(n*(M-L).toNat),.val<|.int<|x%2^(n*(M-L).toNat),.un,.un,.val<|.int n]):=by
 have G:((n*(M-L).toNat :Nat):Int)=(M-L)*n:=by rw[iq,E3 (by exact yQ b1),uY]
 have hs:((M-L)*n).toNat =n*(M-L).toNat :=by simp only[<-G,jE]
 refine(?_:(n*1<=n*c)->_)<|l7 n<|W4 0x1802474013c840f0081ec000 [_] [_,_,_] Yt C b1 q B;intro f;have p:n*(M-L).toNat <=n*c:=l7 n<|W3 0xd4b40814a08914a08228a289180b0b4081d004f0081ec000 [_] [_,_,_] Yt C q B;have e:n*(R-L).toNat <=n*c:=l7 n<|W2 0xd4b20014a08914a08228a24602c2c80072011ec000 [_] [_,_] Yt C B;have s1:cb (M-L)=ac:=xm (k:=20) (yQ b1) (W4 0xb510c020528208a48a48a24f08208208284b2101c807741b4430081ec000182082082440 [_] [_,_,_] Yt C z B s) (by decide);refine(?_:(cb (n:Int)=ac)->_) (xm (k:=20) (iU) (NJ D f)<|by decide);intro m;have t:bP .add (.int L) (.int R)=aa (.int<|L+R):=rfl;have l:bP .shr (.int<|L+R) (.int 1)=aa (.int M):=bT z rfl;have o:bP .sub (.int M) (.int L)=aa (.int<|M-L):=rfl;have g:bP .mul (.int<|M-L) (.int n)=aa (.int<|(M-L)*n):=by show(if(cb (M-L)&&cb (n:Int))=ac then aa (bQ<|(M-L)*n)else ab)=_;simp only[s1,m];rfl
 have H:0<=(M-L)*n:=by exact bT G<|iU
 have U:bP .shr (.int x) (.int<|(M-L)*n)=aa (.int<|x/2^(n*(M-L).toNat)):=by show(if 0<=(M-L)*n then aa (bQ<|x/2^((M-L)*(n:Int)).toNat)else ab)=_;rw[ar H];exact af hs rfl
 have r:(0:Int)<2^(n*(M-L).toNat):=E0 (by decide);have j:0<=x/2^(n*(M-L).toNat):=Int.ediv_nonneg A<|n3 r;have v:x/2^(n*(M-L).toNat)<=x:=Int.ediv_le_self _ A;have Y:cb (x/2^(n*(M-L).toNat))=ac:=xm j (Int.lt_of_le_of_lt v u)<|NI D e;have Q:bP .shl (.int<|x/2^(n*(M-L).toNat)) (.int<|(M-L)*n)=aa (.int<|x/2^(n*(M-L).toNat)*2^(n*(M-L).toNat)):=by show(if(0<=(M-L)*n&&(M-L)*n<=1000000&&cb (x/2^(n*(M-L).toNat)))=ac then aa (bQ<|x/2^(n*(M-L).toNat)*2^((M-L)*(n:Int)).toNat)else ab)=_;refine af Y<|af hs ?_;rw[ar<|by simp[H];exact W3 0x708228a8b26401828b2a9a69923702c006200 [_,_] [_] Yt D G p]
 have d:bP .bxor (.int x) (.int<|x/2^(n*(M-L).toNat)*2^(n*(M-L).toNat))=aa (.int<|x%2^(n*(M-L).toNat)):=by
  refine aF (tu A) λy i=>?_;clear A u U j v Y Q;subst i;have b:((y:Int)/2^(n*(M-L).toNat)*2^(n*(M-L).toNat))=((y/2^(n*(M-L).toNat)*2^(n*(M-L).toNat):Nat):Int):=by simp
  have c2:((y:Int)%2^(n*(M-L).toNat))=((y%2^(n*(M-L).toNat):Nat):Int):=by simp
  refine af b<|af c2 ?_;rw[<-QgK];rfl
 simp only[Jz,jn,jS,gz,dh,Frm.get,eK,kg,n9,WI,WL,getElem?_pos,WM,WK,t,ii,l,Frm.put,dW,dX,o,Nat.lt_add_one,g,WJ,U,Q,d,nG]
def g0:de:=(cF (bN 4)).getD 1 (.Pass default)
noncomputable def uF:List (ao×dn):=[("x",.local),("L",.local),("R",.local),("mid",.local),("shift",.local),("upper",.local),("lower",.local),("a_digits",.free),("inner",.free),("n",.free)]
theorem sM:(eG g0).names =uF:=by kernel_rfl
noncomputable abbrev uG(cn ci ca:aj):List (ao×aj):=[("n",cn),("inner",ci),("a_digits",ca)]
noncomputable abbrev qI:ao:="_int2digits.<locals>.inner"
abbrev Ee(k8:List (ao×aj))(fR pm f8:aq)(c':aj):qv:=fnX "inner" qI (um g0) (cF g0) (eG g0) k8 .none .none fR pm ab (.ref c') f8
theorem QgM{A ci B:aj}{G D H:aq}{L:aj}:CloForm (Ee (uG A ci B) G D H L) (cF g0) ["x","L","R"] (uG A ci B) where
 body:=rfl
 clo:=rfl
 glob:=rfl
 blt:=rfl
 co:=by kernel_rfl
 gen:=by kernel_rfl
 kind:=by kernel_rfl
 nodup:=by show((eG g0).names.map (·.1)).Nodup;refine af sM ?_;decide
 cell:=by show∀x∈(eG g0).names,x.2≠.cell;refine af sM ?_;decide
 free:=λi x h=>by
  refine(?_:((eG g0).names[i]?=aa (x,.free))->_)<|h;intro h;rw[sM]at h;unfold uF at h;rcases i with _|_|_|_|_|_|_|_|_|_|i<;>simp at h<;>subst h
  ·exact⟨B,by rfl⟩
  ·exact⟨ci,by rfl⟩
  ·exact⟨A,by rfl⟩
 pars:=λi x h=>by show(eG g0).names[i]?=_;refine af sM ?_;rcases i with _|_|_|i<;>simp at h<;>subst h<;>rfl
 bind:=λvs h=>by refine aE λC=>?_;refine y6 (Jq h) λa b c M=>?_;clear h;subst M;apply C;clear C;rfl
def cI:Cx:={names:=uF}
theorem QgN:lf (jQ 20 cI) (((cF g0).drop 1).take 4)=aa Jz:=by kernel_rfl
def JA:au:=(T6 ((cF g0).getD 0 (.Pass default))).1
def uH:List au:=Ed (Jw ((cF g0).getD 5 (.Pass default)))
def uJ:List au:=Ed (Jw ((cF g0).getD 6 (.Pass default)))
theorem QgO:bq 20 cI JA=aa (.cmp .eq (.bin .add (.v 1)<|.ki 1)<|.v 2):=by kernel_rfl
theorem Ua:cA (bq 20 cI) uH=aa [.v 6,.v 1,.v 3]:=by kernel_rfl
theorem Ub:cA (bq 20 cI) uJ=aa [.v 5,.v 3,.v 2]:=by kernel_rfl
theorem QgP:∃T Q O M L H G D C Y B A U,cF g0=.If JA [.Assign [.Subscript (.Name "a_digits" T) (.Name "L" Q) O] (.Name "x" M) L,.Return ab H] [] G::(((cF g0).drop 1).take 4++ [.Expr (.Call (.Name "inner" D) uH [] C) Y,.Expr (.Call (.Name "inner" B) uJ [] A) U]):=⟨_,_,_,_,_,_,_,_,_,_,_,_,_,rfl⟩
theorem QgQ(env:bu):∀(a b:List de),om (a++b) env=(om a env>>=λf=>match f with| .next =>om b env|f=>pure f):=by
 intro A;induction A with
 |nil=>intro b;exact rfl
 |cons st a B=>
  intro b;refine(?_:(∀l,om (st::l) env=(exec st env>>=λf=>match f with| .next =>om l env|f=>pure f))->_)<|λl=>rfl;intro e
  rw[vu,e,e,Dj];refine af (B b) ?_;refine IU λf=>?_;cases f<;>rfl
theorem QgR{E:aq->aC->Prop}{a b:List de}{Q:kW->aC->Prop}(h:aI M A (om a env) (λf B=>match f with| .next =>aI M A (om b env) Q E B|f=>Q f B) E s): aI M A (om (a++b) env) Q E s:=by rw[QgQ];refine bI<|qu h (λf B h'=>?_) λ_ _ x=>x;cases f<;>first|exact h'|exact d6 h'
structure ExtQ(W:Wd)(q:aj)(s s':aC):Prop where
 same:∃h tk,s'={s with heap:=h,toks:=tk}
 keep:∀b o,b∉W.T->b≠q->s.heap.get? b=aa o->s'.heap.get? b=aa o
 bs:W.Bs s.heap->W.Bs s'.heap
 tb:W.Tb s.heap->W.Tb s'.heap
theorem ExtQ.trans(a:ExtQ W q s D)(b:ExtQ W q D L):ExtQ W q s L:=by refine aE λA=>?_;obtain⟨⟨h,tk,rfl⟩,k1,b1,C⟩:=a;obtain⟨⟨h',H,rfl⟩,k2,G,B⟩:=b;apply A;clear A;exact⟨(gH h' H rfl),λb o n m e=>k2 b o n m<|k1 b o n m e,G∘b1,B∘C⟩
theorem Ext.toQ(x:Ext W s A):ExtQ W q s A:=⟨x.same,λb o n _ e=>x.keep b o n e,x.bs,x.tb⟩
theorem SR.extQ(k:W.Ok)(r:SR W X0 env Q X s.heap f)(x:ExtQ W q s A)(C:q∈X)(M:s.heap.get? q=aa (listOf p h))(L:∃o,A.heap.get? q=aa o)(U:f.all (λv=> !v.held)=ac):SR W X0 env Q X A.heap f:=by
 refine ah r.vars λm D T=>?_;have B:env.locals≠q:=λe=>by obtain⟨o,es,n,a,b,_⟩:=D;simp only[e,M]at a;obtain rfl:=aw a;injection b
 have H:∀c v,s.heap.IsCell c v->c≠q:=λc v ⟨o,e,d⟩ z=>by clear x C L B;subst z;rw[M]at e;obtain rfl:=aw e;injection d
 have O:∀c v,s.heap.IsCell c v->A.heap.IsCell c v:=λc v i=>by obtain⟨o,e,d⟩:=id i;exact⟨o,x.keep c o (sj k r.tb i) (H c v i) e,d⟩
 have l:A.heap.Ns env.locals m:=by have:=HX k r.tb D;obtain⟨o,es,n,a,b,c⟩:=D;exact⟨o,es,n,x.keep _ _ this B a,b,c⟩
 have Y:∀a o,mask X s.heap a=aa o->mask X A.heap a=aa o:=λa o e=>by refine aG (cy.mp e) λn e=>?_;exact cy.mpr ⟨n,x.keep a o (λz=>n<|r.tXX a z) (λz=>n<|z▸C) e⟩
 refine⟨x.bs r.bs,x.tb r.tb,r.tX,r.sub,λa j=>?_,r.loc,λy c e=>?_,(br m l<|λi y kd e=>?_),r.ownA,r.len⟩
 ·by_cases z:a=q
  ·clear x C B H;subst z;exact L
  ·by_cases t:a∈W.T
   ·refine ah (k.tStill _ (x.tb r.tb) a t) λo e _=>?_;exact(b9 o e)
   ·refine aF (r.alX a j) λo e=>?_;exact(b9 o<|x.keep a o t z e)
 ·obtain⟨u,v,i⟩:=r.cellI y c e;exact⟨u,v,O c v i⟩
 ·refine(T i y kd e).gen (λw b=>b.keep λc v _ i=>O c _ i) Y rfl λb o vs n z _ _ _ _ _=>?_;have G:∀v,f[i]?=aa v->v.held=ae:=λv q=>by simpa using du.mp U v (kf q)
  rcases z with⟨_,xs,z⟩|⟨g,z⟩
  ·exact gC<|show ac=ae from G _ z
  ·exact gC<|show ac=ae from G _ z
def JB(W:Wd)(N n:Nat)(q fa:aj)(CX:List aj)(c m:Nat):Prop:=
 ∀(x L R:Int)(A:cX)(X:List aj)(s:aC)(vs ew:List aq)(ep:Nat)(Q:aq->aC->Prop),0<=x->x<2^(n*(R-L).toNat)->0<=L->L<R->R<=c->2*(R-L)<=2^m->AOk A N->W.Bs s.heap->W.Tb s.heap->
  (∀a∈W.T,a∈X)->(∀a∈X,∃o,s.heap.get? a=aa o)->q∈X->(∀c∈CX,c∈X/\∃v,s.heap.IsCell c v)->RepL (mask X s.heap) vs [.int x,.int L,.int R]->s.heap.get? q=aa (listOf ew.toArray ep)->ew.length=c->
  (∀(s':aC)(jf:List aq),ExtQ W q s s'->s'.heap.get? q=aa (listOf jf.toArray ep)->jf.length=c->(∀i:Nat,(i:Int)<L\/R<=i->jf[i]?=ew[i]?)-> (∀i:Nat,L<=i->(i:Int)<R->∃t,jf[i]?=aa (.int (dg n x (i-L).toNat) t))->Q .none s')->aI (aR W.prog W.w) A (call (.ref fa) vs) Q a9 s
section
variable {W:Wd} {T:Tabs} {env:bu}
theorem Uc{N n c m:Nat}{q fa ci:aj}{CX:List aj}(L:Lib W T (λ_ _=>ab) N)(H:EnvOk env)(d:env.scope.names=uF)(O:env.cells.lookup ("inner":ao)=aa ci){o:bp}{fd:qv}(w:∀h,W.Bs h->h.IsCell ci (aa<|.ref fa))(ho:∀h,W.Bs h->h.get? fa=aa o)(vL:o.data=.func fd)(m7:∀c∈CX,∃y,env.cells.lookup y=aa c)(hI:JB W N n q fa CX c m){es:List au}{ms:List ME}(cj:es≠[])(z:cA (bq 20 cI) es=aa ms){A:cX}(a:AOk A N){X0:List aj}{j:Nat->aj}{X:List aj}{f:Frm}{s:aC}(M:SR W X0 env j X s.heap f){x l r:Int}(cJ:cZ (λe=>ai T (λ_ _=>ab) 10 e f) ms=aa [.int x,.int l,.int r])(h0:0<=x)(h1:x<2^(n*(r-l).toNat))(h2:0<=l)(h3:l<r)(h4:r<=c)(h5:2*(r-l)<=2^m)(u:q∈X)(tJ:q∉W.T){G:List aq}{U:Nat}(hl:s.heap.get? q=aa (listOf G.toArray U))(bk:G.length=c)(F4:f.all (λv=> !v.held)=ac){np p pos:aY}{Q:kW->aC->Prop}(hQ:∀(C:aC)(D:List aq),ExtQ W q s C->SR W X0 env j X C.heap f->C.heap.get? q=aa (listOf D.toArray U)->D.length=c->(∀i:Nat,(i:Int)<l\/r<=i->D[i]?=G[i]?)->(∀i:Nat,l<=i->(i:Int)<r->∃t,D[i]?=aa (.int (dg n x (i-l).toNat) t))->Q .next C):aI (aR W.prog W.w) A (exec (.Expr (.Call (.Name "inner" np) es [] p) pos) env) Q a9 s:=by
 have k:=L.ok;refine(?_:(dP cI env)->_) (λi x kd h=>(br kd (by refine af d ?_;exact h)<|.inl rfl));intro cx;have jK:A1 env=ae:=by unfold A1;refine af H.kind ?_;rfl
 refine Wx ?_ jK<|wP rfl _ _ _;refine yd (vl (K0 H.kind (H.kindAt (i:=8)<|by refine af d ?_;rfl) O (w _ M.bs) ?_) rfl);have b:∀e m,bq 20 cI e=aa m->fE e=ac:=λe m h=>(gV h).1;refine K3 (o:=o) (fd:=fd)<|sy (jU b z).1 cj<|nH k a b z cJ M (λe _ m h=>(kF L 20 cI env e m cx H h).se) λvs C x1 r1=>?_;have B:=M.ext k x1;have Y:=x1.keep q _ tJ hl;refine⟨⟨ho _ B.bs,vL⟩,?_⟩;refine hI x l r A X C vs G U _ h0 h1 h2 h3 h4 h5 a B.bs B.tb B.tXX B.alX u (λc O=>let⟨y,hy⟩:=m7 c O;B.cellI y c hy) r1 Y bk λs2 D x2 g e3 e4 e5=>?_;exact hQ s2 D (x1.toQ.trans x2) (B.extQ k x2 u Y (b9 _ g) F4) g e3 e4 e5
end
theorem ExtQ.set(k:W.Ok)(hs:jC q s.heap h')(A:¬W.Base q)(B:s.heap.get? q=aa (listOf D G)):ExtQ W q s {s with heap:=h'}:=⟨(gH h' s.toks rfl),λb o _ n e=>(hs.2 b n).trans e,λb=>k.bsKeep _ _ b λa o C e=>(hs.2 a λz=>A<|z▸C).trans e,λt=>k.tbKeep _ _ t λa o e st=>(hs.2 a λz=>by clear hs A;subst z;rw[B]at e;obtain rfl:=aw e;obtain⟨_,vs,d⟩:=st;injection d).trans e⟩
theorem QgS{n:Nat}{x l:Int}(h:x<2^(n*l.toNat))(B:0<=x)(A:l=1):dg n x 0=x:=by subst A;unfold dg;simp only[Nat.mul_zero,Int.pow_zero,Int.ediv_one];exact Int.emod_eq_of_lt B<|by simpa using h
theorem QgT(B:0<=x)(h:j<k):dg n (x%2^(n*k)) j=dg n x j:=by
 unfold dg;refine aF (tu B) λy G=>?_;clear B;subst G;refine(?_:(((y:Int)%2^(n*k)/2^(n*j)%2^n)=((y%2^(n*k)/2^(n*j)%2^n:Nat):Int))->_)<|rfl;intro D;have C:((y:Int)/2^(n*j)%2^n)=((y/2^(n*j)%2^n:Nat):Int):=rfl;simp only[D,C];congr 1;apply QlD;intro i;simp only[QlF,QlE];by_cases A:i<n
 ·have:i+n*j<n*k:=by
   have:n*(j+1)<=n*k:=l7 n h;simp only[to,Lu]at this;exact iB 0xe403018388606403200 Yt A this
  simp[A,this]
 ·simp[A]
theorem QgU:dg n (x/2^(n*k)) j=dg n x (k+j):=by unfold dg;rw[Int.ediv_ediv_of_nonneg (n3<|E0<|by decide), <-Lv,to]
theorem QgV{C ci D fa c' q:aj}{fR pm f8:aq}{oi of oc oa on:bp}{vc:Array aq}{t tn:gm}{n c:Nat}(k:V.Ok)(L0:∀m,Lib V T (λ_ _=>ab)<|m+1)(O:∀h,V.Bs h->h.get? ci=aa oi/\h.get? fa=aa of/\h.get? c'=aa oc/\h.get? D=aa oa/\h.get? C=aa on)(yG:oi.data=.cell (aa<|.ref fa))(nh:of.data=.func (Ee (uG C ci D) fR pm f8 c'))(BH:oc.data=.fields vc)(hv:vc[1]?=aa (.str qI t))(tC:oa.data=.cell (aa<|.ref q))(My:on.data=.cell (aa<|.int n tn))(ap:C≠ci/\C≠D/\ci≠D)(tJ:q∉V.T)(tK:¬V.Base q)(U:n*c<=900000)(hc:c<=65536): ∀m,JB V (m+1) n q fa [C,ci,D] c m:=by
 intro m;induction m with
 |zero=>exact λx L R A X s vs ew ep Q h0 h1 p j Y r=>by simp at r;exact pr (NK j r)
 |succ m ih=>
  exact λx L R A X s vs ew ep Q h0 h1 p j Y r am bs tb tX alX hq m7 hr hl bk hQ=>by
   have Mv:∀(x:ao)(c:aj),(uG C ci D).lookup x=aa c->c∈[C,ci,D]:=λx c hl=>by
    have:=mem_of_lookup hl;simp only[bF,WN,jb,or_false]at this⊢;rcases this with⟨_,e⟩|⟨_,e⟩|⟨_,e⟩
    ·exact .inl e
    ·exact .inr<|.inl e
    ·exact .inr<|.inr e
   have L1:=L0 m;refine Ru k QgM (f:=[.val<|.int x,.val<|.int L,.val<|.int R,.un,.un,.un,.un,.un,.un,.val<|.int n]) (O _ bs).2.1 nh ⟨c',oc,vc,t,rfl,(O _ bs).2.2.1,BH,hv⟩ (by have:=am.depth;exact NL this) bs tb tX alX hr rfl ?_ ?_ ?_ (λx c hl=>m7 c<|Mv x c hl) ?_ ?_
   ·show _=(eG g0).names.length;simp only[sM];rfl
   ·intro i B;rcases i with _|_|_|i
    ·rfl
    ·rfl
    ·rfl
    ·exact absurd B (by show¬i+1+1+1<3;exact cN 0x26643243243240 Yt)
   ·intro i y kd B U;have U:(eG g0).names[i]?=aa (y,kd):=U;rw[sM]at U;rcases i with _|_|_|_|_|_|_|_|_|_|i
    ·simp at B
    ·simp at B
    ·simp at B
    ·exact .inl rfl
    ·exact .inl rfl
    ·exact .inl rfl
    ·exact .inl rfl
    ·exact .inl rfl
    ·exact .inl rfl
    ·obtain⟨rfl,rfl⟩:=dc<|aw U;exact .inr<|y7 _ C (.int n tn) rfl rfl rfl (⟨on,(O _ bs).2.2.2.2,My⟩) (.int _ _)
    ·simp[uF]at U
   ·simp only[QlC,bF,jb,or_false];refine⟨?_,?_,?_,.nil⟩
    ·rintro y (rfl|rfl)
     ·exact ap.1
     ·exact ap.2.1
    ·rintro y rfl;exact ap.2.2
    ·intro y hy;cases hy
   ·intro env aN eD dN H _ same gw Ln cm sr;refine aE λw=>?_;have G:env.scope.names=uF:=by rw[eD];exact sM
    have cx:dP cI env:=λi x kd h=>(br kd (by rw[G];exact h)<|.inl rfl);have l2:env.cells.lookup ("inner":ao)=aa ci:=by rw[dN];rfl
    have l3:env.cells.lookup ("a_digits":ao)=aa D:=by rw[dN];rfl
    have x01:ExtQ V q s aN:=by refine kw same λhp tk aD=>?_;clear same w;subst aD;exact⟨(gH hp tk rfl),λb o _ _ e=>gw b o e,λ_=>sr.bs,λ_=>sr.tb⟩
    obtain⟨p1,p2,p3,p4,p5,p6,p7,p8,p9,BP,yH,yI,X7,hb⟩:=QgP;apply w;clear w;rw[hb];have hT:aS T (λ_ _=>ab) 10 (.cmp .eq (.bin .add (.v 1)<|.ki 1)<|.v 2) [.val<|.int x,.val<|.int L,.val<|.int R,.un,.un,.un,.un,.un,.un,.val<|.int n]=aa (L+1==R):=rfl;refine mU<|Lj<|(kF L1 20 cI env JA _ cx H QgO).st 10 (A.deeper env) X _ _ _ aN _ _ am.deeper sr hT λs2 x2=>?_;have bz:=sr.ext k x2;have rS:=x2.keep q _ tJ<|gw q _ hl;by_cases e:L+1=R
    ·rw[ar<|by simpa using e];refine aE λw=>?_;refine dJ (bz.val (i:=0) (x:="x") (kd:=.local) (d:=.int x) (by rw[G];rfl) rfl) λm3 v3 Mx F1 BN=>?_;refine aF BN.int_inv λu an=>?_;clear BN;subst an;refine dJ (bz.val (i:=1) (x:="L") (kd:=.local) (d:=.int L) (by rw[G];rfl) rfl) λm4 v4 Mz va4 F5=>?_;refine aF F5.int_inv λtL an=>?_;clear F5;subst an;apply w;clear w;refine mU (Qlm<|pX H (i:=0) (by decide) (by rw[G];rfl) Mx F1 ?_);refine vl (K0 H.kind (H.kindAt (i:=7)<|by rw[G];rfl) l3 ⟨oa,(O _ bz.bs).2.2.2.1,tC⟩ ?_) (by decide);refine pX H (i:=1) (by decide) (by rw[G];rfl) Mz va4 ?_;refine ki_setAt rS p (W3 0xf082082082082082082082082082082089006082082091007b00217203240 [_] [_,_] Yt hc Y e) (by simp only[og];exact W3 0x3ec0001ec208d88017203240 [_,_] [_,_] Yt Y bk e) ?_;refine mU<|wpAny_Return_none ?_;have hs:jC q s2.heap (s2.heap.update q (Lh (·.setIfInBounds L.toNat (.int x u)))):=Li ..;have z:=Qln rS<|λa=>a.setIfInBounds L.toNat<|.int x u;have ez:ew.toArray.setIfInBounds L.toNat (.int x u)=(ew.set L.toNat<|.int x u).toArray :=by
      apply AQ.mp;rw[Qlo]
     rw[ez,ar<|by simp]at z;refine hQ _ (ew.set L.toNat<|.int x u) ((x01.trans x2.toQ).trans<|ExtQ.set k hs tK rS) z (by rw[qo,bk]) (λi B=>?_) λi Bd vG=>?_
     ·rw[Wu<|Zb p e B]
     ·have:i=L.toNat:=W3 0x3521d04528228228224528974114a08a08228224528a082082256b080370032481ec0083c0b00 [_] [_,_] Yt e Bd vG;clear Bd;subst this;refine⟨u,?_⟩;rw[Qll<|by exact W3 0x380b001ec208d8800f22cb00 [_,_] [_,_] Yt Y bk vG];have e0:((L.toNat:Int)-L).toNat =0:=qR 0x352c0b2c01d04528914974114a282082289149581b0b02cb00dc80c900f22cb00 Yt e vG;rw[e0,QgS h1 h0<|qR 0x74114a08224528225724b0085c80c9037203240 Yt e e]
    ·rw[av<|by simpa using e];refine yg ?_;dsimp only;obtain⟨M,g⟩:∃M,(L+R)/2=M:=⟨_,rfl⟩;have b1:L<M:=NC j e g;have b2:M<R:=ND j g;have hh:2*(M-L)<=2^m/\2*(R-M)<=2^m:=by
      cases m with
      |zero=>exfalso;simp at r;exact NE j e r
      |succ m=>
       have Mr:(2:Int)^(m+1+1)=2*(2*2^m):=by rw[yl,yl];exact NF
       have Ms:(2:Int)^(m+1)=2*2^m:=by rw[yl];exact NG
       exact OC g r Mr Ms
     have hR:(R-L).toNat =(M-L).toNat +(R-M).toNat :=Z3 0x2d443400d4b21014228a0822820922752c020508a0820820820820822752c040508a08208208208208208974114a28208228208914a08a08a0822560ec2c842c2c022c2c040f400dc86d10d000f200 [_,_,_] Yt j g b1;have pp:(0:Int)<2^(n*(M-L).toNat):=E0 (by decide);have lo1:0<=x%2^(n*(M-L).toNat):=VW _<|Int.ne_of_gt pp;have lo2:x%2^(n*(M-L).toNat)<2^(n*(M-L).toNat):=VV _ pp;have up1:0<=x/2^(n*(M-L).toNat):=Int.ediv_nonneg h0<|n3 pp;have up2:x/2^(n*(M-L).toNat)<2^(n*(R-M).toNat):=by apply Int.ediv_lt_of_lt_mul pp;rw[<-Lv, <-to,vx, <-hR];exact h1
     refine QgR<|sD (λst a h=>IL (Wf:=100) L1 20 cI env st a cx H h) QgN 20 (A.deeper env) X _ _ _ s2 _ _ _ am.deeper cm bz (QgL T _ 100 h0 h1 p g b1 b2 Y U hc) λcM X' s3 dY F6 dH fo=>?_;cases fo;dsimp only;have X9:q∈X':=dH.sub q hq;have hl3:=F6.keep0 q _ hq tJ rS;have x03:ExtQ V q s s3:=by
      refine⟨?_,λb o nT _ e=>?_,λ_=>dH.bs,λ_=>dH.tb⟩
      ·exact oU same<|oU x2.same F6.same
      ·have e2:=x2.keep b o nT<|gw b o e;by_cases z:b∈X
       ·exact F6.keep0 b o z nT e2
       ·refine F6.keep b o (λz2=>?_) e2;rcases bF.mp z2 with z2|z2
        ·rw[z2,Ln]at e;injection e
        ·exact z z2
     have F4:List.all ([.val<|.int x,.val<|.int L,.val<|.int R,.val<|.int M,.val<|.int<|(M-L)*n,.val<|.int<|x/2^(n*(M-L).toNat),.val<|.int<|x%2^(n*(M-L).toNat),.un,.un,.val<|.int n]:Frm) (λv=> !v.held)=ac:=rfl;have Yb:∀c∈[C,ci,D],∃y,env.cells.lookup y=aa c:=λc hc=>by
      simp only[bF,jb,or_false]at hc;rw[dN];rcases hc with e|e|e<;>rw[e]
      ·exact(b9 ("n") rfl)
      ·exact(b9 ("inner") rfl)
      ·exact(b9 ("a_digits") rfl)
     have ne1:uH≠[]:=by intro z;have:=Ua;rw[z]at this;injection this with e_;injection e_
     have ne2:uJ≠[]:=by intro z;have:=Ub;rw[z]at this;injection this with e_;injection e_
     refine mU<|Uc L1 H G l2 (λh b=>⟨oi,(O h b).1,yG⟩) (λh b=>(O h b).2.1) nh Yb ih ne1 Ua am.deeper dH (x:=x%2^(n*(M-L).toNat)) (l:=L) rfl lo1 lo2 p b1 (NH j Y g) hh.1 X9 tJ hl3 bk F4 λs4 it4 x4 kv hl4 Qnp k4 d4=>?_;dsimp only;refine mU<|Uc L1 H G l2 (λh b=>⟨oi,(O h b).1,yG⟩) (λh b=>(O h b).2.1) nh Yb ih ne2 Ub am.deeper kv rfl up1 up2 (qR 0x72011c004f200 Yt p b1) b2 Y hh.2 X9 tJ hl4 Qnp F4 λs5 it5 x5 MA hl5 Qns k5 d5=>?_;refine yg ?_;refine hQ s5 it5 ((x03.trans x4).trans x5) hl5 Qns (λi B=>?_) λi Bd vG=>?_
     ·rw[k5 i<|B.elim (λh=>.inl<|Int.lt_trans h b1) .inr,k4 i<|B.elim .inl<|λh=>.inr<|xP (n3 b2) h]
     ·by_cases z:(i:Int)<M
      ·refine aF (d4 i Bd z) λt' e'=>?_;refine(b9 t' ?_);rw[k5 i<|.inl z,e',QgT h0<|by exact W2 0x352c800508a089d4b22c00528208a08a24528208228228224eb0b200b0b22c00f0083c0b00 [_] [_,_] Yt b1 z]
      ·refine aF (d5 i (pN 0x1ec0009c0b00 Yt z) vG) λt' e'=>?_;refine(b9 t' ?_);rw[e',QgU];congr 4;exact W2 0xd4b22c00508a08a2752c0b00d4b20014228208208208974114a28208a08228208224528228208a2752c800508a08208208208974114a28208a08208914a08a082282256b0b22c003b0b02c02c2c800f0089c0b00 [_] [_,_] Yt b1 z
theorem QgW(Q:Lib0 W T){A ci B fa L q:aj}{r v s:aq}{D G oc H C:bp}{M:Array aq}{t Y:gm}{n c:Nat}(U:D.data=.cell (aa<|.ref fa))(u:G.data=.func (Ee (uG A ci B) r v s L))(i:oc.data=.fields M)(k:M[1]?=aa (.str qI t))(y:H.data=.cell (aa<|.ref q))(f:C.data=.cell (aa<|.int n Y))(O:∀p∈[(ci,D),(fa,G),(L,oc),(B,H),(A,C)],p.1∉W.T)(e:A≠ci/\A≠B/\ci≠B)(z:q∉W.T)(j:¬(Wc W [(ci,D),(fa,G),(L,oc),(B,H),(A,C)]).Base q)(o:n*c<=900000)(l:c<=65536): ∀m,JB (Wc W [(ci,D),(fa,G),(L,oc),(B,H),(A,C)]) (m+1) n q fa [A,ci,B] c m:=by refine QgV (zI Q.ok O) (λm=>(Dc Q O).lib<|λg x args d _ h=>by injection h) (λh b=>?_) U u i k y f e z j o l;exact⟨b.2 (ci,D) (by simp),b.2 (fa,G) (by simp),b.2 (L,oc) (by simp),b.2 (B,H) (by simp),b.2 (A,C)<|by simp⟩
end
section
open PySem.Calls
set_option backward.match.sparseCases true
noncomputable def dR(a:Int):Nat:=if a=0 then 0 else a.natAbs.log2+1
def eN(a:Int)(n:Nat):Nat:=(dR a+n-1)/n
def pf(n:Nat)(a:Int)(c:Nat):List ak:=(bv c).map λk=>.int (dg n a k)
def QgX(a z:Int):Option ak:=if 0<=a/\1<=z/\z<2^30/\z.toNat*eN a z.toNat<=900000/\eN a z.toNat<=65536 then aa (.list (pf z.toNat a (eN a z.toNat)))else ab
def Ef(vs:List ak):Option ak:=(za vs).bind λp=>(two (iD p.1) (iD p.2)).bind λq=>QgX q.1 q.2
theorem Ud(h:0<=a):a<2^dR a:=by
 refine aF (tu h) λy A=>?_;clear h;subst A;unfold dR;by_cases z:(y:Int)=0
 ·rw[ar z];refine af z ?_;decide
 ·rw[av z];have B:y≠0:=NO z;have:=QkU (n:=y);have e:((y:Int).natAbs.log2 +1)=y.log2+1:=by rw[ym]
  refine af e ?_;exact_mod_cast this
theorem JC(h:0<=a)(A:1<=n):a<2^(n*eN a n):=by
 refine Int.lt_of_lt_of_le (Ud h) ?_;have:dR a<=n*eN a n:=by unfold eN;have D:=mN (dR a+n-1) n;have C:=mO (dR a+n-1)<|show n>0 from aH 0x380046009 Yt A;exact iB 0x5490c860508a28a24528228a246418d8b2432180c040e200 Yt D C
 have B:(2:Nat)^dR a<=2^(n*eN a n):=jF (by decide) this;exact_mod_cast B
def st4:de:=(cF (bN 4)).getD 0 (.Pass default)
def r4:au:=QgC (QgB st4)
def JD:List au:=Ed (Jw ((T6 ((cF (bN 4)).getD 2 (.Pass default))).2.getD 0 (.Pass default)))
noncomputable def Eg:List (ao×dn):=[("a",.local),("n",.cell),("a_digits",.cell),("inner",.cell),("len",.globalImplicit)]
theorem JE:(eG<|bN 4).names =Eg:=by kernel_rfl
def c4:Cx:={names:=Eg}
theorem QgZ:bq 20 c4 r4=aa (.bin .fdiv (.bin .sub (.bin .add (.meth .bitlen (.v 0) [])<|.v 1)<|.ki 1)<|.v 1):=by kernel_rfl
theorem JF:cA (bq 20 c4) JD=aa [.v 0,.ki 0,.bi .len [.v 2]]:=by kernel_rfl
theorem Qg0:∃T Q O M L H G D C U B A kk,cF (bN 4)=[.Assign [.Name "a_digits" T] (.BinOp (.List [.Constant (.int 0) kk Q] O) .Mult r4 M) L,.FunctionDef "inner" (um g0) (cF g0) [] ab [] (eG g0) ab "inner" (xg 4 1),.If (.Name "a" H) [.Expr (.Call (.Name "inner" G) JD [] D) C] [] U,.Return (aa<|.Name "a_digits" B) A]:=⟨_,_,_,_,_,_,_,_,_,_,_,_,_,rfl⟩
noncomputable def Ue(n:Nat):List (ao×aj):=[("inner",n+2),("a_digits",n+1),("n",n)]
theorem Qg1(n:Nat):ja n Eg []=Ue n:=rfl
theorem Qg2{A ci B:aj}(G:env.cells.lookup ("n":ao)=aa A)(D:env.cells.lookup ("inner":ao)=aa ci)(C:env.cells.lookup ("a_digits":ao)=aa B):vr (eG g0) env=pure (uG A ci B):=by unfold vr;refine af sM ?_;unfold uF;simp only[E4,Wp,cellOf,G,D,C];rfl
theorem Qg3(T:Tabs)(O:bC)(hz:1<=z)(h:z<2^30)(f:Frm)(H:f.get 0=aa (.int a))(A:f.get 1=aa (.int z)): ai T O 10 (.bin .fdiv (.bin .sub (.bin .add (.meth .bitlen (.v 0) [])<|.v 1)<|.ki 1)<|.v 1) f=aa (.int<|eN a z.toNat):=by
 have G:gS .bitlen (.int a) []=aa (.int<|dR a):=rfl;have D:∀x y:Int,bP .add (.int x) (.int y)=aa (.int<|x+y):=λ_ _=>rfl;have C:∀x y:Int,bP .sub (.int x) (.int y)=aa (.int<|x-y):=λ_ _=>rfl;have B:bP .fdiv (.int<|(dR a:Int)+z-1) (.int z)=aa (.int<|eN a z.toNat):=by show(if(0<z&&z<2^30)=ac then aa (bQ<|((dR a:Int)+z-1)/z)else ab)=_;rw[ar<|by simp only[bo,bH];exact⟨fT 0x3c0047009 Yt hz,h⟩];congr 2;unfold eN;refine aF (tu<|show 0<=z from fT 0x1c0047009 Yt hz) λy L=>?_;clear h A;subst L;have:((dR a:Int)+y-1)=((dR a+y-1:Nat):Int):=bD 0x5490c021d04528224528a08225d04528914a0895ec2c90c020b243b00b081ec009 Yt hz;refine af this ?_;simp
 simp only[gz,kC,dh,H,cO,cQ,G,A,D,ii,C,B]
theorem JG:∀(A:List aq)(ds:List ak),A.length=ds.length->(∀i:Nat,i<A.length->∃z t,A[i]?=aa (.int z t)/\ds[i]?=aa (.int z))->RepL g A ds:=λA ds H h=>RepL.of_at H λi v d B C=>by have L:i<A.length:=(mS.mp B).1;refine eE (h i L) λz t G D=>?_;rw[B]at G;rw[C]at D;clear B;obtain rfl:=aw G;clear C;obtain rfl:=aw D;exact .int _ _
theorem Qg4{w:d9}{mg H:ao->Option aq}(L0:Lib0 (cu w mg H) aA)(X0:pA.In (nQ w.params) h₀)(G:h₀.Ns l4 mg):IP (cu w mg H) 2 Ef:=by
 intro x hx;obtain rfl:x="_int2digits":=(aw hx).symm;have k:=L0.ok;have rT:mg "__builtins__"=aa (.ref 4):=fh X0 G (by kernel_rfl);refine⟨35,kL,_,fh X0 G (by kernel_rfl),λh b=>b.2.2.2.1 35 _ rfl,rfl,?_⟩;intro args d A X s vs Q C am bs tb tX alX hr hQ;refine ah (bO.mp C) λaQ tI hq=>?_;obtain⟨x1,x2⟩:=aQ;refine ah (bO.mp hq) λaQ pK rR=>?_;obtain⟨a,z⟩:=aQ;refine aG (cV pK) λy1 y2=>?_;obtain rfl:x1=.int a:=iF y1;obtain rfl:x2=.int z:=iF y2;obtain rfl:=Ck tI;clear C hq tI pK y1 y2;refine aG (mQ.mp<|show(if 0<=a/\1<=z/\z<2^30/\z.toNat*eN a z.toNat<=900000/\eN a z.toNat<=65536 then aa (.list<|pf z.toNat a<|eN a z.toNat)else ab)=aa d from rR) λhc e=>?_;obtain rfl:=aw e;clear rR e;refine YX hc λha hz Qnt hn kq=>?_;generalize MB:eN a z.toNat=c at*;have yJ:a<2^(z.toNat*c):=by refine bT MB ?_;exact JC ha<|fT 0xd4014228224508a08a246b00247009 Yt hz
 refine IM k Qf0 (bs.2.2.2.1 35 _ rfl) rfl (D7 bs.2.2.2.1 rfl rfl rfl) (by have:=am.depth;exact NM this) bs tb tX alX hr rfl ?_;intro env aN eD dN L kt BK same gw Ln Cn apart cm sr;have eD:env.scope=eG (bN 4):=eD;have fL:env.scope.names=Eg:=by refine af eD ?_;exact JE
 have dN:env.cells=Ue (s.heap.objs.size+1):=by refine af dN ?_;show ja _ (eG<|bN 4).names []=_;refine af JE ?_;rw[Qg1]
 obtain⟨ci,B,O,dN,ap⟩:∃ci B O:aj,env.cells=[(("inner":ao),ci),(("a_digits":ao),B),(("n":ao),O)]/\(O≠ci/\O≠B/\ci≠B):=⟨s.heap.objs.size+1+2,s.heap.objs.size+1+1,s.heap.objs.size+1,dN,by refine⟨?_,?_,?_⟩<;>(intro q;exact absurd q<|by simp)⟩;have l1:env.cells.lookup ("n":ao)=aa O:=by refine af dN ?_;rfl
 have l2:env.cells.lookup ("inner":ao)=aa ci:=by refine af dN ?_;rfl
 have f:env.cells.lookup ("a_digits":ao)=aa B:=by refine af dN ?_;rfl
 have cx:dP c4 env:=λi x kd h=>(br kd (by refine af fL ?_;exact h)<|.inl rfl);have hf0:(km FV.val [bQ a,bQ z]++cR ((eG<|bN 4).names.length -([aK "a",aK "n"]:List ao).length) FV.un)=([.val<|.int a,.val<|.int z,.un,.un,.un]:Frm):=by refine af JE ?_;rfl
 obtain⟨j,Yc⟩:∃j,j=env.locals::(env.cells.filterMap (λp=>env.cells.lookup p.1)++X):=⟨_,rfl⟩;have sr:SR (cu w mg H) X env (λ_=>0) j aN.heap [.val<|.int a,.val<|.int z,.un,.un,.un]:=by refine af Yc ?_;exact hf0▸sr
 have QoG:∀b∈j,b∈X\/s.heap.get? b=ab:=λb D=>by
  rw[Yc]at D;rcases bF.mp D with rfl|D
  ·exact .inr Ln
  ·rcases eO.mp D with D|D
   ·refine ah (vt.mp D) λp _ C=>?_;exact .inr<|Cn p.1 b<|mem_of_lookup C
   ·exact .inl D
 have L1:Lib (cu w mg H) aA (λ_ _=>ab) 0:=L0.lib (λg x args d _ h=>by injection h);have F7:AOk (A.deeper env) 0:=am.deeper.less<|iV 0x1aa641 Yt;obtain⟨p1,p2,p3,p4,p5,p6,p7,p8,p9,BP,yH,yI,kk,D⟩:=Qg0;refine af D ?_;refine mU (Ld (wpAny_BinOp<|QS L1 (tr:=bq 20 c4) (λe m h=>(gV h).1) (ms:=[.ki 0]) (by rfl) (by simp) (λe _ m h=>(kF L1 20 c4 env e m cx L h).se) 10 (A.deeper env) X _ j _ aN (.list [.int 0]) _ F7 sr rfl λv1 s2 x2 r2=>?_) rfl);have bz:=sr.ext k x2;refine(kF L1 20 c4 env r4 _ cx L QgZ).se 10 (A.deeper env) X _ j _ s2 (.int<|eN a z.toNat) _ F7 bz (Qg3 _ _ hz Qnt _ rfl rfl) λv2 s3 x3 r3=>?_;rw[MB]at r3;refine aF r3.int_inv λt3 T=>?_;clear r3;subst T;have Yd:=bz.rep_ext x3 r2;have dH:=bz.ext k x3;refine dy Yd.list_inv λla le lv bW F2 _ hlv=>?_;clear r2 Yd;subst bW;refine ah hlv.one λv0 T rv0=>?_;subst T;refine aF rv0.int_inv λt0 T=>?_;subst T;refine Qg (W:=cu w mg H) (dZ F2) (iU) (aH 0x70a249a099b00182082082440 Yt kq) ?_;obtain⟨q,hq⟩:∃q,q=s3.heap.objs.size:=⟨_,rfl⟩;obtain⟨M,F8⟩:∃M:List aq,M=cR (c:Int).toNat (.int 0 t0):=⟨_,rfl⟩;have bk:M.length=c:=by refine af F8 ?_;rw[Ff];exact cN 0xd6c01d04528914a08974114a24528225602cb00 Yt
 refine bT F8<|bT hq ?_;have q3:s3.heap.get? q=ab:=by refine af hq ?_;exact Heap.get?_none_of_le<|eR _
 have jL:Ext (cu w mg H) aN s3:=x2.trans x3;have x4:=Ext.push (W:=cu w mg H) k (s:=s3) {cls:=.type "list",data:=.seq M.toArray} s3.toks;have kv:=dH.ext k x4;have F5:Rep (mask j<|s3.heap.push {cls:=.type "list",data:=.seq M.toArray}) (.ref q)<|.list<|cR c<|.int 0:=by
  refine af hq ?_;refine CM (vs:=M) dH.ltX rfl (by refine af bk<|af eu ?_;exact NP kq) (JG _ _ (by refine af bk ?_;rw[Ff]) λi u=>(jh 0 t0 ?_ ?_))
  ·refine af F8 ?_;rw[QlG];rw[F8,Ff]at u;exact u
  ·rw[QlG];exact yO bk u
 have MC:(s3.heap.push {cls:=.type "list",data:=.seq M.toArray}).get? q=aa (listOf M.toArray 0):=by refine af hq ?_;exact kT _ rfl
 have qT:q∉fe:=pU k kv.tb MC rfl;have qX1:q∉j:=λz=>by refine aF (dH.alX q z) λo e=>?_;rw[q3]at e;injection e
 have qs:s.heap.get? q=ab:=by
  cases e:s.heap.get? q with
  |none=>rfl
  |some o=>have:=jL.keep q o qT (gw q o e);rw[q3]at this;injection this
 refine ah kv.vars λm4 Mz hv4=>?_;obtain⟨caX,v4,F9⟩:=kv.cellI _ B f;refine K9 (name:="a_digits") L.kind (L.kindAt (i:=2)<|by refine af fL ?_;rfl) f F9 λh5 Ye MD=>?_;have MA:=kv.storeCell k L Mz hv4 (i:=2) (by refine af fL ?_;rfl) f (cm.mine _ _ (L.kindAt (i:=2)<|by refine af fL ?_;rfl) f) (λy c' e q=>La cm.apart (mem_of_lookup e)<|q▸mem_of_lookup f) F9 Ye MD F5;have Yg:B∉fe:=sj k kv.tb F9;have caq:q≠B:=sn F9 MC rfl;have Yh:h5.get? q=aa (listOf M.toArray 0):=(MD.2 q caq).trans MC;dsimp only;refine mU (T5 k rT Qgz L cm MA kt (by refine af BK ?_;rfl) (by kernel_rfl) (by kernel_rfl) (by kernel_rfl) (i:=3) (by refine af fL ?_;rfl) l2 (Qg2 l1 l2 f) rfl ?_);intro fa c' fR pm f8 l r oc vc t s6 st6 vU i1 i2 f1 f2 c1 c2 c3 nT nX Ga;dsimp only;have vU:SR (cu w mg H) X env (λ_=>0) j s6.heap [.val<|.int a,.val<|.int z,.val<|.list<|cR c<|.int 0,.un,.un]:=vU;obtain⟨Y,a1,a2⟩:=Ye;have a6:s6.heap.get? B=aa Y:=Ga B Y Yg (gD ap.2.2) a1;have q6:s6.heap.get? q=aa (listOf M.toArray 0):=Ga q _ qT (λe=>by clear dN ap i1 f2 nT Ga;subst e;obtain⟨v,oz,U,e2⟩:=(MA.cellI _ _ l2).2;rw[show h5.get? q=_ from Yh]at U;obtain rfl:=aw U;injection e2) Yh;obtain⟨vn,⟨on,n1,n2⟩,rn⟩:=vU.cellVal (i:=1) (x:="n") (kd:=.cell) (d:=.int z) (by refine af fL ?_;rfl) (.inl rfl) l1 rfl;refine aF rn.int_inv λtn T=>?_;clear rn;subst T;have cnT:O∉fe:=sj k vU.tb ⟨on,n1,n2⟩;have vS:∀p∈[(ci,l),(fa,r),(c',oc),(B,Y),(O,on)],s6.heap.get? p.1=aa p.2/\p.1∉fe/\∀es ep,p.2.data≠.dict es ep/\∀vs n,p.2.data≠.seq vs n:=λp C=>by
  simp only[bF,jb,or_false]at C;rcases C with rfl|rfl|rfl|rfl|rfl
  ·exact⟨i1,nT.1,λ_ _=>⟨by refine af i2 ?_;(intro e;injection e),λ_ _=>by refine af i2 ?_;(intro e;injection e)⟩⟩
  ·exact⟨f1,nT.2.1,λ_ _=>⟨by refine af f2 ?_;(intro e;injection e),λ_ _=>by refine af f2 ?_;(intro e;injection e)⟩⟩
  ·exact⟨c1,nT.2.2,λ_ _=>⟨by refine af c2 ?_;(intro e;injection e),λ_ _=>by refine af c2 ?_;(intro e;injection e)⟩⟩
  ·exact⟨a6,Yg,λ_ _=>⟨by refine af a2 ?_;(intro e;injection e),λ_ _=>by refine af a2 ?_;(intro e;injection e)⟩⟩
  ·exact⟨n1,cnT,λ_ _=>⟨by refine af n2 ?_;(intro e;injection e),λ_ _=>by refine af n2 ?_;(intro e;injection e)⟩⟩
 have hK:∀p∈[(ci,l),(fa,r),(c',oc),(B,Y),(O,on)],p.1∉(cu w mg H).T :=λp C=>(vS p C).2.1;have k2:=zI k hK;have tK:¬(Wc (cu w mg H) [(ci,l),(fa,r),(c',oc),(B,Y),(O,on)]).Base q:=by
  rintro(b|b)
  ·exact k.fresh bs qs b
  ·refine ah (gk.mp b) λp C e=>?_;refine fx (vS p C) λU _ e3=>?_;rw[e,q6]at U;have U:=aw U;exact(e3 #[] 0).2 M.toArray 0<|by exact bT U rfl
 refine ah vU.vars λm6 hn6 _=>?_;have MG:=vU.toWc (λp C=>(vS p C).1) (λz=>by refine ah (gk.mp z) λp C e=>?_;obtain⟨o,es,ep,U,e2,_⟩:=hn6;refine fx (vS p C) λe3 _ e4=>?_;rw[<-e,e3]at U;have U:=aw U;exact(e4 es ep).1<|by refine af U ?_;exact e2) rfl;have bi:∀h,(Wc (cu w mg H) [(ci,l),(fa,r),(c',oc),(B,Y),(O,on)]).Bs h->h.get? ci=aa l/\h.get? fa=aa r/\h.get? B=aa Y:=λh b=>⟨b.2 (ci,l) (by simp),b.2 (fa,r) (by simp),b.2 (B,Y)<|by simp⟩;have s06:∀b o,b∉fe->s.heap.get? b=aa o->s6.heap.get? b=aa o:=λb o nb e=>by
  have ec:∀y cc,(y,cc)∈env.cells->b≠cc:=λy cc hm z=>by have:=Cn y cc hm;rw[z,this]at e;injection e
  refine Ga b o nb (ec "inner" ci (mem_of_lookup l2)) ?_;exact(MD.2 b<|ec "a_digits" B (mem_of_lookup f)).trans<|x4.keep b o nb<|jL.keep b o nb<|gw b o e
 have QnD:∃C tk,s6={s with heap:=C,toks:=tk}:=by exact oU same<|oU jL.same st6.same
 have fin:∀(s':aC)(jf:List aq),ExtQ (Wc (cu w mg H) [(ci,l),(fa,r),(c',oc),(B,Y),(O,on)]) q s6 s'->s'.heap.get? q=aa (listOf jf.toArray 0)->jf.length=c->(∀i:Nat,i<c->∃t,jf[i]?=aa (.int (dg z.toNat a i) t))->
   aI (aR (cu w mg H).prog (cu w mg H).w) (A.deeper env) (om [.Return (aa<|.Name "a_digits" yH) yI] env) (λfl s'=>Q (match fl with| .ret v=>v|_=>.none) s') a9 s':=λs' jf x hq' mn Fo=>by
  have b':=x.bs MG.bs
  refine mU<|Ww<|vl (KZ L.kind (L.kindAt (i:=2)<|by refine af fL ?_;rfl) f ⟨Y,(bi _ b').2.2,a2⟩ ?_)<|by decide
  dsimp only
  refine hQ _ _ ⟨?_,λb o nb e=>?_,λ_=>b'.1,λ_=>x.tb vU.tb⟩ ?_
  ·exact oU QnD x.same
  ·exact x.keep b o nb (λz=>by rw[z,qs]at e;injection e)<|s06 b o nb e
  ·refine Rep.mkList (n:=0) (cy.mpr ⟨λz=>?_,hq'⟩) (by refine af mn<|af eu ?_;exact NP kq) (JG _ _ (by refine af mn ?_;simp[pf]) λi u=>?_)
   ·refine aF (alX q z) λo e=>?_;rw[qs]at e;injection e
   ·refine aF (Fo i<|yO mn u) λt' e=>?_;refine(jh _ t' e ?_);unfold pf;rw[fW,Qlb<|by exact yO mn u];rfl
 have hT:aS aA (λ_ _=>ab) 10 (.v 0) [.val<|.int a,.val<|.int z,.val<|.list<|cR c<|.int 0,.un,.un]=aa (a !=0):=rfl;have Lc:Lib (Wc (cu w mg H) [(ci,l),(fa,r),(c',oc),(B,Y),(O,on)]) aA (λ_ _=>ab) 0:=(Dc L0 hK).lib (λg x args d _ h=>by injection h);refine mU (Lj<|(kF Lc 20 c4 env (.Name "a" p6) (.v 0) cx L<|by kernel_rfl).st 10 (A.deeper env) X _ j _ s6 _ _ F7 MG hT λs8 x8=>?_);have MH:=MG.ext k2 x8;have q8:=x8.keep q _ qT q6;by_cases ea:a=0
 ·have c0:c=0:=by
   refine bT MB<|af ea ?_;unfold eN dR;rw[ar rfl];exact A3<|fT 0xd40142282255243b0004528208a08a24508a0820893ac00b243b00047009 Yt hz
  rw[av<|by simp[ea]];refine yg ?_;exact fin s8 M x8.toQ q8 bk λi u=>absurd u<|bD 0x980216040 Yt c0
 ·rw[ar<|by simpa using ea];have ox:0<c:=by
   rcases pB c with h|h
   ·rw[h,Nat.mul_zero]at yJ;exfalso;have:a<1:=by simpa using yJ
    exact Z3 0x1d445282245289b810470013c903f040 [_] Yt ha yJ ea
   ·exact h
  have jK:A1 env=ae:=by unfold A1;exact af L.kind rfl
  have bY:∀e m,bq 20 c4 e=aa m->fE e=ac:=λe m h=>(gV h).1;have ne4:JD≠[]:=by intro z;have:=JF;rw[z]at this;injection this with e_;injection e_
  refine mU (Wx (yd<|vl (KZ L.kind (L.kindAt (i:=3)<|af fL rfl) l2 ⟨l,(bi _ MH.bs).1,i2⟩ ?_)<|by decide) jK<|wP rfl _ _ _);have cJ:cZ (λe=>ai aA (λ_ _=>ab) 10 e [.val<|.int a,.val<|.int z,.val<|.list<|cR c<|.int 0,.un,.un]) [.v 0,.ki 0,.bi .len [.v 2]]=aa [.int a,.int 0,.int c]:=by
   have e3:gR .len [.list<|cR c<|.int 0]=aa (.int c):=by show aa (bQ ((cR c<|bQ 0).length :Nat))=_;rw[Ff]
   simp only[cO,cQ,dh,Frm.get,eK,kg,n9,WI,WJ,getElem?_pos,WK,ii,pT,kD,Frm.peek,WL,WM,b7,e3]
  refine K3 (o:=r) (fd:=Ee (uG O ci B) fR pm f8 c')<|sy (jU bY JF).1 ne4<|nH k2 F7 bY JF cJ MH (λe _ m h=>(kF Lc 20 c4 env e m cx L h).se) λvs9 s9 x9 r9=>?_;have vV:=MH.ext k2 x9;have q9:=x9.keep q _ qT q8;refine⟨⟨(bi _ vV.bs).2.1,f2⟩,?_⟩;have zz:z=(z.toNat:Int):=fT 0xd4014228225d0452822452895ecb00007009 Yt hz;have vM:=QgW L0 i2 f2 c2 c3 a2 (by exact af n2<|bT zz rfl) hK ap qT tK hn kq 17;refine vM a 0 c (A.deeper env) (q::j) s9 vs9 M 0 _ ha (by simpa using yJ) (by lia) (oH ox) (cN 0x7b00b00 Yt) (by
   have:(2:Int)^17=131072:=by decide
   exact NN kq) (am.deeper.less (iV 0x6a990c9291 Yt)) vV.bs vV.tb (λb D=>bB _ (vV.tXX b D)) (λb D=>?_) dU (λcc kq=>?_) ?_ q9 bk ?_
  ·rcases bF.mp D with e_|D
   ·clear D;obtain rfl:=e_.symm;exact(b9 _ q9)
   ·exact vV.alX b D
  ·have:∃y,env.cells.lookup y=aa cc:=by
    simp only[bF,jb,or_false]at kq;rcases kq with e|e|e
    ·exact(b9 _<|e▸l1)
    ·exact(b9 _<|e▸l2)
    ·exact(b9 _<|e▸f)
   refine aF this λy hy=>?_;exact⟨bB _ (vV.cellI y cc hy).1,(vV.cellI y cc hy).2⟩
  ·refine RepL.of_at r9.length λi v d h1 h2=>?_;have rp:=r9.at i v d h1 h2;rcases i with _|_|_|i
   ·obtain rfl:=aw h2;refine aF rp.int_inv λt' T=>?_;clear h1 rp;subst T;exact .int _ _
   ·obtain rfl:=aw h2;refine aF rp.int_inv λt' T=>?_;clear h1 rp;subst T;exact .int _ _
   ·obtain rfl:=aw h2;refine aF rp.int_inv λt' T=>?_;clear h1 rp;subst T;exact .int _ _
   ·simp at h2
  ·intro s' jf xq e2 e3 e4 e5;refine yg ?_;refine fin s' jf ((x8.toQ.trans x9.toQ).trans xq) e2 e3 λi u=>?_;refine aF (e5 i (iU)<|yR u) λt' e=>?_;exact(b9 t'<|by refine af e ?_;congr 4)
end
section
theorem qh{x k:Nat}(h:x<2^k)(A:k<=999999):cb (x:Int)=ac:=by
 unfold cb;rw[ym];by_cases z:x=0
 ·refine af z ?_;decide
 ·have:=(xV z).mpr h;simp;exact NB A this
theorem mG(x y:Int):bP .add (.int x) (.int y)=aa (.int<|x+y):=rfl
theorem rr(x y:Int):bP .sub (.int x) (.int y)=aa (.int<|x-y):=rfl
theorem Uf(B:cb x=ac)(A:cb y=ac):bP .mul (.int x) (.int y)=aa (.int<|x*y):=by show(if(cb x&&cb y)=ac then aa (bQ<|x*y)else ab)=_;refine af B<|af A ?_;rfl
theorem Al{x k:Nat}(B:k<=1000000)(A:cb (x:Int)=ac):bP .shl (.int x) (.int k)=aa (.int ((x*2^k:Nat):Int)):=by show(if(decide (0<=(k:Int))&&decide ((k:Int)<=1000000)&&cb (x:Int))=ac then aa (bQ<|(x:Int)*2^(k:Int).toNat)else ab)=_;refine af A ?_;rw[ar (by simp;exact NQ B),jE];congr 2
theorem Ug{k:Nat}(A:k<=1000000):bP .shl (.int 1) (.int k)=aa (.int ((2^k:Nat):Int)):=by have:=Al (x:=1) A (by decide);rw[A4]at this;exact this
theorem Am(x k:Nat):bP .shr (.int x) (.int k)=aa (.int ((x/2^k:Nat):Int)):=by show(if(0:Int)<=(k:Int)then aa (bQ<|(x:Int)/2^(k:Int).toNat)else ab)=_;rw[ar (by exact iU),jE];congr 2
theorem Eh(x y:Nat):bP .band (.int x) (.int y)=aa (.int ((x&&& y:Nat):Int)):=by show(if(decide (0<=(x:Int))&&decide (0<=(y:Int)))=ac then aa (bQ (((x:Int).toNat &&& (y:Int).toNat :Nat):Int))else ab)=_;rw[ar (by simp),jE,jE]
theorem Uh(x y:Nat):bP .bor (.int x) (.int y)=aa (.int ((x|||y:Nat):Int)):=by show(if(decide (0<=(x:Int))&&decide (0<=(y:Int)))=ac then aa (bQ (((x:Int).toNat |||(y:Int).toNat :Nat):Int))else ab)=_;rw[ar (by simp),jE,jE]
theorem Ui(h:y<2^n):x*2^n|||y=x*2^n+y:=by rw[eQ,Nat.two_pow_add_eq_or_of_lt h]
def Ret(T:Tabs)(O:bC)(W n:Nat)(r:List MS)(f:Frm)(d:ak):Prop:=∃ff,bt T O W n r f=aa (.ret d,ff)
theorem Ret.next(h:bK T O W n s f=aa (.next,g))(A:Ret T O W n r g d):Ret T O W (n+1) (s::r) f d:=by obtain⟨ff,A⟩:=A;exact⟨ff,by rw[jn];refine af h ?_;exact A⟩
theorem Ret.ret(h:bK T O W n s f=aa (.ret d,g)):Ret T O W (n+1) (s::r) f d:=⟨g,by rw[jn];exact af h rfl⟩
theorem Ret.ife(c:Bool)(h:aS T O 40 t f=aa c)(A:Ret T O W n (if c then a else b) f d):Ret T O W (n+2) (.ife t a b::r) f d:=by obtain⟨ff,A⟩:=A;exact Ret.ret<|ZF c h A
theorem Ret.no(h:aS T O 40 t f=aa ae)(A:Ret T O W (n+2) r f d):Ret T O W (n+3) (.ife t a []::r) f d:=by refine Ret.next ?_ A;rw[jm];exact af h rfl
theorem Ret.evF(A:Ret T O W 200 m.body (vs.map .val ++cR (m.nNames-m.nParams) .un) d)(h:vs.length=m.nParams):evF T O W m vs=aa d:=by obtain⟨ff,A⟩:=A;rw[Internal.evF,ar h];exact af A rfl
def D2(O:bC)(N:Nat):Prop:=∀a b n:Nat,n<=N->2^n<=2*b->b<2^n->a<b*2^n->O 0 [.int a,.int b,.int n]=aa (.tuple [.int ((a/b:Nat):Int),.int ((a%b:Nat):Int)])
def D3(O:bC)(N:Nat):Prop:=∀dI a3 b1 b2 n:Nat,n<=N->2^n<=2*b1->b1<2^n->b2<2^n->a3<2^n->dI<b1*2^n+b2->
 O 1 [.int dI,.int a3,.int ((b1*2^n+b2:Nat):Int),.int b1,.int b2,.int n]=aa (.tuple [.int (((dI*2^n+a3)/(b1*2^n+b2):Nat):Int),.int (((dI*2^n+a3)%(b1*2^n+b2):Nat):Int)])
theorem Qg5(A:t f=aa ac)(B:b f=aa (.next,C)):gT t b (k+1) f=gT t b k C:=by rw[zp];rw[A];dsimp only[];rw[B]
theorem Qg6(A:t f=aa ae):gT t b (k+1) f=aa (.next,f):=by rw[zp];rw[A]
theorem Qg7(T:Tabs)(O:bC)(Wf fu wf:Nat)(H G D C B A:FV)(U:0<=r+2*b)(Y:r<b): ∃Q L:Int,gT (λf=>aS T O 40 (.cmp .lt (.v 7)<|.ki 0) f) (λf=>bt T O Wf (fu+3) [.aug 6 .sub<|.ki 1,.aug 7 .add<|.v 2] f) (wf+3) [H,G,.val<|.int b,D,C,B,.val<|.int q,.val<|.int r,A]= aa (.next,[H,G,.val<|.int b,D,C,B,.val<|.int Q,.val<|.int L,A])/\0<=L/\L<b/\Q*b+L=q*b+r:=by
 have step:∀(k:Nat)(q r:Int),r<0->gT (λf=>aS T O 40 (.cmp .lt (.v 7)<|.ki 0) f) (λf=>bt T O Wf (fu+3) [.aug 6 .sub<|.ki 1,.aug 7 .add<|.v 2] f) (k+1) [H,G,.val<|.int b,D,C,B,.val<|.int q,.val<|.int r,A]=
   gT (λf=>aS T O 40 (.cmp .lt (.v 7)<|.ki 0) f) (λf=>bt T O Wf (fu+3) [.aug 6 .sub<|.ki 1,.aug 7 .add<|.v 2] f) k [H,G,.val<|.int b,D,C,B,.val<|.int<|q-1,.val<|.int<|r+b,A]:=by
  intro k q r h
  exact Qg5 (congrArg aa<|df h) rfl
 have stop:∀(k:Nat)(q r:Int),0<=r->gT (λf=>aS T O 40 (.cmp .lt (.v 7)<|.ki 0) f) (λf=>bt T O Wf (fu+3) [.aug 6 .sub<|.ki 1,.aug 7 .add<|.v 2] f) (k+1) [H,G,.val<|.int b,D,C,B,.val<|.int q,.val<|.int r,A]=
   aa (.next,[H,G,.val<|.int b,D,C,B,.val<|.int q,.val<|.int r,A]):=by
  intro k q r h
  exact Qg6<|congrArg aa<|fM<|B0 h
 by_cases h:0<=r
 ·exact⟨q,r,stop (wf+2) q r h,h,Y,rfl⟩
 ·by_cases M:0<=r+b
  ·exact⟨q-1,r+b,by rw[step (wf+2) q r<|we h,stop (wf+1) _ _ M],M,tT 0x3c80c801f001 Yt h,by rw[WO];exact Z0 0x1d0452452570d00030c840b4c8240 [_,_,_] Yt⟩
  ·refine⟨q-1-1,r+b+b,by rw[step (wf+2) q r (by exact we h),step (wf+1) _ _ (by exact tT 0x3c10c801f0c8001 Yt M),stop wf _ _<|by exact NR U],by exact NR U,by exact tT 0x3c80c80c801f0c8001 Yt M,by rw[WO,WO];exact Z0 0x1d0452452570d00030c80c840b4c824b4c8240 [_,_,_] Yt⟩
theorem Qg8{N wf:Nat}(Y:N<=400000)(h:D2 O N)(A Q b1 B n:Nat)(L:n<=N)(r:2^n<=2*b1)(m:b1<2^n)(g:B<2^n)(t:Q<2^n)(b:Nat)(C:b1*2^n+B=b)(M:A<b): ∃H G:Nat,A=H*b1+G/\H<2^n/\G<2^n+b1/\G*2^n+Q<b+H*B/\ (∀D,bK T O (wf+3) 199 (.ife PE [.unp [6,7] PB] [.unp [6,7]<|.call 0 [.v 0,.v 3,.v 5]]) [.val<|.int A,.val<|.int Q,.val<|.int b,.val<|.int b1,.val<|.int B,.val<|.int n,.un,.un,D]=aa (.next,[.val<|.int A,.val<|.int Q,.val<|.int b,.val<|.int b1,.val<|.int B,.val<|.int n,.val<|.int H,.val<|.int G,D])):=by
 have P:0<2^n:=mV n;have u:0<b1:=GE r P;have w:∀x:Nat,x<2^n->cb (x:Int)=ac:=λx hx=>qh hx<|B1 Y L;have o:=Am A n;have d:=mN A<|2^n;have dm:=mO A P;by_cases q:A/2^n=b1
 ·rw[q]at d;have i:bP .sub (.int ((2^n:Nat):Int)) (.int 1)=aa (.int ((2^n-1:Nat):Int)):=by rw[rr];congr 2;exact NS P
  have f:=Al (x:=b1) (k:=n) (B2 Y L)<|w _ m;have U:b1*2^n<=A:=by rw[eQ]at d;exact fS 0x190016403200 Yt d
  have p:bP .sub (.int (A:Int)) (.int ((b1*2^n:Nat):Int))=aa (.int ((A-b1*2^n:Nat):Int)):=by rw[rr];congr 2;exact GF U
  have e:bP .add (.int ((A-b1*2^n:Nat):Int)) (.int (b1:Int))=aa (.int ((A-b1*2^n+b1:Nat):Int)):=by rw[mG];congr 2
  have c:cY .eq (.int ((A/2^n:Nat):Int)) (.int (b1:Int))=aa ac:=by refine af q ?_;exact congrArg aa<|by simp
  have a:=Ug (k:=n)<|B2 Y L;have s:(2^n-1)*b1=b1*2^n-b1:=by rw[Lw,A4,eQ]
  have e2:(2^n-1)*B=B*2^n-B:=by rw[Lw,A4,eQ]
  have e3:b1<=b1*2^n:=WP _ P;have e4:B<=B*2^n:=WP _ P;have v:(A-b1*2^n+b1)*2^n<=(B-1+b1)*2^n:=mP _<|N2 0x54961540014a08208914228228a28955000528208224508a28228a2460e02c960380b400d880d840e200 [_,_,_,_,_] Yt C M;have y:(B-1+b1)*2^n=B*2^n-2^n+b1*2^n:=by rw[qE,Lw,A4]
  have j:2^n<=B*2^n:=Ly _ (by clear d;exact jO 0x398076403600390206200 Yt C M U);refine⟨2^n-1,A-b1*2^n+b1,by clear d;exact rX 0x1521854021d04528228224528a08a08228a08974114a28208a08208914a08a28208a25500874114a08a24528a08228208a08974114a28228208208914a08a08a0822560c300b2184181982162c0210d8b008406200 Yt U s s e3,GG P,N4 0x1560814a08a08208914228a28a24e0e8003a0b60838083640381839020e001 [_,_,_,_,_,_] Yt g C M P,N6 0x57021500814a08228a28a08a28914228228a28a08a25500814a08a08a28a28a28914228a08a28a28a24e0e8e03120380116e03c18d8bc08a0642058360b008406200 [_,_,_,_,_,_,_,_,_] Yt t C e2 v y j,λD=>?_⟩;simp only[jm,mz,jR,gz,dh,Frm.get,dq,dD,o,kD,Frm.peek,c,b7,ey,jn,oQ,r7,cO,cQ,ii,a,i,f,p,e,nB,nE,Frm.put,dW,dX,nG]
 ·have lt:A/2^n<b1:=by
   have:A/2^n<b1+1:=(rJ P).mpr (by rw[qE];exact N3 0x3834e025000e818d880d840e200 [_,_,_,_,_] Yt g C M);exact bS 0x1d24528208914a24e200f8800e0c9200 Yt q this
  have y8:A<b1*2^n:=(rJ P).mp lt;have c:cY .eq (.int ((A/2^n:Nat):Int)) (.int (b1:Int))=aa ae:=congrArg aa (by rw[beq_eq_false_iff_ne];intro z;exact q<|by exact_mod_cast z);have hc:=h A b1 n L r m y8;have l:=mO A u;have v:(A%b1)*2^n<=(b1-1)*2^n:=mP _<|NT l;have y:(b1-1)*2^n=b1*2^n-2^n:=by rw[Lw,A4]
  have j:2^n<=b1*2^n:=Ly _ u;refine⟨A/b1,A%b1,?_,(rJ u).mpr (by rw[eQ];exact y8),fS 0x38321000e200 Yt l,N5 0x54020528228a28a28914228a28a289383e280f060e0305a80e020641858b008406200 [_,_,_,_,_,_,_,_] Yt t C v y j,λD=>?_⟩
  ·rw[eQ];exact(mN A b1).symm
  ·simp only[jm,mz,jR,gz,dh,Frm.get,dq,dD,o,kD,Frm.peek,c,b7,ey,jn,oQ,kA,cO,cQ,hc,nB,nE,Frm.put,dW,dX,nG]
theorem Qg9{a b:Nat}{q r:Int}(B:0<=r)(A:r<b)(e:q*b+r=a):q=((a/b:Nat):Int)/\r=((a%b:Nat):Int):=by have C:(0:Int)<b:=pM 0xfb000470013ec000 Yt B A;have:=Int.ediv_emod_unique C (a:=(a:Int)) (r:=r) (q:=q);have w:=this.mpr ⟨by rw[uY];exact W2 0x1d0452822452820895ec0030085ec003200dec003200 [_] [_,_] Yt e e,B,A⟩;rw[WQ,WR];exact⟨w.1.symm,w.2.symm⟩
theorem Qha{N wf:Nat}(L:N<=400000)(h:D2 O N)(G B b1 A n:Nat)(H:n<=N)(d:2^n<=2*b1)(t:b1<2^n)(y:A<2^n)(l:B<2^n)(h5:G<b1*2^n+A): evF T O (wf+3) PM [.int G,.int B,.int ((b1*2^n+A:Nat):Int),.int b1,.int A,.int n]=aa (.tuple [.int (((G*2^n+B)/(b1*2^n+A):Nat):Int),.int (((G*2^n+B)%(b1*2^n+A):Nat):Int)]):=by
 have P:0<2^n:=mV n;generalize z:b1*2^n+A=b at*;refine B6 (Qg8 (T:=T) (wf:=wf) L h G B b1 A n H d t y l b z h5) λC D e0 g Bx U ev=>?_;have w:2^(n+1)=2^n*2:=vB 2 n;have c:=Al (x:=D) (k:=n) (B2 L H)<|qh (x:=D) (k:=n+1) (jO 0x38040e2183836084364d1200 Yt t Bx w)<|bS 0x6eba08a8b2643240182092a8a889206200 Yt L H;have o:=Uh (D*2^n) B;rw[Ui l]at o;have f:=Uf (qh g<|B1 L H)<|qh y<|B1 L H;have u:=rr ((D*2^n+B:Nat):Int)<|(C:Int)*(A:Int);generalize M:((D*2^n+B:Nat):Int)-(C:Int)*(A:Int)=R at u;have Q:((C*A:Nat):Int)=(C:Int)*(A:Int):=iq _ _;have Y:R<b:=W3 0xfb1820e0c0603408dc82c0b034085c0b00 [_,_,_,_] [_,_] Yt U M Q;have MJ:0<=R+2*b:=by
  have e1:C*A<=C*2^n:=l7 _<|yS y;have e2:C*2^n<=2^n*2^n:=mP _<|yS g;have e3:2^n*2^n<=2*(b1*2^n):=bT (fY 2 b1<|2^n)<|mP _ d;have j:((D*2^n+B:Nat):Int)-((C*A:Nat):Int)=R:=by rw[Q];exact M
  clear M Q;exact W5 0x14a48a28a2470d3b38440056e03c201a840662819381161700bb10b03200 [_,_,_,_,_,_,_,_] [_] Yt z e1 e2 e3 j
 refine pP (Qg7 T O (wf+3) 193 wf (.val<|.int G) (.val<|.int B) (.val<|.int b1) (.val<|.int A) (.val<|.int n) .un (b:=b) (q:=C) (r:=R) MJ Y) λa i p e s m=>?_;have v:a*b+i=((G*2^n+B:Nat):Int):=by
  refine af m<|bT M<|bT z<|bT Q<|af e0 ?_;have:C*(b1*2^n+A)+(D*2^n+B)=(C*b1+D)*2^n+B+C*A:=by rw[to,qE,fY];exact k9 0x1d0452452560c80d80d00030d8403200 Yt
  rw[<-iq];exact Ze this
 refine aG (Qg9 e s v) λf1 f2=>?_;refine bT f1<|bT f2 ?_;refine Ret.evF ?_ rfl;refine Ret.next (ev _) ?_;refine Ret.next (by simp only[jS,gz,dh,Frm.get,dD,dq,c,o,f,u,Frm.put,dW,dX];rfl) ?_;refine Ret.next p ?_;exact Ret.ret rfl
end
section
theorem JH:gS .bitlen (.int a) []=aa (.int (dR (a:Int):Nat)):=rfl
theorem An{a k:Nat}(h:a<2^k):dR (a:Int)<=k:=by
 unfold dR;by_cases z:(a:Int)=0
 ·rw[ar z];exact cN 0x6001 Yt
 ·rw[av z,ym];have:=(xV<|NO z).mpr h;exact bD 0x1880c900e200 Yt this
theorem Uj(a:Nat):a<2^dR (a:Int):=by
 have h:=Ud (a:=(a:Int))<|iU;have e:((2^dR (a:Int):Nat):Int)=2^dR (a:Int):=by rw[pC];rfl
 exact W2 0xe0083c0b08dc0b00 [_,_] [_] Yt h e
theorem Qhb{b:Nat}(A:0<b):2^dR (b:Int)<=2*b:=by unfold dR;rw[av (by exact yT A),ym,vB];have:=Nat.log2_self_le<|GH A;exact bD 0x52911932114d1006200 Yt this
theorem bDm{a b:Nat}(h:0<b)(A:a<b*2^4010):gR .divmod [.int a,.int b]=aa (.tuple [.int ((a/b:Nat):Int),.int ((a%b:Nat):Int)]):=by
 show(if(decide ((0:Int)<b)&&decide (0<=(a:Int))&&decide ((a:Int)<b*2^4010))=ac then aa (PyData.tuple [.int<|(a:Int)/b,.int<|(a:Int)%b])else ab)=_;have e:((b*2^4010:Nat):Int)=(b:Int)*2^4010:=by rw[iq,pC];rfl
 rw[ar]
 ·rw[WQ,WR]
 ·refine bT e ?_;simp only[bo,bH];exact⟨⟨oH h,iU⟩,yR A⟩
theorem Uk{Wf a b n:Nat}(L:b<2^n)(A:2^n<=2*b)(h:dR (a:Int)<=n+4000): evF T O Wf wC [.int a,.int b,.int n]=aa (.tuple [.int ((a/b:Nat):Int),.int ((a%b:Nat):Int)]):=by
 have P:0<2^n:=mV n;have l:a<b*2^4010:=by
  have G:=Uj a;have B:2^dR (a:Int)<=2^(n+4000):=jF (by decide) h;rw[g9]at B;have D:2^n*2^4000<=2*b*2^4000:=mP _ A;have C:2*b*2^4000<=b*2^4010:=by rw[show 2^4010=2^10*2^4000 by rw[<-g9], <-fY];exact mP _<|cN 0x193082091013011 Yt
  exact yX 0xe220398806418180406200 Yt G B D C
 have H:bP .sub (.int ((dR (a:Int):Nat):Int)) (.int (n:Int))=aa (.int<|((dR (a:Int):Nat):Int)-n):=rfl;have c2:cY .le (.int<|((dR (a:Int):Nat):Int)-n) (.int 4000)=aa ac:=congrArg aa<|df<|bD 0x1c28b2e4bb08b001830a2cb9200 Yt h;have c3:=bDm (by exact GE A P) l;refine Ret.evF ?_ rfl;show Ret T O Wf 200 wC.body [.val<|.int a,.val<|.int b,.val<|.int n,.un,.un,.un,.un,.un,.un,.un,.un,.un,.un,.un] _;refine Ret.ife ac (by simp only[mz,jR,gz,kC,dh,Frm.get,dq,cO,cQ,JH,dD,H,t9,ii,c2,b7,ey]) ?_;exact Ret.ret (by simp only[nF,pT,cO,cQ,kD,Frm.peek,dq,dD,b7,c3];rfl)
theorem Qhd(U:A<B*(2^h*2^h))(C:0<B): ∃L G H O,L=(A/(2^h*2^h)*2^h+A/2^h%2^h)/B/\G=(A/(2^h*2^h)*2^h+A/2^h%2^h)%B/\H=(G*2^h+A%2^h)/B/\O=(G*2^h+A%2^h)%B/\ A/(2^h*2^h)<B/\G<B/\L<2^h/\H<2^h/\L*2^h+H=A/B/\O=A%B:=by
 have P:0<2^h:=mV h;refine⟨_,_,_,_,rfl,rfl,rfl,rfl,?_⟩;generalize 2^h=X at*;have v:A/(X*X)*X+A/X%X=A/X:=by rw[<-Nat.div_div_eq_div_mul,eQ];exact mN _ _
 refine af v ?_;have T:=mO (A/X) C;have k1:A/(X*X)<B:=(rJ<|tw P P).mpr U;have k2:A/X<B*X:=(rJ P).mpr (by rw[fY];exact U);have y:A/X/B<X:=(rJ C).mpr (by rw[eQ];exact k2);have a1:=mO A P;have q:A/X%B*X+A%X<B*X:=by exact hz T a1
 have j:(A/X%B*X+A%X)/B<X:=(rJ C).mpr (by refine af (eQ X B) ?_;exact q);refine⟨k1,T,y,j,?_⟩;have Y:=mN A X;have u:=mN (A/X) B;have M:=mN (A/X%B*X+A%X) B;have m3:=mO (A/X%B*X+A%X) C;have D:(A/X/B*X+(A/X%B*X+A%X)/B)*B+(A/X%B*X+A%X)%B=A:=by
  have z:A/X/B*X*B+A/X%B*X=X*(A/X):=by rw[fY];refine af (eQ X B) ?_;rw[<-fY, <-qE];refine af (eQ (A/X/B) B)<|af u ?_;rw[eQ]
  rw[qE];rw[eQ B]at M;exact N6 0x74114a08a08a08914a082282282256c038036005b00e8436c03a10583a080e06360e82038185900c8036403200 [_,_,_,_,_,_,_] Yt Y Y M M z z
 generalize (A/X/B*X+(A/X%B*X+A%X)/B)=Q at*;generalize (A/X%B*X+A%X)%B=R at*;have:A/B=Q/\A%B=R:=by have w:=(Lz (a:=A) (d:=Q) C).mpr ⟨by rw[eQ];exact NU D D,m3⟩;exact w
 exact⟨this.1.symm,this.2.symm⟩
theorem Qhe{Wf N:Nat}(G:N<=200000)(H:D3 O N){a b n:Nat}(C:n<=2*N)(s:b<2^n)(kr:2^n<=2*b)(ha:a<b*2^n)(h:¬dR (a:Int)<=n+4000): evF T O Wf wC [.int a,.int b,.int n]=aa (.tuple [.int ((a/b:Nat):Int),.int ((a%b:Nat):Int)]):=by
 have c1:bP .sub (.int ((dR (a:Int):Nat):Int)) (.int (n:Int))=aa (.int<|((dR (a:Int):Nat):Int)-n):=rfl;have c2:cY .le (.int<|((dR (a:Int):Nat):Int)-n) (.int 4000)=aa ae:=congrArg aa<|fM<|bD 0x7c28b2e4bb08b007830a2cb9200 Yt h;have c3:=Eh n 1;rw[show n&&& 1=n%2 from Nat.and_one_is_mod n]at c3;have P:0<2^n:=mV n;have w:0<b:=GE kr P;have Yj:dR (a:Int)<=2*n:=An (by have:b*2^n<=2^n*2^n:=mP _<|yS s;rw[yn,g9];exact yU ha this);obtain⟨p,hp,A,B,m,hA,hB,hm,ev⟩:∃p:Nat,p=n%2/\∃A B m:Nat,A=a*2^p/\B=b*2^p/\n+p=2*m/\
   (∀z Y U Q M v9 o r d l,bK T O Wf 197 (.ife (.v 3) [.aug 0 .shl<|.ki 1,.aug 1 .shl<|.ki 1,.aug 2 .add<|.ki 1] []) [.val<|.int a,.val<|.int b,.val<|.int n,.val<|.int p,z,Y,U,Q,M,v9,o,r,d,l]= aa (.next,[.val<|.int A,.val<|.int B,.val<|.int ((2*m:Nat):Int),.val<|.int p,z,Y,U,Q,M,v9,o,r,d,l])):=by
  have q:=KM n
  rcases q with q|q
  ·refine⟨0,q.symm,a,b,n/2,by exact cN 0x1d0452452564c9000 Yt,by exact cN 0x1d0452452564c9000 Yt,by exact aH 0x95101d0452822820822452895936d10110c1016063440 Yt q,λ_ _ _ _ _ _ _ _ _ _=>?_⟩;rw[show 2*(n/2)=n from aH 0x95101d04528914a08a0820895804db440456063440 Yt q];rfl
  ·refine⟨1,q.symm,a*2,b*2,(n+1)/2,NV,NV,OE q,λ_ _ _ _ _ _ _ _ _ _=>?_⟩;rw[<-OE q];have sa:cb (a:Int)=ac:=qh (k:=2*n) (by
    have:b*2^n<=2^n*2^n:=mP _ (yS s);rw[yn,g9];exact yU ha this) (by exact bS 0x14a8911bae822a2c994c0446082ab20b12064c8440 Yt G C)
   have sb:cb (b:Int)=ac:=qh s<|bS 0x14a4891bae822a2c99006082ab20b12064c8440 Yt G C;have u1:pR .shl (a:Int) 1=aa ((a*2:Nat):Int):=by show(if(decide ((0:Int)<=1)&&decide ((1:Int)<=1000000)&&cb (a:Int))=ac then aa ((a:Int)*2^(1:Int).toNat)else ab)=_;refine af sa ?_;rfl
   have u2:pR .shl (b:Int) 1=aa ((b*2:Nat):Int):=by show(if(decide ((0:Int)<=1)&&decide ((1:Int)<=1000000)&&cb (b:Int))=ac then aa ((b:Int)*2^(1:Int).toNat)else ab)=_;refine af sb ?_;rfl
   have u3:pR .add (n:Int) 1=aa ((n+1:Nat):Int):=rfl;have t:((((1:Nat):Int))!=0)=ac:=rfl;simp only[jm,r8,dh,Frm.get,dD,dq,ey,t,jn,zq,ii,Frm.put,dX,u1,b7,dW,u2,u3,nG]
 have MK:A<B*(2^m*2^m):=by
  have e:2^n<=2^m*2^m:=by rw[<-g9];exact jF (by decide)<|fS 0x1834100164d0443200 Yt hm
  have Pp:=mV p;have e1:a*2^p<b*2^n*2^p:=QlH ha Pp;have e2:b*2^n*2^p=B*2^n:=by refine af hB ?_;rw[fY,eQ<|2^n,fY]
  have e3:B*2^n<=B*(2^m*2^m):=l7 _ e;exact yX 0xe22059880e418580406200 Yt hA e1 e2 e3
 have hBp:0<B:=by refine af hB ?_;exact tw w<|mV p
 have ML:B<2^m*2^m:=by refine af hB ?_;rw[<-g9, <-yn];refine bT hm ?_;rw[g9];exact QlH s<|mV p
 have Yk:2^m*2^m<=2*B:=by refine af hB ?_;rw[<-g9, <-yn];refine bT hm ?_;rw[g9, <-fY];exact mP _ kr
 have sA:cb ((A/(2^m*2^m):Nat):Int)=ac:=qh (k:=2*m) (by have:=(rJ<|tw (mV m)<|mV m).mpr MK;rw[yn,g9];exact fN 0xe40039020e200 Yt ML this) (by exact rX 0x2544014208a08a48a2891bae822a2c994d0446082ab20b16064d84405a34402364d0443200 Yt G C hp hm);obtain⟨q1,r1,q2,r2,v,Yl,y,Ym,k1,k2,k3,k4,k5,k6⟩:=Qhd MK hBp;have D:=mV m;have hAb:A/B=a/b:=by refine af hA<|af hB ?_;exact Nat.mul_div_mul_right _ _<|mV p
 have MN:A%B/2^p=a%b:=by refine af hA<|af hB ?_;rw[Nat.mul_mod_mul_right];exact Nat.mul_div_cancel _<|mV p
 have L:=mN B<|2^m;rw[eQ]at L;have f:=mO B D;have MO:B/2^m<2^m:=(rJ D).mpr ML;have Yn:2^m<=2*(B/2^m):=by
  refine Nat.le_of_mul_le_mul_right (c:=2^m) ?_ D;rw[fY];have hq:¬(2*(B/2^m*2^m)<2^m*2^m):=by
   intro bM;have i:1<=m:=jO 0x15228a2464097830a2cb90181930116164d0443200 Yt h Yj hm;clear ev MK ML sA v Yl y Ym k1 k3 k4 k5 D MO i;obtain⟨j,rfl⟩:∃j,m=j+1:=⟨m-1,jO 0x54940509208a28974114a2452822560c92c94107830a2cb90181930116164d0443200 Yt h Yj hm⟩;have e:2^(j+1)*2^(j+1)=2*(2^j*2^(j+1)):=by rw[vB];refine af (eQ (2^j) 2) ?_;rw[fY]
   rw[e]at bM Yk;have h1:B/2^(j+1)<2^j:=Nat.lt_of_mul_lt_mul_right (a:=2^(j+1))<|bD 0x548938800e4c8453011 Yt bM;have h2:(B/2^(j+1)+1)*2^(j+1)<=2^j*2^(j+1):=mP _ h1;rw[qE]at h2;exact yX 0x14a49246e0411938114d04768036003886064034c8240 Yt Yk L f h2
  exact bD 0x193011226213011 Yt hq
 have C1:=H (A/(2^m*2^m)) (A/2^m%2^m) (B/2^m) (B%2^m) m (NW C hp hm) Yn MO f (mO _ D) (by refine af L ?_;exact k1);have C2:=H r1 (A%2^m) (B/2^m) (B%2^m) m (NW C hp hm) Yn MO f (mO _ D) (by refine af L ?_;exact k2);rw[L, <-v, <-Yl]at C1;rw[L, <-y, <-Ym]at C2;have c4:=Am (2*m) 1;rw[show 2*m/2^1=m from cN 0x9514c045d04548915208a25601b453011 Yt]at c4;have c5:=Ug (k:=m)<|NX G C hp hm;have c6:bP .sub (.int ((2^m:Nat):Int)) (.int 1)=aa (.int ((2^m-1:Nat):Int)):=by rw[rr];congr 2;exact NS D
 have c7:=Am B m;have c8:=Eh B<|2^m-1;rw[WS]at c8;have c9:=Am A<|2*m;rw[show 2^(2*m)=2^m*2^m by rw[yn,g9]]at c9;have c10:=Am A m;have Yo:=Eh (A/2^m)<|2^m-1;rw[WS]at Yo;have Yp:=Eh A<|2^m-1;rw[WS]at Yp;have c13:=Al (x:=q1) (k:=m) (NX G C hp hm)<|qh k3<|rX 0x2544014208a09248a2891bae822a2c99406082ab20b16064d84405a34402364d0443200 Yt G C hp hm;have Yq:=Uh (q1*2^m) q2;rw[Ui k4,k5,hAb]at Yq;have ev2:∀v0 v1 v2 z Y U Q M o r d l,bK T O Wf 191 (.ife (.v 3) [.aug 9 .shr<|.ki 1] []) [v0,v1,v2,.val<|.int p,z,Y,U,Q,M,.val<|.int r2,o,r,d,l]=
    aa (.next,[v0,v1,v2,.val<|.int p,z,Y,U,Q,M,.val<|.int ((a%b:Nat):Int),o,r,d,l]):=by
  intro _ _ _ _ _ _ _ _ _ _ _ _
  refine bT MN<|af k6 ?_
  have q:p=0\/p=1:=hp▸KM n
  rcases q with q|q
  ·clear hp hA hB hm ev MN;subst q;rw[show A%B/2^0=A%B from cN 0x94901d04528914a08a25601b240 Yt];rfl
  ·clear hp hA hB hm ev MN;subst q;have u:pR .shr ((A%B:Nat):Int) 1=aa ((A%B/2^1:Nat):Int):=by
    show(if(0:Int)<=1 then aa (((A%B:Nat):Int)/2^(1:Int).toNat)else ab)=_;rw[ar<|by decide];rfl
   have t:((((1:Nat):Int))!=0)=ac:=rfl;simp only[jm,r8,dh,Frm.get,dD,dq,ey,t,jn,zq,ii,Frm.put,dW,dX,u,b7,nG]
 refine Ret.evF ?_ rfl;show Ret T O Wf 200 wC.body [.val<|.int a,.val<|.int b,.val<|.int n,.un,.un,.un,.un,.un,.un,.un,.un,.un,.un,.un] _;refine Ret.no (by simp only[mz,jR,gz,kC,dh,Frm.get,dq,cO,cQ,JH,dD,c1,t9,ii,c2,b7,ey]) ?_;rw[<-hp]at c3;refine Ret.next (g:=[.val<|.int a,.val<|.int b,.val<|.int n,.val<|.int p,.un,.un,.un,.un,.un,.un,.un,.un,.un,.un]) (by show bK T O Wf 198 _ [.val<|.int a,.val<|.int b,.val<|.int n,.un,.un,.un,.un,.un,.un,.un,.un,.un,.un,.un]=_;simp only[jS,gz,dh,Frm.get,dD,dq,ii,Frm.put,dW,dX];exact af (show bP .band (.int n) (.int 1)=aa (.int (p:Int))from c3) rfl) ?_;refine Ret.next (ev _ _ _ _ _ _ _ _ _ _) ?_;refine Ret.next (g:=[.val<|.int A,.val<|.int B,.val<|.int ((2*m:Nat):Int),.val<|.int p,.val<|.int m,.un,.un,.un,.un,.un,.un,.un,.un,.un]) (by simp only[jS,gz,dh,Frm.get,dD,dq,ii,Frm.put,dW,dX];exact af (show bP .shr (.int ((2*m:Nat):Int)) (.int 1)=aa (.int (m:Int))from c4) rfl) ?_;refine Ret.next (by simp only[jS,gz,ii,dh,Frm.get,dD,dq,c5,c6,Frm.put,dW,dX];rfl) ?_;refine Ret.next (by simp only[oQ,r7,cO,cQ,gz,dh,Frm.get,dD,dq,c7,c8,b7,nB,nE,Frm.put,dW,dX];rfl) ?_;refine Ret.next (by simp only[oQ,kA,cO,cQ,gz,dh,Frm.get,dq,dD,c9,c10,Yo,b7,C1,nB,nE,Frm.put,dW,dX];rfl) ?_;refine Ret.next (by simp only[oQ,kA,cO,cQ,dh,Frm.get,dD,dq,gz,Yp,b7,C2,nB,nE,Frm.put,dW,dX];rfl) ?_;refine Ret.next (ev2 _ _ _ _ _ _ _ _ _ _ _ _) ?_;exact Ret.ret (by simp only[nF,r7,cO,cQ,gz,dh,Frm.get,dD,dq,c13,Yq,b7];rfl)
theorem Qhf{Wf N:Nat}(G:N<=200000)(H:D3 O N){a b n:Nat}(C:n<=2*N)(A:2^n<=2*b)(B:b<2^n)(D:a<b*2^n): evF T O Wf wC [.int a,.int b,.int n]=aa (.tuple [.int ((a/b:Nat):Int),.int ((a%b:Nat):Int)]):=by
 by_cases h:dR (a:Int)<=n+4000
 ·exact Uk B A h
 ·exact Qhe G H C B A D h
end
section
open PySem.Calls
set_option backward.match.sparseCases true
theorem Qhg{R:WRecords}:∀{xs:List WData},rK.hasItems R xs .int =ac->∃A:List Int,xs=A.map .int :=by
 intro D;induction D with
 |nil=>intro H;exact⟨[],rfl⟩
 |cons x xs G=>intro h;obtain⟨C,B⟩:=fP.mp (show(rK.has R x .int &&rK.hasItems R xs .int)=ac from h);clear h;obtain⟨A,rfl⟩:=G B;cases x<;>first|exact gC (show ae=ac from C)|exact⟨_::A,rfl⟩
theorem Qhh{R:WRecords}{args:List WData}(h:rK.hasAll R args [.list .int]=ac):∃A:List Int,args=[.list<|A.map .int]:=by
 match args,h with
 |[x],h=>have h:=(fP.mp (show(rK.has R x (.list .int)&&rK.hasAll R [] [])=ac from h)).1;cases x<;>first|exact gC (show ae=ac from h)|(obtain⟨A,rfl⟩:=Qhg ((WT _).symm.trans h);exact⟨A,rfl⟩)
 |[],h=>exact gC (show ae=ac from h)
 |x::y::r,h=>exact gC (show ae=ac from(fP.mp (show(rK.has R x (.list .int)&&rK.hasAll R (y::r) [])=ac from h)).2)
theorem Qhi(w:Fj P h vs<|d::ds):∃v A,vs=v::A/\Well P h v d/\Fj P h A ds:=by cases w with|cons a b=>exact(ji _ _ rfl a b)
theorem Qhj(w:Fj P h vs []):vs=[]:=by cases w;rfl
theorem Qhk(w:Well P h v<|.int n):∃t,v=.int n t:=by cases w;exact⟨_,rfl⟩
theorem Qhl{A:List Int}:∀{vs:List aq},Fj P h vs (A.map .int)->∃B:List gm,vs=(A.zip B).map (λp=>.int p.1 p.2)/\B.length=A.length:=by
 induction A with
 |nil=>intro vs w;exact(br ([]) (Qhj w) rfl)
 |cons n A D=>intro vs w;refine dJ (Qhi w) λv M L H G=>?_;clear w;subst L;refine aF (Qhk H) λt C=>?_;subst C;refine ah (D G) λB C l=>?_;subst C;exact(br (t::B) rfl (congrArg kU l))
def Qhm(g:Nat):List ak->Option ak:=if g=2 then Ef else if g=3 then Eb else λ_=>ab
abbrev aO(Wf N:Nat):bC:=zH aA Wf gp Qhm xj N
def JI(Wf N fu i:Nat):Prop:=∀m,uD i=aa m->∀xs:List Int,xs.length<=63->∃ff,bt aA (aO Wf N) Wf fu m.body (.val (.list (xs.map .int))::cR (m.nNames-1) .un)=aa (.ret (.bool ac),ff)
theorem Qhn(B:Lib0 (cu w mg mb) aA)(X:pA.In (nQ w.params) A)(G:A.Ns l4 mg)(N:Nat):Lib (cu w mg mb) aA (aO Wf N) N:=
 B.lib (QdS B (λg m _ h=>Qgm X G g m h) (λg C=>by
  simp only[xj,n7,bJ]at C;rcases C with rfl|rfl
  ·exact Qg4 B X G
  ·exact QgJ B X G) N)
set_option tactic.hygienic true in
theorem Qho{Wf N fu:Nat}{c:ClaimW}{g:ao->Option aj}{f:ExcName->Option aq}{w:d9}{mg mb:ao->Option aq}{XP:(ao->Option aq)->bL->Prop}(t:N<=99)(P:JI Wf N fu 83)(B:(uD 83).isSome =ac)(G:Ground qV loose [] XP w Mp mg mb s.heap)(Y:pA.In (nQ w.params) s.heap){a:aj}(u:mg "law"=aa (.ref a))(hg:s.gens=#[]){args:List WData}{q:List aq}(y:rK.hasAll [] args [.list .int]=ac)(p:∀A:List Int,args=[.list<|A.map .int]->A.length<=63)(hw:Fj w.params s.heap q args)(hr:∀x,c.raises args x=ae)(hp:c.post args (.bool ac) args=ac): aI (aR pw w) callerA (PySem.call (.ref a) q) (λv H=>GoodWG c g f args s (.ok<|.ret v) H) (λe H=>GoodWG c g f args s (.error e) H) s:=by
 refine fx (QfG G Y) λk bs C=>?_;have L0:=Qgn k Y G.T.g;refine aF (vh.mp B) λm B=>?_;refine tU (TU B) λcc c1 c2 c3 c4=>?_;have e:mg "law"=aa (.ref 225):=fh Y G.T.g (by kernel_rfl);rw[e]at u;obtain rfl:=tc<|aw u;refine aF (Qhh y) λA an=>?_;clear y;subst an;refine aF (P m B A<|p A rfl) λff bG=>?_;have tX:∀b∈fe,∃o,s.heap.get? b=aa o:=λb hb=>let⟨o,e,_⟩:=k.tStill _ C b hb;⟨o,e⟩;obtain⟨v,rfl,hv⟩:∃v,q=[v]/\Well w.params s.heap v (.list<|A.map .int):=by
  cases hw with
  |cons D T=>cases T;exact⟨_,rfl,D⟩
 have rp:Rep (mask fe s.heap) v<|.list<|A.map .int:=by
  cases hv with
  |list D T=>
   rename_i la vs;refine ah (Qhl T) λQ e l=>?_;have nT:la∉fe:=pU k C D rfl;refine Rep.mkList (n:=0) (cy.mpr ⟨nT,D⟩) ?_<|JG _ _ ?_ λi L=>?_
   ·have:=p A rfl;refine af e ?_;rw[b8,QlI];refine af eu ?_;exact bD 0x34800508228228a24508228208a2460820820820822742001bae40 Yt this
   ·refine af e ?_;simp[l]
   ·clear D;subst e;simp only[b8,QlI,l,Nat.min_self]at L;refine(jh (A[i]) (Q[i]) ?_ ?_)
    ·have z:(A.zip Q)[i]?=aa (A[i],Q[i]):=Wz.mpr ⟨ee L,ee<|by exact fN 0xe400d8840e200 Yt l L⟩;rw[fW];refine af z ?_;rfl
    ·rw[fW];refine af (ee L) ?_;rfl
 have am:AOk callerA<|N+1:=by
  refine⟨rfl,?_,?_⟩
  ·show(1+claimMargin)+(N+1)<1000;have:claimMargin+1+100<1000:=by decide
   exact bS 0xe0aae890c32480c02466a2248382aba2438a2243240 Yt t this
  ·show 4+10*(N+1)+100<9900;exact qt (Qls (WA (l7 10<|Nat.succ_le_succ t) 4) 100)<|by decide
 refine wL<|Rs (Wf:=Wf) (N:=N) (fu:=fu) (d:=.bool ac) (ff:=ff) (Qhn (Wf:=Wf) L0 Y G.T.g N) Qgl (λh b=>b.2.2.2.1 225 _ rfl) rfl (λh b _=>D7 b.2.2.2.1 rfl rfl rfl) (c:=cc) c1 c2 (args:=[.list<|A.map .int]) rfl ?_ am bs C (λ_ h=>h) tX (.cons rp .nil) ?_
 ·have:(eG<|bN 83).names.length =m.nNames:=c4.symm;show bt aA _ Wf fu m.body ([.val<|.list<|A.map .int]++cR ((eG<|bN 83).names.length -1) .un)=_;refine af this ?_;exact bG
 ·intro v' H x r;have:=r.bool_inv;clear r;subst this;have BJ:=x.tb C;refine⟨.inl<|y7 _ _ ([]) rfl hr (ReadsW.bool ac) hp (λ_=>⟨Ws,λ_ B=>(nomatch B)⟩),⟨λb o e=>?_,λb o e=>?_⟩,?_,?_⟩
  ·by_cases z:b∈fe
   ·have j:b=30\/b=37:=by simpa[fe]using z
    obtain⟨⟨q1,C1,P1,_⟩,⟨q2,C2,P2,_⟩⟩:=C;obtain⟨⟨q3,C3,P3,_⟩,⟨q4,C4,P4,_⟩⟩:=BJ;have O:s.heap.get? 30=aa (tabObj #[]):=Y 30 _ rfl;have M:s.heap.get? 37=aa (tabObj #[]):=Y 37 _ rfl;clear z;rcases j with rfl|rfl
    ·rw[O]at e;obtain rfl:=aw e;exact .inr<|.inl ⟨(C1.tab P1).isCodeTable,rfl,#[],q3,rfl,by rw[QlJ];exact P3⟩
    ·rw[M]at e;obtain rfl:=aw e;exact .inr<|.inl ⟨(C2.tab P2).isCodeTable,rfl,#[],q4,rfl,by rw[QlJ];exact P4⟩
   ·exact .inl<|x.keep b o z e
  ·by_cases z:b∈fe
   ·refine ah (k.tStill _ BJ b z) λo' e' _=>?_;exact(b9 o' e')
   ·exact(b9 o<|x.keep b o z e)
  ·refine kw x.same λh' t' U=>?_;subst U;rfl
  ·refine kw x.same λh' t' U=>?_;subst U;show AllBare s.gens;refine af hg ?_;exact AllBare.empty
theorem Qhp{A:List Int}(h:(PySem.Challenge.rw_uc0059_02.row).pre.holds [] {args:=[.list<|A.map .int]}=ac):A.length<=63:=by
 have e:(PySem.Challenge.rw_uc0059_02.row).pre =.and (.not<|.lt (.lit<|.int 63)<|.len<|.arg 0) (.lit<|.bool ac):=rfl;rw[e]at h;by_cases q:A.length<=63
 ·exact q
 ·exfalso;have z:less? (.int 63) (.int ((A.map WData.int).length :Nat))=aa ac:=by
   show aa (decide ((63:Int)<((A.map WData.int).length :Nat)))=aa ac;rw[b8];exact congrArg aa<|df<|by exact aH 0xfb00eb97bae40 Yt q
  simp only[WTm.holds,WTm.value,dq,z,b7,Bool.not_true]at h;injection h
theorem Qhq:(PySem.Challenge.rw_uc0059_02.row).toRowW.claim.post args (.bool ac) args=ac:=by have e:(PySem.Challenge.rw_uc0059_02.row).toRowW.claim.post args (.bool ac) args=(rK.has [] (.bool ac) .bool &&WTm.holds [] (.eq .res<|.lit<|.bool ac) {args:=args,res:=aa<|.bool ac,after:=args}):=rfl;refine e.trans<|fP.mpr ⟨rfl,?_⟩;simp[WTm.holds,WTm.value,same]
theorem Qhr:PySem.Challenge.rw_uc0059_02.wellSaid=ac:=by kernel_rfl
theorem Qhs{Wf N fu:Nat}(Q:N<=99)(P:JI Wf N fu 83)(L:(uD 83).isSome =ac):PySem.Challenge.rw_uc0059_02.Holds:=by
 refine PySem.W.holds_law Qhr λT=>?_;refine PySem.W.holds_open (r:=PySem.Challenge.rw_uc0059_02.row) (α:=List<|Option bp) (q:=qV) (loose:=loose) (Xt:=λs=>recOk [] s) (XP:=λ_ _=>True) (Yf:=λs=>Jj.map s.heap.get?) (Ya:=λw=>(nQ w.params).map λp:Nat×bp=>aa p.2) (YP:=λw h=>pA.In (nQ w.params) h) (N:=200000)
  QfB (λw s e=>pA.in_of (by kernel_rfl) e) (λw h h' x k=>pA.In.keeps x k) (λ_ _=>trivial) (λ_ _ _ _ _=>trivial) (by rfl) (by rfl) (by rfl) (λs e=>recFacts_of e) (by rfl) (by first|assumption|decide+kernel) (by decide+kernel) ⟨rfl,rfl,rfl,rfl,rfl,by decide+kernel⟩ ?_ ?_
 ·exact⟨[.list []],by decide+kernel,by decide+kernel⟩
 ·intro w f n mg z G Y fa o U g t d y v u O l H M args b m D B A C c;refine Qho Q P L G Y H M ?_ ?_ C (λx=>rfl) ?_
  ·exact(fP.mp D).1
  ·intro j e;clear B A C;subst e;have h:=(fP.mp D).2;exact Qhp h
  ·exact Qhq
end
section
theorem Ul:gp 0=aa wC:=by kernel_rfl
theorem Qht:gp 1=aa PM:=by kernel_rfl
theorem Qhu:gp 4=aa PN:=by kernel_rfl
theorem JJ:gp 5=aa CH:=by kernel_rfl
theorem Qhv:gp 6=aa PO:=by kernel_rfl
theorem Qhw:gp 7=aa PP:=by kernel_rfl
theorem Qhx:gp 8=aa PQ:=by kernel_rfl
theorem Qhy:gp 9=aa PR:=by kernel_rfl
theorem Qhz:gp 10=aa PS:=by kernel_rfl
theorem QhA:gp 11=aa PU:=by kernel_rfl
theorem QhB:gp 12=aa PV:=by kernel_rfl
theorem QhC:gp 13=aa PW:=by kernel_rfl
theorem QhD:gp 14=aa PX:=by kernel_rfl
theorem QhE:gp 15=aa PY:=by kernel_rfl
theorem QhF:gp 16=aa PZ:=by kernel_rfl
theorem QhG:gp 17=aa P0:=by kernel_rfl
theorem QhH:gp 18=aa P5:=by kernel_rfl
theorem QhI:gp 19=aa P6:=by kernel_rfl
theorem Ei:gp 20=aa HU:=by kernel_rfl
theorem Um:gp 21=aa ZH:=by kernel_rfl
theorem QhJ:gp 22=aa P7:=by kernel_rfl
theorem Un:uD 83=aa P8:=by kernel_rfl
theorem fG{Wf k g:Nat}{m:MF}(B:gp g=aa m)(A:xj g=ae)(args:List ak):aO Wf (k+1) g args=evF aA (aO Wf k) Wf m args:=by show(if xj g=ac then _ else _)=_;refine af A<|af B ?_;rfl
theorem Uo{Wf k:Nat}(h:30<=k)(args:List ak):aO Wf (k+1) 2 args=Ef args:=by simp only[aO,IN,show xj 2=ac by decide,h,if_true];rfl
theorem QhK{Wf k:Nat}(h:30<=k)(args:List ak):aO Wf (k+1) 3 args=Eb args:=by simp only[aO,IN,show xj 3=ac by decide,h,if_true];rfl
end
section
theorem QhL(k:Nat):D2 (aO Wf<|k+1) 4000:=λa b n B D A C=>by rw[fG Ul rfl];refine Uk A D<|fV (An (k:=n+n) ?_)<|aH 0x1830a2cb90030001828b2e40 Yt B;have:b*2^n<=2^n*2^n:=mP _<|yS A;rw[g9];exact yU C this
theorem Up{wf N k:Nat}(B:N<=200000)(H:D2 (aO (wf+3) k) N):D3 (aO (wf+3)<|k+1) N:=λO T b1 Q n A M L G D C=>by rw[fG Qht rfl];exact Qha (aH 0x60824aa2a22401820aac82c40 Yt B) H O T b1 Q n A M L G D C
theorem Uq{Wf N k:Nat}(B:N<=200000)(H:D3 (aO Wf k) N):D2 (aO Wf<|k+1)<|2*N:=λa b n A G D C=>by rw[fG Ul rfl];exact Qhf B H A G D C
theorem QhM{wf:Nat}(k:Nat):D2 (aO (wf+3)<|k+5) 16000:=Uq (by decide)<|Up (by decide)<|Uq (by decide)<|Up (by decide)<|QhL k
noncomputable def mH(X:Nat):List Nat->Nat->Nat
 |[],v=>v
 |d::r,v=>mH X r (v*X+d)
theorem JK:mH X [] v=v:=rfl
theorem rt:mH X (d::r) v=mH X r (v*X+d):=rfl
theorem Ao(X:Nat):∀(ds:List Nat)(v:Nat),mH X ds v=v*X^ds.length+mH X ds 0:=by
 intro B;induction B with
 |nil=>intro v;simp[JK,rt]
 |cons d r A=>intro v;rw[rt,rt];refine af (A (v*X+d)) (af (A (0*X+d)) ?_);rw[eK,vB,qE,LA,n9,fY,eQ X];exact N0 0x1d0452452560c3408003403200 [_,_,_] Yt
noncomputable def pg(X b:Nat):List Nat->Nat->List Nat
 |[],_=>[]
 |d::r,v=>((v*X+d)/b)::pg X b r ((v*X+d)%b)
theorem JL:pg X b [] v=[]:=rfl
theorem xr:pg X b (d::r) v=((v*X+d)/b)::pg X b r ((v*X+d)%b):=rfl
noncomputable def da(X b:Nat):List Nat->Nat->Nat
 |[],v=>v
 |d::r,v=>da X b r ((v*X+d)%b)
theorem Ur:da X b [] v=v:=rfl
theorem Ej:da X b (d::r) v=da X b r ((v*X+d)%b):=rfl
theorem Us(X b:Nat):∀(ds:List Nat)(v:Nat),(pg X b ds v).length =ds.length:=by
 intro A;induction A with
 |nil=>intro _;exact rfl
 |cons _ r B=>intro _;rw[xr,eK,B,eK]
theorem QhN(D:0<b):∀(ds:List Nat)(v:Nat),v<b->(∀d∈ds,d<X)->mH X (pg X b ds v) 0*b+da X b ds v=mH X ds v/\da X b ds v<b/\∀q∈pg X b ds v,q<X:=by
 intro G;induction G with
 |nil=>intro v A _;exact⟨by simp[JK,rt,JL,xr,Ur,Ej],A,λ_ h=>by simp[JL,xr]at h⟩
 |cons d r H=>
  intro v A C;have uA:=C d<|.head _;have m:=mO (v*X+d) D;refine fx (H ((v*X+d)%b) m<|λx L=>C x<|.tail _ L) λQ O M=>?_;have e:v*X+d<b*X:=by exact hz A uA
  refine⟨?_,O,λq B=>?_⟩
  ·rw[xr,Ej,rt,rt,Ao,Us,LA,n9,qE,WU];refine af Q<|af (Ao X r<|(v*X+d)%b)<|af (Ao X r<|v*X+d) ?_;have z:=mN (v*X+d) b;have:(v*X+d)/b*X^r.length*b+(v*X+d)%b*X^r.length=(v*X+d)*X^r.length:=by
    rw[Nat.mul_right_comm, <-qE,eQ _ b];exact af z rfl
   exact iB 0x74114a08914a0822560d84030d82005900c8036403200 Yt this this
  ·rcases bF.mp B with rfl|B
   ·exact(rJ D).mpr (by refine af (eQ X b) ?_;exact e)
   ·exact M q B
theorem QhO(n:Nat):∀ds:List Nat,gA n ((ds.map fO).reverse)=((mH (2^n) ds 0:Nat):Int):=by
 intro A;induction A with
 |nil=>exact rfl
 |cons d r B=>
  rw[dF,xS,TX];refine af (B) ?_;rw[rt,Ao _ r<|0*2^n+d,LA,n9];simp only[xk,xl,K5,b8,VR,VP];have:((d*(2^n)^r.length:Nat):Int)=fO d*(2^n)^r.length:=by rw[iq,pC,pC];rfl
  rw[Fk];refine af this ?_;rw[Int.pow_mul];exact W0 0x1d0452452570ec0000c0b00 [_] [_] Yt
noncomputable def i4(n a c:Nat):List Nat:=((bv c).map λk=>a/2^(n*k)%2^n).reverse
theorem Ut(n a c:Nat):(i4 n a c).length =c:=by simp[i4]
theorem QhP(n a:Nat):∀c,mH (2^n) (i4 n a c) 0=a%2^(n*c):=by
 intro A;induction A with
 |zero=>simp[i4,JK,rt,Nat.mod_one]
 |succ c B=>
  have e:i4 n a (c+1)=(a/2^(n*c)%2^n)::i4 n a c:=by unfold i4;rw[QlK,jD,List.reverse_append];rfl
  refine af e ?_;rw[rt,Ao,Ut];refine af (B) ?_;rw[LA,n9,to,Lu,g9,Nat.mod_mul, <-vC,eQ<|2^(n*c)];exact ig 0x1d0452452560c0203200 Yt
theorem QhQ(n a c:Nat):∀d∈i4 n a c,d<2^n:=λd h=>by unfold i4 at h;refine ah (gk.mp<|Fb.mp h) λk _ A=>?_;clear h;subst A;exact mO _<|mV n
theorem QhR(n a c:Nat):(pf n (a:Int) c).reverse =(i4 n a c).map λd=>.int<|fO d:=by unfold pf i4;rw[Lg,fg];congr 1
theorem Ap(xs:List Int):fU (xs.map .int)=aa xs:=Zw (f:=iD) (λ_=>rfl) xs
theorem JM{a n K:Nat}(A:1<=n)(h:a<2^K):n*eN (a:Int) n<K+n:=by unfold eN;have C:=An h;have B:=Nat.div_mul_le_self (dR (a:Int)+n-1) n;rw[eQ];exact jO 0x1524340814a08a28224508a2822893834180064091982062c90d0200 Yt A C B
theorem Uu{a n K:Nat}(B:1<=n)(A:n+K<=60000)(h:a<2^K):Ef [.int a,.int n]=aa (.list<|pf n (a:Int)<|eN (a:Int) n):=by have C:=JM B h;have D:eN (a:Int) n<=n*eN (a:Int) n:=Ly _ B;show(if 0<=(a:Int)/\1<=(n:Int)/\(n:Int)<2^30/\(n:Int).toNat *eN (a:Int) (n:Int).toNat <=900000/\eN (a:Int) (n:Int).toNat <=65536 then aa (tq<|pf (n:Int).toNat a<|eN a (n:Int).toNat)else ab)=_;rw[jE,ar ⟨iU,aH 0x7b00246009 Yt B,bD 0x3c2082082082082089b0018288aab2243200 Yt A,by exact fN 0x1828b2a9a6990060a22aac890c840e0d0200 Yt A C,by exact jO 0x18208208244018288aab2243418383610206200 Yt A C D⟩]
theorem QhS{ds:List Nat}(h:∀d∈ds,d<2^n)(D:n*ds.length<=60000)(B:ds.length<=60000):Eb [.list<|(ds.map λd=>.int<|fO d).reverse,.int n]=aa (.int ((mH (2^n) ds 0:Nat):Int)):=by
 have e:((ds.map λd=>bQ<|fO d).reverse)=(((ds.map fO).reverse).map .int):=by rw[Lg,fg];rfl
 refine af e ?_;show(fU<|((ds.map fO).reverse).map .int).bind (λds=>if 0<=(n:Int)/\rm (n:Int).toNat ds=ac then aa (bQ<|gA (n:Int).toNat ds)else ab)=_;rw[Ap];simp only[jE,WH];rw[ar,QhO];refine⟨iU,?_⟩;simp only[rm,bo,bH,du,K5,b8];refine⟨⟨λd A=>?_,aH 0x60a2caa69a64018288aab2240 Yt D⟩,aH 0x18208208244018288aab2240 Yt B⟩;refine ah (gk.mp<|Fb.mp A) λx C H=>?_;clear A;subst H;have:=h x C;have G:((2^n:Nat):Int)=2^n:=by rw[pC];rfl
 exact⟨u7 _,by refine bT G ?_;exact EV.mpr this⟩
theorem Ret.forr{W n:Nat}{A:List Nat}{one:Bool}{b r:List MS}{xs:List ak}(h:cC T O 40 it f=aa xs)(C:gc (λf=>bt T O W n b f) (gf A one) xs f=aa (.next,g))(B:Ret T O W (n+1) r g d):Ret T O W (n+2) (.forr A one it b::r) f d:=by refine Ret.next ?_ B;rw[Cz];exact af h C
theorem QhT{Wf N fu b n:Nat}(z:N<=400000)(H:D2 O N)(M:n<=N)(U:2^n<=2*b)(T:b<2^n)(G D:FV)(L:List FV):∀(ds:List Nat)(r:Nat)(A:List ak)(C B:FV),r<b->(∀d∈ds,d<2^n)->A.length+ds.length<=60000->∃y q,gc (λf=>bt aA O Wf (fu+3) [.unp [7,4] HM,.app 5<|.v 7] f) (gf [6] ac) (ds.map λd=>.int<|fO d) (G::.val (.int b)::.val (.int n)::D::.val (.int r)::.own A::C::B::L)= aa (.next,G::.val (.int b)::.val (.int n)::D::.val (.int ((da (2^n) b ds r:Nat):Int))::.own (A++(pg (2^n) b ds r).map λd=>.int<|fO d)::y::q::L):=by
 intro m;induction m with
 |nil=>intro r A C B c p o;exact(gH C B (by simp[O6,r6,Ur,Ej,JL,xr]))
 |cons d ds s=>
  intro r A C B Y j Q;have uA:=j d<|.head _;have g:=Al (x:=r) (k:=n) (B2 z M)<|qh (fN 0xe40039020e200 Yt T Y)<|B1 z M;have c2:bP .add (.int ((r*2^n:Nat):Int)) (.int<|fO d)=aa (.int ((r*2^n+d:Nat):Int)):=rfl;have e:r*2^n+d<b*2^n:=by exact hz Y uA
  have c3:=H (r*2^n+d) b n M U T e;rw[eK]at Q;refine kw (s ((r*2^n+d)%b) (A++[.int (((r*2^n+d)/b:Nat):Int)]) (.val<|.int<|fO d) (.val<|.int (((r*2^n+d)/b:Nat):Int)) (mO _<|bS 0xe00119301120e200 Yt U T) (λx t=>j x<|.tail _ t)<|by simp;exact bD 0x18288aab224320324018288aab22430c9200 Yt Q) λu v l=>?_;refine⟨u,v,?_⟩;rw[Ej,xr,dF,dF,r6];have step:bt aA O Wf (fu+3) [.unp [7,4] HM,.app 5<|.v 7] (G::.val (.int b)::.val (.int n)::D::.val (.int r)::.own A::.val (.int<|fO d)::B::L)=
    aa (.next,G::.val (.int b)::.val (.int n)::D::.val (.int (((r*2^n+d)%b:Nat):Int))::.own (A++[.int (((r*2^n+d)/b:Nat):Int)])::.val (.int<|fO d)::.val (.int (((r*2^n+d)/b:Nat):Int))::L):=by
   simp only[jn,oQ,kA,cO,cQ,gz,dh,Frm.get,dD,dq,g,c2,b7,c3,nB,nE,Frm.put,dW,dX,HE,ar<|show A.length<100000 from bD 0x38289268264018288aab22430c9200 Yt Q,nG]
  simp only[gf,if_true,nB,nE,Frm.put,dW,dX,step];refine af l ?_;rw[mT];rfl
theorem QhU{wf k:Nat}(U:30<=k){a b K:Nat}(A:0<b)(o:b<2^16000)(j:a<2^K)(C:K<=40000):aO (wf+3) (k+7) 4 [.int a,.int b]=aa (.tuple [.int ((a/b:Nat):Int),.int ((a%b:Nat):Int)]):=by
 rw[fG Qhu rfl];have B:dR (b:Int)<=16000:=An o;have D:1<=dR (b:Int):=by unfold dR;rw[av<|by exact yT A];exact GI
 have v:=Qhb A;have y:=Uj b;generalize G:dR (b:Int)=n at*;have u:gS .bitlen (.int b) []=aa (.int n):=by rw[JH];exact af G rfl
 have m:aO (wf+3) (k+6) 2 [.int a,.int n]=aa (.list<|pf n (a:Int)<|eN (a:Int) n):=by rw[Uo<|by exact aH 0x183a40c99180c99 Yt U];exact Uu D (by exact bS 0x60a22aac890c80060822b22892060824ba640 Yt C B) j
 have H:=JM D j;have Q:eN (a:Int) n<=n*eN (a:Int) n:=Ly _ D;generalize l:eN (a:Int) n=c at*;have q:a<2^(n*c):=by
  have h:=JC (a:=(a:Int)) (n:=n) (iU) D;rw[l]at h;have g:((2^(n*c):Nat):Int)=2^(n*c):=by rw[pC];rfl
  exact W2 0xe0083c0b08dc0b00 [_,_] [_] Yt h g
 have L:=Ut n a c;have z:=QhQ n a c;have Y:=QhP n a c;rw[A5 q]at Y;refine fx (QhN (X:=2^n) A (i4 n a c) 0 A z) λk1 k2 t=>?_;rw[Y]at k1;refine kw (QhT (O:=aO (wf+3)<|k+6) (Wf:=wf+3) (fu:=193) (N:=16000) (b:=b) (n:=n) (by decide) (QhM<|k+1) B v y (.val<|.int a) (.val<|.list<|pf n (a:Int) c) [.un,.un,.un,.un,.un] (i4 n a c) 0 [] .un .un A z<|by simp;exact N5 0x18288aab224018208ac8a258182092e9980e0e0610190216200 [_,_,_,_,_] Yt C B H Q L) λs r T=>?_;have M:=Us (2^n) b (i4 n a c) 0;have c3:aO (wf+3) (k+6) 3 [.list<|((pg (2^n) b (i4 n a c) 0).map λd=>.int<|fO d).reverse,.int n]=aa (.int ((mH (2^n) (pg (2^n) b (i4 n a c) 0) 0:Nat):Int)):=by rw[QhK<|by exact aH 0x183a40c99180c99 Yt U];exact QhS t (by refine af M<|af L ?_;exact mv 0x18288aab224018208ac8a248182092e9940e0d0200 Yt C B H) (by refine af M<|af L ?_;exact rX 0x60a22aac890060822b22894060824ba658383610206200 Yt C B H Q)
 have w:=(Lz (a:=a) (d:=mH (2^n) (pg (2^n) b (i4 n a c) 0) 0) (c:=da (2^n) b (i4 n a c) 0) A).mpr ⟨by rw[eQ];exact NU k1 k1,k2⟩;rw[<-w.1]at c3;rw[<-w.2]at T;refine Ret.evF ?_ rfl;show Ret aA _ _ 200 PN.body [.val<|.int a,.val<|.int b,.un,.un,.un,.un,.un,.un,.un,.un,.un,.un,.un] _;refine Ret.next (by simp only[jS,kC,dh,Frm.get,dD,dq,cO,cQ,u,Frm.put,dW,dX];rfl) ?_;refine Ret.next (by simp only[jS,kA,cO,cQ,dh,Frm.get,dq,dD,b7,m,Frm.put,dW,dX];rfl) ?_;refine Ret.next (rfl) ?_;refine Ret.next (rfl) ?_;refine Ret.forr (by simp only[Frm.put,dW,dX,Pf,dh,Frm.get,dD,dq,QhR]) T ?_;refine Ret.next (rfl) ?_;refine Ret.next (rfl) ?_;rw[qC];refine Ret.next (by simp only[Frm.put,dW,dX,jS,kA,cO,cQ,dh,Frm.get,dD,dq,b7,c3];rfl) ?_;exact Ret.ret<|rfl
end
section
def uK(a b:Nat):Prop:=0<b/\b<2^16000/\a<2^40000
theorem Aq(A:30<=k)(h:uK a b):aO (wf+3) (k+8) 5 [.int a,.int b]=aa (.tuple [.int ((a/b:Nat):Int),.int ((a%b:Nat):Int)]):=by rw[fG JJ rfl];have B:cY .eq (.int (b:Int)) (.int 0)=aa ae:=congrArg aa (by rw[beq_eq_false_iff_ne];have:=h.1;exact yT this);have c2:cY .lt (.int (b:Int)) (.int 0)=aa ae:=congrArg aa<|fM<|qQ;have c3:cY .lt (.int (a:Int)) (.int 0)=aa ae:=congrArg aa<|fM<|qQ;have c4:=QhU (wf:=wf) A h.1 h.2.1 h.2.2<|eR _;refine Ret.evF ?_ rfl;show Ret aA _ _ 200 CH.body [.val<|.int a,.val<|.int b,.un,.un,.un,.un,.un] _;refine Ret.ife ae (ua rfl rfl B)<|Ret.ife ae rfl (Ret.ife ae rfl ?_);exact Ret.ret<|HL<|wA rfl c4
theorem JN(A:30<=k)(h:uK a b):aO (wf+3) (k+9) 5 [.int<|-(a:Int)-1,.int b]=aa (.tuple [.int<|-((a/b:Nat):Int)-1,.int<|(b:Int)+(-((a%b:Nat):Int)-1)]):=by rw[fG JJ rfl];have B:cY .eq (.int (b:Int)) (.int 0)=aa ae:=congrArg aa (by rw[beq_eq_false_iff_ne];have:=h.1;exact yT this);have c2:cY .lt (.int (b:Int)) (.int 0)=aa ae:=congrArg aa<|fM<|qQ;have c3:cY .lt (.int<|-(a:Int)-1) (.int 0)=aa ac:=congrArg aa<|df<|cN 0xf04b27cb00 Yt;have c4:=Aq (wf:=wf) A h;have e: -(-(a:Int)-1)-1=(a:Int):=GJ;refine Ret.evF ?_ rfl;show Ret aA _ _ 200 CH.body [.val<|.int<|-(a:Int)-1,.val<|.int b,.un,.un,.un,.un,.un] _;refine Ret.ife ae (ua rfl rfl B)<|Ret.ife ae rfl (Ret.ife ac (ua rfl rfl c3) ?_);refine Ret.next (by simp only[oQ,kA,cO,cQ,Cu,dh,Frm.get,dq,e,dD,b7,c4,nB,nE,Frm.put,dW,dX];rfl) ?_;refine Ret.ret rfl
theorem JO(A:0<b)(h:aO (wf+3) k 5 [.int a,.int b]=aa (.tuple [.int q,.int r])):aO (wf+3) (k+1) 5 [.int<|-a,.int<|-b]=aa (.tuple [.int q,.int<|-r]):=by rw[fG JJ rfl];have B:cY .eq (.int<|-b) (.int 0)=aa ae:=congrArg aa (by rw[beq_eq_false_iff_ne];exact fT 0x508a27f07c00f001 Yt A);have c2:cY .lt (.int<|-b) (.int 0)=aa ac:=congrArg aa<|df<|fT 0xf07c00f001 Yt A;refine Ret.evF ?_ rfl;show Ret aA _ _ 200 CH.body [.val<|.int<|-a,.val<|.int<|-b,.un,.un,.un,.un,.un] _;refine Ret.ife ae (ua rfl rfl B)<|Ret.ife ac (ua rfl rfl c2) ?_;refine Ret.next (by simp only[oQ,kA,cO,cQ,wy,dh,Frm.get,dq,Int.neg_neg,dD,b7,h,nB,nE,Frm.put,dW,dX];rfl) ?_;exact Ret.ret<|rfl
theorem Ar(h:x=y):cY .eq (.int x) (.int y)=aa ac:=congrArg aa<|by simp[h]
theorem As(h:x≠y):cY .eq (.int x) (.int y)=aa ae:=congrArg aa (by rw[beq_eq_false_iff_ne];exact h)
theorem Au(h:x<y):cY .lt (.int x) (.int y)=aa ac:=congrArg aa<|df h
theorem Av(h:¬x<y):cY .lt (.int x) (.int y)=aa ae:=congrArg aa<|fM h
theorem uL(h:x>y):cY .gt (.int x) (.int y)=aa ac:=congrArg aa<|df h
theorem xu(h:¬x>y):cY .gt (.int x) (.int y)=aa ae:=congrArg aa<|fM h
theorem QhV(h:x>=y):cY .ge (.int x) (.int y)=aa ac:=congrArg aa<|df h
theorem QhW(C:30<=k)(h:uK a b)(L:way=0\/way=1\/way=2\/way=3): aO (wf+3) (k+11) 16 [.int a,.int b,.int way]=aa (.tuple [.int ((a/b:Nat):Int),.int ((a%b:Nat):Int)]):=by
 have A:=h.1;rw[fG QhF rfl];refine Ret.evF ?_ rfl;show Ret aA _ _ 200 PZ.body [.val<|.int a,.val<|.int b,.val<|.int way,.un,.un,.un] _;rcases L with rfl|rfl|rfl|rfl
 ·refine Ret.ife ac rfl ?_;have c:=Aq (wf:=wf) (k:=k+2) (aH 0x183440c99180c99 Yt C) h;exact Ret.ret<|HL<|wA rfl c
 ·refine Ret.no rfl ?_;refine Ret.ife ac rfl ?_;have c:=JO (wf:=wf) (oH A)<|Aq (wf:=wf) (k:=k+1) (yP C) h;refine Ret.next (CA (wA rfl c) rfl) ?_;exact Ret.ret (by simp only[Frm.put,dW,dX,nF,r7,cO,cQ,dh,Frm.get,dD,dq,wy,Int.neg_neg,b7];rfl)
 ·refine Ret.no rfl ?_;refine Ret.no rfl ?_;refine Ret.ife ac rfl ?_;have c:=JN (wf:=wf) (k:=k+1) (yP C) h;have D: -(-((a/b:Nat):Int)-1)-1=((a/b:Nat):Int):=GJ;have B:(b:Int)+(-((b:Int)+(-((a%b:Nat):Int)-1))-1)=((a%b:Nat):Int):=ig 0x1d045245257b080cb27c0cb27cb08b00b00 Yt;refine Ret.next (CA (wA rfl c) rfl) ?_;exact Ret.ret (by simp only[Frm.put,dW,dX,nF,r7,cO,cQ,Cu,dh,Frm.get,dD,dq,D,gz,mG,B,b7];rfl)
 ·refine Ret.no rfl ?_;refine Ret.no rfl ?_;refine Ret.no rfl ?_;by_cases z:a=0
  ·subst z;have c:=JO (wf:=wf) (by exact oH A) (Aq (wf:=wf) (k:=k+1) (by exact yP C) h);rw[show-((0:Nat):Int)=((0:Nat):Int)from rfl,show(0/b:Nat)=0 from Nat.zero_div b,WV]at c;rw[Nat.zero_div,WV];refine Ret.next (CA (wA rfl c) rfl) ?_;refine Ret.no rfl ?_;exact Ret.ret<|rfl
  ·obtain⟨y,rfl⟩:∃y,a=y+1:=⟨a-1,aH 0x54901d04528225d24528a24525d04528914a08958324b24003e040 Yt z⟩;have h':uK y b:=⟨h.1,h.2.1,by have:=h.2.2;exact bD 0x38800e203240 Yt this⟩;have c:=JO (wf:=wf) (by exact oH A) (JN (wf:=wf) (k:=k) (by exact aH 0x180c99180c99 Yt C) h');rw[show-(-((y:Int))-1)=((y+1:Nat):Int) by exact NY]at c;have G:=mN y b;have H:=mO y A;refine Ret.next (CA (wA rfl c) rfl) ?_;by_cases q:y%b+1<b
   ·have w:=(Lz (a:=y+1) (d:=y/b) (c:=y%b+1) A).mpr ⟨by exact fN 0x74114a08914a0822560c94030032485900c8036403200 Yt G G,q⟩;refine af w.1<|af w.2 ?_;have D: -(-((y/b:Nat):Int)-1)-1=((y/b:Nat):Int):=by exact GJ
    have B:(b:Int)+ -((b:Int)+(-((y%b:Nat):Int)-1))=((y%b+1:Nat):Int):=by exact ig 0x1d045245257b032480fc0cb27cb08b00b00 Yt
    refine Ret.ife ac (by simp only[Frm.put,dW,dX,HH,zm,zo,mz,jR,dh,Frm.get,dD,dq,t9,ii,ey,gz,mG,B];rw[Au<|by exact bD 0x3c1f032c9f2c02c20e203240 Yt q];simp only[b7];rw[uL<|by exact cN 0x3ec0c9001 Yt];exact rfl) ?_;exact Ret.ret (by simp only[Frm.put,dW,dX,nF,r7,cO,cQ,Cu,dh,Frm.get,dD,dq,D,gz,mG,B,b7];rfl)
   ·have w:=(Lz (a:=y+1) (d:=y/b+1) (c:=0) A).mpr ⟨by rw[to];exact rX 0x74114a08a08224528208a2560c96030d32484015980c0436603010388026203240 Yt G G H q,A⟩;refine af w.1<|af w.2 ?_;have D: -(-((y/b:Nat):Int)-1)=((y/b+1:Nat):Int):=by exact NY
    have B: -(-((b:Int)+(-((y%b:Nat):Int)-1)))=((0:Nat):Int):=by exact bS 0x74114a082245282257b01f3c0cb27cb00b08388026203240 Yt H q
    refine Ret.no (by simp only[Frm.put,dW,dX,HH,zm,zo,mz,jR,dh,Frm.get,dD,dq,t9,ii,ey,gz,mG];rw[Av<|by exact bD 0x9c1f032c9f2c02c226203240 Yt q];exact rfl) ?_;exact Ret.ret (by simp only[Frm.put,dW,dX,nF,r7,cO,cQ,wy,dh,Frm.get,dD,dq,D,B,b7];rfl)
end
section
theorem QhX(l:List Nat):(a8 l).cps.toList =l:=rfl
theorem JP:a8 a=a8 b↔a=b:=by
 constructor
 ·intro h;have:=congrArg (λs=>s.cps.toList) h;exact this
 ·rintro rfl;rfl
abbrev S'(l:List Nat):ak:=.str (a8 l)
theorem QhY(Y:e<=A.length)(G D C B:FV):∀(H:List<|List Nat)(s:Nat)(L:FV),(oW A e H s=ac->∃T v,gc (λf=>bt aA O Wf (fu+5) [.asg 3 wB,.ife (.cmp .lt (.v 3)<|.ki 0) [.ret<|.kb ae] [],.aug 3 .add<|.bi .len [.v 5]] f) (gf [5] ac) (H.map S') [G,.val<|S' A,D,.val<|.int s,.val<|.int e,L,C,B]=aa (.next,[G,.val<|S' A,D,T,.val<|.int e,v,C,B]))/\ (oW A e H s=ae->∃ff,gc (λf=>bt aA O Wf (fu+5) [.asg 3 wB,.ife (.cmp .lt (.v 3)<|.ki 0) [.ret<|.kb ae] [],.aug 3 .add<|.bi .len [.v 5]] f) (gf [5] ac) (H.map S') [G,.val<|S' A,D,.val<|.int s,.val<|.int e,L,C,B]=aa (.ret<|.bool ae,ff)):=by
 intro z;induction z with
 |nil=>intro s;intro L;exact⟨λ_=>(gH _ _ rfl),λh=>by simp[QdU,Dd]at h⟩
 |cons w r y=>
  intro s;intro L;have M:gS .find (S' A) [S' w,.int s,.int e]=aa (.int<|iX w A s e):=by
   show(if(decide ((0:Int)<=s)&&decide ((0:Int)<=e)&&decide ((e:Int)<=((a8 A).length :Nat)))=ac then aa (bQ<|iX _ _ (s:Int).toNat (e:Int).toNat)else ab)=_;rw[ar]
   ·simp only[jE,QhX]
   ·simp only[bo,bH,kE];exact⟨⟨iU,iU⟩,bD 0x1ec22c006200 Yt Y⟩
  by_cases q:iX w A s e<0
  ·have c2:=Au q;refine⟨λh=>?_,λ_=>?_⟩
   ·rw[Dd,ar q]at h;injection h
   ·refine(b9 ([G,.val<|S' A,D,.val<|.int<|iX w A s e,.val<|.int e,.val<|S' w,C,B]) ?_);rw[dF,r6];simp only[gf,if_true,nB,nE,Frm.put,dW,dX];simp only[jn,jS,kC,dh,Frm.get,dD,dq,cO,cQ,b7,M,Frm.put,dW,dX,jm,mz,jR,t9,ii,c2,ey,nF,Cy]
  ·have c2:=Av q;obtain⟨k,Q⟩:∃k:Nat,iX w A s e=k:=⟨(iX w A s e).toNat,fT 0x3501d04528224528a08225d0452822452895ecb00027040 Yt q⟩;have U:=y (k+w.length)<|.val<|S' w;have j:oW A e (w::r) s=oW A e r (k+w.length):=by rw[Dd,av q];refine af Q ?_;rfl
   have c3:gR .len [S' w]=aa (.int w.length):=rfl;have c4:pR .add (k:Int) (w.length:Int)=aa ((k+w.length:Nat):Int):=rfl;rw[Q]at M c2;have step:bt aA O Wf (fu+5) [.asg 3 wB,.ife (.cmp .lt (.v 3)<|.ki 0) [.ret<|.kb ae] [],.aug 3 .add<|.bi .len [.v 5]] [G,.val<|S' A,D,.val<|.int s,.val<|.int e,.val<|S' w,C,B]=aa (.next,[G,.val<|S' A,D,.val<|.int ((k+w.length:Nat):Int),.val<|.int e,.val<|S' w,C,B]):=by simp only[jn,jS,kC,dh,Frm.get,dD,dq,cO,cQ,b7,M,Frm.put,dW,dX,jm,mz,jR,t9,ii,c2,ey,nG,zq,pT,kD,Frm.peek,c3,c4]
   refine af j ?_;rw[dF,r6];simp only[gf,if_true,nB,nE,Frm.put,dW,dX,step];exact U
theorem QhZ(a b:List Nat):cY .notin (S' a) (S' b)=aa (!oO a b):=rfl
theorem Uv(A:y.length≠0)(B:x.length<=100000):gS .split (S' x) [S' y]=aa (.list<|(jk y x).map S'):=by
 show(if((a8 y).length ==0||decide (100000<(a8 x).length))=ac then ab else _)=_;rw[av]
 ·rfl
 ·simp only[kE,n7,bJ,bH];lia
theorem Ret.forrRet{W n:Nat}{B:List Nat}{one:Bool}{b r:List MS}{xs:List ak}(h:cC T O 40 it f=aa xs)(A:∃g,gc (λf=>bt T O W n b f) (gf B one) xs f=aa (.ret d,g)):Ret T O W (n+2) (.forr B one it b::r) f d:=by obtain⟨g,A⟩:=A;refine Ret.ret (g:=g) ?_;rw[Cz];refine af h ?_;exact A
theorem Qh0:∀{l:List α}{x:α},l.getLast?=aa x->∃a,l=a++[x]:=by
 intro A;induction A with
 |nil=>intro _ h;exact by injection h
 |cons a l C=>
  intro x h;exact(b9 ((a::l).dropLast) (by
     have B:(a::l).getLast (by simp)=x:=by rw[Ll<|by simp]at h;exact aw h
     refine bT B ?_;exact(A2 _).symm))
theorem Uw{Wf fu:Nat}{B:List Nat}{s e:Nat}{A:List<|List Nat}(M:e<=B.length)(H G D C:FV): Ret aA O Wf (fu+12) [.ife (.cmp .gt (.v 3)<|.v 4) [.ret<|.kb ae] [],.frz 2,.forr [5] ac (.v 2) [.asg 3 wB,.ife (.cmp .lt (.v 3)<|.ki 0) [.ret<|.kb ae] [],.aug 3 .add<|.bi .len [.v 5]],.ret<|.kb ac] [H,.val<|S' B,.own<|A.map S',.val<|.int s,.val<|.int e,G,D,C]<|.bool<|lm B s e A:=by
 by_cases q:s>e
 ·rw[lm,ar q];have c:=uL (x:=(s:Int)) (y:=e)<|yR q;exact Ret.ife ac (ua rfl rfl c)<|Ret.ret<|rfl
 ·rw[lm,av q];have c:=xu (x:=(s:Int)) (y:=e)<|bD 0x9ec22c026200 Yt q;refine Ret.no (ua rfl rfl c) ?_;refine Ret.next (rfl) ?_;refine aG (QhY (O:=O) (Wf:=Wf) (fu:=fu+3) M H (.val<|.list<|A.map S') D C A s G) λT Q=>?_;cases z:oW B e A s
  ·exact Ret.forrRet rfl (Q z)
  ·refine kw (T z) λU Y L=>?_;exact Ret.forr rfl L (Ret.ret<|rfl)
noncomputable def Qh1:List MS:=[.ife (.cmp .gt (.v 3) (.v 4)) [.ret (.kb ae)] [],.frz 2,.forr [5] ac (.v 2) [.asg 3 wB,.ife (.cmp .lt (.v 3) (.ki 0)) [.ret (.kb ae)] [],.aug 3 .add (.bi .len [.v 5])],.ret (.kb ac)]
noncomputable def Qh2:List MS:=.asg 5 (.idx (.v 2) (.neg (.ki 1)))::
 .ife (.v 5) [.ife (.meth .endswith (.v 1) [.v 5]) [.aug 4 .sub (.bi .len [.v 5]),.del 2 (-1)] [.ret (.kb ae)]] []::Qh1
theorem xv(l:List Nat):gR .len [S' l]=aa (.int l.length):=by show aa (bQ ((a8 l).length :Nat))=_;rw[kE]
theorem Ek(l:List Nat):ey (S' l)=aa (decide (l.length≠0)):=by show aa ((a8 l).length !=0)=_;rw[kE];congr 1;by_cases h:l.length=0<;>simp[h]
theorem Ret.skip(c:Bool)(h:aS T O 40 t f=aa c)(A:bt T O W n (if c then a else b) f=aa (.next,g))(B:Ret T O W (n+1) r g d):Ret T O W (n+2) (.ife t a b::r) f d:=by
 refine Ret.next ?_ B;rw[jm];refine af h ?_;clear h;cases c
 ·exact A
 ·exact A
set_option tactic.hygienic true in
theorem Ux(h:lq A s H=aa b)(D L C B:FV): Ret aA O Wf (fu+20) Qh2 [D,.val<|S' A,.own<|H.map S',.val<|.int s,.val<|.int A.length,L,C,B]<|.bool b:=by
 unfold lq at h;split at h
 ·injection h
 ·rename_i w G;obtain rfl:=aw h;refine aF (Qh0 G) λa U=>?_;clear G h;subst U;have T:idx2 (.list<|(a++[w]).map S') (.int<|-1)=aa (S' w):=by
   show(e9 (-1) _).bind _=_;rw[e9,av (by decide),ar<|by simp;exact B3];simp;rw[Qlq (by simp;exact cN 0x350c326c03c24508a24508a0891ac0c326c03c240 Yt),b8,show(-1+((a.length:Int)+1)).toNat -a.length=0 from cN 0xd430c9b00f09540b030c9b00f0974114a24525d045282289149540b030c9b00f0974114a24525d0452822891495812c0b030c9b00f09 Yt];rfl
  refine Ret.next (Po<|Pl rfl rfl T) ?_;by_cases z:w.length=0
  ·rw[ar z];exact Ret.no (by simp only[Frm.put,dW,dX,r8,dh,Frm.get,dD,dq,ey];exact(Ek w).trans<|by simp[z])<|Uw (eR _) _ _ _ _
  ·rw[av z];have t:ey (S' w)=aa ac:=by rw[Ek];simp[z]
   have c2:gS .endswith (S' A) [S' w]=aa (.bool<|w.isSuffixOf A):=rfl;by_cases q:w.isSuffixOf A=ac
   ·rw[ar q];rw[q]at c2;have M:w.length<=A.length:=(AV.mp q).length_le;have c3:pR .sub (A.length:Int) (w.length:Int)=aa ((A.length-w.length:Nat):Int):=by
     show aa ((A.length:Int)-(w.length:Int))=_;congr 1;exact GF M
    have c4:e9 (-1) ((a++[w]).map S').length =aa a.length:=by rw[e9,av (by decide),ar<|by simp;exact B3];congr 1;simp;exact GK
    have Q:((a++[w]).map S').eraseIdx a.length=((a++[w]).dropLast).map S':=by rw[jD,List.eraseIdx_append_of_length_le<|by simp];simp
    refine Ret.skip (g:=[D,.val<|S' A,.own<|((a++[w]).dropLast).map S',.val<|.int s,.val<|.int ((A.length-w.length:Nat):Int),.val<|S' w,C,B]) ac (by simp only[Frm.put,dW,dX,r8,dh,Frm.get,dD,dq,ey];exact t) ?_<|Uw (NA) _ _ _ _;rw[ar rfl];simp only[Frm.put,dW,dX,jn,jm,Pa,kC,dh,Frm.get,dD,dq,cO,cQ,b7,c2,ey,zq,pT,kD,Frm.peek,xv,c3,HJ,c4,Q,nG]
   ·rw[av q];rw[LB.mpr q]at c2;refine Ret.ife ac (by simp only[Frm.put,dW,dX,r8,dh,Frm.get,dD,dq,ey];exact t) ?_;rw[ar rfl];refine Ret.ife ae (Pk (Pn rfl rfl c2) rfl) ?_;exact Ret.ret<|rfl
set_option tactic.hygienic true in
theorem xx(L:A.length<=100000)(h:jo A B=aa b):aO Wf (k+1) 6 [S' A,S' B]=aa (.bool b):=by
 rw[fG Qhv rfl];refine Ret.evF ?_ rfl;show Ret aA _ _ 200 PO.body [.val<|S' A,.val<|S' B,.un,.un,.un,.un,.un,.un] _;unfold jo at h;have G:=QhZ aW A;by_cases q:oO aW A=ae
 ·rw[ar q]at h;obtain rfl:=aw h;rw[q]at G;have D:cY .eq (S' A) (S' B)=aa (A==B):=by
   show aa (a8 A==a8 B)=_;congr 1;by_cases e:A=B
   ·clear h;subst e;simp
   ·rw[show(A==B)=ae by simpa using e,show(a8 A==a8 B)=ae by simpa using λz=>e<|JP.mp z]
  refine Ret.ife ac (by simp only[mz,jR,wz,kD,Frm.peek,dq,ey];refine af (show cY .notin (vp<|a8 [46,46,46]) (S' A)=aa ac from G) ?_;rfl) ?_;rw[ar rfl];exact Ret.ret<|HL<|Pj rfl rfl D
 ·rw[av q]at h;rw[(Bool.not_eq_false _).mp q]at G;refine Ret.no (by simp only[mz,jR,wz,kD,Frm.peek,dq,ey];refine af (show cY .notin (vp<|a8 [46,46,46]) (S' A)=aa ae from G) ?_;rfl) ?_;have D:=Uv (x:=A) (y:=aW) (by decide) L;split at h;case h_2=>injection h
  rename_i w C r H;rw[H]at D;refine Ret.next (by simp only[Pg,kC,dh,Frm.get,dq,cO,cQ,wz,b7,Frm.put,dW,dX];exact af (show gS .split (S' A) [vp<|a8 [46,46,46]]=_ from D) rfl) ?_;have c2:gR .len [.list<|(w::C::r).map S']=aa (.int (r.length+2:Nat)):=by show aa (bQ (((w::C::r).map S').length :Nat))=_;rw[b8];rfl
  refine Ret.next (by simp only[O9,mz,jR,pT,cO,cQ,kD,Frm.peek,dD,dq,b7,c2,t9,ii,ey];rw[QhV<|by exact cN 0x1ec0d1011 Yt];rfl) ?_;refine Ret.next rfl ?_;have c3:idx2 (.list<|(w::C::r).map S') (.int 0)=aa (S' w):=by show(e9 0 _).bind _=_;rw[e9,ar (by decide),ar<|by simp;exact cN 0x3c324326c001 Yt];rfl
  refine Ret.next (Po<|Pl rfl rfl c3) ?_;by_cases z:w.length=0
  ·rw[ar z]at h;exact Ret.no (by simp only[Frm.put,dW,dX,r8,dh,Frm.get,dD,dq,ey];exact(Ek w).trans<|by simp[z])<|Ux h _ _ _ _
  ·rw[av z]at h;have t:ey (S' w)=aa ac:=by rw[Ek];simp[z]
   have c4:gS .startswith (S' B) [S' w]=aa (.bool<|w.isPrefixOf B):=rfl;by_cases e:w.isPrefixOf B=ac
   ·rw[ar e]at h;rw[e]at c4;have M:e9 0 ((w::C::r).map S').length =aa 0:=by
     rw[e9,ar (by decide),ar<|by simp;exact cN 0x3c324326c001 Yt];rfl
    refine Ret.skip (g:=[.val<|S' A,.val<|S' B,.own<|(C::r).map S',.val<|.int w.length,.val<|.int B.length,.val<|S' w,.un,.un]) ac (by simp only[Frm.put,dW,dX,r8,dh,Frm.get,dD,dq,ey];exact t) ?_<|Ux h _ _ _ _;rw[ar rfl];simp only[Frm.put,dW,dX,jn,jm,Pa,kC,dh,Frm.get,dD,dq,cO,cQ,b7,c4,ey,jS,pT,kD,Frm.peek,xv,HJ,M,nG];rfl
   ·rw[av e]at h;obtain rfl:=aw h;rw[LB.mpr e]at c4;refine Ret.ife ac (by simp only[Frm.put,dW,dX,r8,dh,Frm.get,dD,dq,ey];exact t) ?_;rw[ar rfl];refine Ret.ife ae (Pk (Pn rfl rfl c4) rfl) ?_;exact Ret.ret<|rfl
end
section
noncomputable def Uy:List Nat:=[40,32,41,32,91,32,93,32,58,32,44,32,59,32,43,32,45,32,42,32,47,32,124,32,38,32,60,32,62,32,61,32,46,32,37,32,123,32,125,32,61,61,32,33,61,32,60,61,32,62,61,32,126,32,94,32,60,60,32,62,62,32,42,42,32,43,61,32,45,61,32,42,61,32,47,61,32,37,61,32,38,61,32,124,61,32,94,61,32,60,60,61,32,62,62,61,32,42,42,61,32,47,47,32,47,47,61,32,64,32,64,61,32,45,62,32,46,46,46,32,58,61,32,33]
noncomputable def j7:List (List Nat):=[[40],[41],[91],[93],[58],[44],[59],[43],[45],[42],[47],[124],[38],[60],[62],[61],[46],[37],[123],[125],[61,61],[33,61],[60,61],[62,61],[126],[94],[60,60],[62,62],[42,42],[43,61],[45,61],[42,61],[47,61],[37,61],[38,61],[124,61],[94,61],[60,60,61],[62,62,61],[42,42,61],[47,47],[47,47,61],[64],[64,61],[45,62],[46,46,46],[58,61],[33]]
theorem Qh3:jk [32] Uy=j7:=by kernel_rfl
def di(a:Nat):List Nat:=j7.getD a []
noncomputable def ph(c:Nat):Bool:=[40,41,91,93,58,44,59,43,45,42,47,124,38,60,62,61,46,37,123,125,126,94,64,33].contains c
theorem Qh4:eM.all (λe=>e.1.all ph)=ac:=by kernel_rfl
theorem El:(bv 48).all (λa=>eM.lookup (di a)==aa ((7+a:Nat):Int)&&(di a).length !=0&&decide ((di a).length <=3))=ac:=by kernel_rfl
noncomputable def Em:List Nat:=[173,847,6150,6155,6156,6157,8203,8204,8205,8288,65279]
def pj(k:Nat):Nat:=if k>10 then 65013+k else Em.getD k 0
theorem JQ:(bv 27).all (λk=> !ph (pj k)&&qf.contains (pj k:Int)&&decide (pj k<1114112))=ac:=by kernel_rfl
noncomputable def uM:List Nat:=[0,1,2,4,7,8,9,10,11,12]
def Aw(c way:Nat):Nat:=if way=0 then c else if way=1 then c-32 else 119711+c+52*uM.getD (way-2) 0
noncomputable def sN:List (List Nat):=[[102,105],[102,108],[115,116],[107,109],[104,112],[114,115],[110,111],[116,109]]
noncomputable def JR:List Nat:=[64257,64258,64262,13262,13259,8360,8470,8482]
def En(z:Nat):List Nat:=match D5.lookup (z:Int)with
 |some l=>l
 |none=>(xR (a8 [z])).cps.toList
def ry(z:Nat)(l:List Nat):Bool:= !ph z&& !qf.contains (z:Int)&&decide (z<1114112)&&En z==l
theorem Qh5:(bv 8).all (λp=>ry (JR.getD p 0)<|sN.getD p [])=ac:=by kernel_rfl
theorem Qh6:(bv 26).all (λk=>(bv 12).all λway=>ry (Aw (97+k) way) [97+k])=ac:=by kernel_rfl
end
section
noncomputable abbrev N'(d:Nat):ak:=.int (fO d)
theorem xA(g:α->ak)(h:α->List ak):∀(xs:List α),(∀x∈xs,body (f.put t<|.val<|g x)=aa (h x))->gL body f t (xs.map g)=aa (xs.flatMap h):=by
 intro A;induction A with
 |nil=>intro _;exact rfl
 |cons x r B=>intro H;show((body (f.put t (.val (g x)))).bind λa=>(gL body f t (r.map g)).map (a++·))=_;rw[H x (.head _),B λy C=>H y (.tail _ C)];rfl
theorem Qh7(a b:List Nat):a8 a++a8 b=a8 (a++b):=by rw[Jl];show((a8 a).cps ++(a8 b).cps).toList =_;simp[a8]
theorem mI(h:a.length+b.length<=100000):bP .add (S' a) (S' b)=aa (S'<|a++b):=by show(if(a8 a).length +(a8 b).length <=100000 then aa (vp<|a8 a++a8 b)else ab)=_;rw[kE,kE,ar h,Qh7]
theorem sO(h:a.length+b.length<=100000):bP .add (.list a) (.list b)=aa (.list<|a++b):=by show(if a.length+b.length<=100000 then aa (tq<|a++b)else ab)=_;rw[ar h]
theorem slS(A: -2^62<l/\l<2^62)(B: -2^62<h/\h<2^62):iG (S' a) (.int l) (.int h)=aa (S'<|fk a (aa l)<|aa h):=by
 have D:my (.int l)=aa (aa l):=by show(if(decide (-2^62<l)&&decide (l<2^62))=ac then _ else _)=_;rw[ar<|by simp only[bo,bH];exact A]
 have C:my (.int h)=aa (aa h):=by show(if(decide (-2^62<h)&&decide (h<2^62))=ac then _ else _)=_;rw[ar<|by simp only[bo,bH];exact B]
 unfold iG;refine af D<|af C ?_;rfl
theorem Eo{l:List ak}{k:Nat}(h:l[k]?=aa x):idx2 (.list l) (.int k)=aa x:=by have A:k<l.length:=(mS.mp h).1;show(e9 k l.length).bind _=_;rw[e9,ar (by exact iU),ar<|by exact yR A];exact h
theorem rz{A:List Nat}{k:Nat}(h:k<A.length):idx2 (.list<|A.map N') (.int k)=aa (N'<|A.getD k 0):=Eo (by simp only[fW,ee h,yj,ee h];rfl)
theorem rA{a b:Nat}(h:b<=a):bP .sub (.int a) (.int b)=aa (.int ((a-b:Nat):Int)):=by rw[rr];congr 2;exact GF h
theorem Uz(xs:List α)(k:Nat):fk xs (aa (k:Int)) ab=xs.drop k:=by
 delta fk lh;simp only[xY];rw[av<|by exact qQ];by_cases h:k<=xs.length
 ·congr 1;exact yV h
 ·rw[AT (by exact NZ h),AT<|by exact bD 0x18021e200 Yt h]
theorem UA(xs:List α)(k:Nat):fk xs ab (aa (k:Int))=xs.take k:=by
 delta fk lh;simp only[vg];rw[av<|by exact qQ];by_cases h:k<=xs.length
 ·congr 1;exact yV h
 ·rw[rG (by exact NZ h),rG<|by exact bD 0x18021e200 Yt h]
theorem Qh9{α:Type}(x:List α){b e:Nat}(h:e<=x.length):fk x (aa (b:Int)) (aa (e:Int))=(x.take e).drop b:=by
 unfold fk lh;simp only;rw[av<|show¬((b:Int)<0)from qQ,av<|show¬((e:Int)<0)from qQ,show min x.length (max 0 (e:Int)).toNat =e from yV h];by_cases q:b<=x.length
 ·rw[show min x.length (max 0 (b:Int)).toNat =b from yV q]
 ·rw[AT (by rw[l6];exact fS 0xf6c00114208208a08936ceec001235eec00114228208208208a08208224508a08208208a08a08208224d21014208a08208208a0820820822450822822820822820820820891b4b3bb00048d0841e200 Yt q),AT<|by rw[l6];exact fS 0xd21014208a08228914208a08a289180d0841e200 Yt q]
theorem Qia(A: -2^62<l/\l<2^62):my (.int l)=aa (aa l):=by show(if(decide (-2^62<l)&&decide (l<2^62))=ac then _ else _)=_;rw[ar<|by simp only[bo,bH];exact A]
theorem xB{k:Nat}(h:k<=1000000):my (.int (k:Int))=aa (aa (k:Int)):=Qia ⟨N7,aH 0xf08208208208208208208208208208286c00608228a8b2640 Yt h⟩
theorem UB{xs:List ak}{lo A:ak}{l h:Option Int}(C:my lo=aa l)(B:my A=aa h):iG (.list xs) lo A=aa (.list<|fk xs l h):=by unfold iG;refine af C<|af B ?_;rfl
theorem JS{x:List Nat}{lo A:ak}{l h:Option Int}(C:my lo=aa l)(B:my A=aa h):iG (S' x) lo A=aa (S'<|fk x l h):=by unfold iG;refine af C<|af B ?_;rfl
theorem UC{xs:List ak}{k:Nat}(h:k<=1000000):iG (.list xs) (.int k) .none =aa (.list<|xs.drop k):=by rw[UB (xB h) rfl,Uz]
theorem Ep{xs:List ak}{k:Nat}(h:k<=1000000):iG (.list xs) .none (.int k)=aa (.list<|xs.take k):=by rw[UB rfl (xB h),UA]
theorem uN(h:f[i]?=aa (.val<|.list l)):ai T O (n+2) (.bi .len [.v i]) f=aa (.int l.length):=by dsimp only[pT];simp only[cO,cQ,kD,Frm.peek,h,b7];rfl
theorem cz(h:bK T O W n s f=aa (.next,g))(A:bt T O W n r g=aa (.next,g2)):bt T O W (n+1) (s::r) f=aa (.next,g2):=by rw[jn];exact af h A
theorem dj:bt T O W (n+1) [] f=aa (.next,f):=by rw[nG]
theorem j8(c:Bool)(h:aS T O 40 t f=aa c)(A:bt T O W n (if c then a else b) f=aa (.next,g)):bK T O W (n+1) (.ife t a b) f=aa (.next,g):=by
 rw[jm];refine af h ?_;clear h;cases c
 ·exact A
 ·exact A
theorem dA(h:ai T O 40 e f=aa d):bK T O W (n+1) (.asg i e) f=aa (.next,f.put i<|.val d):=by rw[jS];exact af h rfl
theorem Qib(B:f[i]?=aa (.own xs))(h:ai T O 40 e f=aa d)(A:xs.length<100000):bK T O W (n+1) (.app i e) f=aa (.next,f.put i<|.own<|xs++[d]):=by rw[HE];refine af h<|af B ?_;simp only[A,if_true]
section
variable {T:Tabs} {O:bC} {n:Nat} {f:Frm}
theorem aB(h:f[i]?=aa (.val d)):ai T O (n+1) (.v i) f=aa d:=by rw[dh,Frm.get];exact af h rfl
theorem aX:ai T O (n+1) (.ki i) f=aa (.int i):=by rw[ii]
theorem uO:ai T O (n+1) (.ks l) f=aa (S' l):=by rw[wz]
theorem JT(h:ai T O n e f=aa (.int i)):ai T O (n+1) (.neg e) f=aa (.int<|-i):=by rw[wy];exact af h rfl
theorem bn(B:ai T O n l f=aa a)(A:ai T O n r f=aa b)(h:bP op a b=c):ai T O (n+1) (.bin op l r) f=c:=by rw[gz];refine af B<|af A ?_;exact h
theorem qi(D:ai T O n o f=aa a)(C:ai T O n l f=aa b)(B:ai T O n h f=aa c)(A:iG a b c=d):ai T O (n+1) (.sl o l h) f=d:=by rw[O7];refine af D<|af C<|af B ?_;exact A
theorem nR(A:ai T O n B f=aa a1)(h:O g [a1]=d):ai T O (n+1) (.call g [B]) f=d:=by rw[kA];simp only[cO,cQ,A,b7];exact h
theorem lP(B:ai T O n D f=aa a1)(A:ai T O n C f=aa a2)(h:O g [a1,a2]=d):ai T O (n+1) (.call g [D,C]) f=d:=by rw[kA];simp only[cO,cQ,B,A,b7];exact h
theorem UD(C:ai T O n H f=aa a1)(B:ai T O n G f=aa a2)(A:ai T O n D f=aa L)(h:O g [a1,a2,L]=d):ai T O (n+1) (.call g [H,G,D]) f=d:=by rw[kA];simp only[cO,cQ,C,B,A,b7];exact h
noncomputable def nv:ME->Bool| .v _=>ae|_=>ac
theorem bE(h:ai T O n e f=aa d)(A:nv e=ac):gb T O (n+1) e f=aa d:=by cases e<;>first|exact h|exact absurd A Bool.false_ne_true
theorem ce(h:f[i]?=aa (.val d)):gb T O (n+1) (.v i) f=aa d:=by rw[kD,Frm.peek];exact af h rfl
theorem dC(B:gb T O n o f=aa a)(A:ai T O n i f=aa k)(h:idx2 a k=d):ai T O (n+1) (.idx o i) f=d:=by rw[Cv];refine af B<|af A ?_;exact h
theorem qj(B:ai T O n l f=aa a)(A:gb T O n r f=aa b)(h:cY op a b=aa c):ai T O (n+1) (.cmp op l r) f=aa (.bool c):=by rw[jR];refine af B<|af A ?_;simp only[h,b7]
theorem dS(B:ai T O n l f=aa a)(A:gb T O n r f=aa b)(h:cY op a b=aa c):aS T O (n+2) (.cmp op l r) f=aa c:=by rw[H6 rfl];exact af (qj B A h) rfl
end
theorem ek{body:Frm->Option (Fl×Frm)}{bind:ak->Frm->Option Frm}{r:List ak}(C:bind x f=aa G)(B:body G=aa (.next,D))(A:gc body bind r D=res):gc body bind (x::r) f=res:=by rw[r6];refine af C ?_;simp only[B];exact A
theorem Er(C:t f=aa ac)(B:b f=aa (.next,g))(A:gT t b W g=r):gT t b (W+1) f=r:=by simp only[zp,C];simp only[B];exact A
theorem Ax(A:t f=aa ae):gT t b (W+1) f=aa (.next,f):=by simp only[zp,A]
theorem Qic(h:ai T O 40 e f=aa (.tuple ds))(A:gK f is ds=aa g):bK T O W (n+1) (.unp is e) f=aa (.next,g):=by rw[oQ];refine af h ?_;simp only[A,b7]
theorem iK{W n:Nat}{A:List Nat}{one:Bool}{b:List MS}{xs:List ak}(h:cC T O 40 it f=aa xs)(B:gc (λf=>bt T O W n b f) (gf A one) xs f=aa (.next,g)):bK T O W (n+1) (.forr A one it b) f=aa (.next,g):=by simp only[Cz,h];exact B
theorem JU(A:gT (λf=>aS T O 40 t f) (λf=>bt T O W n b f) W f=aa (.next,g)):bK T O W (n+1) (.whl t b) f=aa (.next,g):=by rw[ZB];exact A
theorem qk:ai T O (n+1) .kn f=aa .none :=by rw[Zz]
theorem gg(h:gb T O n e f=aa d)(A:gR b [d]=r):ai T O (n+1) (.bi b [e]) f=r:=by dsimp only[pT];simp only[cO,cQ,h,b7];exact A
theorem Qid:aS T O (n+1) (.bop ac es) f=iH (λe=>aS T O n e f) es:=by rw[HH]
theorem Es(B:aS T O n a f=aa x)(A:aS T O n b f=aa y):aS T O (n+1) (.bop ac [a,b]) f=aa (x&&y):=by simp only[Qid];simp only[zm,zo,B,A];clear B;cases x<;>(clear A;cases y)<;>rfl
theorem JV:aS T O (n+1) (.bop ae es) f=rZ (λe=>aS T O n e f) es:=by rw[ZA]
theorem xC(B:ai T O n l f=aa (.bool b))(A:gb T O n r f=aa (.bool b)):aS T O (n+2) (.cmp .isnt l r) f=aa ae:=dS B A (by clear B A;cases b<;>rfl)
theorem Qie(h:ai T O n o f=aa x)(A:gS m x []=r):ai T O (n+1) (.meth m o []) f=r:=by rw[kC];refine af h ?_;simp only[cO,cQ];exact A
theorem Qif(i:Int):gR .chr [.int i]=(if 0<=i&&i<1114112 then aa (.str<|a8 [i.toNat])else ab):=rfl
theorem uP{z:Nat}(h:z<1114112):gR .chr [.int (z:Int)]=aa (S' [z]):=by rw[Qif,ar (by simp only[bo,bH];exact⟨iU,aH 0xf08208209286c00e082082092840 Yt h⟩),jE]
theorem Et(z:Nat):gR .ord [S' [z]]=aa (N' z):=rfl
theorem g7(h:ai T O n e f=aa d)(B:ww d=aa xs)(A:zA e=ac):cC T O (n+1) e f=aa xs:=by rw[QG A,h];exact B
theorem Ay(x:Int)(A:0<k)(h:k<2^30):bP .fdiv (.int x) (.int k)=aa (.int<|x/k):=by show(if(decide (0<k)&&decide (k<2^30))=ac then aa (bQ<|x/k)else ab)=_;rw[ar<|by simp only[bo,bH];exact⟨A,h⟩]
theorem pk(x:Int)(A:0<k):bP .mod (.int x) (.int k)=aa (.int<|x%k):=by show(if 0<k then aa (bQ<|x%k)else ab)=_;rw[ar A]
theorem Qig{i:Int}{m:Nat}(h:m<=100000):bP .mul (.list [.int i]) (.int m)=aa (.list<|cR m<|.int i):=by show(if(decide ((0:Int)<=m)&&decide ((m:Int)<=100000))=ac then aa (tq<|cR (m:Int).toNat<|.int i)else ab)=_;rw[ar (by simp;exact B4 h),jE]
theorem Ret.retE(h:ai T O 40 e f=aa d):Ret T O W (n+2) (.ret e::r) f d:=Ret.ret (g:=f)<|by simp only[nF,h]
theorem Qih:∀{xs:List ak},(∀x∈xs,x.canLay0=ac/\x.depth<=7/\AN x x=ac)->cY .ne (.list xs) (.list xs)=aa ae:=λ{xs} h=>by
 have a:AX xs=ac/\AW xs<=7/\LC xs xs=ac:=by
  induction xs with
  |nil=>exact⟨rfl,kh _,rfl⟩
  |cons x r A=>
   refine fx (h x<|dU ..) λH G D=>?_;refine fx (A λy C=>h y<|bB _ C) λi1 i2 B=>?_;refine⟨?_,?_,?_⟩
   ·rw[AX];refine af H<|af i1 ?_;rfl
   ·rw[AW];exact bS 0xd00814a08208228914a082082282246e7b0081b9206e40 Yt G i2
   ·rw[LC];refine af D<|af B ?_;rfl
 have L:eL (.list xs)=ac:=by unfold eL;rw[QlL];refine af a.1 ?_;rw[LD,df<|by exact aH 0x60890c9006e40 Yt a.2.1];rfl
 show(if(ac&&eL (.list xs)&&eL (.list xs))=ac then aa (gJ (.list xs)<|.list xs)else ab).map (!·)=_;refine af L ?_;rw[gJ,AN];exact af a.2.2 rfl
theorem JW(l:List Nat):cY .ne (.list<|l.map N') (.list<|l.map N')=aa ae:=Qih λx h=>by refine ah (gk.mp h) λk _ A=>?_;subst A;refine⟨rfl,by rw[LD];exact iV 0x6e41 Yt,by simp[AN]⟩
theorem Qii(A:List<|List Nat):zj (A.map S')=aa A:=by
 induction A with
 |nil=>rfl
 |cons x r B=>rw[dF];show(zj (r.map S')).map ((a8 x).cps.toList ::·)=_;exact af B rfl
theorem Eu(C:x.length<=100000)(B:(cB x A).length <=100000):gS .join (S' x) [.list<|A.map S']=aa (S'<|cB x A):=by
 show(zj<|A.map S').bind (λA=>if((a8 x).length <=100000&&decide ((cB (a8 x).cps.toList A).length <=100000))=ac then aa (vp<|a8<|cB (a8 x).cps.toList A)else ab)=_;rw[Qii,WH,ar]
 ·rfl
 ·rw[kE];simp only[bo,bH];exact⟨C,B⟩
theorem Az:∀A:List<|List Nat,cB [] A=A.flatten:=by
 intro C;induction C with
 |nil=>exact rfl
 |cons x B D=>
  cases B with
  |nil=>simp[qZ,q7,oN]
  |cons y r=>rw[oN];refine af (D) ?_;simp
theorem JX(f:Nat->Nat)(l:List Nat):(l.map λs=>[f s]).flatten =l.map f:=by
 induction l with
 |nil=>rfl
 |cons x r A=>rw[dF,Lm];exact af A rfl
theorem AA(c:Bool)(h:aS T O n t f=aa c)(A:ai T O n (if c then a else b) f=aa d):ai T O (n+1) (.ite t a b) f=aa d:=by rw[O8];refine af h ?_;clear h;cases c<;>exact A
theorem xD(h:ai T O n o f=aa x)(B:ai T O n e f=aa d)(A:gS m x [d]=r):ai T O (n+1) (.meth m o [e]) f=r:=by rw[kC];refine af h ?_;simp only[cO,cQ,B,b7];exact A
theorem j9(B:ai aA O n a f=aa x)(A:ai aA O n b f=aa y):ai aA O (n+1) (.tup [a,b]) f=aa (.tuple [x,y]):=by simp only[r7];simp only[cO,cQ,B,A,b7]
theorem xE(A:ai aA O n a f=aa x):ai aA O (n+1) (.lst [a]) f=aa (.list [x]):=by simp only[Cw];simp only[cO,cQ,A,b7]
theorem nU:ai aA O (n+1) (.kb b) f=aa (.bool b):=by rw[Cy]
theorem lQ(B:ai aA O n a f=aa (S' x))(A:ai aA O n b f=aa (S' y))(h:x.length+y.length<=1000):ai aA O (n+1) (.bin .add a b) f=aa (S'<|x++y):=bn B A<|mI<|bD 0x182892682643200182aba243200 Yt h
section
variable {T:Tabs} {O:bC} {n:Nat} {f:Frm} {src:List (Option Nat)} {t u:Nat} {elt it jt e:ME} {α β:Type}
theorem Ev(h:ds.length<=100000):pS (aa ds)=aa (.list ds):=by show(if ds.length<=100000 then _ else _)=_;rw[ar h]
theorem Ew{elt:Frm->Option ak}{cond:Frm->Option Bool}(h:cond g=aa b)(A:b=ac->elt g=aa d):rc elt cond g=aa (if b then[d]else[]):=by
 show((cond g).bind λb=>if b=ac then(elt g).map λd=>[d]else aa [])=_;rw[h];cases b with
 |false=>rfl
 |true=>show(elt g).map _=_;rw[A rfl];rfl
theorem UE(h:α->ak):∀xs:List α,(xs.flatMap λx=>[h x])=xs.map h:=by
 intro A;induction A with
 |nil=>exact rfl
 |cons x r B=>rw[QlM,B];rfl
theorem UF(c:α->Bool)(h:α->ak):∀xs:List α,(xs.flatMap λx=>if c x then[h x]else[])=(xs.filter c).map h:=by
 intro A;induction A with
 |nil=>exact rfl
 |cons x r B=>rw[QlM,B,yi];cases c x<;>rfl
theorem lR{g h:α->ak}{xs:List α}(D:cC T O n it f=aa (xs.map g))(B:xs.length<=100000)(C:∀x∈xs,ai T O n elt ((bU f src).put t<|.val<|g x)=aa (h x)):ai T O (n+1) (.comp src t elt it []) f=aa (.list<|xs.map h):=by rw[HF,D];show pS _=_;rw[xA g (λx=>[h x]) xs λx A=>Ew (b:=ac) rfl λ_=>C x A,UE];exact Ev (by rw[b8];exact B)
theorem UG{F:ME->Option Bool}(h:F e=aa b):iH F [e]=aa b:=by
 show(match F e with|some ac=>iH F []|some ae=>aa ae|none=>ab)=_
 rw[h];cases b<;>rfl
theorem AB{g h:α->ak}{xs:List α}{c:α->Bool}(G:cC T O n it f=aa (xs.map g))(B:xs.length<=100000)(C:∀x∈xs,aS T O n e ((bU f src).put t<|.val<|g x)=aa (c x))(D:∀x∈xs,c x=ac->ai T O n elt ((bU f src).put t<|.val<|g x)=aa (h x)):ai T O (n+1) (.comp src t elt it [e]) f=aa (.list<|(xs.filter c).map h):=by rw[HF,G];show pS _=_;rw[xA g (λx=>if c x then[h x]else[]) xs λx A=>Ew (UG<|C x A) λq=>D x A q,UF];exact Ev (by rw[b8];exact fV (QlN _ _) B)
theorem UH{g:α->ak}{g2:β->ak}{h:α->β->ak}{xs:List α}{ys:α->List β}(H:cC T O n it f=aa (xs.map g))(D:∀x∈xs,cC T O n jt ((bU f src).put t<|.val<|g x)=aa ((ys x).map g2))(G:∀x∈xs,∀y∈ys x,ai T O n elt (((bU f src).put t<|.val<|g x).put u<|.val<|g2 y)=aa (h x y))(C:(xs.flatMap λx=>(ys x).map<|h x).length <=100000):ai T O (n+1) (.comp2 src t u elt it jt []) f=aa (.list<|xs.flatMap λx=>(ys x).map<|h x):=by
 rw[HG,H];show pS _=_;rw[xA g (λx=>(ys x).map<|h x) xs λx A=>?_]
 ·exact Ev C
 ·rw[D x A];show gL _ _ _ _=_;rw[xA g2 (λy=>[h x y]) (ys x) λy B=>Ew (b:=ac) rfl λ_=>G x A y B,UE]
theorem Qij{g:α->ak}{g2:β->ak}{h:α->β->ak}{xs:List α}{ys:α->List β}{c:α->β->Bool}(L:cC T O n it f=aa (xs.map g))(D:∀x∈xs,cC T O n jt ((bU f src).put t<|.val<|g x)=aa ((ys x).map g2))(G:∀x∈xs,∀y∈ys x,aS T O n e (((bU f src).put t<|.val<|g x).put u<|.val<|g2 y)=aa (c x y))(H:∀x∈xs,∀y∈ys x,c x y=ac->ai T O n elt (((bU f src).put t<|.val<|g x).put u<|.val<|g2 y)=aa (h x y))(C:(xs.flatMap λx=>((ys x).filter<|c x).map<|h x).length <=100000):ai T O (n+1) (.comp2 src t u elt it jt [e]) f=aa (.list<|xs.flatMap λx=>((ys x).filter<|c x).map<|h x):=by
 rw[HG,L];show pS _=_;rw[xA g (λx=>((ys x).filter<|c x).map<|h x) xs λx A=>?_]
 ·exact Ev C
 ·rw[D x A];show gL _ _ _ _=_;rw[xA g2 (λy=>if c x y then[h x y]else[]) (ys x) λy B=>Ew (UG<|G x A y B) λq=>H x A y B q,UF]
theorem JY(h:O g []=d):ai T O (n+1) (.call g []) f=d:=by rw[kA];exact h
theorem UI{m:Nat}(A:m<=100000)(h:ai T O n e f=aa (.int (m:Int))):cC T O (n+1) (.rng [e]) f=aa ((bv m).map N'):=by rw[Pe,show cZ (λe=>ai T O n e f) [e]=aa [.int (m:Int)]from HK h rfl];show wx [(m:Int)]=_;show(if(decide ((m:Int)<=100000)&&decide (-2^60<(m:Int)))=ac then aa ((mx 0 (m:Int)).map bQ)else ab)=_;rw[ar<|by simp only[bo,bH];exact⟨B4 A,GL⟩];refine congrArg aa ?_;simp[mx,WW]
theorem JZ{a b:Nat}(C:a<=100000)(A:b<=100000)(h:ai T O n e f=aa (.int (a:Int)))(D:ai T O n B f=aa (.int (b:Int))):cC T O (n+1) (.rng [e,B]) f=aa ((bv<|b-a).map λk=>N'<|a+k):=by rw[Pe,show cZ (λe=>ai T O n e f) [e,B]=aa [.int (a:Int),.int (b:Int)]from HK h<|HK D rfl];show wx [(a:Int),(b:Int)]=_;show(if(decide ((b:Int)-a<=100000)&&decide (-2^60<(a:Int))&&decide ((a:Int)<2^60)&&decide (-2^60<(b:Int))&&decide ((b:Int)<2^60))=ac then aa ((mx (a:Int) (b:Int)).map bQ)else ab)=_;rw[ar<|by simp only[bo,bH];exact⟨⟨⟨⟨bD 0x1c289268264bb08b00182892682640 Yt A,GL⟩,N8 C⟩,GL⟩,N8 A⟩];refine congrArg aa ?_;have:((b:Int)-a).toNat =b-a:=ig 0x5480352ec22c01d04528914a08225d04528a08208914a082089d4bb08b0074114a24528228225d04528a08224528228208958b200b0bb08b00 Yt;simp[mx,WW,this]
end
end
section
theorem Qik(x:ao):gS .lower (.str x) []=(if ac&&decide ((xR x).length <=100000)then aa (.str<|xR x)else ab):=rfl
theorem UJ{Wf k:Nat}(z:Nat):aO Wf (k+1) 7 [S' [z]]=aa (.bool<|qf.contains (z:Int)):=by rw[fG Qhw rfl];refine Ret.evF ?_ rfl;show Ret aA _ _ 200 PP.body [.val<|S' [z],.un,.un] _;refine Ret.retE ?_;rw[HD,gg (b:=.ord) (ce (d:=S' [z]) rfl)<|Et z];show aa (PyData.bool<|qf.contains (z:Int)!=ae)=_;rw[Bool.bne_false]
theorem Qil{Wf k z:Nat}{l:List Nat}(h:En z=l)(A:l.length<=100000):aO Wf (k+1) 8 [S' [z]]=aa (S' l):=by
 rw[fG Qhx rfl];have g:ai aA (aO Wf k) 40 (.gget .b3<|.bi .ord [.v 0]) [.val<|S' [z],.un,.un,.un]=aa (match D5.lookup (z:Int)with|some l=>S' l|none=>.none):=by rw[Pd,gg (b:=.ord) (ce (d:=S' [z]) rfl)<|Et z];rfl
 refine Ret.evF ?_ rfl;show Ret aA _ _ 200 PQ.body [.val<|S' [z],.un,.un,.un] _;refine Ret.next (dA g) ?_;unfold En at h;cases q:D5.lookup (z:Int)with
 |some B=>rw[q]at h;dsimp only at h;clear A;subst h;have t:aS aA (aO Wf k) 40 (.cmp .isnt (.v 1) (.kn)) [.val (S' [z]),.val (S' B),.un,.un]=aa ac:=dS (aB rfl) (bE qk rfl) rfl;exact Ret.ife ac t (Ret.retE (aB rfl))
 |none=>rw[q]at h;dsimp only at h;have t:aS aA (aO Wf k) 40 (.cmp .isnt (.v 1) (.kn)) [.val (S' [z]),.val .none,.un,.un]=aa ae:=dS (aB rfl) (bE qk rfl) rfl;refine Ret.no t ?_;have e:xR (a8 [z])=a8 l:=Jl.mpr h;refine Ret.retE (Qie (aB rfl) ?_);rw[Qik];refine af e ?_;rw[kE];refine af (df A) ?_;rfl
theorem Qim{Wf k p:Nat}(h:p<27):aO Wf (k+1) 12 [.int (p:Int)]=aa (S' [pj p]):=by
 rw[fG QhB rfl];refine Ret.evF ?_ rfl;show Ret aA _ _ 200 PV.body [.val<|.int (p:Int),.un] _;unfold pj;by_cases q:p>10
 ·rw[ar q];have t:aS aA (aO Wf k) 40 (.cmp .gt (.v 0)<|.ki 10) [.val<|.int (p:Int),.un]=aa ac:=dS (aB rfl) (bE aX rfl)<|uL<|aH 0xfb00489380489 Yt q;refine Ret.ife ac t<|Ret.retE ?_;refine gg (bE (bn aX (aB rfl) (c:=aa<|.int ((65013+p:Nat):Int)) ?_) rfl)<|uP<|aH 0x3820820824a10c0ab2eb2e8939a640 Yt h;rw[mG];refine congrArg (λz=>aa<|bQ z) ?_;exact cN 0x1d045245257b0302acbacba243b00ab2eb2e89 Yt
 ·rw[av q];have t:aS aA (aO Wf k) 40 (.cmp .gt (.v 0)<|.ki 10) [.val<|.int (p:Int),.un]=aa ae:=dS (aB rfl) (bE aX rfl)<|xu<|aH 0x27b00489980489 Yt q;refine Ret.no t<|Ret.retE ?_;have B:p<Em.length:=by show p<11;exact aH 0x39a240980489 Yt q
  have A:Em.getD p 0<1114112:=by have:=du.mp JQ p<|eY.mpr h;simp only[bo,bH]at this;have:=this.2;unfold pj at this;rwa[av q]at this
  refine gg (bE (dC (a:=.list<|Em.map N') (bE (rfl) rfl) (aB rfl)<|rz B) rfl)<|uP A
theorem Qin{Wf k c way:Nat}(D:c<1114112)(B:97<=c)(H:c<=122)(L:way<12):aO Wf (k+1) 13 [.int (c:Int),.int (way:Int)]=aa (S' [Aw c way]):=by
 rw[fG QhC rfl];refine Ret.evF ?_ rfl;show Ret aA _ _ 200 PW.body [.val<|.int (c:Int),.val<|.int (way:Int),.un] _;unfold Aw;by_cases q:way=0
 ·rw[ar q];have t:aS aA (aO Wf k) 40 (.cmp .eq (.v 1)<|.ki 0) [.val<|.int (c:Int),.val<|.int (way:Int),.un]=aa ac:=dS (aB rfl) (bE aX rfl)<|Ar<|N9 q;exact Ret.ife ac t<|Ret.retE<|gg (ce rfl)<|uP D
 ·rw[av q];have t:aS aA (aO Wf k) 40 (.cmp .eq (.v 1)<|.ki 0) [.val<|.int (c:Int),.val<|.int (way:Int),.un]=aa ae:=dS (aB rfl) (bE aX rfl)<|As<|GM q;refine Ret.no t ?_;by_cases A:way=1
  ·rw[ar A];have t:aS aA (aO Wf k) 40 (.cmp .eq (.v 1)<|.ki 1) [.val<|.int (c:Int),.val<|.int (way:Int),.un]=aa ac:=dS (aB rfl) (bE aX rfl)<|Ar<|pO 0x1d0452822452820895c9b00589036240 Yt A A;exact Ret.ife ac t<|Ret.retE<|gg (bE (bn (aB rfl) aX<|rA (b:=32)<|aH 0x600284600a889 Yt B) rfl)<|uP<|pO 0x150a100508a08224508a2893820820824a12c28403820820824a100600a889 Yt D B
  ·rw[av A];have t:aS aA (aO Wf k) 40 (.cmp .eq (.v 1)<|.ki 1) [.val<|.int (c:Int),.val<|.int (way:Int),.un]=aa ae:=dS (aB rfl) (bE aX rfl)<|As<|aH 0x75114a24528227f26c03e240 Yt A;refine Ret.no t<|Ret.retE ?_;have G:way-2<uM.length:=by show way-2<10;exact aH 0x55100528224508a28939224b4403a2240 Yt L
   have C:uM.getD (way-2) 0<=12:=by
    have:∀i,i<10->uM.getD i 0<=12:=by decide
    exact this _ G
   refine gg (bE (bn (bn aX (aB rfl) (c:=aa<|.int ((119711+c:Nat):Int))<|by rw[mG];refine congrArg (λz=>aa<|bQ z) ?_;exact cN 0x1d045245257b0303a6b22aa643b00e9ac8aa99 Yt) (bn aX (dC (a:=.list<|uM.map N') (bE (rfl) rfl) (bn (aB rfl) aX<|rA (b:=2)<|pO 0x74975114a08914a245246011f8103e240 Yt q A)<|rz G) (c:=aa<|.int ((52*uM.getD (way-2) 0:Nat):Int)) ?_) (c:=aa<|.int ((119711+c+52*uM.getD (way-2) 0:Nat):Int)) ?_) rfl)<|uP<|qt (E5 (WA H _)<|l7 52 C)<|by decide
   ·exact Uf (by decide)<|qh (k:=5) (aH 0x3828401a2240 Yt C)<|by decide
   ·rw[mG];refine congrArg (λz=>aa<|bQ z) ?_;exact ig 0x7411491495ec0d3222c4303a6b22aa643b13222c6c0c0e9ac8aa99 Yt
end
section
def c2(p:Nat):Nat:=(sN.getD p []).getD 0 0
def c3(p:Nat):Nat:=(sN.getD p []).getD 1 0
def J0(p:Nat):Nat:=JR.getD p 0
def iL(f s p k:Nat):List Nat:=if k=0 then di f else if k=1 then di s else if k=2 then[c2 p]else[c3 p]
def eH(f s p k:Nat):Nat:=if k=0 then 7+f else if k=1 then 7+s else if k=2 then 159+c2 p else 159+c3 p
def i5(f s p:Nat):List ak:=[S' (di f),S' (di s),S' [c2 p],S' [c3 p]]
def io(f s p:Nat):List ak:=[N' (7+f),N' (7+s),N' (159+c2 p),N' (159+c3 p)]
noncomputable def r5(x:Int):Nat:=(x%5).toNat
def UK(x:Int):Nat:=pj (x/60%27).toNat
noncomputable def uQ(x:Int):Nat:=(x/5%12).toNat
noncomputable def uR(x:Int):Bool:=decide (x%5<2)||decide (x/1620%2=1)
def rB(f s p:Nat)(x:Int):List Nat:=if r5 x<2 then iL f s p (r5 x)else if r5 x<4 then[Aw (if r5 x=2 then c2 p else c3 p) (uQ x)]else[J0 p]
def mJ(f s p:Nat)(x:Int):List Nat:=rB f s p x++(if uR x then[UK x]else[])
def kQ(x:Int):List Nat:=if r5 x=4 then[2,3]else[r5 x]
noncomputable def lS(f s p:Nat):List Int->List Nat->List Nat->List Nat×List Nat
 |[],t,k=>(t,k)
 |x::r,t,k=>if k.length>6 then(t,k)else lS f s p r (t++mJ f s p x) (k++kQ x)
theorem Qio:lS f s p [] t k=(t,k):=rfl
theorem AC:lS f s p (x::r) t k=if k.length>6 then(t,k)else lS f s p r (t++mJ f s p x) (k++kQ x):=rfl
theorem UL(x:Int):((r5 x:Nat):Int)=x%5:=by unfold r5;exact gG 0x2da40d63a4074114a28208208914a08974114a2452822578e902cb23a40 Yt
theorem UM(x:Int):r5 x<5:=by unfold r5;exact gG 0xb690358e900528208208224528208208a0893a9b23a40 Yt
abbrev i6(v0 v1 v2 v3 v6:FV)(f s p:Nat)(t k:List Nat)(v9:FV)(tl:List FV):Frm:=v0::v1::v2::v3::.val (.int (p:Int))::.val (.list (i5 f s p))::v6::.val (S' t)::.own (k.map N')::v9::tl
theorem UN(h:a<48):(di a).length <=3:=by have:=du.mp El a<|eY.mpr h;simp only[bo,bH]at this;exact this.2
theorem J1(A:f<48)(hs:s<48):(iL f s p k).length <=3:=by
 have a:=UN A;have b:=UN hs;unfold iL;split
 ·exact a
 ·split
  ·exact b
  ·split<;>simp
theorem UO(A:f<48)(hs:s<48):(rB f s p x).length <=3:=by
 have:=J1 (p:=p) (k:=r5 x) A hs;unfold rB;split
 ·exact this
 ·split<;>simp
theorem UP(A:f<48)(hs:s<48):(mJ f s p x).length <=4:=by have:=UO (p:=p) (x:=x) A hs;unfold mJ;rw[cw];split<;>simp<;>(first|exact aH 0x199006640 Yt this|exact aH 0x1a1006640 Yt this)
theorem J2(x:Int):1<=(kQ x).length /\(kQ x).length <=2:=by unfold kQ;split<;>simp
theorem AD{r:Nat}(h:r<4):idx2 (.list<|i5 f s p) (.int (r:Int))=aa (S'<|iL f s p r):=by rcases d7 h with q|q|q|q<;>(subst q;rfl)
theorem Qip:(bv 8).all (λp=>decide (97<=c2 p)&&decide (c2 p<=122)&&decide (97<=c3 p)&&decide (c3 p<=122)&&decide (c2 p≠c3 p)&&decide (J0 p<1114112))=ac:=by decide
theorem uU(h:p<8):(97<=c2 p/\c2 p<=122)/\(97<=c3 p/\c3 p<=122)/\c2 p≠c3 p/\J0 p<1114112:=by have:=du.mp Qip p<|eY.mpr h;simp only[bo,bH]at this;exact⟨⟨this.1.1.1.1.1,this.1.1.1.1.2⟩,⟨this.1.1.1.2,this.1.1.2⟩,this.1.2,this.2⟩
theorem Ex(h:ai T O (n+2) e f=aa (.int x)):aS T O (n+4) (.cmp .eq e<|.ki y) f=aa (decide (x=y)):=by
 refine dS h (bE aX rfl) ?_;by_cases q:x=y
 ·rw[Ar q,df q]
 ·rw[As q,fM q]
theorem J3(h:ai T O (n+2) e f=aa (.int x)):aS T O (n+4) (.cmp .lt e<|.ki y) f=aa (decide (x<y)):=by
 refine dS h (bE aX rfl) ?_;by_cases q:x<y
 ·rw[Au q,df q]
 ·rw[Av q,fM q]
theorem UQ(h:f[i]?=aa (.own l)):ai T O (n+2) (.bi .len [.v i]) f=aa (.int l.length):=by dsimp only[pT];simp only[cO,cQ,kD,Frm.peek,h,b7];rfl
theorem UR{xs ds:List ak}(B:f[i]?=aa (.own xs))(h:ai T O 40 e f=aa (.list ds))(A:xs.length+ds.length<=100000):bK T O W (n+1) (.ext i e) f=aa (.next,f.put i<|.own<|xs++ds):=by rw[HI];refine af h<|af B ?_;simp only[A,if_true]
theorem xF{T O n}{f:Frm}(h:f[i]?=aa (.val<|.int x)):ai T O (n+2) (.bin .mod (.v i)<|.ki 5) f=aa (.int ((r5 x:Nat):Int)):=by rw[UL];exact bn (aB h) aX<|pk x<|by decide
section
variable {wf kk fu f s p:Nat} (hf:f<48) (hs:s<48) (hp:p<8) (v0 v1 v2 v3 v6:FV) (tl:List FV)
theorem Qiq(C:6<k.length)(A:FV):bt aA O Wf (fu+5) CF (i6 v0 v1 v2 v3 v6 f s p t k A tl)=aa (.brk,i6 v0 v1 v2 v3 v6 f s p t k A tl):=by have B:aS aA O 40 (.cmp .gt (.bi .len [.v 8])<|.ki 6) (i6 v0 v1 v2 v3 v6 f s p t k A tl)=aa ac:=dS (UQ rfl) (bE aX rfl) (by rw[b8];exact uL<|aH 0xfb00c4e031 Yt C);rw[bt,jm];refine af B ?_;dsimp only[jn,ZD,nG,jS,jm]
include hf hs hp in
theorem Qir(C:t.length<=1000)(M:k.length<=6): bt aA (aO wf<|kk+1) wf (fu+12) CF (i6 v0 v1 v2 v3 v6 f s p t k (.val<|.int x) tl)=aa (.next,i6 v0 v1 v2 v3 v6 f s p (t++mJ f s p x) (k++kQ x) (.val<|.int x) tl):=by
 have G:=uU hp;have B:=UO (p:=p) (x:=x) hf hs;have U:aS aA (aO wf<|kk+1) 40 (.cmp .gt (.bi .len [.v 8])<|.ki 6) (i6 v0 v1 v2 v3 v6 f s p t k (.val<|.int x) tl)=aa ae:=dS (UQ rfl) (bE aX rfl) (by rw[b8];exact xu<|aH 0x27b00c46c40 Yt M);refine cz (j8 ae U dj) ?_;refine cz (g:=i6 v0 v1 v2 v3 v6 f s p (t++rB f s p x) k (.val<|.int x) tl) ?_ ?_
 ·have T:aS aA (aO wf<|kk+1) 40 (.cmp .lt (.bin .mod (.v 9)<|.ki 5)<|.ki 2) (i6 v0 v1 v2 v3 v6 f s p t k (.val<|.int x) tl)=aa (decide (((r5 x:Nat):Int)<2)):=J3<|xF rfl;refine j8 _ T ?_;unfold rB at B⊢;by_cases q:r5 x<2
  ·rw[ar q]at B;rw[df (by exact aH 0xf46c00e440 Yt q),ar rfl,ar q];exact cz (dA<|bn (aB rfl) (dC (ce rfl) (xF rfl)<|AD<|aH 0x3a100e440 Yt q)<|mI<|bS 0x60a249a0990c02060aae89206640 Yt C B) dj
  ·rw[av q]at B;rw[fM (by exact aH 0x2746c026440 Yt q),av (by decide),av q];have Q:aS aA (aO wf<|kk+1) 40 (.cmp .lt (.bin .mod (.v 9)<|.ki 5)<|.ki 4) (i6 v0 v1 v2 v3 v6 f s p t k (.val<|.int x) tl)=aa (decide (((r5 x:Nat):Int)<4)):=J3<|xF rfl;refine cz (j8 _ Q ?_) dj;by_cases A:r5 x<4
   ·rw[df (by exact aH 0xf86c00e840 Yt A),ar rfl,ar A];have Y:((uQ x:Nat):Int)=x/5%12:=by unfold uQ;exact gG 0xb6902d8896e90358e225ba4074114a28208208914a08974114a2452822578e225ba40b2c8e225ba40 Yt
    have pw:iL f s p (r5 x)=[if r5 x=2 then c2 p else c3 p]:=by rcases G8 q A with e|e<;>(rw[e];rfl)
    have H:=AD (f:=f) (s:=s) (p:=p) A;rw[pw]at H;generalize hz:(if r5 x=2 then c2 p else c3 p)=z at H;have D:97<=z/\z<=122:=by
     rw[<-hz];split
     ·exact G.1
     ·exact G.2.1
    have L:=Qin (Wf:=wf) (k:=kk) (c:=z) (way:=uQ x) (aH 0x3820820824a10064ba240 Yt D.2) D.1 D.2 (by unfold uQ;exact Oa);rw[Y]at L;exact cz (dA<|bn (aB rfl) (lP (gg (bE (dC (ce rfl) (xF rfl) H) rfl)<|Et z) (bn (bn (aB rfl) aX<|Ay x (by decide)<|by decide) aX<|pk _<|by decide) L)<|mI<|by simp;exact Ob C) dj
   ·rw[fM (by exact aH 0x2786c026840 Yt A),av (by decide),av A];exact cz (dA<|bn (aB rfl) (gg (bE (dC (a:=.list<|JR.map N') (bE rfl rfl) (aB rfl)<|rz<|by show p<8;exact hp) rfl)<|uP G.2.2.2)<|mI<|by simp;exact Ob C) dj
 refine cz (g:=i6 v0 v1 v2 v3 v6 f s p (t++mJ f s p x) k (.val<|.int x) tl) ?_ ?_
 ·have a1:aS aA (aO wf<|kk+1) 39 (.cmp .lt (.bin .mod (.v 9)<|.ki 5)<|.ki 2) (i6 v0 v1 v2 v3 v6 f s p (t++rB f s p x) k (.val<|.int x) tl)=aa (decide (x%5<2)):=J3 (bn (aB rfl) aX<|pk x<|by decide);have a2:aS aA (aO wf<|kk+1) 39 (.cmp .eq (.bin .mod (.bin .fdiv (.v 9)<|.ki 1620)<|.ki 2)<|.ki 1) (i6 v0 v1 v2 v3 v6 f s p (t++rB f s p x) k (.val<|.int x) tl)=aa (decide (x/1620%2=1)):=Ex (bn (bn (aB rfl) aX<|Ay x (by decide)<|by decide) aX<|pk _<|by decide);have O:aS aA (aO wf<|kk+1) 40 (.bop ae [.cmp .lt (.bin .mod (.v 9)<|.ki 5)<|.ki 2,.cmp .eq (.bin .mod (.bin .fdiv (.v 9)<|.ki 1620)<|.ki 2)<|.ki 1]) (i6 v0 v1 v2 v3 v6 f s p (t++rB f s p x) k (.val<|.int x) tl)=aa (uR x):=by
   simp only[JV];simp only[Cs,Ct,a1,a2];unfold uR;cases decide (x%5<2)<;>cases decide (x/1620%2=1)<;>rfl
  refine j8 _ O ?_;unfold mJ;cases q:uR x with
  |true=>rw[ar rfl,ar rfl, <-mT];have h:((x/60%27).toNat :Int)=x/60%27:=gG 0x2d8b902d6996e2e40d636996e2e4074114a28208208914a08974114a2452822578da65b8b902cb236996e2e40 Yt;have u:=Qim (Wf:=wf) (k:=kk) (p:=(x/60%27).toNat) (fT 0xb62e40b5a65b8b900508228208208228939a66c8da65b8b90178da65b8b902cb236996e2e40 Yt h);rw[h]at u;exact cz (dA (bn (aB rfl) (nR (bn (bn (aB rfl) aX (Ay x (by decide) (by decide))) aX (pk _ (by decide))) u) (mI (by simp;exact bS 0x6e9a49a0990c02060aae89206640 Yt C B)))) dj
  |false=>rw[av (by decide),av (by decide),py];exact dj
 ·have j:ai aA (aO wf<|kk+1) 40 (.ite (.cmp .eq (.bin .mod (.v 9)<|.ki 5)<|.ki 4) (.lst [.ki 2,.ki 3])<|.lst [.bin .mod (.v 9)<|.ki 5]) (i6 v0 v1 v2 v3 v6 f s p (t++mJ f s p x) k (.val<|.int x) tl)=aa (.list<|(kQ x).map N'):=by
   refine AA (decide (((r5 x:Nat):Int)=4)) (Ex<|xF rfl) ?_;unfold kQ;by_cases q:r5 x=4
   ·rw[df (by exact pO 0x1d0452822452820895e1b005a1036840 Yt q q),ar rfl,ar q];rfl
   ·rw[fM (by exact aH 0x75114a24528227f86c03e840 Yt q),av (by decide),av q];exact xE<|xF rfl
  refine cz (UR rfl j ?_) ?_
  ·have:=(J2 x).2;simp only[b8];exact bS 0x1828926826430081b1206440 Yt M this
  ·rw[dj, <-jD];rfl
theorem Qis(hf:f<48)(hs:s<48)(hp:p<8):∀(xs:List Int)(t k:List Nat)(A:FV),t.length<=4*k.length->k.length<=8->∃C,gc (λf=>bt aA (aO wf<|kk+1) wf (fu+12) CF f) (gf [9] ac) (xs.map .int) (i6 v0 v1 v2 v3 v6 f s p t k A tl)=aa (.next,i6 v0 v1 v2 v3 v6 f s p (lS f s p xs t k).1 (lS f s p xs t k).2 C tl):=by
 intro D;induction D with
 |nil=>intro t k A _ _;exact⟨A,rfl⟩
 |cons x xs H=>
  intro t k A B L;have bd:gf [9] ac (.int x) (i6 v0 v1 v2 v3 v6 f s p t k A tl)=aa (i6 v0 v1 v2 v3 v6 f s p t k (.val<|.int x) tl):=rfl;rw[dF,r6];refine af bd ?_;by_cases q:6<k.length
  ·have st:=Qiq (fu:=fu+7) v0 v1 v2 v3 v6 tl (f:=f) (s:=s) (p:=p) (t:=t) (k:=k) (O:=aO wf<|kk+1) (Wf:=wf) q<|.val<|.int x;simp only[st];rw[AC,ar q];exact⟨_,rfl⟩
  ·rw[AC,av q];have k2:=J2 x;have G:=UP (p:=p) (x:=x) hf hs;have st:=Qir (wf:=wf) (kk:=kk) (fu:=fu) (x:=x) hf hs hp v0 v1 v2 v3 v6 tl (t:=t) (bS 0x14a2a1182aba248193021226031 Yt B q)<|aH 0x1b1026031 Yt q;simp only[st];exact H _ _ _ (by rw[cw,cw];exact Oc B k2.1 G) (by rw[cw];exact bS 0x182243008988c46440 Yt q k2.2)
end
end
section
noncomputable def L1:List Nat:=(bv 48).filter λk=> !(k==16)
noncomputable def L2(f:Nat):List Nat:=(bv 48).filter λk=> !(k==16||k==f)
noncomputable def ka(xs:List Int):Int:=xs.sum+671
def kc(xs:List Int):Nat:=L1.getD (ka xs%47).toNat 0
def mK(xs:List Int):Nat:=(L2 (kc xs)).getD (ka xs/47%46).toNat 0
def gO(xs:List Int):Nat:=(ka xs/2162%8).toNat
noncomputable def sP(xs:List Int):List Int:=xs.take 7++[0,4,60,7,125,1].drop xs.length
def lT(xs:List Int):List Nat×List Nat:=lS (kc xs) (mK xs) (gO xs) (sP xs) [] []
theorem US:L1.length=47:=by decide
theorem Qit:L1.all (λf=>decide (f<48)&& !(f==16)&&decide ((L2 f).length =46))=ac:=by decide
theorem Ey{l:List Nat}(h:i<l.length):l.getD i 0∈l:=by rw[yj,ee h];exact Wt h
theorem Ez(xs:List Int):kc xs<48/\kc xs≠16/\(L2<|kc xs).length =46:=by have:=du.mp Qit (kc xs) (Ey<|by rw[US];exact gG 0xb7aa40d63ea900528208208224528208208a0893baa6c8faa40 Yt);simp only[bo,bH,oh,beq_eq_false_iff_ne]at this;exact⟨this.1.1,this.1.2,this.2⟩
theorem J4(xs:List Int):mK xs<48/\mK xs≠16/\mK xs≠kc xs:=by have h:mK xs∈L2 (kc xs):=Ey (by rw[(Ez xs).2.2];exact gG 0x2dea902dca96faa40d63ca96faa4014a08208208208208914a08208228208208224eca9b23ca96faa40 Yt);generalize mK xs=z at h;unfold L2 at h;rw[pv,eY]at h;simp only[oh,Bool.or_eq_false_iff,beq_eq_false_iff_ne]at h;exact⟨h.1,h.2.1,h.2.2⟩
theorem J5(xs:List Int):gO xs<8:=by unfold gO;exact gG 0x2d4b22a102d0896d2c8a840d630896d2c8a84014a08208208208208914a08208228208208224e089b230896d2c8a840 Yt
theorem J6:aO Wf (k+1) 17 []=aa (.list<|j7.map S'):=by rw[fG QhG rfl];refine Ret.evF ?_ rfl;show Ret aA _ _ 200 P0.body _ _;have w:=Uv (x:=Uy) (y:=[32]) (by decide) (by decide);rw[Qh3]at w;exact Ret.retE (by simp only[kC,wz,cO,cQ,b7];exact w)
theorem UT{a:Nat}(h:a<48):idx2 (.list<|j7.map S') (.int (a:Int))=aa (S'<|di a):=Eo (by have:a<j7.length:=h;simp only[fW,ee this];unfold di;simp only[yj,ee this];rfl)
theorem Qiu(a b:Nat):gR .list [S' [a,b]]=aa (.list [S' [a],S' [b]]):=rfl
theorem UU(h:p<8):sN.getD p []=[c2 p,c3 p]:=by
 have:(bv 8).all (λp=>sN.getD p []==[c2 p,c3 p])=ac:=by decide
 exact eq_of_beq<|du.mp this p<|eY.mpr h
theorem Qiv{p:Nat}(h:p<8):idx2 (.list<|sN.map S') (.int (p:Int))=aa (S' [c2 p,c3 p]):=Eo (by have l:p<sN.length:=h;have e:=UU h;rw[yj,ee l]at e;simp only[fW,ee l];exact congrArg (λz=>aa<|S' z) e)
theorem nV{m:Nat}{i:Int}(B:i=m)(A:m<=100000){T O n}:cC T O (n+2) (.rng [.ki i]) f=aa ((bv m).map N'):=by subst B;exact UI A aX
theorem Qiw{T O n}{k:Nat}{i:Int}(h:f[1]?=aa (.val<|N' k)):aS T O (n+4) (.cmp .ne (.v 1)<|.ki i) f=aa (!decide ((k:Int)=i)):=by
 refine dS (aB h) (bE aX rfl) ?_;show(wv (N' k)<|.int i).map (!·)=_;have:wv (N' k) (.int i)=aa (decide ((k:Int)=i)):=by show aa (_==_)=_;exact congrArg aa<|Bool.beq_eq_decide_eq _ _
 rw[this];rfl
theorem Qix(k a b:Nat):cY .notin (N' k) (.tuple [.int (a:Int),.int (b:Int)])=aa (!(k==a||k==b)):=by
 show(if(eL (N' k)&&[bQ (a:Int),.int (b:Int)].all eL)=ac then aa ([bQ (a:Int),.int (b:Int)].any λy=>gJ y<|N' k)else ab).map _=_;refine(congrArg (EZ (!·))<|ar<|by rfl).trans ?_;refine congrArg aa (congrArg (!·) ?_);simp only[List.any_cons,List.any_nil,gJ,AN,WT];have ci:∀(c:Nat),((c:Int)==fO k)=(k==c):=λc=>by rw[iu];simp only[bJ];exact ci c k
 rw[ci,ci]
theorem Qiy{xs:List Int}{wf kk:Nat}(T:xs.length<=63):aO wf (kk+2) 14 [.list<|xs.map .int]=aa (.tuple [S' (lT xs).1,.list<|(lT xs).2.map N',.list<|i5 (kc xs) (mK xs)<|gO xs,.list<|io (kc xs) (mK xs)<|gO xs]):=by
 rw[fG QhD rfl];unfold lT;refine fx (Ez xs) λH _ D=>?_;refine fx (J4 xs) λhs _ _=>?_;have G:=J5 xs;have j:idx2 (.list<|L1.map N') (.int<|ka xs%47)=aa (N'<|kc xs):=by have e:ka xs%47=((ka xs%47).toNat :Int):=gG 0x2dea90358faa4074114a08914a28208208974114a08914a257b2c8faa408faa40 Yt;rw[e];exact rz (by rw[US];exact fT 0xb7aa4014208a08a24eea9b23ea9037b2c8faa408faa40 Yt e)
 have U:idx2 (.list<|(L2<|kc xs).map N') (.int<|ka xs/47%46)=aa (N'<|mK xs):=by have e:ka xs/47%46=((ka xs/47%46).toNat :Int):=gG 0x2dea902dca96faa40d63ca96faa4074114a08914a28208208974114a08914a257b2c8f2a5bea9023ca96faa40 Yt;rw[e];exact rz (by rw[D];exact fT 0xb7aa40b72a5bea90050822820820822893b2a6c8f2a5bea9037b2c8f2a5bea9023ca96faa40 Yt e)
 have Y:ka xs/2162%8=((gO xs:Nat):Int):=by unfold gO;exact gG 0x2d4b22a102d0896d2c8a840d630896d2c8a84074114a08914a28208208974114a08914a257b2c8c225b4b22a10230896d2c8a840 Yt
 refine Ret.evF ?_ rfl;show Ret aA _ _ 200 PX.body [.val<|.list<|xs.map .int,.un,.un,.un,.un,.un,.un,.un,.un,.un,.un,.un,.un,.un,.un,.un,.un,.un,.un] _;have O:gR .sum [.list<|xs.map .int]=aa (.int xs.sum):=by show(fU<|xs.map .int).map _=_;rw[Ap];rfl
 refine Ret.next (dA (d:=.int<|ka xs)<|bn (gg (ce rfl) O) aX<|mG _ _) ?_;refine Ret.next (dA (d:=N'<|kc xs)<|dC (bE (AB (g:=N') (h:=N') (c:=λk=> !(k==16)) (xs:=bv 48) (nV rfl (by decide)) (by decide) ?_ ?_) rfl) (bn (aB rfl) aX<|pk _<|by decide) j) ?_
 ·intro k _;rw[Qiw (k:=k) rfl];refine congrArg aa (congrArg (!·) ?_);rw[iu];simp only[bH,bJ];exact EW (n:=16)
 ·intro k _ _;exact aB rfl
 generalize kc xs=f at*;refine Ret.next (dA (d:=N'<|mK xs)<|dC (bE (AB (g:=N') (h:=N') (c:=λk=> !(k==16||k==f)) (xs:=bv 48) (nV rfl (by decide)) (by decide) ?_ ?_) rfl) (bn (bn (aB rfl) aX<|Ay _ (by decide)<|by decide) aX<|pk _<|by decide) U) ?_
 ·intro k _;exact dS (aB rfl) (bE (j9 aX<|aB rfl) rfl)<|Qix k 16 f
 ·intro k _ _;exact aB rfl
 generalize mK xs=s at*;refine Ret.next (dA (d:=.int (gO xs:Int))<|bn (bn (aB rfl) aX<|Ay _ (by decide)<|by decide) aX<|by rw[pk _ (by decide),Y]) ?_;have B:∀(A:List FV),ai aA (aO wf<|kk+1) 40 (.bin .add (.lst [.idx (.call 17 [])<|.v 2,.idx (.call 17 [])<|.v 3])<|.bi .list [.idx (.lst [.ks [102,105],.ks [102,108],.ks [115,116],.ks [107,109],.ks [104,112],.ks [114,115],.ks [110,111],.ks [116,109]])<|.v 4]) (.val (.list<|xs.map .int)::.val (.int<|ka xs)::.val (N' f)::.val (N' s)::.val (.int (gO xs:Int))::A)=aa (.list<|i5 f s<|gO xs):=λA=>by have M:ai aA (aO wf<|kk+1) 38 (.idx (.call 17 [])<|.v 2) (.val (.list<|xs.map .int)::.val (.int<|ka xs)::.val (N' f)::.val (N' s)::.val (.int (gO xs:Int))::A)=aa (S'<|di f):=dC (bE (JY J6) rfl) (aB rfl)<|UT H;have L:ai aA (aO wf<|kk+1) 38 (.idx (.call 17 [])<|.v 3) (.val (.list<|xs.map .int)::.val (.int<|ka xs)::.val (N' f)::.val (N' s)::.val (.int (gO xs:Int))::A)=aa (S'<|di s):=dC (bE (JY J6) rfl) (aB rfl)<|UT hs;refine bn (a:=.list [S'<|di f,S'<|di s]) (b:=.list [S' [c2<|gO xs],S' [c3<|gO xs]]) ?_ (gg (bE (dC (a:=.list<|sN.map S') (bE rfl rfl) (aB rfl)<|Qiv G) rfl)<|Qiu _ _) (sO<|by simp);rw[Cw];simp only[cO,cQ,M,L,b7]
 refine Ret.next (dA<|B _) ?_;have C:∀(A:List FV),ai aA (aO wf<|kk+1) 40 Pw (.val (.list<|xs.map .int)::.val (.int<|ka xs)::.val (N' f)::.val (N' s)::.val (.int (gO xs:Int))::.val (.list<|i5 f s<|gO xs)::A)=aa (.list<|io f s<|gO xs):=λA=>by generalize gO xs=p;rfl
 refine Ret.next (dA<|C _) ?_;refine Ret.next (dA uO) ?_;refine Ret.next (rfl) ?_;refine aF (Qis (wf:=wf) (kk:=kk) (fu:=178) (.val<|.list<|xs.map .int) (.val<|.int<|ka xs) (.val<|N' f) (.val<|N' s) (.val<|.list<|io f s<|gO xs) [.un,.un,.un,.un,.un,.un,.un,.un,.un] H hs G (sP xs) [] [] .un (by simp)<|by simp) λz Q=>?_;refine Ret.next (iK (g7 (d:=.list<|(sP xs).map .int) (bn (qi (aB rfl) qk aX<|Ep (k:=7)<|by decide) (qi (a:=.list<|[0,4,60,7,125,1].map .int) (rfl) (uN rfl) qk<|UC<|by rw[b8];exact aH 0x608228a8b26401bae40 Yt T)<|sO (by simp;exact cN 0x15031340e4508228228a08914208a08228224d03914208a08208a2450822820822891828926826432c0c74039 Yt)|>.trans ?_) rfl rfl) Q) ?_
 ·unfold sP;rw[b8,jD,List.map_take,List.map_drop]
 refine Ret.next (rfl) ?_;exact Ret.retE<|rfl
end
section
def eJ(r:List Nat):Nat:=if(eM.lookup (r.take 3)).isSome then 3 else if(eM.lookup (r.take 2)).isSome then 2 else 1
def UV(r t o:List Nat):Prop:=t=r.take (eJ r)/\o.length<=10/\((∃v:Nat,eM.lookup t=aa (v:Int)/\o=[v])\/(eM.lookup t=ab/\∃z,t=[z]/\((qf.contains (z:Int)=ac/\o=[])\/(qf.contains (z:Int)=ae/\∃l,En z=l/\o=l.map λs=>159+s))))
inductive Chain:List Nat->List Nat->Prop
 |nil:Chain [] []
 |cons {t r o os:List Nat}:UV (t++r) t o->t≠[]->Chain r os->Chain (t++r) (o++os)
theorem Qiz{text r:List Nat}{at_ s:Nat}(h:text.drop at_=r):fk text (aa (at_:Int)) (aa<|(at_:Int)+s)=r.take s:=by
 unfold fk lh;simp only;rw[av<|show¬((at_:Int)<0)from qQ,av<|show¬((at_:Int)+s<0)from ig 0x27043b08b00 Yt];refine bT h ?_;refine Wy λi=>?_;simp only[V3,Lk,Lk,V3];by_cases q:at_<=text.length
 ·rw[show min text.length (max 0 (at_:Int)).toNat =at_ from yV q];by_cases z:i<s
  ·rw[ar z];by_cases y:at_+i<text.length
   ·rw[ar<|by exact iB 0xf43b18b00045082082282275ec3b18b0004508a08a08208224db3b0ec62c00140508208a08228208a08208a24508208a08208208208208a0893b4b3b0ec62c00140320039820e403200 Yt z y]
   ·rw[WX<|by exact fS 0x183200426403200 Yt y];split<;>rfl
  ·rw[av z,av<|by exact nk 0xf43b08b10075ec3b08b1004db3b0ec22c40160508228208a08208208224508228228a08208208224db3b0ec22c40160508228208a08228208208914208a08a28208a082082275ec3b08b1004db3b0ec22c40160508228208a08208208224508228228a08208208224db3b0ec22c40160508228208a08228208208a24508228228a08228208208a266d2cec3b08b100580c0426200 Yt z]
 ·rw[WX<|show text.length<=at_+i from fS 0x18340021e200 Yt q,WX<|show text.length<=min text.length (max 0 (at_:Int)).toNat +i from fS 0x3db00045082082282275eec00114228228208208936ceec00120508208228228208a08208224508208a082082082082089183434b3bb0004821e200 Yt q];split<;>split<;>rfl
theorem QiA{text r:List Nat}{at_ s:Nat}(h:text.drop at_=r)(A:at_<=1000)(B:s<=3):iG (S' text) (.int (at_:Int)) (.int<|(at_:Int)+s)=aa (S'<|r.take s):=by have e:=slS (a:=text) (l:=at_) (h:=(at_:Int)+s) (by exact⟨N7,aH 0x3c20820820820820820820820820820a1b00182aba240 Yt A⟩) (by exact⟨ig 0x3c3b08b00f020820820820820820820820820820a1 Yt,bS 0x3c20820820820820820820820820820a10ec02c2060aae89206640 Yt A B⟩);rw[Qiz h]at e;exact e
theorem UW{n:Nat}{text r:List Nat}{at_ s:Nat}(h:text.drop at_=r)(D:at_<=1000)(C:s<=3)(A:FV)(B:List FV):ai aA O (n+3) CD (.val (S' text)::A::.val (.int (at_:Int))::.val (.int (s:Int))::B)=aa (S'<|r.take s):=by have G:bP .add (.int (at_:Int)) (.int (s:Int))=aa (.int<|(at_:Int)+s):=rfl;have c2:=QiA h D C;exact qi (aB rfl) (aB rfl) (bn (aB rfl) (aB rfl) G) c2
theorem UX(h:ai aA O n e f=aa (S' t)):aS aA O (n+2) (.gIn .tok neg e) f=aa ((eM.lookup t).isSome !=neg):=by rw[H6 rfl,HD];refine af h ?_;rfl
theorem QiB{text:List Nat}{at_ s:Nat}(A:FV)(B:List FV):aS aA O 39 (.cmp .gt (.v 3)<|.ki 1) (.val (S' text)::A::.val (.int (at_:Int))::.val (.int (s:Int))::B)=aa (decide (1<s)):=dS (aB rfl) (bE aX rfl) (by
  by_cases q:1<s
  ·rw[uL<|by exact aH 0xfb0024e009 Yt q];exact af (df q) rfl
  ·rw[xu (by exact aH 0x27b00266009 Yt q)];exact af (fM q) rfl)
theorem QiC{text r:List Nat}{at_ s:Nat}(h:text.drop at_=r)(D:at_<=1000)(C:s<=3)(A:FV)(B:List FV):aS aA O 39 (.gIn .tok ac CD) (.val (S' text)::A::.val (.int (at_:Int))::.val (.int (s:Int))::B)=aa ((eM.lookup<|r.take s).isSome !=ac):=UX (neg:=ac)<|UW (O:=O) (n:=34) h D C A B
theorem QiD(s:Nat)(q:Bool):(decide (1<s)&&(q !=ac))=decide (1<s/\q=ae):=by by_cases h:1<s<;>cases q<;>simp[h]
theorem J7{text r:List Nat}{at_ s:Nat}(h:text.drop at_=r)(D:at_<=1000)(C:s<=3)(A:FV)(B:List FV):aS aA O 40 CG (.val (S' text)::A::.val (.int (at_:Int))::.val (.int (s:Int))::B)=aa (decide (1<s/\(eM.lookup<|r.take s).isSome =ae)):=(Es (QiB A B)<|QiC h D C A B).trans<|congrArg aa<|QiD s _
theorem UY(A:FV)(B:List FV)(s:Nat)(hs:1<=s):bt aA O Wf (fu+3) [.asg 3<|.bin .sub (.v 3)<|.ki 1] (.val (S' text)::A::.val (.int (at_:Int))::.val (.int (s:Int))::B)=aa (.next,.val (S' text)::A::.val (.int (at_:Int))::.val (.int ((s-1:Nat):Int))::B):=cz (dA<|bn (aB rfl) aX<|rA (b:=1) hs) dj
theorem QiE{text r:List Nat}(h:text.drop at_=r)(G:at_<=1000)(A:FV)(B:List FV): gT (λf=>aS aA O 40 CG f) (λf=>bt aA O Wf (fu+3) [.asg 3<|.bin .sub (.v 3)<|.ki 1] f) (W+3) (.val (S' text)::A::.val (.int (at_:Int))::.val (.int ((3:Nat):Int))::B)=aa (.next,.val (S' text)::A::.val (.int (at_:Int))::.val (.int ((eJ r:Nat):Int))::B):=by
 have C:=J7 (O:=O) (s:=3) h G (by decide) A B;have D:=J7 (O:=O) (s:=2) h G (by decide) A B;have H:=J7 (O:=O) (s:=1) h G (by decide) A B;have L:=UY (O:=O) (Wf:=Wf) (fu:=fu) (text:=text) (at_:=at_) A B 3 (by decide);have M:=UY (O:=O) (Wf:=Wf) (fu:=fu) (text:=text) (at_:=at_) A B 2 (by decide);unfold eJ;generalize (eM.lookup<|r.take 3).isSome =Q at C⊢;generalize (eM.lookup<|r.take 2).isSome =T at D⊢;generalize (eM.lookup<|r.take 1).isSome =U at H;cases Q
 ·refine Er C L ?_;cases T
  ·exact Er D M<|Ax<|H.trans rfl
  ·exact Ax D
 ·exact Ax C
theorem QiF(h:f[i]?=aa (.val<|S' t)):aS aA O (n+3) (.gIn .tok ae<|.v i) f=aa ((eM.lookup t).isSome):=by rw[UX<|aB h];generalize (eM.lookup t).isSome =q;cases q<;>rfl
abbrev UZ:List MS:=[.asg 3 (.ki 3),.whl CG [.asg 3 (.bin .sub (.v 3) (.ki 1))],.asg 4 CD,.ife (.gIn .tok ae (.v 4)) [.app 1 (.gGet .tok (.v 4))] [.ife (.cmp .isnt (.call 7 [.v 4]) (.kb ac)) [.ext 1 (.comp [ab,ab,ab] 1 (.bin .add (.ki 159) (.bi .ord [.v 1])) (.bin .add (.ks []) (.call 8 [.v 4])) [])] []],.asg 2 HN]
abbrev iM(text acc:List Nat)(at_:Nat)(v3 v4:FV):Frm:=[.val (S' text),.own (acc.map N'),.val (.int (at_:Int)),v3,v4,.un,.un,.un,.un]
theorem QiG{text r t o acc:List Nat}(h:text.drop at_=r)(L:at_<=1000)(S:UV r t o)(H:acc.length<=50000)(U D:FV): ∃T Q,bt aA (aO (wf+3)<|kk+1) (wf+3) (fu+14) UZ (iM text acc at_ U D)=aa (.next,iM text (acc++o) (at_+t.length) T Q):=by
 refine aE λM=>?_;obtain⟨s1,A,Y⟩:=S;apply M;clear M;have G:eJ r<=3:=by unfold eJ;split<;>(try split)<;>(first|exact iV 0x6659 Yt|exact iV 0x6651 Yt|exact iV 0x6649 Yt)
 refine⟨.val<|.int ((eJ r:Nat):Int),.val<|S' t,?_⟩;refine cz (g:=iM text acc at_ (.val<|.int 3) D) (dA aX) ?_;refine cz (g:=iM text acc at_ (.val<|.int ((eJ r:Nat):Int)) D) (JU<|QiE (fu:=fu+8) (W:=wf) h L _ _) ?_;refine cz (g:=iM text acc at_ (.val<|.int ((eJ r:Nat):Int))<|.val<|S' t) (dA<|(UW h L G _ _).trans<|by exact bT s1 rfl) ?_;have B:bt aA (aO (wf+3)<|kk+1) (wf+3) (fu+10) [.asg 2 HN] (iM text (acc++o) at_ (.val<|.int ((eJ r:Nat):Int))<|.val<|S' t)=aa (.next,iM text (acc++o) (at_+t.length) (.val<|.int ((eJ r:Nat):Int))<|.val<|S' t):=by have j:ai aA (aO (wf+3)<|kk+1) 39 (.bi .len [.v 4]) (iM text (acc++o) at_ (.val<|.int ((eJ r:Nat):Int))<|.val<|S' t)=aa (.int (t.length:Nat)):=gg (ce rfl)<|xv t;exact cz (dA<|bn (aB rfl) j (c:=aa<|.int ((at_+t.length:Nat):Int)) rfl) dj
 refine cz (g:=iM text (acc++o) at_ (.val<|.int ((eJ r:Nat):Int))<|.val<|S' t) ?_ B;have tk:=QiF (O:=aO (wf+3)<|kk+1) (n:=37) (i:=4) (f:=iM text acc at_ (.val<|.int ((eJ r:Nat):Int))<|.val<|S' t) (t:=t) rfl;clear B;rcases Y with⟨v,C,rfl⟩|⟨C,z,rfl,q⟩
 ·rw[C]at tk;refine j8 ac tk ?_;rw[ar rfl];have y:ai aA (aO (wf+3)<|kk+1) 40 (.gGet .tok<|.v 4) (iM text acc at_ (.val<|.int ((eJ r:Nat):Int))<|.val<|S' t)=aa (N' v):=by
   rw[Pc,aB (d:=S' t) rfl];show(eM.lookup t).map bQ=_;refine af C ?_;rfl
  refine cz (Qib (xs:=acc.map N') rfl y (by rw[b8];exact aH 0x3828926826401824aa2a2240 Yt H)) ?_;rw[dj];have e:acc.map N'++[N' v]=(acc++[v]).map N':=by simp only[jD];rfl
  refine af e ?_;rfl
 ·rw[C]at tk;refine j8 ae tk ?_;rw[av<|by decide];rcases q with⟨b1,rfl⟩|⟨b1,l,u,rfl⟩
  ·have t:aS aA (aO (wf+3)<|kk+1) 40 (.cmp .isnt (.call 7 [.v 4])<|.kb ac) (iM text acc at_ (.val<|.int ((eJ r:Nat):Int))<|.val<|S' [z])=aa ae:=dS (b:=.bool ac) (nR (aB rfl)<|(UJ z).trans<|by exact af b1 rfl) (bE (by rw[Cy]) rfl) rfl;refine cz (j8 ae t ?_) dj;rw[av (by decide),py];exact dj
  ·have t:aS aA (aO (wf+3)<|kk+1) 40 (.cmp .isnt (.call 7 [.v 4])<|.kb ac) (iM text acc at_ (.val<|.int ((eJ r:Nat):Int))<|.val<|S' [z])=aa ac:=dS (b:=.bool ac) (nR (aB rfl)<|(UJ z).trans<|by exact af b1 rfl) (bE (by rw[Cy]) rfl) rfl;rw[b8]at A;refine cz (j8 ac t ?_) dj;rw[ar rfl];have k:ai aA (aO (wf+3)<|kk+1) 40 (.comp [ab,ab,ab] 1 (.bin .add (.ki 159)<|.bi .ord [.v 1]) (.bin .add (.ks [])<|.call 8 [.v 4]) []) (iM text acc at_ (.val<|.int ((eJ r:Nat):Int))<|.val<|S' [z])=aa (.list<|l.map λs=>N'<|159+s):=by
    refine lR (g:=λs=>S' [s]) (g7 (d:=S' l) (bn (a:=S' []) uO (nR (aB rfl)<|Qil u<|wg A)<|mI<|by simp;exact wg A) rfl rfl) (fV A<|by decide) ?_;intro s _;refine bn aX (gg (ce (d:=S' [s]) rfl)<|Et s)<|(mG _ _).trans ?_;refine congrArg (λz=>aa<|bQ z) ?_;show(159:Int)+(s:Int)=((159+s:Nat):Int);exact cN 0x1d045245257b0303a6910ec03a691 Yt
   refine cz (g:=iM text (acc++l.map λs=>159+s) at_ (.val<|.int ((eJ r:Nat):Int))<|.val<|S' [z]) ?_ dj;rw[HI];refine af k ?_;show(if(acc.map N').length +(l.map λs=>N'<|159+s).length <=100000 then _ else _)=_;rw[ar<|by rw[b8,b8];exact bS 0x1828926826430081824aa2a2248192240 Yt H A];have e:acc.map N'++(l.map λs=>N'<|159+s)=(acc++l.map λs=>159+s).map N':=by rw[jD,fg];rfl
   refine af e ?_;rfl
set_option tactic.hygienic true in
theorem QiH:∀{r os:List Nat},Chain r os->∀(W at_:Nat)(acc:List Nat)(D B:FV),text.drop at_=r->at_+r.length=text.length->text.length<=1000->r.length<W->acc.length+10*r.length<=40000->∃x2 O M,gT (λf=>aS aA (aO (wf+3)<|kk+1) 40 CE f) (λf=>bt aA (aO (wf+3)<|kk+1) (wf+3) (fu+14) UZ f) W (iM text acc at_ D B)=aa (.next,iM text (acc++os) x2 O M):=by
 intro r os C;induction C with
 |nil=>intro W at_ acc D B h A Q L H;obtain⟨W,rfl⟩:∃k,W=k+1:=⟨W-1,bD 0x54921d04528224528a08225d04528914a08958324b24820e200 Yt L⟩;have t:aS aA (aO (wf+3) (kk+1)) 40 CE (iM text acc at_ D B)=aa ae:=dS (aB rfl) (bE (gg (ce rfl) (xv text)) rfl) (Av (by simp at A;exact bD 0x9ec22c036200 Yt A));refine⟨at_,D,B,?_⟩;rw[py];exact Ax t
 |cons S v C y=>
  rename_i t r o os;intro W at_ acc D B h A Q L H;refine aE λT=>?_;have G:1<=t.length:=by cases t with
   |nil=>exact absurd rfl v
   |cons _ _=>simp
  have q:o.length<=10:=S.2.1;rw[cw]at A L H;obtain⟨W,rfl⟩:∃k,W=k+1:=⟨W-1,fN 0x1525014228228974114a2452822560c92c94103900c8006009 Yt L G⟩;have z:aS aA (aO (wf+3)<|kk+1) 40 CE (iM text acc at_ D B)=aa ac:=dS (aB rfl) (bE (gg (ce rfl)<|xv text) rfl)<|Au<|iB 0xfb18b085980c3400206009 Yt A G;refine kw (QiG (wf:=wf) (kk:=kk) (fu:=fu) h (iB 0x60aae892160030d8408182aba240 Yt A Q) S (acc:=acc) (fS 0x6092a8a8890060822b22890d30d0212240 Yt H) D B) λO M st=>?_;refine y6 (y W (at_+t.length) (acc++o) O M (by rw[<-AU,h,List.drop_left]) (iB 0x74114a08914a0822566034032005980c34080366030d0200 Yt A A) Q (fN 0xe40818024e0c9403200 Yt G L) (by clear h;rw[cw];have G:=l7 10 G;rw[to]at H;exact jO 0x18208ac8a2434d84890c84060822b22890c34d84894c04894064892064c04894c9489 Yt H q G)) λj Y U e=>?_;apply T;clear T;refine(Oy j Y U ?_);rw[<-mT];exact Er z st e
theorem J8{text os:List Nat}(C:Chain text os)(A:text.length<=60)(G:60<=wf):aO (wf+3) (kk+2) 15 [S' text]=aa (.list<|os.map N'):=by rw[fG QhE rfl];refine aE λB=>?_;refine y6 (QiH (wf:=wf) (kk:=kk) (fu:=182) (text:=text) C (wf+3) 0 [] .un .un rfl (GD) (aH 0x182aba2401a2e40 Yt A) (bS 0xe0d90081a2e481808b9 Yt A G) (by simp;exact fV (l7 10 A)<|by decide)) λx2 L H D=>?_;apply B;clear B;refine Ret.evF ?_ rfl;show Ret aA _ _ 200 PY.body [.val<|S' text,.un,.un,.un,.un,.un,.un,.un,.un] _;refine Ret.next (rfl) ?_;refine Ret.next (dA aX) ?_;refine Ret.next (JU D) ?_;refine Ret.next (rfl) ?_;exact Ret.retE<|aB rfl
end
section
theorem sQ(h:z∈t)(hz:ph z=ae):eM.lookup t=ab:=by
 cases e:eM.lookup t with
 |none=>rfl
 |some v=>
  refine eE (QlO.mp e) λB A q _=>?_;have m:(t,v)∈eM:=by refine af q ?_;simp
  have:=du.mp (du.mp Qh4 _ m) z h;rw[hz]at this;injection this
theorem U0(hz:ph z=ae):eJ ([z]++r)=1:=by unfold eJ;rw[sQ (by simp) hz,sQ (by simp) hz];rfl
theorem U1{r os:List Nat}(A:k<27)(C:Chain r os):Chain ([pj k]++r) os:=by have q:=du.mp JQ k<|eY.mpr A;simp only[bo,oh,bH]at q;refine Chain.cons ⟨?_,by simp,.inr ⟨sQ (by simp) q.1.1,pj k,rfl,.inl ⟨q.1.2,rfl⟩⟩⟩ (by simp) C;rw[U0 q.1.1];rfl
theorem AE{l r os:List Nat}(h:ry z l=ac)(A:l.length<=10)(C:Chain r os):Chain ([z]++r)<|l.map (λs=>159+s)++os:=by unfold ry at h;simp only[bo,oh,bH,bJ]at h;refine Chain.cons ⟨?_,by rw[b8];exact A,.inr ⟨sQ (by simp) h.1.1.1,z,rfl,.inr ⟨h.1.1.2,l,h.2,rfl⟩⟩⟩ (by simp) C;rw[U0 h.1.1.1];rfl
theorem U2{r os:List Nat}(L:a<48)(H:k<27)(C:Chain r os):Chain (di a++([pj k]++r))<|[7+a]++os:=by
 have q:=du.mp JQ k<|eY.mpr H;simp only[bo,oh,bH]at q;have w:=du.mp El a<|eY.mpr L;simp only[bo,bH,bJ,bne_iff_ne]at w;refine aG w λM G=>?_;obtain⟨B,A⟩:=M;have D:=q.1.1;refine Chain.cons ⟨?_,by simp,.inl<|br (7+a) B rfl⟩ (by intro e;rw[e]at A;exact A rfl)<|U1 H C;generalize di a=w at B A G;generalize pj k=u at D;unfold eJ;rcases G9 (QkJ A) G with⟨x,rfl⟩|⟨x,y,rfl⟩|⟨x,y,z,rfl⟩
 ·rw[sQ (by simp) D,sQ (by simp) D];rfl
 ·rw[sQ (by simp) D];refine af (show([x,y]++([u]++r)).take 2=[x,y]from rfl)<|af B ?_;rfl
 ·refine af (show([x,y,z]++([u]++r)).take 3=[x,y,z]from rfl)<|af B ?_;rfl
theorem xG(C:97<=c)(B:c<=122)(A:way<12):ry (Aw c way) [c]=ac:=by have:=du.mp (du.mp Qh6 (c-97)<|eY.mpr<|aH 0x152a224014a08914228a24e4992ca8890064ba240 Yt B) way<|eY.mpr A;rwa[show 97+(c-97)=c from aH 0x54a88901d04528a08224528225d0452822452895800cb2a22402a224600a889 Yt C]at this
theorem QiI{r os:List Nat}(Q:f<48)(hs:s<48)(G:p<8)(C:Chain r os):Chain (mJ f s p x++r)<|(kQ x).map (eH f s p)++os:=by
 have D:(x/60%27).toNat <27:=by exact gG 0x2d8b902d6996e2e40d636996e2e4014a08208208208208914a08208228208208224e699b236996e2e40 Yt
 have O:=UM x;have T:=UL x;have B:=uU G;unfold mJ rB kQ;by_cases q:r5 x<2
 ·rw[ar q,av (show¬r5 x=4 by exact aH 0x142289fa100e440 Yt q),show uR x=ac from by unfold uR;rw[df<|by exact pM 0x2da4014208208a2893d18e90378e902c00e440 Yt T q];rfl,ar rfl,mT];rcases y8 q with e|e<;>rw[e]
  ·exact U2 Q D C
  ·exact U2 hs D C
 ·rw[av q,mT];have H:Chain ((if uR x=ac then[UK x]else[])++r) os:=by
   split
   ·exact U1 D C
   ·exact C
  have M:uQ x<12:=by unfold uQ;exact Oa
  by_cases A:r5 x<4
  ·rw[ar A,av<|show¬r5 x=4 from aH 0x142289fa100e840 Yt A];rcases G8 q A with e|e<;>rw[e]
   ·exact AE (xG B.1.1 B.1.2 M) (by simp) H
   ·exact AE (xG B.2.1.1 B.2.1.2 M) (by simp) H
  ·rw[av A,ar<|show r5 x=4 from pO 0x74114a08914a0822568403a9026840 Yt O A];have L:=du.mp Qh5 p<|eY.mpr G;rw[UU G]at L;exact AE L (by simp) H
theorem QiJ(H:f<48)(hs:s<48)(G:p<8):∀(xs:List Int)(t k:List Nat),∃t' A,lS f s p xs t k=(t++t',k++A)/\Chain t' (A.map<|eH f s p):=by
 intro B;induction B with
 |nil=>intro t k;exact(jh ([]) ([]) (by rw[Qio,py,py]) Chain.nil)
 |cons x r D=>
  intro t k;rw[AC];by_cases q:k.length>6
  ·rw[ar q];exact(jh ([]) ([]) (by rw[py,py]) Chain.nil)
  ·rw[av q];refine eE (D (t++mJ f s p x)<|k++kQ x) λt' A e C=>?_;refine(jh (mJ f s p x++t') (kQ x++A) (by refine af e ?_;rw[mT,mT]) ?_);rw[jD];exact QiI H hs G C
theorem QiK(D:f<48)(hs:s<48):∀(xs:List Int)(t k:List Nat),t.length<=4*k.length->k.length<=8->(lS f s p xs t k).1.length <=4*(lS f s p xs t k).2.length /\(lS f s p xs t k).2.length <=8/\(6<(lS f s p xs t k).2.length \/k.length+xs.length<=(lS f s p xs t k).2.length):=by
 intro G;induction G with
 |nil=>intro t k A B;exact⟨A,B,.inr (eR _)⟩
 |cons x r H=>
  intro t k A B;rw[AC];by_cases q:k.length>6
  ·rw[ar q];exact⟨A,B,.inl q⟩
  ·rw[av q];have k2:=J2 x;have C:=UP (p:=p) (x:=x) D hs;have:=H (t++mJ f s p x) (k++kQ x) (by rw[cw,cw];exact Oc A k2.1 C) (by rw[cw];exact bS 0x182243008988c46440 Yt q k2.2);refine⟨this.1,this.2.1,this.2.2.imp id λh=>?_⟩;rw[cw]at h;rw[eK];exact iB 0x66030c9400188246603403200 Yt k2.1 h
theorem QiL:∀d∈kQ x,d<4:=by
 have:=UM x;unfold kQ;intro d h;split at h<;>rename_i q
 ·simp only[bF,jb,or_false]at h;rcases h with rfl|rfl<;>decide
 ·rw[eW]at h;rw[h];exact Nat.lt_of_le_of_ne (QkO this) q
theorem QiM:∀(xs:List Int)(t k:List Nat),(∀d∈k,d<4)->∀d∈(lS f s p xs t k).2,d<4:=by
 intro A;induction A with
 |nil=>intro t k h;exact h
 |cons x r B=>
  intro t k h;rw[AC];by_cases q:k.length>6
  ·rw[ar q];exact h
  ·rw[av q];refine B _ _ λd C=>?_;refine fI (eO.mp C) (λz=>?_) λz=>?_
   ·exact h d z
   ·exact QiL d z
theorem QiN(xs:List Int):Chain (lT xs).1 ((lT xs).2.map<|eH (kc xs) (mK xs)<|gO xs)/\(lT xs).1.length <=40/\(lT xs).2.length <=8/\6<=(lT xs).2.length /\∀d∈(lT xs).2,d<4:=by
 have A:=(Ez xs).1;have hs:=(J4 xs).1;have D:=J5 xs;refine eE (QiJ A hs D (sP xs) [] []) λt' G e C=>?_;have l:=QiK (p:=gO xs) A hs (sP xs) [] [] (by simp) (by simp);have B:6<=(sP xs).length :=by unfold sP;rw[cw,l6,fX];simp only[eK,kg];exact cN 0x5400c90c90c90c90c90c904d03914208228208a24508208a082089340e4508208a08a0891420822820822460cb003243243243243243241d00e71 Yt
 simp only[kg]at l;refine⟨?_,?_,?_,?_,?_⟩
 ·unfold lT;refine af e ?_;exact C
 ·unfold lT;exact bS 0x528a8460a92064c0848182240 Yt l.1 l.2.1
 ·exact l.2.1
 ·unfold lT;exact l.2.2.elim KN λh=>fV B (by rw[n9]at h;exact h)
 ·exact QiM _ _ _<|by simp
end
section
def mu(f s p k:Nat):Nat:=if k=0 then 307+f else if k=1 then 307+s else if k=2 then 10 else 459+c3 p
theorem QiO(H:f<48)(hs:s<48)(B:p<8)(C:s≠f)(G:a<4)(D:b<4)(h:mu f s p a=mu f s p b):a=b:=by have:=uU B;rcases d7 G with e|e|e|e<;>rcases d7 D with A|A|A|A<;>subst e<;>subst A<;>simp[mu]at h⊢ <;>omega
theorem AF(a:Nat):mu f s p a≠46:=by
 unfold mu;split
 ·exact cN 0x149fb2a4301aca1 Yt
 ·split
  ·exact cN 0x149fb2a4301aca1 Yt
  ·split<;>(first|exact iV 0x14227eca9489 Yt|exact cN 0x149fb2a4301a2b9 Yt)
theorem QiP(B:f<48)(hs:s<48)(A:p<8)(a:Nat):mu f s p a<1114112:=by
 have:=uU A;unfold mu;split
 ·exact Od B
 ·split
  ·exact Od hs
  ·split<;>(first|exact iV 0x3820820824a1489 Yt|exact aH 0x3820820824a10c068ae464ba240 Yt this.2.1.2)
noncomputable def mL(a:Nat)(k:List Nat):Nat:=if k.getLast?=aa a then 1 else 0
theorem EA(A:y<4)(q:Prop)[Decidable q]:(if q/\y=0 then 1 else 0)+(if q/\y=1 then 1 else 0)+(if q/\y=2 then 1 else 0)+(if q/\y=3 then 1 else 0)=if q then 1 else 0:=by
 by_cases h:q
 ·rcases d7 A with e|e|e|e<;>subst e<;>simp[h]
 ·simp[h]
theorem EB(a b c d e f g h:Nat):(a+e)+(b+f)+(c+g)+(d+h)=(a+b+c+d)+(e+f+g+h):=by exact N0 0x1d0452452560c3e03a036080f00e00d00030f8c030e88030d8403200 [_,_,_,_,_,_,_,_] Yt
theorem J9(H:a<4):∀k:List Nat,(∀d∈k,d<4)->aJ a 0 k+aJ a 1 k+aJ a 2 k+aJ a 3 k+mL a k=k.count a:=by
 intro D;induction D with
 |nil=>intro L;exact rfl
 |cons x C G=>
  cases C with
  |nil=>
   intro h;have st:∀b,aJ a b [x]=0:=λb=>by simp[pZ,gW]
   rw[st,st,st,st,QlP];simp[mL]
  |cons y r=>
   intro h;have A:=G λd B=>h d<|bB _ B;have e:mL a (x::y::r)=mL a (y::r):=by unfold mL;rw[QlQ]
   have st:∀b,aJ a b (x::y::r)=(if x=a/\y=b then 1 else 0)+aJ a b (y::r):=λb=>by rw[gW];simp
   rw[e,A6, <-A,st,st,st,st,EB,EA (h y<|by simp),WU,vx];simp only[bJ]
theorem QiQ(B:∀a b,a<4->b<4->m a=m b->a=b)(M:a<4)(L:b<4):∀k:List Nat,(∀d∈k,d<4)->aJ (m a) (m b) (k.map m)=aJ a b k:=by
 intro C;induction C with
 |nil=>intro _;exact rfl
 |cons x r A=>
  intro h;have G:=h x (by simp);have A:=A λd H=>h d<|bB _ H;rw[dF,gW,gW,A];refine congrArg (· +aJ a b r) ?_;have:(m x=m a/\(r.map m).head? =aa (m b))↔(x=a/\r.head?=aa b):=?_
  ·simp only[this]
  refine and_congr ⟨B x a G M,λe=>e▸rfl⟩ ?_;cases r with
  |nil=>simp
  |cons y r=>have D:=h y (by simp);simp only[dF,A7,vA];exact⟨B y b D L,λe=>e▸rfl⟩
theorem QiR{m:Nat->Nat}(D:∀a b,a<4->b<4->m a=m b->a=b)(H:a<4):∀k:List Nat,(∀d∈k,d<4)->(k.map m).count (m a)=k.count a:=by
 intro A;induction A with
 |nil=>intro _;exact rfl
 |cons x r B=>
  intro h;have C:=h x (by simp);rw[dF,A6,A6,B λd G=>h d<|bB _ G];congr 1;have:(m x==m a)=(x==a):=by rw[iu,bJ,bJ];exact⟨D x a C H,λe=>e▸rfl⟩
  rw[this]
theorem U3{m:Nat->Nat}(B:∀a b,a<4->b<4->m a=m b->a=b)(C:a<4)(k:List Nat)(h:∀d∈k,d<4):((k.map m).getLast? ==aa (m a))=(k.getLast?==aa a):=by
 rw[List.getLast?_map];cases e:k.getLast? with
 |none=>rfl
 |some x=>have A:=h x (LF e);rw[iu];simp only[b7,bJ,vA];exact⟨B x a A C,λe=>e▸rfl⟩
theorem QiS{m:Nat->Nat}(B:∀a b,a<4->b<4->m a=m b->a=b)(C:a<4)(k:List Nat)(h:∀d∈k,d<4):((k.map m).head? ==aa (m a))=(k.head?==aa a):=by
 cases k with
 |nil=>rfl
 |cons x r=>have A:=h x (by simp);rw[iu];simp only[dF,A7,bJ,vA];exact⟨B x a A C,λe=>e▸rfl⟩
theorem Ka(a b:Nat):∀k:List Nat,aJ a b k<=k.length:=by
 intro A;induction A with
 |nil=>exact eR _
 |cons x r B=>dsimp only[pZ,gW,eK];have:=B;split<;>(first|exact bD 0x1832480c0246200 Yt this|exact bD 0x1832480c0046200 Yt this)
end
section
noncomputable abbrev dT:=Nat->Nat->Nat
noncomputable def aZ(T:dT)(v b:Nat):dT:=λa c=>if a=v/\c=b then T a c-1 else T a c
noncomputable def aP(T:dT)(a:Nat):Nat:=T a 0+T a 1+T a 2+T a 3
noncomputable def ke(T:dT)(a:Nat):Nat:=T 0 a+T 1 a+T 2 a+T 3 a
def ip(T:dT):Nat:=aP T 0+aP T 1+aP T 2+aP T 3
def eA(T:dT)(a b:Nat):Int:=if aP T a=0 then(if a=b then 1 else 0)else(if a=b then(aP T a:Int)else 0)-T a b
noncomputable def fA(a b c d e f g h i:Int):Int:=a*(e*i-f*h)-b*(d*i-f*g)+c*(d*h-e*g)
def fB(T:dT)(x y z:Nat):Int:=fA (eA T x x) (eA T x y) (eA T x z) (eA T y x) (eA T y y) (eA T y z) (eA T z x) (eA T z y) (eA T z z)
def Dw(w:Nat)(T:dT):Int:=if w=0 then fB T 1 2 3 else if w=1 then fB T 0 2 3 else if w=2 then fB T 0 1 3 else fB T 0 1 2
noncomputable def fn:Nat->Nat
 |0=>1
 |n+1=>(n+1)*fn n
def gq(T:dT)(a:Nat):Nat:=fn (T a 0)*fn (T a 1)*fn (T a 2)*fn (T a 3)
def PT(T:dT):Nat:=gq T 0*gq T 1*gq T 2*gq T 3
def db(w:Nat)(T:dT)(a:Nat):Nat:=fn (if a=w then aP T a else aP T a-1)
def FP(w:Nat)(T:dT):Nat:=db w T 0*db w T 1*db w T 2*db w T 3
noncomputable def Rn:Nat->Nat->dT->Nat
 |0,_,_=>1
 |N+1,v,T=>(if 0<T v 0 then Rn N 0 (aZ T v 0)else 0)+(if 0<T v 1 then Rn N 1 (aZ T v 1)else 0)+(if 0<T v 2 then Rn N 2 (aZ T v 2)else 0)+(if 0<T v 3 then Rn N 3 (aZ T v 3)else 0)
theorem QiT:Rn 0 v T=1:=rfl
theorem Kb{N:Nat}:Rn (N+1) v T=(if 0<T v 0 then Rn N 0 (aZ T v 0)else 0)+(if 0<T v 1 then Rn N 1 (aZ T v 1)else 0)+(if 0<T v 2 then Rn N 2 (aZ T v 2)else 0)+(if 0<T v 3 then Rn N 3 (aZ T v 3)else 0):=rfl
def xH(v w:Nat)(T:dT):Prop:=∀a,a<4->aP T a+(if a=w then 1 else 0)=ke T a+(if a=v then 1 else 0)
structure Perm(x y z w:Nat):Prop where
 xy:x≠y
 xz:x≠z
 yz:y≠z
 xw:x≠w
 yw:y≠w
 zw:z≠w
 lx:x<4
 ly:y<4
 lz:z<4
 lw:w<4
 n:∀T a,aP T a=T a x+T a y+T a z+T a w
 i:∀T a,ke T a=T x a+T y a+T z a+T w a
 d:∀T,Dw w T=fB T x y z
 f:∀w' T,FP w' T=db w' T x*db w' T y*db w' T z*db w' T w
 t:∀T,ip T=aP T x+aP T y+aP T z+aP T w
 c:∀v,v<4->v=x\/v=y\/v=z\/v=w
 s:∀g:Nat->Int,g 0+g 1+g 2+g 3=g x+g y+g z+g w
theorem QiU(T:dT)(x y z:Nat):fB T x y z=fB T y x z:=by unfold fB fA;grind
theorem QiV(T:dT)(x y z:Nat):fB T x y z=fB T x z y:=by unfold fB fA;grind
theorem Kc(w:Nat)(h:w<4):∃x y z,Perm x y z w:=by
 rcases d7 h with e|e|e|e<;>subst e
 ·exact⟨1,2,3,by decide,by decide,by decide,by decide,by decide,by decide,by decide,by decide,by decide,by decide,λT a=>by unfold aP;exact GN,λT a=>by unfold ke;exact GN,λT=>rfl,λB T=>by unfold FP;simp only[fY,eQ,qG],λT=>by unfold ip;exact GN,λv A=>(d7 A).elim (λh=>.inr<|.inr<|.inr h) λh=>h.elim (λh=>.inl h) λh=>h.elim (λh=>.inr<|.inl h) λh=>.inr<|.inr<|.inl h,λg=>yY 0x1d0452452570c00d80d0203603403200 Yt⟩
 ·exact⟨0,2,3,by decide,by decide,by decide,by decide,by decide,by decide,by decide,by decide,by decide,by decide,λT a=>by unfold aP;exact GO,λT a=>by unfold ke;exact GO,λT=>rfl,λB T=>by unfold FP;simp only[fY,eQ,qG],λT=>by unfold ip;exact GO,λv A=>(d7 A).elim (λh=>.inl h) λh=>h.elim (λh=>.inr<|.inr<|.inr h) λh=>h.elim (λh=>.inr<|.inl h) λh=>.inr<|.inr<|.inl h,λg=>yY 0x1d0452452570c80d80d0003603403200 Yt⟩
 ·exact⟨0,1,3,by decide,by decide,by decide,by decide,by decide,by decide,by decide,by decide,by decide,by decide,λT a=>by unfold aP;exact GP,λT a=>by unfold ke;exact GP,λT=>rfl,λB T=>by unfold FP;simp only[fY,eQ,qG],λT=>by unfold ip;exact GP,λv A=>(d7 A).elim (λh=>.inl h) λh=>h.elim (λh=>.inr<|.inl h) λh=>h.elim (λh=>.inr<|.inr<|.inr h) λh=>.inr<|.inr<|.inl h,λg=>yY 0x1d0452452570d00d80c8003603403200 Yt⟩
 ·exact⟨0,1,2,by decide,by decide,by decide,by decide,by decide,by decide,by decide,by decide,by decide,by decide,λT a=>by unfold aP;omega,λT a=>by unfold ke;omega,λT=>rfl,λB T=>by unfold FP;simp only[fY,eQ,qG],λT=>by unfold ip;omega,λv A=>(d7 A).elim (λh=>.inl h) λh=>h.elim (λh=>.inr<|.inl h) λh=>h.elim (λh=>.inr<|.inr<|.inl h) λh=>.inr<|.inr<|.inr h,λg=>by omega⟩
theorem Perm.sw1(p:Perm x y z w):Perm y x z w:=⟨p.xy.symm,p.yz,p.xz,p.yw,p.xw,p.zw,p.ly,p.lx,p.lz,p.lw,λT a=>by rw[p.n];exact GQ,λT a=>by rw[p.i];exact GQ,λT=>by rw[p.d,QiU],λB T=>by rw[p.f];simp only[fY,eQ,qG],λT=>by rw[p.t];exact GQ,λv A=>(p.c v A).elim (λh=>.inr<|.inl h) λh=>h.elim .inl λh=>.inr<|.inr h,λg=>by rw[p.s];exact yY 0x1d0452452570d80d00c0203603403200 Yt⟩
theorem Perm.sw2(p:Perm x y z w):Perm x z y w:=⟨p.xz,p.xy,p.yz.symm,p.xw,p.zw,p.yw,p.lx,p.lz,p.ly,p.lw,λT a=>by rw[p.n];exact GR,λT a=>by rw[p.i];exact GR,λT=>by rw[p.d,QiV],λB T=>by rw[p.f];simp only[fY,eQ,qG],λT=>by rw[p.t];exact GR,λv A=>(p.c v A).elim .inl λh=>h.elim (λh=>.inr<|.inr<|.inl h) λh=>h.elim (λh=>.inr<|.inl h) λh=>.inr<|.inr<|.inr h,λg=>by rw[p.s];exact yY 0x1d0452452570d80c80d0003603403200 Yt⟩
theorem Perm.cov(p:Perm x y z w)(h:v<4):v=x\/v=y\/v=z\/v=w:=p.c v h
theorem QiW(B:v<4)(A:w<4)(h:v≠w):∃y z,Perm v y z w:=by
 obtain⟨x,y,z,p⟩:=Kc w A;rcases p.cov B with e|e|e|e
 ·subst e;exact⟨_,_,p⟩
 ·subst e;exact⟨_,_,p.sw1⟩
 ·subst e;exact⟨_,_,p.sw2.sw1⟩
 ·exact absurd e h
theorem Kd(h:0<n):fn n=n*fn (n-1):=by obtain⟨m,rfl⟩:∃m,n=m+1:=⟨n-1,Oe h⟩;rfl
theorem nW(h:a≠v):gq (aZ T v b) a=gq T a:=by simp[gq,aZ,h]
theorem QiX(B:b<4)(h:0<T v b):gq T v=T v b*gq (aZ T v b) v:=by have e:=Kd h;rcases d7 B with A|A|A|A<;>subst A<;>simp[gq,aZ]<;>rw[e]<;>simp only[fY,eQ,qG]
theorem QiY(A:v<4)(B:b<4)(h:0<T v b):PT T=T v b*PT (aZ T v b):=by
 have e:=QiX B h;unfold PT;rcases d7 A with q|q|q|q<;>subst q
 ·rw[nW (a:=1) (by decide),nW (a:=2) (by decide),nW (a:=3) (by decide),e];simp only[fY]
 ·rw[nW (a:=0) (by decide),nW (a:=2) (by decide),nW (a:=3) (by decide),e];simp only[fY,qG]
 ·rw[nW (a:=0) (by decide),nW (a:=1) (by decide),nW (a:=3) (by decide),e];simp only[fY,qG]
 ·rw[nW (by decide),nW (by decide),nW (by decide),e];simp only[fY,qG]
theorem Ke{g:Nat->Nat}(A:b<4)(h:0<g b):(if 0=b then g 0-1 else g 0)+(if 1=b then g 1-1 else g 1)+(if 2=b then g 2-1 else g 2)+(if 3=b then g 3-1 else g 3)+1=g 0+g 1+g 2+g 3:=by
 have e:∀n,0<n->n-1+1=n:=λn h=>EU h;rcases d7 A with q|q|q|q
 ·subst q;rw[ar rfl,av (by decide),av (by decide),av<|by decide];have e:=e _ h;clear h A;exact iB 0x74114a08914a0822560d80d00c800324360340320b2405800c92c903600324b240 Yt e e
 ·subst q;rw[av (by decide),ar rfl,av (by decide),av<|by decide];have e:=e _ h;clear h A;exact iB 0x74114a08914a0822560d80d00c02032436034032c90085800c92c903600324b240 Yt e e
 ·subst q;rw[av (by decide),av (by decide),ar rfl,av<|by decide];have e:=e _ h;clear h A;exact iB 0x74114a08914a0822560d80c00d02032436032c90034085800c92c903600324b240 Yt e e
 ·subst q;rw[av (by decide),av (by decide),av (by decide),ar rfl];have e:=e _ h;clear h A;exact iB 0x74114a08914a0822560c00d80d02032432c90036034085800c92c903600324b240 Yt e e
theorem AG(g:Nat->Nat)(A:b<4):g b<=g 0+g 1+g 2+g 3:=by
 rcases d7 A with q|q|q|q
 ·subst q;clear A;exact k9 0x60d80d00c8000 Yt
 ·subst q;clear A;exact k9 0x60d80d00c0200 Yt
 ·subst q;clear A;exact k9 0x60d80c00d0200 Yt
 ·subst q;clear A;exact k9 0x60c00d80d0200 Yt
theorem po(A:b<4)(h:0<T v b)(a:Nat):aP (aZ T v b) a=if a=v then aP T a-1 else aP T a:=by
 by_cases q:a=v
 ·subst q;rw[ar rfl];have e:=Ke A h;simp only[aP,aZ,true_and];exact QlR e
 ·rw[av q];simp only[aP,aZ,q,false_and,if_false]
theorem QiZ(A:v<4)(h:0<T v b)(a:Nat):ke (aZ T v b) a=if a=b then ke T a-1 else ke T a:=by
 by_cases q:a=b
 ·subst q;rw[ar rfl];have e:=Ke (g:=λx=>T x a) A h;simp only[ke,aZ,and_true];exact QlR e
 ·rw[av q];simp only[ke,aZ,q,and_false,if_false]
theorem U4(A:b<4)(h:0<T v b):0<aP T v:=lZ h<|AG (T v) A
theorem Qi0(A:v<4)(h:0<T v b):0<ke T b:=lZ h<|AG (λx=>T x b) A
theorem Kf(B:v<4)(A:b<4)(h:0<T v b):ip (aZ T v b)+1=ip T:=by unfold ip;rw[po A h,po A h,po A h,po A h];exact Ke B<|U4 A h
theorem U5(q:Prop)[Decidable q](h:q->0<n):(if q then n-1 else n)+(if q then 1 else 0)=n:=by
 by_cases z:q
 ·rw[ar z,ar z];exact EU<|h z
 ·rw[av z,av z];rfl
theorem Qi1(A:v<4)(C:b<4)(h:0<T v b)(B:xH v w T):xH b w<|aZ T v b:=by intro a D;have e:=B a D;rw[po C h,QiZ A h,U5 (a=b) (n:=ke T a)<|λq=>q▸Qi0 A h];have c:=U5 (a=v) (n:=aP T a)<|λq=>q▸U4 C h;refine QlS (m:=if a=v then 1 else 0) ?_;rw[Nat.add_right_comm,c];exact e
end
section
theorem g8(B:b<4)(h:0<T v b)(A:a≠v):eA (aZ T v b) a c=eA T a c:=by unfold eA;rw[po B h,av A];simp[aZ,A]
theorem Kg(B:b<4)(h:0<T v b)(A:2<=aP T v):eA (aZ T v b) v c=(if v=c then((aP T v:Int)-1)else 0)-((T v c:Int)-(if c=b then 1 else 0)):=by
 unfold eA;rw[po B h,ar rfl,av<|by exact aH 0x1524014228208914a08a089f812c9006011 Yt A];have e:(aZ T v b v c:Int)=(T v c:Int)-(if c=b then 1 else 0):=by
  by_cases q:c=b
  ·obtain rfl:=q.symm;simp[aZ];exact aH 0x54901d04528a08224528225d0452822452895cb26c02c2c900e001 Yt h
  ·simp[aZ,q]
 rw[e];by_cases q:v=c
 ·rw[ar q,ar q];exact W1 0x1524014228225d0452822452895cb2c0b082c9b002cb02c22c2c9006011 [_,_] [_] Yt A
 ·rw[av q,av q]
theorem Kh(B:b<4)(h:0<T v b)(A:aP T v=1):eA (aZ T v b) v c=if v=c then 1 else 0:=by unfold eA;rw[po B h,ar rfl,ar<|by exact aH 0x54901d04528914974114a08a0891495812c9016240 Yt A]
theorem EC(A:1<=aP T a):eA T a c=(if a=c then(aP T a:Int)else 0)-T a c:=by unfold eA;rw[av<|by exact aH 0x14a089f81006009 Yt A]
theorem ED(p:Perm v y z w)(A:b<4)(h:0<T v b)(B:2<=aP T v):fB (aZ T v b) v y z=fA (((aP T v:Int)-1)-((T v v:Int)-(if v=b then 1 else 0))) (0-((T v y:Int)-(if y=b then 1 else 0))) (0-((T v z:Int)-(if z=b then 1 else 0))) (eA T y v) (eA T y y) (eA T y z) (eA T z v) (eA T z y) (eA T z z):=by unfold fB;rw[Kg A h B,Kg A h B,Kg A h B,g8 A h p.xy.symm,g8 A h p.xy.symm,g8 A h p.xy.symm,g8 A h p.xz.symm,g8 A h p.xz.symm,g8 A h p.xz.symm,ar rfl,av p.xy,av p.xz]
theorem Qi2(n A B C W d e f g h i:Int)(D:n=A+B+C+W):A*fA (n-1-(A-1)) (0-(B-0)) (0-(C-0)) d e f g h i+B*fA (n-1-(A-0)) (0-(B-1)) (0-(C-0)) d e f g h i+C*fA (n-1-(A-0)) (0-(B-0)) (0-(C-1)) d e f g h i+W*fA (n-1-(A-0)) (0-(B-0)) (0-(C-0)) d e f g h i=(n-1)*fA (n-A) (0-B) (0-C) d e f g h i:=by unfold fA;subst D;grind
theorem uV{a:Nat}{x y:Int}(h:0<a->x=y):(a:Int)*x=a*y:=by
 rcases pB a with q|q
 ·rw[q];simp
 ·rw[h q]
theorem Qi3{T:dT}{v y z w:Nat}(p:Perm v y z w)(A:2<=aP T v): (T v 0:Int)*Dw w (aZ T v 0)+T v 1*Dw w (aZ T v 1)+T v 2*Dw w (aZ T v 2)+T v 3*Dw w (aZ T v 3)=((aP T v:Int)-1)*Dw w T:=by rw[p.s λb=>(T v b:Int)*Dw w (aZ T v b)];rw[uV λh=>(p.d _).trans<|ED p p.lx h A,uV λh=>(p.d _).trans<|ED p p.ly h A,uV λh=>(p.d _).trans<|ED p p.lz h A,uV λh=>(p.d _).trans<|ED p p.lw h A];rw[ar rfl,av p.xy.symm,av p.xz.symm,av p.xy,ar rfl,av p.yz.symm,av p.xz,av p.yz,ar rfl,av p.xw,av p.yw,av p.zw];rw[Qi2 _ _ _ _ _ _ _ _ _ _ _ (by rw[p.n];exact Of),p.d];congr 1;unfold fB;rw[EC<|B5 A,EC<|B5 A,EC<|B5 A,ar rfl,av p.xy,av p.xz]
theorem Qi4(p:Perm v y z w)(A:b<4)(h:0<T v b)(B:aP T v=1)(D:∀a,a<4->T a v=0):fB (aZ T v b) v y z=fB T v y z:=by
 unfold fB;rw[Kh A h B,Kh A h B,Kh A h B,g8 A h p.xy.symm,g8 A h p.xy.symm,g8 A h p.xy.symm,g8 A h p.xz.symm,g8 A h p.xz.symm,g8 A h p.xz.symm,ar rfl,av p.xy,av p.xz];have C:∀a,a<4->a≠v->eA T a v=0:=λa H q=>by unfold eA;rw[D a H,av q,av q];split<;>rfl
 have G:eA T v v=1:=by rw[EC<|aH 0x180276240 Yt B,D v p.lx,ar rfl,B];rfl
 rw[C y p.ly p.xy.symm,C z p.lz p.xz.symm,G];unfold fA;grind
theorem Qi5{T:dT}{v y z w:Nat}(p:Perm v y z w)(A:aP T v=1)(C:∀a,a<4->T a v=0): (T v 0:Int)*Dw w (aZ T v 0)+T v 1*Dw w (aZ T v 1)+T v 2*Dw w (aZ T v 2)+T v 3*Dw w (aZ T v 3)=Dw w T:=by
 have st:∀b,b<4->(T v b:Int)*Dw w (aZ T v b)=T v b*Dw w T:=λb B=>uV λh=>by rw[p.d,p.d,Qi4 p B h A C]
 rw[st 0 (by decide),st 1 (by decide),st 2 (by decide),st 3<|by decide];rw[<-rE, <-rE, <-rE];have:(T v 0:Int)+T v 1+T v 2+T v 3=1:=by unfold aP at A;exact iB 0x74114a08914a082257243b180ec403b08b005890d80d00c8036243603403200 Yt A A
 rw[this,AM]
theorem Qi6(p:Perm x y z w)(A:b<4)(h:0<T w b):Dw w (aZ T w b)=Dw w T:=by rw[p.d,p.d];unfold fB;rw[g8 A h p.xw,g8 A h p.xw,g8 A h p.xw,g8 A h p.yw,g8 A h p.yw,g8 A h p.yw,g8 A h p.zw,g8 A h p.zw,g8 A h p.zw]
theorem xI(A:b<4)(h:0<T v b)(B:a≠v):db w (aZ T v b) a=db w T a:=by unfold db;rw[po A h,av B]
theorem Qi7(A:b<4)(h:0<T v b)(B:v≠w):db w (aZ T v b) v=fn (aP T v-2):=by unfold db;rw[po A h,av B,ar rfl];rfl
theorem Qi8(A:b<4)(h:0<T w b):db w (aZ T w b) w=fn (aP T w-1):=by unfold db;rw[po A h,ar rfl,ar rfl]
theorem Qi9(p:Perm x y z w)(B:xH w w T)(j:aP T w=0)(D:0<ip T):Dw w T=0:=by
 have G:∀a,a<4->aP T a=ke T a:=λa Y=>QlS<|B a Y;have C:∀a b,a<4->b<4->aP T a=0->T b a=0:=λa b Y v q=>WB.mp<|q▸(G a Y)▸AG (λc=>T c a) v;have A:∀a,a<4->(aP T a:Int)=T a x+T a y+T a z:=λa Y=>by rw[p.n,C w a p.lw Y j,WY,Fk,Fk]
 have U:=A x p.lx;have Q:=A y p.ly;have O:=A z p.lz;rw[p.d];delta fB eA;simp only[p.xy,p.xz,p.yz,p.xy.symm,p.xz.symm,p.yz.symm,if_true,if_false,reduceIte];have t:=p.t T;by_cases M:aP T x=0<;>by_cases L:aP T y=0<;>by_cases H:aP T z=0<;>simp only[M,L,H,if_true,if_false,reduceIte]
 ·rw[M,L,H,j]at t;rw[t]at D;exact absurd D<|by decide
 ·rw[C x z p.lx p.lz M,C y z p.ly p.lz L]at O;clear U Q t D A B G;unfold fA;grind
 ·rw[C x y p.lx p.ly M,C z y p.lz p.ly H]at Q;clear U O t D A B G;unfold fA;grind
 ·rw[C x z p.lx p.lz M]at O;rw[C x y p.lx p.ly M]at Q;clear U t D A B G;unfold fA;grind
 ·rw[C y x p.ly p.lx L,C z x p.lz p.lx H]at U;clear Q O t D A B G;unfold fA;grind
 ·rw[C y x p.ly p.lx L]at U;rw[C y z p.ly p.lz L]at O;clear Q t D A B G;unfold fA;grind
 ·rw[C z x p.lz p.lx H]at U;rw[C z y p.lz p.ly H]at Q;clear O t D A B G;unfold fA;grind
 ·clear t D A B G;unfold fA;grind
end
section
theorem Ki{T:dT}(h:ip T=0):∀a b,a<4->b<4->T a b=0:=λa b B A=>WB.mp<|h▸fV (AG (T a) A) (AG (aP T) B)
theorem U6:∀(N v w:Nat)(T:dT),v<4->w<4->ip T=N->xH v w T->(Rn N v T:Int)*PT T=Dw w T*FP w T:=by
 intro u;induction u with
 |zero=>
  intro v w T G O M B;have z:=Ki M;have D:∀a,a<4->aP T a=0:=λa H=>by unfold aP;rw[z a 0 H (by decide),z a 1 H (by decide),z a 2 H (by decide),z a 3 H<|by decide]
  have k:PT T=1:=by unfold PT gq;simp only[z 0 0 (by decide) (by decide),z 0 1 (by decide) (by decide),z 0 2 (by decide) (by decide),z 0 3 (by decide) (by decide),z 1 0 (by decide) (by decide),z 1 1 (by decide) (by decide),z 1 2 (by decide) (by decide),z 1 3 (by decide) (by decide),z 2 0 (by decide) (by decide),z 2 1 (by decide) (by decide),z 2 2 (by decide) (by decide),z 2 3 (by decide) (by decide),z 3 0 (by decide) (by decide),z 3 1 (by decide) (by decide),z 3 2 (by decide) (by decide),z 3 3 (by decide)<|by decide];rfl
  have fa:∀a,a<4->db w T a=1:=λa H=>by unfold db;rw[D a H];split<;>rfl
  have g:FP w T=1:=by unfold FP;rw[fa 0 (by decide),fa 1 (by decide),fa 2 (by decide),fa 3<|by decide]
  obtain⟨x,y,j,p⟩:=Kc w O;have m:Dw w T=1:=by rw[p.d];unfold fB eA;simp only[D x p.lx,D y p.ly,D j p.lz,p.xy,p.xz,p.yz,p.xy.symm,p.xz.symm,p.yz.symm,if_true,if_false,reduceIte];decide
  rw[k,g,m];rfl
 |succ N o=>
  intro v w T G O M B;have C:∀b,b<4->(((if 0<T v b then Rn N b (aZ T v b)else 0:Nat):Int))*PT T=T v b*(Dw w (aZ T v b)*FP w (aZ T v b)):=λb A=>by
   by_cases q:0<T v b
   ·rw[ar q,QiY G A q, <-o b w (aZ T v b) A O (by have:=Kf G A q;exact GS M M this this) (Qi1 G A q B)];rw[iq,Int.mul_left_comm]
   ·rw[av q,show T v b=0 from aH 0x74114a089149581026001 Yt q];simp
  rw[Kb];have sum:((((if 0<T v 0 then Rn N 0 (aZ T v 0)else 0)+(if 0<T v 1 then Rn N 1 (aZ T v 1)else 0)+(if 0<T v 2 then Rn N 2 (aZ T v 2)else 0)+(if 0<T v 3 then Rn N 3 (aZ T v 3)else 0):Nat):Int))*PT T=T v 0*(Dw w (aZ T v 0)*FP w (aZ T v 0))+T v 1*(Dw w (aZ T v 1)*FP w (aZ T v 1))+T v 2*(Dw w (aZ T v 2)*FP w (aZ T v 2))+T v 3*(Dw w (aZ T v 3)*FP w (aZ T v 3)):=by rw[<-C 0 (by decide), <-C 1 (by decide), <-C 2 (by decide), <-C 3 (by decide)];simp only[Fk,rE]
  rw[sum];by_cases L:v=w
  ·subst L;obtain⟨x,y,z,p⟩:=Kc v G;by_cases D:aP T v=0
   ·rw[Qi9 p B D<|bD 0x3800760c9200 Yt M];have e:∀b,b<4->T v b=0:=λb A=>by
     unfold aP at D;rcases d7 A with e|e|e|e<;>subst e<;>(first|exact nk 0x74114a089149581016043603403200 Yt D|exact nk 0x74114a089149581216043603403200 Yt D|exact nk 0x74114a089149581416043603403200 Yt D|exact nk 0x74114a089149581616043603403200 Yt D)
    rw[e 0 (by decide),e 1 (by decide),e 2 (by decide),e 3<|by decide];simp
   ·have st:∀b,b<4->(T v b:Int)*(Dw v (aZ T v b)*FP v (aZ T v b))=T v b*(Dw v T*((db v T x*db v T y*db v T z*fn (aP T v-1):Nat):Int)):=λb A=>uV λh=>by
     rw[Qi6 p A h,p.f,xI A h p.xw,xI A h p.yw,xI A h p.zw,Qi8 A h]
    rw[st 0 (by decide),st 1 (by decide),st 2 (by decide),st 3 (by decide),p.f v T];have t:db v T v=aP T v*fn (aP T v-1):=by unfold db;rw[ar rfl];exact Kd<|wd D
    rw[t];generalize fn (aP T v-1)=F;have l:(aP T v:Int)=T v 0+T v 1+T v 2+T v 3:=by unfold aP;exact Of
    simp only[iq,l];grind
  ·obtain⟨y,z,p⟩:=QiW G O L;have Y:1<=aP T v:=by
    have:=B v G;rw[av L,ar rfl]at this;exact bD 0x1802760c9203040 Yt this
   have st:∀b,b<4->(T v b:Int)*(Dw w (aZ T v b)*FP w (aZ T v b))=T v b*Dw w (aZ T v b)*((fn (aP T v-2)*db w T y*db w T z*db w T w:Nat):Int):=λb A=>by rw[KB];exact uV λh=>by rw[p.f,xI A h p.xy.symm,xI A h p.xz.symm,xI A h p.xw.symm,Qi7 A h L]
   rw[st 0 (by decide),st 1 (by decide),st 2 (by decide),st 3 (by decide),p.f w T, <-rE, <-rE, <-rE];have d:db w T v=fn (aP T v-1):=by unfold db;rw[av L]
   rw[d];by_cases Q:2<=aP T v
   ·rw[Qi3 p Q];have e:fn (aP T v-1)=(aP T v-1)*fn (aP T v-2):=Kd<|Og Q;rw[e];have c:((aP T v-1:Nat):Int)=(aP T v:Int)-1:=aH 0x54901d04528a08224528225d0452822452895cb26c02c2c9006009 Yt Y;simp only[iq,c];generalize fn (aP T v-2)=F;grind
   ·have U:aP T v=1:=pO 0x74114a08224528225624018025e011 Yt Y Q;have r:∀a,a<4->T a v=0:=λa H=>by
     have:=B v G;rw[av L,ar rfl,U]at this;unfold ke at this;rcases d7 H with e|e|e|e<;>subst e<;>(first|exact nk 0x74114a0891495810360c90d80d00c8003049 Yt this|exact nk 0x74114a0891495812360c90d80d00c8003049 Yt this|exact nk 0x74114a0891495814360c90d80d00c8003049 Yt this|exact nk 0x74114a0891495816360c90d80d00c8003049 Yt this)
    rw[Qi5 p U r,U]
end
section
noncomputable def jA:List Nat->List (Nat×Nat)
 |x::y::r=>(x,y)::jA (y::r)
 |_=>[]
theorem sR:jA (x::y::r)=(x,y)::jA (y::r):=rfl
theorem U7:jA [x]=[]:=rfl
theorem U8:jA []=[]:=rfl
theorem Kj:∀k:List Nat,(bv<|k.length-1).map (λi=>(k.getD i 0,k.getD (i+1) 0))=jA k:=by
 intro C;induction C with
 |nil=>exact rfl
 |cons x B D=>
  cases B with
  |nil=>exact rfl
  |cons y r=>have A:=D;rw[sR, <-A];show(bv (r.length+1+1-1)).map _=_;rw[Nat.add_sub_cancel,List.range_succ_eq_map,dF,fg];rfl
theorem Qja(k:List Nat):(jA k).length =k.length-1:=by rw[<-Kj,b8,E6]
theorem U9(a b:Nat):∀k:List Nat,(jA k).countP (λp=>p.1==a&&p.2==b)=aJ a b k:=by
 intro B;induction B with
 |nil=>exact rfl
 |cons x A C=>
  cases A with
  |nil=>simp[U7,U8,sR,pZ,gW]
  |cons y r=>rw[sR,gW,V6,C,vx];congr 1;simp only[A7,vA,bo,bJ]
theorem Qjb:∀(k:List Nat),(∀d∈k,d<4)->∀p∈jA k,p.1<4/\p.2<4:=by
 intro D;induction D with
 |nil=>intro L p h;cases h
 |cons x C G=>
  cases C with
  |nil=>intro H p h;cases h
  |cons y r=>
   intro A p h;dsimp only[U7,U8,sR]at h;rcases bF.mp h with e|e
   ·subst e;exact⟨A x (by simp),A y<|by simp⟩
   ·exact G (λd B=>A d<|bB _ B) p e
noncomputable def lU(B:Nat)(t:Nat->Nat):Nat->Nat
 |0=>0
 |n+1=>lU B t n+t n*B^n
theorem Kk:lU B t 0=0:=rfl
theorem rC:lU B t (n+1)=lU B t n+t n*B^n:=rfl
theorem Qjc:∀n,(∀i,i<n->t' i=t i+if i=j then 1 else 0)->lU B t' n=lU B t n+if j<n then B^j else 0:=by
 intro C;induction C with
 |zero=>intro _;simp[Kk,rC]
 |succ n D=>
  intro h;rw[rC,rC,D λi G=>h i<|GT G,h n<|cN 0xe0c9000 Yt];by_cases q:n=j
  ·subst q;rw[ar rfl,av (by exact cN 0x26000 Yt),ar (by exact cN 0xe0c9000 Yt),qE];exact N0 0x1d0452452560d00c80030d3409203040 [_,_,_] Yt
  ·rw[av q,WY];by_cases A:j<n
   ·rw[ar A,ar<|by exact GT A];exact N0 0x1d0452452560c80d0003403200 [_,_,_] Yt
   ·rw[av A,av<|by exact bS 0x1d24528208914a2660c9200f80226200 Yt q A];exact ig 0x1d0452452560c10c8003203040 Yt
theorem Va(B:Nat):∀n,lU B (λ_=>0) n=0:=by
 intro A;induction A with
 |zero=>exact rfl
 |succ n C=>rw[rC,C];simp
theorem Kl(D:0<B)(h:∀i,t i<B):∀n,lU B t n<B^n:=by
 intro C;induction C with
 |zero=>simp[Kk,rC]
 |succ n A=>
  have A:=A;have:t n*B^n<=(B-1)*B^n:=mP _ (by have:=h n;exact NT this);have e:(B-1)*B^n+B^n=B^(n+1):=by rw[vB,eQ (B^n) B, <-KI];congr 1;exact EU D
  dsimp only[Kk,rC];exact N3 0x3900d880e220180616403200 [_,_,_,_,_] Yt A this e
theorem Km(A:0<B)(h:∀i,t i<B):∀n k,k<n->lU B t n/B^k%B=t k
 |n+1,k,D=>by
  have C:0<B^k:=WZ A;by_cases q:k=n
  ·subst q;rw[rC,QlT _ _ C,A3<|Kl A h k,n9,A5<|h k]
  ·have e:B^n=B^(n-k-1)*B*B^k:=by
    rw[<-vB, <-g9];congr 1;show n=n-k-1+1+k;exact bS 0x1524b00874154020508a24528228225d44528208208914a28954020528208974114a2822452822822560c00c92c92c020838324803e200 Yt D q
   rw[rC,e, <-fY,QlT _ _ C, <-fY,Nat.add_mul_mod_self_right];exact Km A h n k<|bS 0x75114a08914a24e20038324803e200 Yt D q
theorem Vb(B:Nat):∀k:List Nat,(∀d∈k,d<4)->((jA k).map λp=>B^(4*p.1+p.2)).sum =lU B (λi=>aJ (i/4) (i%4) k) 16:=by
 intro H;induction H with
 |nil=>intro Q;exact by rw[show(λi=>aJ (i/4) (i%4) [])=λ_=>0 from rfl,Va];rfl
 |cons x G L=>
  cases G with
  |nil=>intro M;rw[show(λi=>aJ (i/4) (i%4) [x])=λ_=>0 from by funext i;simp[pZ,gW],Va];rfl
  |cons y r=>
   intro h;have C:=h x (by simp);have A:=h y (by simp);rw[sR,dF,vi,L λd D=>h d<|bB _ D];rw[Qjc (j:=4*x+y) (t:=λi=>aJ (i/4) (i%4)<|y::r) (t':=λi=>aJ (i/4) (i%4)<|x::y::r) 16,ar (by exact Oh C A),vx];intro i O;show aJ _ _ (x::y::r)=_;rw[gW,vx];congr 1;have:(x=i/4/\(y::r).head? =aa (i%4))↔i=4*x+y:=by simp only[A7,vA];exact⟨λ⟨a,b⟩=>by exact N4 0x2584874114a08a08208288224528a0820828822560c04d084859b8484366e12105a38480368e1200 [_,_,_] Yt a a b b,λh=>⟨by exact mv 0x96101d04588228a08208224588a08208228959b84020e8505834132210360d04c8840 Yt A h h,by rw[h,LG,A5 A]⟩⟩
   simp only[this]
theorem EE(A:y<4)(r:List Nat)(a:Nat):aP (λa b=>aJ a b<|x::y::r) a=(if x=a then 1 else 0)+aP (λa b=>aJ a b<|y::r) a:=by
 have st:∀b,aJ a b (x::y::r)=(if x=a/\y=b then 1 else 0)+aJ a b (y::r):=λb=>by rw[gW];simp
 show aJ a 0 (x::y::r)+aJ a 1 (x::y::r)+aJ a 2 (x::y::r)+aJ a 3 (x::y::r)=_;rw[st,st,st,st,EB,EA A];rfl
theorem Vc:∀k:List Nat,(∀d∈k,d<4)->ip (λa b=>aJ a b k)=k.length-1:=by
 intro L;induction L with
 |nil=>intro O;exact rfl
 |cons x H M=>
  cases H with
  |nil=>
   intro h;have st:∀a b,aJ a b [x]=0:=λa b=>by simp[pZ,gW]
   delta ip aP;simp only[st];rfl
  |cons y r=>intro h;have D:=h x (by simp);have A:=h y (by simp);have B:=M λd G=>h d (bB _ G);have C:=EA D True;simp only[true_and,if_true]at C;unfold ip at B⊢;rw[EE A,EE A,EE A,EE A,EB,B,C];show 1+(r.length+1-1)=r.length+1+1-1;exact cN 0x5490c90c90050895490c901d04528a08914a08a08974114a08a24528a0822562c90c90c90032c90c9009 Yt
theorem Qjd(L:a<4):∀k:List Nat,(∀d∈k,d<4)->ke (λa b=>aJ a b k) a+(if k.head?=aa a then 1 else 0)=k.count a:=by
 intro G;induction G with
 |nil=>intro M;exact rfl
 |cons x D H=>
  cases D with
  |nil=>
   intro h;have st:∀b,aJ b a [x]=0:=λb=>by simp[pZ,gW]
   show aJ 0 a [x]+aJ 1 a [x]+aJ 2 a [x]+aJ 3 a [x]+_=_;rw[st,st,st,st,QlP];simp
  |cons y r=>
   intro h;have B:=h x (by simp);have A:=H λd C=>h d<|bB _ C;have st:∀c,aJ c a (x::y::r)=(if y=a/\x=c then 1 else 0)+aJ c a (y::r):=λc=>by rw[gW];simp[and_comm]
   rw[A6, <-A];show aJ 0 a (x::y::r)+aJ 1 a (x::y::r)+aJ 2 a (x::y::r)+aJ 3 a (x::y::r)+_=aJ 0 a (y::r)+aJ 1 a (y::r)+aJ 2 a (y::r)+aJ 3 a (y::r)+_+_;rw[st,st,st,st,EB,EA B];simp only[A7,vA,bJ];rw[vx<|if y=a then 1 else 0]
theorem Qje(h:∀d∈k,d<4)(G:k.head?=aa v)(D:k.getLast?=aa w):xH v w<|λa b=>aJ a b k:=by
 intro a A;have C:=J9 A k h;have B:=Qjd A k h;have L:mL a k=if a=w then 1 else 0:=by
  unfold mL;rw[D];by_cases q:a=w
  ·rw[ar q,ar<|by rw[q]]
  ·rw[av q,av<|λe=>q (aw e).symm]
 have H:(if k.head?=aa a then 1 else 0)=if a=v then 1 else 0:=by
  rw[G];by_cases q:a=v
  ·rw[ar q,ar<|by rw[q]]
  ·rw[av q,av<|λe=>q (aw e).symm]
 rw[L]at C;rw[H]at B;show aJ a 0 k+aJ a 1 k+aJ a 2 k+aJ a 3 k+_=_;rw[C,B]
end
section
def tk(l:List Nat):Bool:=(eM.lookup l).isSome
theorem Qjf:eM.all (λe=>j7.contains e.1&&decide (0<=e.2)&&decide (e.1.length<=3)&&(di (e.2-7).toNat ==e.1)&&decide (1<=e.1.length)&&(!decide (e.1.length=3)||e.1==[46,46,46]||tk (e.1.take 2)))=ac:=by kernel_rfl
theorem Qjg:(bv 48).all (λa=>(di a).all ph)=ac:=by kernel_rfl
theorem Qjh:(bv 128).all (λz=> !ph z||tk [z])=ac:=by kernel_rfl
theorem Qji(h:ph z=ac):z<128:=of_decide_eq_true<|du.mp (show([40,41,91,93,58,44,59,43,45,42,47,124,38,60,62,61,46,37,123,125,126,94,64,33]:List Nat).all (λz=>decide (z<128))=ac from rfl) z<|WG.mp h
theorem xJ(h:eM.lookup l=aa v):j7.contains l=ac/\0<=v/\l.length<=3/\di (v-7).toNat =l/\1<=l.length/\(l.length=3->l=[46,46,46]\/tk (l.take 2)=ac):=by
 refine eE (QlO.mp h) λM L q _=>?_;have m:(l,v)∈eM:=by refine af q ?_;simp
 have:=du.mp Qjf _ m;simp only[bo,bH,bJ,n7,oh,decide_eq_false_iff_not]at this;obtain⟨⟨⟨⟨⟨H,G⟩,D⟩,C⟩,B⟩,A⟩:=this;exact⟨H,G,D,C,B,λe=>(A.imp (λo=>o.resolve_left<|λz=>z e) id)⟩
theorem AH(h:tk l=ac):∃v:Nat,eM.lookup l=aa (v:Int):=by obtain⟨v,A⟩:=vh.mp h;obtain⟨n,rfl⟩:=tu (xJ A).2.1;exact⟨n,A⟩
theorem Kn:tk l=j7.contains l:=by
 rw[iu];constructor
 ·intro h;obtain⟨v,C⟩:=AH h;exact(xJ C).1
 ·intro h;obtain⟨a,A,e⟩:=rF<|WG.mp h;have B:a<48:=A;have w:=du.mp El a<|eY.mpr B;simp only[bo,bH,bJ,bne_iff_ne]at w;have:di a=l:=by unfold di;rw[yj,ee A, <-e];rfl
  rw[this]at w;unfold tk;rw[w.1.1];rfl
theorem uW(h:a<48):eM.lookup (di a)=aa ((7+a:Nat):Int)/\1<=(di a).length /\(di a).length <=3:=by have w:=du.mp El a<|eY.mpr h;simp only[bo,bH,bJ,bne_iff_ne]at w;exact⟨w.1.1,by have:=w.1.2;exact aH 0x1d24528914918027e040 Yt w.1.2,w.2⟩
theorem sS(l:List Nat):(tk (l.take 3)=ac/\eJ l=3)\/(tk (l.take 3)=ae/\tk (l.take 2)=ac/\eJ l=2)\/(tk (l.take 3)=ae/\tk (l.take 2)=ae/\eJ l=1):=by unfold eJ tk;cases(eM.lookup<|l.take 3).isSome <;>cases(eM.lookup<|l.take 2).isSome <;>simp
theorem Qjj(U:f<48)(Y:f≠16){R:List Nat}(L:R=[]\/∃z B,R=z::B/\tk (di f++[z])=ae):(di f++R).take (eJ<|di f++R)=di f:=by
 obtain⟨C,Q,O⟩:=uW U;have H:di f≠[46]:=λe=>by have:=(xJ C).2.2.2.1;rw[e]at C;have G:eM.lookup [46]=aa ((23:Nat):Int):=(uW (a:=16)<|by decide).1;rw[G]at C;have:=aw C;exact N3 0x74114a08224528226e041f824405ec0c0e6ce91dec0c0e6ce91 [_] Yt Y this this
 have D:tk (di f)=ac:=by unfold tk;rw[C];rfl
 generalize di f=w at*;rcases G9 Q O with⟨x,rfl⟩|⟨x,y,rfl⟩|⟨x,y,z,rfl⟩
 ·rcases L with rfl|⟨z,B,rfl,hz⟩
  ·rcases sS ([x]++[])with⟨h,e⟩|⟨h,A,e⟩|⟨h,A,e⟩<;>rw[e]<;>rfl
  ·rcases sS ([x]++z::B)with⟨h,e⟩|⟨h,A,e⟩|⟨h,A,e⟩
   ·exfalso;cases B with
    |nil=>exact absurd (h.symm.trans hz) (by decide)
    |cons M j=>
     have h:tk [x,z,M]=ac:=h;obtain⟨v,T⟩:=AH h;rcases(xJ T).2.2.2.2.2 rfl with e|e
     ·injection e with e1 _;exact H<|by rw[e1]
     ·exact absurd (e.symm.trans hz)<|by decide
   ·exact absurd (A.symm.trans hz)<|by decide
   ·rw[e];rfl
 ·rcases L with rfl|⟨z,B,rfl,hz⟩
  ·rcases sS ([x,y]++[])with⟨h,e⟩|⟨h,A,e⟩|⟨h,A,e⟩
   ·rw[e];rfl
   ·rw[e];rfl
   ·exact absurd (A.symm.trans D)<|by decide
  ·rcases sS ([x,y]++z::B)with⟨h,e⟩|⟨h,A,e⟩|⟨h,A,e⟩
   ·exact absurd (h.symm.trans hz)<|by decide
   ·rw[e];rfl
   ·exact absurd (A.symm.trans D)<|by decide
 ·rcases sS ([x,y,z]++R)with⟨h,e⟩|⟨h,A,e⟩|⟨h,A,e⟩
  ·rw[e];rfl
  ·exact absurd (h.symm.trans D)<|by decide
  ·exact absurd (h.symm.trans D)<|by decide
def Ko(z:Nat):Prop:=ph z=ac\/ry z [z]=ac
theorem Qjk:∀(n:Nat)(l:List Nat),l.length<=n->(∀z∈l,Ko z)->∃os,Chain l os:=by
 intro H;induction H with
 |zero=>
  intro H;cases H with
  |nil=>intro t T;exact⟨[],.nil⟩
  |cons z r=>intro h q;simp at h
 |succ n Q=>
  intro j;cases j with
  |nil=>intro T u;exact⟨[],.nil⟩
  |cons z r=>
   intro h D;have L:∀k,(z::r).take k++(z::r).drop k=z::r:=λk=>Lq _ _;have A:∀k,1<=k->tk ((z::r).take k)=ac->eJ (z::r)=k->∃os,Chain (z::r) os:=λk M Y hs=>by
    obtain⟨v,U⟩:=AH Y;obtain⟨os,C⟩:=Q ((z::r).drop k) (by rw[fX];simp at h⊢;exact fN 0x60d0203240190246200 Yt M h) λy B=>D y<|AY B;refine⟨[v]++os,?_⟩;have:=Chain.cons ⟨by rw[L,hs],by simp,.inl ⟨v,U,rfl⟩⟩ (by cases k with|zero=>exact pr (N1 0xb81046049 [] Yt M)|succ k=>simp) C
    rwa[L]at this
   rcases sS (z::r)with⟨G,e⟩|⟨G,O,e⟩|⟨G,O,e⟩
   ·exact A 3 (by decide) G e
   ·exact A 2 (by decide) O e
   ·rcases D z (by simp)with o|o
    ·refine A 1 (by decide) ?_ e;have:=du.mp Qjh z<|eY.mpr<|Qji o;rw[o]at this;simpa using this
    ·obtain⟨os,C⟩:=Q r (by simp at h;exact BW h) λy B=>D y<|bB _ B;exact⟨_,AE o (by simp) C⟩
section
variable {f s p:Nat} (hf:f<48) (hs:s<48) (hp:p<8) (hf6:f≠16) (hs6:s≠16)
def lV(f s p:Nat)(one:List Nat):List Nat:=(one.map (iL f s p)).flatten
def lW(f s p b:Nat):Nat:=(iL f s p b).headD 0
def sT(f s p a b:Nat):Bool:=j7.contains (iL f s p a++[lW f s p b])
include hf hs in
theorem Vd(k:Nat):iL f s p k≠[]:=by
 have a:=(uW hf).2.1;have b:=(uW hs).2.1;unfold iL;split
 ·intro e;rw[e]at a;exact absurd a<|by decide
 ·split
  ·intro e;rw[e]at b;exact absurd b<|by decide
  ·split<;>simp
include hp in
theorem EF(C:2<=k)(B:k<4):∃c,iL f s p k=[c]/\eH f s p k=159+c/\ry c [c]=ac/\ph c=ae:=by
 have A:=uU hp;have o:∀c,ry c [c]=ac->ph c=ae:=λc h=>by unfold ry at h;simp only[bo,oh]at h;exact h.1.1.1
 rcases G8 (E1.mpr C) B with e|e<;>subst e
 ·exact⟨c2 p,rfl,rfl,xG (way:=0) A.1.1 A.1.2 (by decide),o _<|xG (way:=0) A.1.1 A.1.2<|by decide⟩
 ·exact⟨c3 p,rfl,rfl,xG (way:=0) A.2.1.1 A.2.1.2 (by decide),o _<|xG (way:=0) A.2.1.1 A.2.1.2<|by decide⟩
include hf hs hf6 hs6 in
theorem Ve(A:k<2):∃g,g<48/\g≠16/\iL f s p k=di g/\eH f s p k=7+g:=by
 rcases y8 A with e|e<;>subst e
 ·exact⟨f,hf,hf6,rfl,rfl⟩
 ·exact⟨s,hs,hs6,rfl,rfl⟩
include hf hs hp in
theorem Qjl{one:List Nat}(h:∀d∈one,d<4):∀z∈lV f s p one,Ko z:=by
 intro z hz;unfold lV at hz;obtain⟨w,D,hz⟩:=List.mem_flatten.mp hz;obtain⟨k,G,rfl⟩:=gk.mp D;have C:∀g,g<48->z∈di g->Ko z:=λg H hz=>.inl<|du.mp (du.mp Qjg g<|eY.mpr H) z hz;have:=h k G;rcases d7 this with e|e|e|e
 ·subst e;exact C f hf hz
 ·subst e;exact C s hs hz
 ·obtain⟨c,B,_,A,_⟩:=EF (f:=f) (s:=s) (p:=p) hp (k:=k) (aH 0x180476440 Yt e) this;rw[B]at hz;obtain rfl:z=c:=by simpa using hz
  exact .inr A
 ·obtain⟨c,B,_,A,_⟩:=EF (f:=f) (s:=s) (p:=p) hp (k:=k) (aH 0x180476640 Yt e) this;rw[B]at hz;obtain rfl:z=c:=by simpa using hz
  exact .inr A
include hf hs in
theorem Vf(b:Nat)(r:List Nat):∃R,lV f s p (b::r)=lW f s p b::R:=by
 have:=Vd (p:=p) hf hs b;unfold lV lW;rw[dF,Lm];cases e:iL f s p b with
 |nil=>exact absurd e this
 |cons x l=>exact⟨l++(r.map (iL f s p)).flatten,rfl⟩
include hf hs hp hf6 hs6 in
theorem Kq{r os:List Nat}(H:a<4)(h:∀b,r.head?=aa b->sT f s p a b=ae)(C:Chain (lV f s p r) os):Chain (lV f s p<|a::r)<|eH f s p a::os:=by
 show Chain (iL f s p a++lV f s p r) ([eH f s p a]++os);by_cases q:a<2
 ·obtain⟨g,B,O,A,D⟩:=Ve (p:=p) hf hs hf6 hs6 q;rw[A,D];refine Chain.cons (o:=[7+g]) ⟨(Qjj B O ?_).symm,by simp,.inl ⟨7+g,(uW B).1,rfl⟩⟩ (by have:=(uW B).2.1;intro e;rw[e]at this;exact absurd this<|by decide) C;cases r with
  |nil=>exact .inl rfl
  |cons b G=>obtain⟨R,L⟩:=Vf (p:=p) hf hs b G;refine .inr ⟨_,R,L,?_⟩;rw[Kn, <-A];exact h b rfl
 ·obtain⟨c,A,D,M,_⟩:=EF (f:=f) (s:=s) (p:=p) hp (k:=a) (aH 0x180466440 Yt q) H;rw[A,D];exact AE M (by simp) C
include hf hs hp hf6 hs6 in
theorem Qjm:∀one:List Nat,(∀d∈one,d<4)->(∀q∈jA one,sT f s p q.1 q.2=ae)->Chain (lV f s p one) (one.map<|eH f s p):=by
 intro H;induction H with
 |nil=>intro T Q;exact .nil
 |cons a D L=>
  cases D with
  |nil=>intro h O;exact Kq hf hs hp hf6 hs6 (h a (by simp)) (λb A=>by cases A) .nil
  |cons b r=>intro h A;refine Kq hf hs hp hf6 hs6 (h a (by simp)) (λG M=>?_) (L (λd C=>h d (bB _ C)) λq B=>A q (by rw[sR];exact bB _ B));obtain rfl:b=G:=aw M;exact A (a,b) (by rw[sR];simp)
include hf hs hp hf6 hs6 in
theorem Qjn:∀one:List Nat,(∀d∈one,d<4)->(∃q∈jA one,sT f s p q.1 q.2=ac)->∃os,Chain (lV f s p one) os/\os≠one.map (eH f s p):=by
 intro aM;induction aM with
 |nil=>intro fQ h;obtain⟨q,h,_⟩:=h;cases h
 |cons a eC aL=>
  cases eC with
  |nil=>intro iw h;obtain⟨q,h,_⟩:=h;cases h
  |cons b r=>
   intro h hb;have Y:=h a (by simp);by_cases q:sT f s p a b=ac
   ·obtain⟨R,hR⟩:=Vf (p:=p) hf hs b r;by_cases T:a<2
    ·obtain⟨g,hg,Ge,A,O⟩:=Ve (p:=p) hf hs hf6 hs6 T;have u:=Qjl (p:=p) hf hs hp h;have eg:lV f s p (a::b::r)=di g++lW f s p b::R:=by rw[<-hR, <-A];rfl
     unfold sT at q;rw[<-Kn,A]at q;rw[eg]at u⊢;have G:tk ((di g++lW f s p b::R).take<|eJ<|di g++lW f s p b::R)=ac/\(di g).length <((di g++lW f s p b::R).take<|eJ<|di g++lW f s p b::R).length :=by
      obtain⟨_,i,n⟩:=uW hg;generalize di g=w at*;generalize lW f s p b=z at*;rcases G9 i n with⟨x,rfl⟩|⟨x,y,rfl⟩|⟨x,y,y2,rfl⟩
      ·rcases sS ([x]++z::R)with⟨h,e⟩|⟨h,B,e⟩|⟨h,B,e⟩
       ·rw[e];exact⟨h,by simp⟩
       ·rw[e];exact⟨B,by simp⟩
       ·exact absurd (B.symm.trans q)<|by decide
      ·rcases sS ([x,y]++z::R)with⟨h,e⟩|⟨h,B,e⟩|⟨h,B,e⟩
       ·rw[e];exact⟨h,by simp⟩
       ·exact absurd (h.symm.trans q)<|by decide
       ·exact absurd (h.symm.trans q)<|by decide
      ·obtain⟨v,D⟩:=AH q;exact absurd (xJ D).2.2.1<|by simp
     generalize hL:di g++lW f s p b::R=L at*;obtain⟨k1,k2⟩:=G;obtain⟨v,D⟩:=AH k1;obtain⟨os,C⟩:=Qjk _ (L.drop<|eJ L) (eR _) λy hy=>u y<|AY hy;have Q:L.take (eJ L)++L.drop (eJ L)=L:=Lq _ _;have l:=Chain.cons (t:=L.take<|eJ L) (r:=L.drop<|eJ L) (o:=[v]) ⟨by rw[Q],by simp,.inl ⟨v,D,rfl⟩⟩ (by intro e;rw[e]at k2;exact absurd k2<|by simp) C;rw[Q]at l;refine⟨_,l,λe=>?_⟩;rw[dF,O]at e;injection e with M _;have j:=(xJ D).2.2.2.1;rw[M,show(((7+g:Nat):Int)-7).toNat =g from cN 0xd4be6c0c0e5d04528914a08974114a24528225602c2f9b03039 Yt]at j;rw[<-j]at k2;exact aH 0xb8104e000 Yt k2
    ·exfalso;obtain⟨c,A,_,_,M⟩:=EF (f:=f) (s:=s) (p:=p) hp (k:=a) (aH 0x180466440 Yt T) Y;unfold sT at q;rw[<-Kn,A]at q;unfold tk at q;rw[sQ (by simp) M]at q;cases q
   ·have q:=LB.mpr q;obtain⟨⟨x,y⟩,U,H⟩:=hb;rw[sR]at U;obtain⟨os,C,m⟩:=aL (λd hd=>h d<|bB _ hd) (by
     rcases bF.mp U with e|e
     ·injection e with A O;subst A;subst O;rw[q]at H;cases H
     ·exact⟨_,e,H⟩)
    refine⟨eH f s p a::os,Kq hf hs hp hf6 hs6 Y (λb' Fu=>?_) C,λe=>m<|by injection e⟩;obtain rfl:b=b':=aw Fu;exact q
end
end
section
theorem sU(B:cb x=ac)(A:cb y=ac):bP .mul (.int x) (.int y)=aa (.int<|x*y):=by show(if(cb x&&cb y)=ac then aa (bQ<|x*y)else ab)=_;rw[ar<|by rw[B,A];rfl]
theorem Qjo{x:List Nat}(h:m*x.length<=100000)(A:m<=100000):bP .mul (S' x) (.int (m:Int))=aa (S' (cR m x).flatten):=by
 show(if(decide ((0:Int)<=(m:Int))&&decide ((m:Int)<=100000)&&decide ((m:Int)*((a8 x).length :Int)<=100000))=ac then aa (vp<|a8 (cR (m:Int).toNat (a8 x).cps.toList).flatten)else ab)=_;refine(ar ?_).trans (by dsimp only[jE];rfl);rw[kE];have:((m:Int)*(x.length:Int))=((m*x.length:Nat):Int):=by dsimp only[iq]
 simp only[bo,bH,this];exact⟨⟨iU,B4 A⟩,B4 h⟩
theorem EG(b:Bool):cY .is (.bool b) (.bool ac)=aa b:=by cases b<;>rfl
theorem Qjp(a b:Nat):cY .lt (.int (a:Int)) (.int (b:Int))=aa (decide (a<b)):=by
 by_cases q:a<b
 ·rw[Au (by exact yR q),df q]
 ·rw[Av (by exact bD 0x9ec22c026200 Yt q),fM q]
noncomputable abbrev Vg:ME:=.bop
     ac
     [.cmp .lt (.v 2) (.bi .len [.v 1]),.cmp .is (.call 6 [.bin .add (.ks [46,46,46]) (.bin .mul (.bin .add (.v 0) (.ks [46,46,46])) (.bin .add (.v 2) (.ki 1))),.v 1]) (.kb ac)]
theorem lX:ai T O (n+1) (.ks [46,46,46]) f=aa (S' aW):=by rw[wz];rfl
theorem Vh{w g:List Nat}(M:fm w)(B:w.length<=10)(D:g.length<=100)(C:h<=g.length)(O:∀m,ef (cR m w) g=decide (m<=H))(L:List FV): aS aA (aO wf<|k+1) 40 Vg (.val (S' w)::.val (S' g)::.val (N' h)::L)=aa (decide (h<g.length)&&decide (h+1<=H)):=by
 have dl:aW.length=3:=rfl;have G:(cR (h+1)<|w++aW).flatten.length =(h+1)*(w.length+3):=by rw[List.length_flatten,List.map_replicate,List.sum_replicate_nat,cw,dl]
 have A:(h+1)*(w.length+3)<=101*13:=qH (by exact bS 0x6aa22432401a2889206200 Yt D C) (by exact aH 0x1aa243640192240 Yt B);refine Es (dS (aB rfl) (bE (gg (ce rfl)<|xv g) rfl)<|Qjp h g.length) ?_;refine dS (a:=.bool<|decide (h+1<=H)) (b:=.bool ac) (lP (a1:=S'<|aW++(cR (h+1)<|w++aW).flatten) (bn lX (bn (b:=.int ((h+1:Nat):Int)) (bn (aB rfl) lX<|mI<|by rw[dl];exact aH 0x182892682643640192240 Yt B) (bn (aB rfl) aX rfl)<|Qjo (by rw[cw,dl];exact aH 0x182892682640193a89aa2240 Yt A)<|by exact bS 0x1828926826432401a2889206200 Yt D C)<|mI<|by rw[dl,G];exact Oi A) (aB rfl)<|xx (by rw[cw,dl,G];exact Oi A) ?_) (bE nU rfl)<|EG _;rw[Qd3 M,O]
theorem Qjq(G:fm w)(D:w.length<=10)(M:g.length<=100)(L:∀m,ef (cR m w) g=decide (m<=H))(C:H<=g.length)(A:List FV):∀(n h W:Nat),h+n=H->n<W->gT (λf=>aS aA (aO wf<|k+1) 40 Vg f) (λf=>bt aA (aO wf<|k+1) wf (fu+3) [.asg 2<|.bin .add (.v 2)<|.ki 1] f) W (.val (S' w)::.val (S' g)::.val (N' h)::A)=aa (.next,.val (S' w)::.val (S' g)::.val (N' H)::A):=by
 intro Q;induction Q with
 |zero=>intro h W e B;obtain⟨W,rfl⟩:∃k,W=k+1:=⟨W-1,by exact Oe B⟩;obtain rfl:h=H:=e;refine Ax ((Vh G D M C L A).trans ?_);rw[fM (show¬h+1<=h by exact cN 0x1e003240 Yt),Bool.and_false]
 |succ n T=>intro h W e B;refine aE λO=>?_;obtain⟨W,rfl⟩:∃k,W=k+1:=⟨W-1,by exact bD 0x1524814228225d04528914a08958324b24820e203240 Yt B⟩;apply O;clear O;refine Er ((Vh G D M (by exact iB 0x66001984164030c9200 Yt C e) L A).trans ?_) (cz (dA (bn (aB rfl) aX (c:=aa (N' (h+1))) rfl)) dj) (T (h+1) W (by exact fN 0x74114a08914a0822564032032405900c32480364030c9200 Yt e e) (by exact bD 0x38800e0c9203240 Yt B));rw[df (show h<g.length by exact iB 0xe6001984164030c9200 Yt C e),df (show h+1<=H by exact fS 0x1900c90164030c9200 Yt e)];rfl
theorem Vi(G:fm w)(C:w.length<=10)(A:g.length<=100)(D:101<wf)(L:∀m,ef (cR m w) g=decide (m<=H))(B:H<=g.length):aO wf (k+2) 18 [S' w,S' g]=aa (N' H):=by rw[fG QhH rfl];refine Ret.evF ?_ rfl;show Ret aA _ _ 200 P5.body [.val<|S' w,.val<|S' g,.un,.un,.un] _;refine Ret.next (dA aX) ?_;refine Ret.next (JU<|Qjq (fu:=194) G C A L B _ H 0 wf (by exact GD)<|by exact mv 0x3900068a2248390aa2246200 Yt A D B) ?_;exact Ret.retE<|aB rfl
theorem Qjr(B:a≠46)(C:g.length<=100)(A:101<wf):aO wf (k+2) 18 [S' [a],S' g]=aa (N'<|g.count a):=Vi (λh=>B (eW.mp h).symm) (by simp) C A (Qd4 a g) QlU
theorem Qjs(C:a≠46)(B:b≠46)(G:a≠b)(D:g.length<=100)(A:101<wf):aO wf (k+2) 18 [S' [a,b],S' g]=aa (N'<|aJ a b g):=Vi (λh=>by simp at h;exact h.elim (λe=>C e.symm)<|λe=>B e.symm) (by simp) D A (λm=>Qd5 G g.length g m<|eR _)<|Ka a b g
theorem Vj(x y:List Nat):cY .eq (S' x) (S' y)=aa (decide (x=y)):=by
 show aa (a8 x==a8 y)=_;refine congrArg aa ?_;by_cases e:x=y
 ·subst e;simp
 ·rw[fM e];simpa using λz=>e<|JP.mp z
theorem Kr(xs:List Int):gR .sum [.list<|xs.map .int]=aa (.int xs.sum):=by show(fU<|xs.map .int).map _=_;rw[Ap];rfl
abbrev gh(m:Nat->Nat):List ak:=(bv 4).map λk=>S' [m k]
theorem AI{m:Nat->Nat}{k:Nat}(h:k<4):idx2 (.list<|gh m) (.int (k:Int))=aa (S' [m k]):=by rcases d7 h with e|e|e|e<;>subst e<;>rfl
theorem Qjt(f:Nat->Nat):((bv 4).map f).sum =f 0+f 1+f 2+f 3:=by show f 0+(f 1+(f 2+(f 3+0)))=_;exact k9 0x1d0452452560d80d00c80030c30c1610200 Yt
theorem EH(f:Nat->Nat):gR .sum [.list<|(bv 4).map λb=>N'<|f b]=aa (.int ((f 0+f 1+f 2+f 3:Nat):Int)):=by have:=Kr<|(bv 4).map λb=>((f b:Nat):Int);rw[fg]at this;refine this.trans<|congrArg (λz=>aa<|bQ z) ?_;show(f 0:Int)+(f 1+(f 2+(f 3+0)))=_;exact k9 0x7411491495ec0d80d00c80030c30c1b18b10b08b00 Yt
theorem Qju{wf kk:Nat}{m:Nat->Nat}{A:List Nat}(D:∀a b,a<4->b<4->m a=m b->a=b)(L:∀a,m a≠46)(H:∀d∈A,d<4)(y:A.length<=100)(v:A≠[])(Q:101<wf){a:Nat}(C:a<4): aO wf (kk+3) 19 [S' [m a],.list<|gh m,S'<|A.map m]=aa (.list<|(bv 4).map λb=>N'<|aJ a b A):=by
 have T:(A.map m).length <=100:=by rw[b8];exact y
 rw[fG QhI rfl];refine Ret.evF ?_ rfl;show Ret aA _ _ 200 P6.body [.val<|S' [m a],.val<|.list<|gh m,.val<|S'<|A.map m,.un,.un,.un,.un,.un,.un] _;refine Ret.next (dA (d:=.list<|(bv 4).map λb=>N'<|if b=a then 0 else aJ a b A)<|lR (g:=λk=>S' [m k]) (h:=λb=>N'<|if b=a then 0 else aJ a b A) (g7 (d:=.list<|gh m) (aB rfl) rfl rfl) (by decide) ?_) ?_
 ·intro b B;have B:=eY.mp B;refine AA (decide ([m b]=[m a])) (dS (aB rfl) (ce rfl)<|Vj _ _) ?_;by_cases q:b=a
  ·subst q;rw[df rfl,ar rfl,ar rfl];exact aX
  ·have G:m b≠m a:=λe=>q<|D b a B C e;rw[fM (by simpa using G),av (by decide),av q, <-QiQ D C B A H];exact lP (bn (aB rfl) (aB rfl)<|mI<|by simp) (aB rfl)<|Qjs (L a) (L b) (gD G) T Q
 have j:=J9 C A H;have M:((A.count a:Nat):Int)-(((if 0=a then 0 else aJ a 0 A)+(if 1=a then 0 else aJ a 1 A)+(if 2=a then 0 else aJ a 2 A)+(if 3=a then 0 else aJ a 3 A):Nat):Int)=((aJ a a A+mL a A:Nat):Int):=by rw[<-j];rcases d7 C with e|e|e|e<;>subst e<;>simp<;>(first|exact wi 0x1d0452452570ec82c00b0ec603b10b080ec803b180ec403b08b00 Yt|exact wi 0x1d0452452570ec82c20b0ec603b10b000ec803b180ec403b08b00 Yt|exact wi 0x1d0452452570ec82c40b0ec603b08b000ec803b180ec403b08b00 Yt|exact wi 0x1d0452452570ec82c60b0ec403b08b000ec803b180ec403b08b00 Yt)
 refine Ret.next (dA (d:=N'<|aJ a a A+mL a A)<|bn (lP (aB rfl) (aB rfl)<|(Qjr (L a) T Q).trans<|by rw[QiR D C A H];rfl) (gg (ce rfl)<|EH λb=>if b=a then 0 else aJ a b A)<|(rr _ _).trans<|congrArg (λz=>aa<|bQ z) M) ?_;have U:=(IT (L a) (g:=A.map m)<|by simpa using v).1;rw[U3 D C A H]at U;have Y:∀O,aS aA (aO wf<|kk+2) 40 PD (.val (S' [m a])::.val (.list<|gh m)::.val (S'<|A.map m)::O)=aa (A.getLast?==aa a):=λO=>dS (lP (bn lX (aB rfl)<|mI<|by show 3+1<=_;decide) (aB rfl)<|xx (by show 3+1<=_;decide) U) (bE nU rfl)<|EG _;refine Ret.next (g:=[.val<|S' [m a],.val<|.list<|gh m,.val<|S'<|A.map m,.val<|.list<|(bv 4).map λb=>N'<|if b=a then 0 else aJ a b A,.val<|N'<|aJ a a A,.un,.un,.un,.un]) (j8 _ (Y _) ?_) ?_
 ·unfold mL;by_cases q:A.getLast?=aa a
  ·rw[ar q,show(A.getLast?==aa a)=ac by simpa using q,ar rfl];exact cz (dA<|bn (aB rfl) aX<|rA (a:=aJ a a A+1) (b:=1)<|by exact GI) dj
  ·rw[av q,show(A.getLast?==aa a)=ae by simpa using q,av<|by decide];exact dj
 refine Ret.retE (lR (g:=N') (h:=λb=>N'<|aJ a b A) (nV rfl (by decide)) (by decide) ?_);intro b B;have B:=eY.mp B;refine AA (decide ([m b]=[m a])) (dS (dC (ce rfl) (aB rfl)<|AI B) (ce rfl)<|Vj _ _) ?_;by_cases q:b=a
 ·subst q;rw[df rfl,ar rfl];exact aB rfl
 ·have G:m b≠m a:=λe=>q<|D b a B C e;rw[fM (by simpa using G),av<|by decide];refine dC (ce rfl) (aB rfl)<|Eo ?_;rcases d7 B with e|e|e|e<;>subst e<;>simp[q]
end
section
noncomputable def gi:Nat->List Nat->Nat->dT->List (List Nat)
 |0,fr,_,_=>[fr]
 |N+1,fr,v,T=>(if 0<T v 0 then gi N (fr++[0]) 0 (aZ T v 0)else[])++(if 0<T v 1 then gi N (fr++[1]) 1 (aZ T v 1)else[])++(if 0<T v 2 then gi N (fr++[2]) 2 (aZ T v 2)else[])++(if 0<T v 3 then gi N (fr++[3]) 3 (aZ T v 3)else[])
theorem Vk:gi 0 fr v T=[fr]:=rfl
theorem EI{N:Nat}:gi (N+1) fr v T=(if 0<T v 0 then gi N (fr++[0]) 0 (aZ T v 0)else[])++(if 0<T v 1 then gi N (fr++[1]) 1 (aZ T v 1)else[])++(if 0<T v 2 then gi N (fr++[2]) 2 (aZ T v 2)else[])++(if 0<T v 3 then gi N (fr++[3]) 3 (aZ T v 3)else[]):=rfl
theorem Ks:∀(N:Nat)(fr:List Nat)(v:Nat)(T:dT),(gi N fr v T).length =Rn N v T:=by
 intro A;induction A with
 |zero=>intro _ _ _;exact rfl
 |succ N B=>
  intro fr v T;have st:∀b,(if 0<T v b then gi N (fr++[b]) b (aZ T v b)else[]).length =if 0<T v b then Rn N b (aZ T v b)else 0:=λb=>by
   split
   ·exact B _ _ _
   ·rfl
  rw[EI,Kb,cw,cw,cw,st,st,st,st]
theorem Qjv:∀(N:Nat)(fr:List Nat)(v:Nat)(T:dT),v<4->ip T=N->∀one∈gi N fr v T,∃r,one=fr++r/\r.length=N/\(∀d∈r,d<4)/\∀a b,a<4->b<4->aJ a b (v::r)=T a b:=by
 intro M;induction M with
 |zero=>
  intro fr v T L G one h;obtain rfl:one=fr:=by simpa[Vk,EI]using h
  refine⟨[],by simp,rfl,by simp,λa b H D=>?_⟩;rw[Ki G a b H D];simp[pZ,gW]
 |succ N O=>
  intro fr v T L G one h;have st:∀b,b<4->one∈(if 0<T v b then gi N (fr++[b]) b (aZ T v b)else[])->∃r,one=fr++r/\r.length=N+1/\(∀d∈r,d<4)/\∀a b,a<4->b<4->aJ a b (v::r)=T a b:=λb D h=>by
   by_cases q:0<T v b
   ·rw[ar q]at h;obtain⟨r,e,l,d,A⟩:=O _ b _ D (by have:=Kf L D q;exact GS G G this this) one h;refine⟨b::r,by rw[e];simp,by simp[l],?_,?_⟩
    ·intro Y Q;rcases bF.mp Q with e|e
     ·exact bS 0xe8403a1216200 Yt D e
     ·exact d Y e
    ·intro a c H U;rw[gW,A a c H U];simp only[aZ,A7,vA];by_cases B:v=a<;>by_cases C:b=c
     ·subst B;subst C;simp;first|done|exact aH 0x54901d04528a08224528225d0452822452895800cb24024e001 Yt q
     ·subst B;simp[C,gD C]
     ·subst C;simp[B,gD B]
     ·simp[B,C,gD B]
   ·rw[av q]at h;cases h
  dsimp only[Vk,EI]at h;rcases eO.mp h with h|h
  ·rcases eO.mp h with h|h
   ·rcases eO.mp h with h|h
    ·exact st 0 (by decide) h
    ·exact st 1 (by decide) h
   ·exact st 2 (by decide) h
  ·exact st 3 (by decide) h
abbrev kR(T:dT):List ak:=(bv 16).map λi=>N' (T (i/4) (i%4))
theorem Qjw(T:dT)(B:v<4)(C:b<4):(kR T).take (4*v+b)++[N'<|T v b-1]++(kR T).drop (4*v+b+1)=kR (aZ T v b):=by rcases d7 B with e|e|e|e<;>rcases d7 C with A|A|A|A<;>subst e<;>subst A<;>rfl
theorem Vl(T:dT)(B:v<4)(C:b<4):idx2 (.list<|kR T) (.int ((4*v+b:Nat):Int))=aa (N'<|T v b):=by rcases d7 B with e|e|e|e<;>rcases d7 C with A|A|A|A<;>subst e<;>subst A<;>rfl
theorem Qjx:∀xs:List Nat,xs≠[]->∃m∈xs,∀x∈xs,x<=m:=by
 intro G;induction G with
 |nil=>intro h;exact absurd rfl h
 |cons x D H=>
  cases D with
  |nil=>intro M;exact⟨x,by simp,by simp⟩
  |cons y r=>
   intro L;refine aE λB=>?_;obtain⟨m,C,A⟩:=H (by simp);apply B;clear B;by_cases q:x<=m
   ·exact⟨m,bB _ C,λz hz=>(bF.mp hz).elim (λe=>e▸q)<|A z⟩
   ·refine⟨x,by simp,λz hz=>(bF.mp hz).elim (λe=>bD 0x188016200 Yt e) λh=>?_⟩;have:=A z h;exact fN 0x6400788406200 Yt q this
theorem Qjy(h:xs≠[]):∃m:Nat,gR .max [.list<|xs.map N']=aa (.int (m:Int))/\(m=0↔∀x∈xs,x=0):=by
 refine aE λA=>?_;obtain⟨m,L,H⟩:=Qjx xs h;have e:gR .max [.list<|xs.map N']=((xs.map λ(x:Nat)=>(x:Int)).find? λm=>(xs.map λ(x:Nat)=>(x:Int)).all λx=>decide (x<=m)).map .int :=by
  show(fU<|xs.map N').bind _=_;have:xs.map N'=(xs.map λ(x:Nat)=>(x:Int)).map .int :=by rw[fg];rfl
  rw[this,Ap];rfl
 have s:((xs.map λ(x:Nat)=>(x:Int)).find? λm=>(xs.map λ(x:Nat)=>(x:Int)).all λx=>decide (x<=m)).isSome =ac:=by rw[List.find?_isSome];refine⟨(m:Int),gk.mpr ⟨m,L,rfl⟩,?_⟩;rw[du];intro z hz;obtain⟨y,G,rfl⟩:=gk.mp hz;have:=H y G;exact df<|bD 0x1ec22c006200 Yt this
 obtain⟨z,hz⟩:=vh.mp s;apply A;clear A;rw[e,hz];refine aE λA=>?_;have O:=KW hz;have M:=Qk1 hz;obtain⟨B,D,rfl⟩:=gk.mp O;apply A;clear A;refine⟨B,rfl,?_,λh=>h B D⟩;intro q x C;have:=of_decide_eq_true<|du.mp M (x:Int)<|gk.mpr ⟨x,C,rfl⟩;exact bS 0x74114a08a245256040581207b08b00 Yt q this
theorem Vm(l:List ak)(x:ak):idx2 (.list<|l++[x]) (.int<|-1)=aa x:=by
 show(e9 (-1) (l++[x]).length).bind _=_;unfold e9;rw[av (by decide),ar<|by simp;exact B3];have:(-1+((l++[x]).length :Int)).toNat =l.length:=by simp;exact GK
 rw[this];simp
def i7(l:List (List Nat)):List ak:=l.map λr=>.list (r.map N')
theorem EJ:∀(N v:Nat)(T:dT),Rn N v T<=4^N:=by
 intro A;induction A with
 |zero=>intro _ _;exact eR _
 |succ N B=>
  intro v T;have st:∀b,(if 0<T v b then Rn N b (aZ T v b)else 0)<=4^N:=λb=>by
   split
   ·exact B _ _
   ·exact kh _
  have a:=st 0;have b:=st 1;have c:=st 2;have d:=st 3;dsimp only[QiT,Kb,vB];exact yX 0x64e1203003403620188806218188406200 Yt a b c d
theorem Qjz{fr:List Nat}{sub:List<|List Nat}{acc:List ak}(A:v<4)(B:b<4)(H:fr.length<=100)(L:0<T v b->O 22 [.list<|((fr++[v])++[b]).map N',.list<|kR<|aZ T v b]=aa (.list<|i7 sub))(hs:acc.length+sub.length<=100000)(D:FV): ∃C,bt aA O Wf (fu+8) HQ [.val<|.list<|(fr++[v]).map N',.val<|.list<|kR T,.own acc,.val<|N' b,D,.un,.un,.un]=aa (.next,[.val<|.list<|(fr++[v]).map N',.val<|.list<|kR T,.own<|acc++(if 0<T v b then i7 sub else[]),.val<|N' b,C,.un,.un,.un]):=by
 refine⟨.val<|.int ((4*v+b:Nat):Int),?_⟩;have M:idx2 (.list<|(fr++[v]).map N') (.int<|-1)=aa (N' v):=by rw[jD];exact Vm _ _
 refine cz (dA (d:=.int ((4*v+b:Nat):Int))<|bn (bn aX (dC (ce rfl) (JT aX) M) (c:=aa<|.int ((4*v:Nat):Int)) ?_) (aB rfl) rfl) ?_
 ·refine(sU rfl ?_).trans rfl;rcases d7 A with e|e|e|e<;>subst e<;>decide
 have G:aS aA O 40 (.cmp .gt (.idx (.v 1)<|.v 4)<|.ki 0) [.val<|.list<|(fr++[v]).map N',.val<|.list<|kR T,.own acc,.val<|N' b,.val<|.int ((4*v+b:Nat):Int),.un,.un,.un]=aa (decide (0<T v b)):=by
  refine dS (dC (ce rfl) (aB rfl)<|Vl T A B) (bE aX rfl) ?_;by_cases q:0<T v b
  ·rw[df q];exact uL (by show(T v b:Int)>0;exact oH q)
  ·rw[fM q];exact xu (by show¬(T v b:Int)>0;exact aH 0x27b00066001 Yt q)
 refine cz (j8 _ G ?_) dj;by_cases q:0<T v b
 ·rw[df q,ar rfl,ar q];refine cz (UR rfl (lP (a1:=.list<|((fr++[v])++[b]).map N') (a2:=.list<|kR<|aZ T v b) ?_ ?_<|L q) ?_) dj
  ·refine bn (aB rfl) (xE<|aB rfl) ((sO<|by simp;exact aH 0x6c9a49a0990068a2240 Yt H).trans ?_);rw[jD (l₂:=[b])];rfl
  ·refine bn (bn (qi (aB rfl) qk (aB rfl)<|Ep (k:=4*v+b)<|bS 0x52a224608228a8b26430132213a120e840 Yt A B) (xE<|bn (dC (ce rfl) (aB rfl)<|Vl T A B) aX<|rA (b:=1) q)<|sO<|by simp;exact ig 0xd0910c84c084508228208914208a08a246e9a49a099d02443213021 Yt) (qi (aB rfl) (bn (aB rfl) aX (c:=aa<|.int ((4*v+b+1:Nat):Int)) rfl) qk<|UC (k:=4*v+b+1)<|bS 0x52a224608228a8b26432430132213a120e840 Yt A B) ((sO<|by simp;exact ig 0x543213021e8934244321302114208a08228224508228228a08934244321302114208a08208a2450822820822891828926826432c3213021e890c9d02443213021 Yt).trans ?_);rw[<-Qjw T A B];rfl
  ·unfold i7;rw[b8];exact hs
 ·rw[fM q,av (by decide),av q,py];exact dj
theorem Vn{wf k:Nat}:∀(N:Nat)(fr:List Nat)(v:Nat)(T:dT),v<4->ip T=N->N<=7->fr.length+N<=50->aO wf (k+N+1) 22 [.list<|(fr++[v]).map N',.list<|kR T]=aa (.list<|i7<|gi N (fr++[v]) v T)
 |N,fr,v,T,u,C,H,M=>by
  rw[fG QhJ rfl];refine Ret.evF ?_ rfl;show Ret aA _ _ 200 P7.body [.val<|.list<|(fr++[v]).map N',.val<|.list<|kR T,.un,.un,.un,.un,.un,.un] _;refine aE λL=>?_;obtain⟨m,l,p⟩:=Qjy (xs:=(bv 16).map λi=>T (i/4)<|i%4) (by simp);rw[fg]at l;have j:aS aA (aO wf<|k+N) 40 PG [.val<|.list<|(fr++[v]).map N',.val<|.list<|kR T,.un,.un,.un,.un,.un,.un]=aa (decide ((m:Int)=0)):=Ex<|gg (ce rfl) l;have G:m=0↔N=0:=by
   rw[p];constructor
   ·intro h;have z:∀a b,a<4->b<4->T a b=0:=λa b U A=>h _ (gk.mpr ⟨4*a+b,eY.mpr (by exact Oh U A),by rw[show(4*a+b)/4=a by exact bD 0x9610c04c885d04588a0820822458822895886e10c04c884e840 Yt A,LG,A5 A]⟩);rw[<-C];delta ip aP;simp only[z 0 0 (by decide) (by decide),z 0 1 (by decide) (by decide),z 0 2 (by decide) (by decide),z 0 3 (by decide) (by decide),z 1 0 (by decide) (by decide),z 1 1 (by decide) (by decide),z 1 2 (by decide) (by decide),z 1 3 (by decide) (by decide),z 2 0 (by decide) (by decide),z 2 1 (by decide) (by decide),z 2 2 (by decide) (by decide),z 2 3 (by decide) (by decide),z 3 0 (by decide) (by decide),z 3 1 (by decide) (by decide),z 3 2 (by decide) (by decide),z 3 3 (by decide)<|by decide]
   ·intro h x n;obtain⟨i,f,rfl⟩:=gk.mp n;have:=eY.mp f;exact Ki (C.trans h) _ _ (aH 0x2584014a0820a224e85b840382440 Yt this)<|cN 0x96100508228224e863840 Yt
  apply L;clear L;match N,H,M,C,G with
  |0,_,_,_,G=>refine Ret.ife ac (j.trans (by rw[df (by have:=G.mpr rfl;exact N9 this)])) ?_;rw[ar rfl];exact Ret.retE (xE (aB rfl))
  |N+1,H,M,C,G=>
   refine Ret.no (j.trans<|by rw[fM (by have:=mt G.mp (cN 0x527e043240 Yt:¬N+1=0);exact GM this)]) ?_;refine Ret.next (rfl) ?_;refine aE λL=>?_;have st:∀b,b<4->∀(acc:List ak)(O:FV),acc.length<=50000->∃t,bt aA (aO wf<|k+N+1) wf 188 HQ [.val<|.list<|(fr++[v]).map N',.val<|.list<|kR T,.own acc,.val<|N' b,O,.un,.un,.un]=aa (.next,[.val<|.list<|(fr++[v]).map N',.val<|.list<|kR T,.own<|acc++(if 0<T v b then i7 (gi N ((fr++[v])++[b]) b<|aZ T v b)else[]),.val<|N' b,t,.un,.un,.un]):=λb A acc O U=>by refine Qjz (fu:=180) (sub:=gi N ((fr++[v])++[b]) b<|aZ T v b) u A (bD 0x68a2240192c430c9200 Yt M) (λq=>Vn N (fr++[v]) b (aZ T v b) A (by have:=Kf u A q;exact GS C C this this) (aH 0x1b9006e43240 Yt H)<|by simp;exact bD 0x192c43203240192c430c9200 Yt M) ?_ O;rw[Ks];have:=EJ N b<|aZ T v b;have Y:4^N<=4^7:=jF (by decide)<|aH 0x1b9006e43240 Yt H;exact fV (E5 U<|fV this Y)<|by decide
   have D:∀b,(if 0<T v b then i7 (gi N ((fr++[v])++[b]) b<|aZ T v b)else[]).length <=4096:=λb=>by
    split
    ·unfold i7;rw[b8,Ks];have:=EJ N b<|aZ T v b;have Y:4^N<=4^6:=jF (by decide)<|aH 0x1b1006e43240 Yt H;exact fV this Y
    ·exact kh _
   obtain⟨S,o⟩:∃S:Nat->List ak,∀b,(if 0<T v b then i7 (gi N ((fr++[v])++[b]) b<|aZ T v b)else[])=S b:=⟨_,λb=>rfl⟩;simp only[o]at st D;have Q:=D 0;have y:=D 1;have e:=D 2;have w:=D 3;obtain⟨d,s⟩:=st 0 (by decide) [] .un (by simp);obtain⟨x1,s1⟩:=st 1 (by decide) ([]++S 0) d (by rw[qC];exact aH 0x6092a8a889006082082240 Yt Q);obtain⟨x2,r⟩:=st 2 (by decide) ([]++S 0++S 1) x1 (by rw[qC,cw];exact bS 0x1824aa2a2243008182082089206082082240 Yt Q y);obtain⟨c,g⟩:=st 3 (by decide) ([]++S 0++S 1++S 2) x2 (by rw[qC,cw,cw];exact mv 0x6092a8a8890c00c8406082082250182082089206082082240 Yt Q y e);apply L;clear L;refine Ret.next (iK (nV (m:=4) rfl (by decide))<|ek rfl s (ek rfl s1 (ek rfl r (ek rfl g rfl)))) ?_;refine Ret.next (rfl) ?_;refine Ret.retE<|(aB rfl).trans ?_;rw[EI];have B:∀b,i7 (if 0<T v b then gi N ((fr++[v])++[b]) b (aZ T v b)else[])=if 0<T v b then i7 (gi N ((fr++[v])++[b]) b<|aZ T v b)else[]:=λb=>by split<;>rfl
   simp only[o]at B;unfold i7 at B⊢;rw[jD,jD,jD,B,B,B,B,qC]
end
section
theorem QjA:∀n:Nat,n<=8->aO wf (k+1) 21 [.int (n:Int)]=aa (N'<|fn n)
 |0,_|1,_|2,_|3,_|4,_|5,_|6,_|7,_|8,_=>by rw[fG Um rfl];rfl
 |n+9,h=>absurd h (by exact cN 0x1e0890ca240 Yt)
theorem Vo(B: -1<=c)(A:c<=8):aO wf (k+1) 21 [.int c]=aa (N'<|fn c.toNat):=by
 rcases W6 c 0 with h|h
 ·have e:c= -1:=by exact Z2 0x74114a082245282257f0900703c24f040 [_] Yt B h
  rw[e,fG Um rfl];rfl
 ·obtain⟨n,rfl⟩:=tu h;exact QjA n<|by exact aH 0x6089007089b00 Yt A
theorem xK(h:x.natAbs<2^1000):cb x=ac:=by
 have:x.natAbs.log2<1000:=by
  rcases pB x.natAbs with q|q
  ·rw[q];decide
  ·exact(xV<|GH q).mpr h
 exact df<|aH 0x608228a8b2643240382aba240 Yt this
theorem Kt{wf k d:Nat}{x z:Int}(M:30<=k)(C:0<d)(xf:d<2^1000)(H:x.natAbs<2^1000)(e:x=d*z):aO (wf+3) (k+9) 5 [.int x,.int (d:Int)]=aa (.tuple [.int z,.int 0]):=by
 have b1:(2:Nat)^1000<=2^16000:=jF (by decide) (by decide);generalize (2:Nat)^1000=A at*;by_cases q:0<=x
 ·have G:0<=z:=by
   rcases W6 z 0 with h|h
   ·have:=Int.mul_neg_of_pos_of_neg (a:=(d:Int)) (oH C) h;exact Z3 0x508a2891d00570081c804f040 [_,_,_] Yt e q this
   ·exact h
  obtain⟨n,rfl⟩:=tu G;have D:x=((d*n:Nat):Int):=by rw[e,iq]
  rw[D]at H⊢;have B:uK (d*n) d:=⟨C,yU xf b1,lZ H<|fV b1<|jF (by decide)<|by decide⟩;rw[Aq (k:=k+1) (yP M) B,Nat.mul_div_cancel_left _ C,Nat.mul_mod_right];rfl
 ·have G:z<0:=by
   rcases W6 z 0 with h|h
   ·exact h
   ·have:=VQ (a:=(d:Int)) (iU) h;exact Z3 0x508a2893c14370087c8047001 [_,_,_] Yt e q this
  obtain⟨n,L⟩:=tu (a:= -z-1)<|fT 0x72c9f0004f040 Yt G;have hz:z= -(n:Int)-1:=pM 0x74114a0822452822572c9f2c0005ec00b27c037b002c9f00 Yt L L;have D:x= -((d*n+(d-1):Nat):Int)-1:=by
   rw[e,hz];have:((d*n+(d-1):Nat):Int)=d*n+(d-1):=by dsimp only[Fk,iq];exact pN 0x54901d04528a08224528225d0452822452895c32c9b00003b0b24000e001 Yt C
   rw[this];grind
  have B:uK (d*n+(d-1)) d:=⟨C,yU xf b1,lZ (Zg D H)<|fV b1<|jF (by decide)<|by decide⟩;have O:(d*n+(d-1))/d=n:=by rw[W7 C,A3<|by exact GG C];exact cN 0x1d045245256003040 Yt
  have m2:(d*n+(d-1))%d=d-1:=by rw[LG,A5<|by exact GG C]
  rw[D,JN (by exact aH 0x180c99180c99 Yt M) B,O,m2,hz];have:((d:Int)+(-((d-1:Nat):Int)-1))=0:=aH 0x1524074114a08914a28208974114a2452822570432c9f2c2c902c00e001 Yt C;rw[this]
theorem AJ(D:f[i]?=aa (.own2 A))(C:ai T O n a f=aa x)(B:ai T O n b f=aa y)(h:oP A x y=aa d):ai T O (n+1) (.idx2 i a b) f=aa d:=by rw[Pb,show f.rows i=aa A from by unfold Frm.rows;rw[D],C,B];exact h
theorem QjB(H:f[i]?=aa (.own2 A))(h:ai T O 40 e f=aa z)(G:ai T O 40 a f=aa x)(D:ai T O 40 b f=aa y)(C:t8 A x y z=aa B):bK T O W (n+1) (.sto i a b e) f=aa (.next,f.put i<|.own2 B):=by rw[Pi,show f.rows i=aa A from by unfold Frm.rows;rw[H],h,G,D];show(t8 A x y z).map _=_;rw[C];rfl
theorem xL(Y:oP A (.int i) (.int j)=aa (.int p))(U:oP A (.int k) (.int k)=aa (.int q))(T:oP A (.int i) (.int k)=aa (.int r))(hs:oP A (.int k) (.int j)=aa (.int s))(L:cb p=ac)(H:cb q=ac)(G:cb r=ac)(D:cb s=ac)(y:O 5 [.int<|p*q-r*s,.int c]=aa (.tuple [.int z,.int 0]))(Q:t8 A (.int i) (.int j) (.int z)=aa M): bt aA O Wf (fu+8) PH (C::B::.own2 A::.val (.int c)::.val (.int k)::.val (.int i)::.val (.int j)::v::tl)=aa (.next,C::B::.own2 M::.val (.int c)::.val (.int k)::.val (.int i)::.val (.int j)::.val (.tuple [.int z,.int 0])::tl):=by refine cz (dA<|lP (bn (bn (AJ rfl (aB rfl) (aB rfl) Y) (AJ rfl (aB rfl) (aB rfl) U)<|sU L H) (bn (AJ rfl (aB rfl) (aB rfl) T) (AJ rfl (aB rfl) (aB rfl) hs)<|sU G D)<|rr _ _) (aB rfl) y) ?_;refine cz (j8 ae (dS (dC (a:=.tuple [.int z,.int 0]) (ce rfl) aX (d:=aa<|.int 0) rfl) (bE aX rfl) rfl) dj) ?_;exact cz (QjB rfl (dC (a:=.tuple [.int z,.int 0]) (ce rfl) aX (d:=aa<|.int z) rfl) (aB rfl) (aB rfl) Q) dj
def bX(T:dT)(a b:Nat):Int:=(if a=b then(aP T a:Int)else 0)-T a b
abbrev eU(T:dT):List ak:=(bv 4).map λa=>.list ((bv 4).map λb=>N' (T a b))
theorem xM(T:dT){a:Nat}(A:a<4):idx2 (.list<|eU T) (.int (a:Int))=aa (.list<|(bv 4).map λb=>N'<|T a b):=by rcases d7 A with e|e|e|e<;>subst e<;>rfl
theorem Vp(T:dT){a b:Nat}(A:b<4):idx2 (.list<|(bv 4).map λb=>N'<|T a b) (.int (b:Int))=aa (N'<|T a b):=by rcases d7 A with e|e|e|e<;>subst e<;>rfl
theorem QjC(keep:List Nat)(g:Nat->Nat->Int):zk (.list<|keep.map λa=>.list<|keep.map λb=>.int<|g a b)=aa (keep.map λa=>keep.map λb=>g a b):=by
 show lj _ _=_;have:∀l:List Nat,lj (λr=>(iE r).bind fU) (l.map λa=>tq<|keep.map λb=>.int<|g a b)=aa (l.map λa=>keep.map λb=>g a b):=by
  intro l;induction l with
  |nil=>rfl
  |cons x r A=>
   show((fU<|keep.map λb=>bQ<|g x b).bind λx=>(lj _ _).map (x::·))=_;have e:(keep.map λb=>bQ<|g x b)=(keep.map λb=>g x b).map .int :=by rw[fg];rfl
   rw[e,Ap,A];rfl
 exact this keep
theorem QjD{keep:List Nat}(D:∀a∈keep,a<4)(C:keep.length<=10)(G:List FV):ai aA O 40 Ps (.val (.list<|eU T)::.val (.list<|keep.map N')::G)=aa (.list<|keep.map λa=>.list<|keep.map λb=>.int<|bX T a b):=by
 refine lR (g:=N') (g7 (d:=.list<|keep.map N') (aB rfl) rfl rfl) (wg C) ?_;intro a A;refine lR (g:=N') (g7 (d:=.list<|keep.map N') (aB rfl) rfl rfl) (wg C) ?_;intro b B;have A:=D a A;have B:=D b B;refine bn (a:=.int<|if a=b then(aP T a:Int)else 0) (AA (decide ((a:Int)=b)) ?_ ?_) (dC (bE (dC (ce rfl) (aB rfl)<|xM T A) rfl) (aB rfl)<|Vp T B)<|rr _ _
 ·refine dS (a:=N' a) (b:=N' b) (aB rfl) (ce rfl) ?_;by_cases q:a=b
  ·rw[Ar (by show(a:Int)=b;exact GU q q),df<|by exact GU q q]
  ·rw[As (by show(a:Int)≠b;exact GV q),fM<|by exact GV q]
 ·by_cases q:a=b
  ·rw[df (by exact GU q q),ar rfl,ar q];exact gg (bE (dC (ce rfl) (aB rfl)<|xM T A) rfl)<|EH _
  ·rw[fM (by exact GV q),av (by decide),av q];exact aX
end
section
theorem bd{p q r s:Int}{B:Nat}(D:p.natAbs<=B)(C:q.natAbs<=B)(A:r.natAbs<=B)(hs:s.natAbs<=B):(p*q-r*s).natAbs <=2*(B*B):=by
 have H:(p*q).natAbs <=B*B:=by rw[Fm];exact qH D C
 have G:(r*s).natAbs <=B*B:=by rw[Fm];exact qH A hs
 exact fV (QkQ _ _) (by rw[yn];exact E5 H G)
theorem rD(h:n<=B)(A:B<2^100):n<2^1000:=lZ (qt h A)<|jF (by decide)<|by decide
abbrev lY(T:dT)(keep:List Nat)(rs:List (List Int))(c:Int)(v4 v5 v6 v7:FV):Frm:=.val (.list (eU T))::.val (.list (keep.map N'))::.own2 rs::.val (.int c)::v4::v5::v6::v7::[.un,.un,.un]
theorem AK(G:keep.length<=10)(H:k<=10):cC aA O 40 (.rng [.bin .add (.v 4)<|.ki 1,.bi .len [.v 1]]) (lY T keep D c (.val<|N' k) C B A)=aa ((bv<|keep.length-(k+1)).map λi=>N'<|k+1+i):=by
 have e:ai aA O 39 (.bi .len [.v 1]) (lY T keep D c (.val<|N' k) C B A)=aa (.int ((keep.length:Nat):Int)):=by rw[show((keep.length:Nat):Int)=(((keep.map N').length :Nat):Int) by rw[b8]];exact uN rfl
 exact JZ (a:=k+1) (b:=keep.length) (by exact aH 0x182892682643240192240 Yt H) (by exact wg G) (bn (aB rfl) aX rfl) e
theorem QjE(H:keep.length<=10):cC aA O 40 (.rng [.bi .len [.v 1]]) (lY T keep G c D C B A)=aa ((bv keep.length).map N'):=by
 have e:ai aA O 39 (.bi .len [.v 1]) (lY T keep G c D C B A)=aa (.int ((keep.length:Nat):Int)):=by rw[show((keep.length:Nat):Int)=(((keep.map N').length :Nat):Int) by rw[b8]];exact uN rfl
 exact UI (by exact wg H) e
theorem EK(M:∀a∈keep,a<4)(H:keep.length<=10)(h:∃G D C B A,gc (λf=>bt aA O Wf 196 HO f) (gf [4] ac) ((bv keep.length).map N') (lY T keep (keep.map λa=>keep.map λb=>bX T a b) 1 .un .un .un .un)=aa (.next,lY T keep G z D C B A)):evF aA O Wf HU [.list<|eU T,.list<|keep.map N']=aa (.int z):=by
 refine aE λL=>?_;obtain⟨G,D,C,B,A,h⟩:=h;apply L;clear L;refine Ret.evF ?_ rfl;show Ret aA _ _ 200 HU.body [.val<|.list<|eU T,.val<|.list<|keep.map N',.un,.un,.un,.un,.un,.un,.un,.un,.un] _;refine Ret.next (g:=[.val<|.list<|eU T,.val<|.list<|keep.map N',.own2<|keep.map λa=>keep.map λb=>bX T a b,.un,.un,.un,.un,.un,.un,.un,.un]) ?_ ?_
 ·rw[Ph,QjD M H];show(zk _).bind _=_;rw[QjC];rfl
 refine Ret.next (dA aX) ?_;refine Ret.next (iK (QjE H) h) ?_;exact Ret.retE<|aB rfl
theorem EL(h:oP A (.int k) (.int k)=aa (.int G)):bK aA O Wf (fu+1) (.asg 3<|.idx2 2 (.v 4)<|.v 4) (lY T keep A c (.val<|.int k) D C B)=aa (.next,lY T keep A G (.val<|.int k) D C B):=dA<|AJ rfl (aB rfl) (aB rfl) h
theorem Ku{keep:List Nat}{A:List<|List Int}(B:keep.length=k+1)(C:k<=5)(h:oP A (.int (k:Int)) (.int (k:Int))=aa (.int L)):bt aA O Wf (fu+20) HO (lY T keep A c (.val<|N' k) H G D)=aa (.next,lY T keep A L (.val<|N' k) H G D):=cz (iK (AK (by exact bS 0x192248583240206a40 Yt B C)<|by exact aH 0x6489006a40 Yt C)<|by rw[B,Nat.sub_self];rfl)<|cz (EL h) dj
theorem QjF:aO wf (k+1) 20 [.list<|eU T,.list []]=aa (.int 1):=by rw[fG Ei rfl];exact EK (keep:=[]) (by decide) (by simp) ⟨_,.un,.un,.un,.un,rfl⟩
theorem Kv(A:x<4):aO wf (k+1) 20 [.list<|eU T,.list [N' x]]=aa (.int<|bX T x x):=by rw[fG Ei rfl];exact EK (keep:=[x]) (by simpa using A) (by simp) ⟨_,_,.un,.un,.un,ek rfl (Ku (k:=0) rfl (by decide) rfl) rfl⟩
section
variable {wf k:Nat} {T:dT} (hk:30<=k) (hT:∀a b,a<4->b<4->(bX T a b).natAbs <=100)
include hk hT
theorem Kw(B:x<4)(A:y<4):aO (wf+3) (k+10) 20 [.list<|eU T,.list [N' x,N' y]]=aa (.int<|bX T y y*bX T x x-bX T y x*bX T x y):=by rw[fG Ei rfl];refine EK (keep:=[x,y]) (by simp;exact⟨B,A⟩) (by simp) ?_;have b:=bd (hT y y A A) (hT x x B B) (hT y x A B)<|hT x y B A;have s:∀a b,a<4->b<4->cb (bX T a b)=ac:=λa b Q O=>xK (rD (hT a b Q O)<|by decide);show∃o u v q Y,gc _ _ _ (lY T [x,y] [[bX T x x,bX T x y],[bX T y x,bX T y y]] 1 .un .un .un .un)=_;have s1:=s x x B B;have M:=s x y B A;have L:=s y x A B;have H:=s y y A A;generalize bX T x x=G at*;generalize bX T x y=D at*;generalize bX T y x=C at*;generalize bX T y y=rg at*;have U:=Kt (wf:=wf) (k:=k) (d:=1) (x:=rg*G-C*D) (z:=rg*G-C*D) hk (by decide) (by decide) (rD b<|by decide) (by rw[Int.natCast_one,AM]);refine⟨_,_,_,_,_,ek rfl (cz (iK (AK (k:=0) (by simp)<|by exact GW)<|ek rfl (cz (iK (AK (k:=0) (by simp)<|by exact GW)<|ek rfl (xL (fu:=184) (k:=0) (i:=1) (j:=1) rfl rfl rfl rfl H s1 L M U rfl) rfl) dj) rfl)<|cz (EL rfl) dj) (ek rfl (Ku (k:=1) rfl (by decide) rfl) rfl)⟩
theorem QjG(C:x<4)(A:y<4)(hz:z<4)(hp:0<bX T x x):aO (wf+3) (k+10) 20 [.list<|eU T,.list [N' x,N' y,N' z]]=aa (.int<|fA (bX T x x) (bX T x y) (bX T x z) (bX T y x) (bX T y y) (bX T y z) (bX T z x) (bX T z y)<|bX T z z):=by
 rw[fG Ei rfl];refine EK (keep:=[x,y,z]) (by simp;exact⟨C,A,hz⟩) (by simp) ?_;have s:∀a b,a<4->b<4->(bX T a b).natAbs <=100/\cb (bX T a b)=ac:=λa b ha hb=>⟨hT a b ha hb,xK<|rD (hT a b ha hb)<|by decide⟩;show∃Q v4 L H G,gc _ _ _ (lY T [x,y,z] [[bX T x x,bX T x y,bX T x z],[bX T y x,bX T y y,bX T y z],[bX T z x,bX T z y,bX T z z]] 1 .un .un .un .un)=_;refine aE λcG=>?_;obtain⟨D,O⟩:=s x x C C;obtain⟨bb,sb⟩:=s x y C A;obtain⟨bc,sc⟩:=s x z C hz;obtain⟨Yx,sd⟩:=s y x A C;obtain⟨be,se⟩:=s y y A A;obtain⟨bf,sf⟩:=s y z A hz;obtain⟨bg,sg⟩:=s z x hz C;obtain⟨bh,sh⟩:=s z y hz A;obtain⟨bi,si⟩:=s z z hz hz;generalize bX T x x=a at*;generalize bX T x y=b at*;generalize bX T x z=c at*;generalize bX T y x=d at*;generalize bX T y y=e at*;generalize bX T y z=f at*;generalize bX T z x=g at*;generalize bX T z y=h at*;generalize bX T z z=i at*;have MQ:=bd be D Yx bb;have MR:=bd bf D Yx bc;have w:=bd bh D bg bb;have p:=bd bi D bg bc;have Y:∀m:Int,m.natAbs<=2*(100*100)->aO (wf+3) (k+9) 5 [.int m,.int 1]=aa (.tuple [.int m,.int 0]):=λm u=>Kt (wf:=wf) (k:=k) (d:=1) (x:=m) (z:=m) hk (by decide) (by decide) (rD u<|by decide) (by rw[Int.natCast_one,AM]);have r:=Y _ MQ;have t:=Y _ MR;have l:=Y _ w;have o:=Y _ p;have v:(i*a-g*c)*(e*a-d*b)-(h*a-g*b)*(f*a-d*c)=a*fA a b c d e f g h i:=by unfold fA;grind
 have qq:=bd p MQ w MR;have M:∀m:Int,m.natAbs<=2*(100*100)->cb m=ac:=λm u=>xK (rD u<|by decide);have Gf:=M _ MQ;have Gg:=M _ MR;have Gh:=M _ w;have rg:=M _ p;obtain⟨n,U⟩:=tu (a:=a) (by exact fT 0x1c004f001 Yt hp);have dv:aO (wf+3) (k+9) 5 [.int<|(i*a-g*c)*(e*a-d*b)-(h*a-g*b)*(f*a-d*c),.int a]=aa (.tuple [.int<|fA a b c d e f g h i,.int 0]):=by have:=Kt (wf:=wf) (k:=k) (d:=n) (x:=(i*a-g*c)*(e*a-d*b)-(h*a-g*b)*(f*a-d*c)) (z:=fA a b c d e f g h i) hk (by exact pM 0x38004f0015ec000 Yt hp U) (rD (B:=100) (by rw[U]at D;exact D)<|by decide) (rD qq<|by decide) (by rw[v,U]);rwa[<-U]at this
 have q:∀{Q c L H G},cC aA (aO (wf+3)<|k+9) 40 (.rng [.bin .add (.v 4)<|.ki 1,.bi .len [.v 1]]) (lY T [x,y,z] Q c (.val<|N' 0) L H G)=aa [N' 1,N' 2]:=AK (k:=0) (by simp) (by exact GW);have r1:∀{Q c L H G},cC aA (aO (wf+3)<|k+9) 40 (.rng [.bin .add (.v 4)<|.ki 1,.bi .len [.v 1]]) (lY T [x,y,z] Q c (.val<|N' 1) L H G)=aa [N' 2]:=AK (k:=1) (by simp) (by exact iV 0x192249 Yt);apply cG;clear cG;refine⟨_,_,_,_,_,ek rfl (cz (iK q<|ek rfl (cz (iK q<|ek rfl (xL (fu:=184) (k:=0) (i:=1) (j:=1) rfl rfl rfl rfl se O sd sb r rfl) (ek rfl (xL (fu:=184) (k:=0) (i:=1) (j:=2) rfl rfl rfl rfl sf O sd sc t rfl) rfl)) dj) (ek rfl (cz (iK q<|ek rfl (xL (fu:=184) (k:=0) (i:=2) (j:=1) rfl rfl rfl rfl sh O sg sb l rfl) (ek rfl (xL (fu:=184) (k:=0) (i:=2) (j:=2) rfl rfl rfl rfl si O sg sc o rfl) rfl)) dj) rfl))<|cz (EL rfl) dj) (ek rfl (cz (iK r1<|ek rfl (cz (iK r1<|ek rfl (xL (fu:=184) (k:=1) (i:=2) (j:=2) rfl rfl rfl rfl rg Gf Gh Gg dv rfl) rfl) dj) rfl)<|cz (EL rfl) dj) (ek rfl (Ku (k:=2) rfl (by decide) rfl) rfl))⟩
end
end
section
theorem QjH(a b:Nat):∀k:List Nat,aJ a b k<=k.count a:=by
 intro A;induction A with
 |nil=>exact eR _
 |cons x r B=>
  have:=B;dsimp only[pZ,gW,A6];by_cases q:x=a
  ·obtain rfl:=q.symm;simp;split<;>(first|exact bD 0x1832480c0246200 Yt this|exact bD 0x1832480c0046200 Yt this)
  ·simp[q];exact BW this
theorem QjI:∀k:List Nat,a∈k->k.getLast?≠aa a->aJ a a k<k.count a:=by
 intro G;induction G with
 |nil=>intro h L;cases h
 |cons x D H=>
  cases D with
  |nil=>
   intro h B;obtain rfl:a=x:=by simpa using h
   exact absurd rfl B
  |cons y r=>
   intro h B;rw[gW,A6];by_cases q:a∈y::r
   ·have A:=H q (by rwa[QlQ]at B);by_cases e:x=a
    ·subst e;simp;split<;>(first|exact bD 0x3832480c024e200 Yt A|exact bD 0x3832480c004e200 Yt A)
    ·simp[e];exact GC A
   ·have:x=a:=((bF.mp h).resolve_right q).symm;subst this;have:=QjH x x<|y::r;rw[List.count_eq_zero.mpr q]at this;have C:y≠x:=λe=>q (by rw[e];simp);simp[C];exact bD 0x383248006040 Yt this
def mM(T:dT)(w:Nat):List Nat:=(bv 4).filter λk=> !(k==w)&&decide (0<aP T k)
theorem gr(h:aP T a=0)(q:a≠b):eA T a b=0:=by unfold eA;rw[ar h,av q]
theorem nY(h:aP T a=0):eA T a a=1:=by unfold eA;rw[ar h,ar rfl]
theorem er(h:0<aP T a)(b:Nat):eA T a b=bX T a b:=by delta eA bX;rw[av<|Nat.ne_of_gt h]
theorem EM(d e f g h i:Int):fA 1 0 0 d e f g h i=i*e-h*f:=by unfold fA;grind
theorem Vq(a b c g h i:Int):fA a b c 0 1 0 g h i=i*a-g*c:=by unfold fA;grind
theorem dr3(a b c d e f:Int):fA a b c d e f 0 0 1=e*a-d*b:=by unfold fA;grind
theorem Vr(i h:Int):i*1-h*0=i:=by rw[KC,Int.mul_zero,Int.sub_zero]
theorem Vs(i h:Int):1*i-0*h=i:=by rw[AM,VR,Int.sub_zero]
theorem sV{T:dT}{x y z w:Nat}{l:List Nat}{d:Int}{O:bC}(C:mM T w=l)(B:O 20 [.list<|eU T,.list<|l.map N']=aa (.int d))(A:Dw w T=d):O 20 [.list<|eU T,.list<|(mM T w).map N']=aa (.int<|Dw w T):=by rw[C,A];exact B
theorem QjK{wf k:Nat}{T:dT}(v:30<=k)(u:∀a b,a<4->b<4->(bX T a b).natAbs <=100){w:Nat}(t:w<4)(d:∀a,a<4->a≠w->0<aP T a->0<bX T a a):aO (wf+3) (k+10) 20 [.list<|eU T,.list<|(mM T w).map N']=aa (.int<|Dw w T):=by
 have j:∀x y z,mM T w=(if 0<aP T x then[x]else[])++(if 0<aP T y then[y]else[])++(if 0<aP T z then[z]else[])->x<4->y<4->z<4->x≠w->y≠w->x≠y->x≠z->y≠z->Dw w T=fB T x y z->aO (wf+3) (k+10) 20 [.list<|eU T,.list<|(mM T w).map N']=aa (.int<|Dw w T):=by
  intro x y z e Y q hz o g L H G M;have D:∀{n:Nat},n=0->¬0<n:=λh=>h▸qr 0;rcases pB (aP T x)with C|C
  ·rcases pB (aP T y)with B|B
   ·rcases pB (aP T z)with A|A
    ·exact sV (x:=x) (y:=y) (z:=z) (l:=[]) (e.trans<|by rw[av<|D C,av<|D B,av<|D A];rfl) QjF (by rw[M];unfold fB;rw[nY C,gr C L,gr C H,gr B L.symm,nY B,gr B G,gr A H.symm,gr A G.symm,nY A];rw[EM,Vr])
    ·exact sV (x:=x) (y:=y) (z:=z) (l:=[z]) (e.trans<|by rw[av<|D C,av<|D B,ar A];rfl) (Kv hz) (by rw[M];unfold fB;rw[nY C,gr C L,gr C H,gr B L.symm,nY B,gr B G,er A,er A,er A];rw[EM,Vr])
   ·rcases pB (aP T z)with A|A
    ·exact sV (x:=x) (y:=y) (z:=z) (l:=[y]) (e.trans<|by rw[av<|D C,ar B,av<|D A];rfl) (Kv q) (by rw[M];unfold fB;rw[nY C,gr C L,gr C H,er B,er B,er B,gr A H.symm,gr A G.symm,nY A];rw[EM,Vs])
    ·exact sV (x:=x) (y:=y) (z:=z) (l:=[y,z]) (e.trans<|by rw[av<|D C,ar B,ar A];rfl) (Kw v u q hz) (by rw[M];unfold fB;rw[nY C,gr C L,gr C H,er B,er B,er B,er A,er A,er A];exact EM _ _ _ _ _ _)
  ·rcases pB (aP T y)with B|B
   ·rcases pB (aP T z)with A|A
    ·exact sV (x:=x) (y:=y) (z:=z) (l:=[x]) (e.trans<|by rw[ar C,av<|D B,av<|D A];rfl) (Kv Y) (by rw[M];unfold fB;rw[er C,er C,er C,gr B L.symm,nY B,gr B G,gr A H.symm,gr A G.symm,nY A];rw[Vq,Vs])
    ·exact sV (x:=x) (y:=y) (z:=z) (l:=[x,z]) (e.trans<|by rw[ar C,av<|D B,ar A];rfl) (Kw v u Y hz) (by rw[M];unfold fB;rw[er C,er C,er C,gr B L.symm,nY B,gr B G,er A,er A,er A];exact Vq _ _ _ _ _ _)
   ·rcases pB (aP T z)with A|A
    ·exact sV (x:=x) (y:=y) (z:=z) (l:=[x,y]) (e.trans<|by rw[ar C,ar B,av<|D A];rfl) (Kw v u Y q) (by rw[M];unfold fB;rw[er C,er C,er C,er B,er B,er B,gr A H.symm,gr A G.symm,nY A];exact dr3 _ _ _ _ _ _)
    ·exact sV (x:=x) (y:=y) (z:=z) (l:=[x,y,z]) (e.trans<|by rw[ar C,ar B,ar A];rfl) (QjG v u Y q hz<|d x Y o C) (by rw[M];unfold fB;rw[er C,er C,er C,er B,er B,er B,er A,er A,er A])
 rcases d7 t with e|e|e|e<;>subst e
 ·exact j 1 2 3 (by unfold mM;show LH _ [0,1,2,3]=_;by_cases U:0<aP T 1<;>by_cases Q:0<aP T 2<;>by_cases O:0<aP T 3<;>simp[yi,U,Q,O]) (by decide) (by decide) (by decide) (by decide) (by decide) (by decide) (by decide) (by decide) rfl
 ·exact j 0 2 3 (by unfold mM;show LH _ [0,1,2,3]=_;by_cases U:0<aP T 0<;>by_cases Q:0<aP T 2<;>by_cases O:0<aP T 3<;>simp[yi,U,Q,O]) (by decide) (by decide) (by decide) (by decide) (by decide) (by decide) (by decide) (by decide) rfl
 ·exact j 0 1 3 (by unfold mM;show LH _ [0,1,2,3]=_;by_cases U:0<aP T 0<;>by_cases Q:0<aP T 1<;>by_cases O:0<aP T 3<;>simp[yi,U,Q,O]) (by decide) (by decide) (by decide) (by decide) (by decide) (by decide) (by decide) (by decide) rfl
 ·exact j 0 1 2 (by unfold mM;show LH _ [0,1,2,3]=_;by_cases U:0<aP T 0<;>by_cases Q:0<aP T 1<;>by_cases O:0<aP T 2<;>simp[yi,U,Q,O]) (by decide) (by decide) (by decide) (by decide) (by decide) (by decide) (by decide) (by decide) rfl
end
section
theorem QjL(s:Int):aO Wf (k+1) 9 [.int s]=aa (.bool<|decide (s<256)):=by rw[fG Qhy rfl];refine Ret.evF ?_ rfl;show Ret aA _ _ 200 PR.body [.val<|.int s,.un] _;exact Ret.retE<|qj (aB rfl) (bE aX rfl) rfl
theorem QjM(s:Int):aO Wf (k+1) 10 [.int s]=aa (.bool<|decide (s>=256)):=by rw[fG Qhz rfl];refine Ret.evF ?_ rfl;show Ret aA _ _ 200 PS.body [.val<|.int s,.un] _;exact Ret.retE<|qj (aB rfl) (bE aX rfl) rfl
theorem QjN(s:Int):aO Wf (k+1) 11 [.int s]=aa (.bool<|s==0):=by rw[fG QhA rfl];refine Ret.evF ?_ rfl;show Ret aA _ _ 200 PU.body [.val<|.int s,.un] _;exact Ret.retE<|qj (aB rfl) (bE aX rfl) rfl
structure Cx2(f s p:Nat)(ks:List Nat):Prop where
 hf:f<48
 hs:s<48
 hp:p<8
 hf6:f≠16
 hs6:s≠16
 hfs:s≠f
 kl:ks.length<=8
 k6:6<=ks.length
 k4:∀d∈ks,d<4
noncomputable abbrev lF(v0 v1 v2 v3 v4 v5 v6 v7 v8 v9 dx cp cq dO eh fD iA f9 jg iS v20 ia ib Gj oB mq Gk vW vX:FV)(tl:List FV):Frm:=v0::v1::v2::v3::v4::v5::v6::v7::v8::v9::dx::cp::cq::dO::eh::fD::iA::f9::jg::iS::v20::ia::ib::Gj::oB::mq::Gk::vW::vX::tl
section
variable {Wf k fu:Nat} (v0 v1 v2 v3 v4 v5 v6:FV) (tl:List FV)
theorem QjO(s:Int):bt aA (aO Wf<|k+1) Wf (fu+4) HR (v0::v1::v2::v3::v4::v5::v6::.val (.int s)::tl)=aa (.next,v0::v1::v2::v3::v4::v5::v6::.val (.int s)::tl):=by
 refine cz (j8 ae ?_ ?_) dj
 ·rw[JV];have a:aS aA (aO Wf<|k+1) 39 (.cmp .isnt (.call 9 [.v 7])<|.cmp .lt (.v 7)<|.ki 256) (v0::v1::v2::v3::v4::v5::v6::.val (.int s)::tl)=aa ae:=xC (nR (aB rfl)<|QjL s)<|bE (qj (aB rfl) (bE aX rfl) rfl) rfl;have b:aS aA (aO Wf<|k+1) 39 (.cmp .isnt (.call 10 [.v 7])<|.cmp .gt (.v 7)<|.ki 255) (v0::v1::v2::v3::v4::v5::v6::.val (.int s)::tl)=aa ae:=xC (nR (aB rfl)<|QjM s)<|bE (qj (aB rfl) (bE aX rfl)<|show aa (decide (s>255))=_ from rfl) rfl;have c:aS aA (aO Wf<|k+1) 39 (.cmp .isnt (.call 11 [.v 7])<|.cmp .eq (.v 7)<|.ki 0) (v0::v1::v2::v3::v4::v5::v6::.val (.int s)::tl)=aa ae:=xC (nR (aB rfl)<|QjN s)<|bE (qj (aB rfl) (bE aX rfl) rfl) rfl;simp only[Cs,Ct,a,b,c]
 ·rw[av<|by decide];exact dj
theorem QjP:∀(l:List Int)(A:FV),∃B,gc (λf=>bt aA (aO Wf<|k+1) Wf (fu+4) HR f) (gf [7] ac) (l.map .int) (v0::v1::v2::v3::v4::v5::v6::A::tl)=aa (.next,v0::v1::v2::v3::v4::v5::v6::B::tl):=by
 intro C;induction C with
 |nil=>intro A;exact⟨A,rfl⟩
 |cons s r D=>intro A;obtain⟨B,e⟩:=D (.val (.int s));have bd:gf [7] ac (.int s) (v0::v1::v2::v3::v4::v5::v6::A::tl)=aa (v0::v1::v2::v3::v4::v5::v6::.val (.int s)::tl):=rfl;refine⟨B,?_⟩;rw[dF,r6];refine af bd ?_;simp only[QjO];exact e
end
section
variable {f s p:Nat} {ks:List Nat} {O:bC} {fr:Frm}
theorem Kx{k:Nat}(h:k<4):idx2 (.list<|io f s p) (.int (k:Int))=aa (N'<|eH f s p k):=by rcases d7 h with e|e|e|e<;>subst e<;>rfl
theorem QjQ(i:Nat)(B:∀d∈ks,d<4)(A:ks.length<=100)(h:cC aA O 39 it fr=aa (ks.map N'))(D:fr[4]?=aa (.val<|.list<|io f s p)):ai aA O 40 (.comp [ab,ab,aa 4] 1 (.idx (.v 2)<|.v 1) it []) fr=aa (.list<|(ks.map<|eH f s p).map N'):=by
 rw[fg];refine lR (g:=N') h (wh A) ?_;intro k C;have e:bU fr [ab,ab,aa 4]=[.un,.un,.val<|.list<|io f s p]:=by simp only[bU,km,D]
 rw[e];exact dC (ce rfl) (aB rfl)<|Kx<|B k C
theorem QjR(c:Cx2 f s p ks)(C:fr[4]?=aa (.val<|.list<|io f s p)):ai aA O 40 Pz fr=aa (.list<|gh<|mu f s p):=by
 have D:=uU c.hp;have B:=c.hf;have hs:=c.hs;refine lR (g:=λk=>N'<|eH f s p k) (h:=λk=>S' [mu f s p k]) (g7 (d:=.list<|io f s p) (aB C) rfl rfl) (by decide) ?_;intro k A;have A:=eY.mp A;have e:bU fr [ab,ab,ab,aa 4]=[.un,.un,.un,.val<|.list<|io f s p]:=by simp only[bU,km,C]
 rw[e];have q:(eH f s p k:Int)=(eH f s p 2:Int)↔k=2:=by rcases d7 A with e|e|e|e<;>subst e<;>simp[eH]<;>(first|exact Oj B|exact Oj hs|exact bD 0x1d445282245289fec02c23e200 Yt D.2.2.1)
 refine AA (decide ((eH f s p k:Int)=(eH f s p 2:Int))) (dS (aB rfl) (bE (dC (ce rfl) aX<|Kx (k:=2)<|by decide) rfl) ?_) ?_
 ·by_cases z:(eH f s p k:Int)=(eH f s p 2:Int)
  ·rw[df z];exact Ar z
  ·rw[fM z];exact As z
 ·by_cases z:k=2
  ·rw[df<|q.mpr z,ar rfl,z];exact uO
  ·rw[fM<|λh=>z<|q.mp h,av<|by decide];have e:mu f s p k=300+eH f s p k:=by
    rcases d7 A with e|e|e|e<;>subst e<;>simp[eH,mu]at z⊢ <;>(first|exact cN 0x1d0452452560c30398aa84301aca1 Yt|exact cN 0x1d0452452560c303a6918aa84301a2b9 Yt)
   have b:=QiP B hs c.hp k;rw[e]at b⊢;exact gg (bE (bn aX (aB rfl) (c:=aa<|.int ((300+eH f s p k:Nat):Int)) rfl) rfl)<|uP b
theorem QjS(i:Nat){m:Nat->Nat}(B:∀d∈ks,d<4)(A:ks.length<=100)(h:cC aA O 38 it fr=aa (ks.map N'))(D:fr[8]?=aa (.val<|.list<|gh m)):ai aA O 39 (.comp [ab,ab,aa 8] 1 (.idx (.v 2)<|.v 1) it []) fr=aa (.list<|(ks.map λk=>[m k]).map S'):=by
 rw[fg];refine lR (g:=N') h (wh A) ?_;intro k C;have e:bU fr [ab,ab,aa 8]=[.un,.un,.val<|.list<|gh m]:=by simp only[bU,km,D]
 rw[e];exact dC (ce rfl) (aB rfl)<|AI<|B k C
theorem QjT{m:Nat->Nat}(B:∀d∈ks,d<4)(A:ks.length<=100)(h:cC aA O 38 it fr=aa (ks.map N'))(C:fr[8]?=aa (.val<|.list<|gh m)):ai aA O 40 (.meth .join (.ks []) [.comp [ab,ab,aa 8] 1 (.idx (.v 2)<|.v 1) it []]) fr=aa (S'<|ks.map m):=by
 refine(xD uO (QjS 0 B A h C)<|Eu (by simp) ?_).trans ?_
 ·rw[Az,JX,b8];exact wh A
 ·rw[Az,JX]
theorem EN(c:Cx2 f s p ks):∀a b,a<4->b<4->mu f s p a=mu f s p b->a=b:=λa b B A h=>QiO c.hf c.hs c.hp c.hfs B A h
theorem QjU{wf kk:Nat}(c:Cx2 f s p ks)(C:101<wf)(B:fr[8]?=aa (.val<|.list<|gh<|mu f s p))(H:fr[9]?=aa (.val<|S'<|ks.map<|mu f s p)):ai aA (aO wf<|kk+3) 40 PC fr=aa (.list<|eU λa b=>aJ a b ks):=by
 have D:=c.kl;have A:=c.k6;refine lR (g:=λk=>S' [mu f s p k]) (h:=λa=>.list<|(bv 4).map λb=>N'<|aJ a b ks) (g7 (d:=.list<|gh<|mu f s p) (aB B) rfl rfl) (by decide) ?_;intro a G;have e:bU fr [ab,ab,ab,aa 8,aa 9]=[.un,.un,.un,.val<|.list<|gh<|mu f s p,.val<|S'<|ks.map<|mu f s p]:=by simp only[bU,km,B,H]
 rw[e];exact UD (aB rfl) (aB rfl) (aB rfl)<|Qju (EN c) AF c.k4 (GX D) (by intro h;rw[h]at A;simp at A) C<|eY.mp G
end
end
section
theorem QjV{y:Nat}(h:y<=1000000):bP .shl (.int 1) (.int (y:Int))=aa (.int ((2^y:Nat):Int)):=by
 show(if(decide (0<=(y:Int))&&decide ((y:Int)<=1000000)&&cb 1)=ac then aa (bQ<|1*2^(y:Int).toNat)else ab)=_;rw[ar,jE,AM,pC]
 ·rfl
 ·rw[df (by exact iU),df<|by exact NQ h];rfl
theorem QjW:∀l:List Nat,(l.map λ(x:Nat)=>(x:Int)).sum =((l.sum:Nat):Int):=by
 intro A;induction A with
 |nil=>exact rfl
 |cons x r B=>exact by rw[dF,vi,vi,B];exact ig 0x7411491495ec0c8003b08b00 Yt
theorem QjX(l:List Nat):gR .sum [.list<|l.map N']=aa (.int ((l.sum:Nat):Int)):=by have:=Kr<|l.map λ(x:Nat)=>(x:Int);rw[fg]at this;exact this.trans<|congrArg (λz=>aa<|bQ z)<|QjW l
abbrev gB(ks:List Nat)(i:Nat):Nat:=aJ (i/4) (i%4) ks
abbrev kS(W:Nat)(ks:List Nat):Nat:=lU (2^W) (gB ks) 16
section
variable {f s p:Nat} {ks:List Nat} {O:bC} {fr:Frm} {W:Nat}
theorem QjY(c:Cx2 f s p ks)(H:W<=2000)(L:fr[2]?=aa (.val<|.list<|ks.map N'))(v:fr[11]?=aa (.val<|N' W)):ai aA O 39 (.bi .sum [.comp [ab,ab,aa 2,aa 11] 1 (.bin .shl (.ki 1) CB) (.rng [.ki 1,.bi .len [.v 2]]) []]) fr=aa (.int ((kS W ks:Nat):Int)):=by
 have G:=c.kl;have C:=c.k6;have D:=c.k4;have e:bU fr [ab,ab,aa 2,aa 11]=[.un,.un,.val<|.list<|ks.map N',.val<|N' W]:=by simp only[bU,km,L,v]
 have Q:ai aA O 35 (.bi .len [.v 2]) fr=aa (.int (ks.length:Int)):=by have:=uN (T:=aA) (O:=O) (n:=33) L;rwa[b8]at this
 have body:∀i∈bv (ks.length-1),ai aA O 36 (.bin .shl (.ki 1) CB) ((bU fr [ab,ab,aa 2,aa 11]).put 1<|.val<|N'<|1+i)=aa (N'<|2^(W*(4*ks.getD i 0+ks.getD (i+1) 0))):=by
  intro i A;have A:=eY.mp A;rw[e];have b1:ks.getD i 0<4:=D _<|Ey<|GY C A;have M:ks.getD (i+1) 0<4:=D _<|Ey<|GZ C A;have Y:idx2 (.list<|ks.map N') (.int ((1+i-1:Nat):Int))=aa (N'<|ks.getD i 0):=by rw[show 1+i-1=i from Ol];exact rz<|GY C A
  have g2:idx2 (.list<|ks.map N') (N'<|1+i)=aa (N'<|ks.getD (i+1) 0):=by rw[show 1+i=i+1 from Om];exact rz<|GZ C A
  generalize ks.getD i 0=x at*;generalize ks.getD (i+1) 0=y at*;have z:W*(4*x+y)<=2000*15:=qH H<|On b1 M;refine bn aX (bn (aB rfl) (bn (bn aX (dC (ce rfl) (bn (aB rfl) aX<|rA (a:=1+i) (b:=1)<|cN 0x60c0249 Yt) Y)<|(sU rfl ?_).trans (c:=aa<|N'<|4*x) rfl) (dC (ce rfl) (aB rfl) g2) (c:=aa<|N'<|4*x+y) rfl)<|(sU ?_ ?_).trans (c:=aa<|N'<|W*(4*x+y)) ?_)<|QjV<|aH 0x18208a2a2c990064fa2424ba640 Yt z
  ·rcases d7 b1 with e|e|e|e<;>subst e<;>decide
  ·exact xK<|rD (B:=2000) (by show W<=2000;exact H)<|by decide
  ·exact xK<|rD (B:=15) (by show 4*x+y<=15;exact On b1 M)<|by decide
  ·show aa (bQ<|(W:Int)*((4*x+y:Nat):Int))=aa (bQ ((W*(4*x+y):Nat):Int));dsimp only[iq]
 have j:=lR (T:=aA) (O:=O) (n:=36) (f:=fr) (src:=[ab,ab,aa 2,aa 11]) (t:=1) (elt:=.bin .shl (.ki 1) CB) (it:=.rng [.ki 1,.bi .len [.v 2]])
  (g:=λi=>N'<|1+i) (h:=λi=>N'<|2^(W*(4*ks.getD i 0+ks.getD (i+1) 0))) (xs:=bv<|ks.length-1) (JZ (a:=1) (b:=ks.length) (Oo) (G0 G) aX Q) (by rw[E6];exact Op G C) body
 refine gg (bE j rfl) ?_;have U:((bv<|ks.length-1).map λi=>N'<|2^(W*(4*ks.getD i 0+ks.getD (i+1) 0)))=((jA ks).map λq=>(2^W)^(4*q.1+q.2)).map N':=by rw[<-Kj,fg,fg];refine KX λi _=>?_;show N' _=N' _;rw[vC]
 rw[U,QjX,Vb _ ks D]
theorem QjZ(c:Cx2 f s p ks)(i:Nat):gB ks i<16:=by have B:=Ka (i/4) (i%4) ks;have A:=c.kl;show aJ (i/4) (i%4) ks<16;exact bS 0xe091206008182240 Yt B A
theorem Qj0{B:Nat}{t:Nat->Nat}{c:Nat}:∀n,(∀i,c<=i->i<c+n->t i=0)->lU B t (c+n)=lU B t c:=by
 intro A;induction A with
 |zero=>intro _;exact rfl
 |succ n C=>intro h;rw[<-WU,rC,C λi G D=>h i G (fS 0x3830c940800e0d0200 Yt D),h (c+n) (yN) (ig 0xe0c3248003200 Yt)];simp
theorem Qj1{Wf k:Nat}(c:Cx2 f s p ks)(A:4<=W)(y:W<=2000)(w:30<=k):∃n,1<=n/\n<=16/\aO Wf (k+1) 2 [.int ((kS W ks:Nat):Int),N' W]=aa (.list<|(bv n).map λi=>N'<|gB ks i)/\gB ks (n-1)≠0/\∀i,n<=i->i<16->gB ks i=0:=by
 have d:=QjZ c;have o:16<=2^W:=(jF (by decide) A:2^4<=2^W);have M:∀i,gB ks i<2^W:=λi=>lZ (d i) o;have G:0<2^W:=aH 0xe001180091 Yt o;have u:kS W ks<2^(16*W):=by rw[eQ,vC];exact Kl G M 16
 have U:0<kS W ks:=by
  rw[show kS W ks=((jA ks).map λq=>(2^W)^(4*q.1+q.2)).sum from(Vb _ ks c.k4).symm];have Y:=Qja ks;have b:=c.k6;cases e:jA ks with
  |nil=>rw[e,kg]at Y;exact bS 0x54900508a08224528208a24e201d8b240046031 Yt Y b
  |cons q r=>rw[dF,vi];have:=WZ (n:=4*q.1+q.2) G;exact bD 0x38320004e001 Yt this
 have g:=Uu (a:=kS W ks) (n:=W) (K:=16*W) (G1 A) (fV (E5 y<|l7 16 y)<|by decide) u;have h:=JM (a:=kS W ks) (n:=W) (K:=16*W) (G1 A) u;have D:=JC (a:=((kS W ks:Nat):Int)) (n:=W) (iU)<|G1 A;refine⟨eN ((kS W ks:Nat):Int) W,?_⟩;generalize x:eN ((kS W ks:Nat):Int) W=n at*;have D:kS W ks<2^(W*n):=by
  have:((kS W ks:Nat):Int)<((2^(W*n):Nat):Int):=by dsimp only[pC];exact D
  exact bD 0x38800fb08b00 Yt this
 have Q:n<=16:=by have:W*n<W*17:=bD 0x393291200383213202440 Yt h;have:=Nat.lt_of_mul_lt_mul_left this;exact aH 0x18244038a440 Yt this
 have j:1<=n:=by
  rcases pB n with q|q
  ·rw[q]at D;simp at D;exact bS 0x508a246209380056040 Yt U D
  ·exact q
 have zero:∀i,n<=i->i<16->gB ks i=0:=λi C H=>by have:=Km G M 16 i H;rw[<-this,A3,WV];refine lZ D ?_;rw[vC];exact jF G C
 refine⟨j,Q,?_,?_,zero⟩
 ·rw[Uo w];refine g.trans<|congrArg (λz=>aa<|tq z) ?_;unfold pf;refine KX λi T=>?_;have T:=eY.mp T;unfold dg;have:=Km G M 16 i<|bS 0xe09100609120e200 Yt Q T;show bQ _=bQ ((gB ks i:Nat):Int);rw[<-this, <-vC];refine congrArg bQ ?_;have e1:((2:Int)^(W*i))=((2^(W*i):Nat):Int):=by dsimp only[pC];rfl
  have e2:((2:Int)^W)=((2^W:Nat):Int):=by dsimp only[pC];rfl
  rw[e1,e2, <-WQ, <-WR]
 ·intro z;have l:∀i,n-1<=i->i<16->gB ks i=0:=λi C H=>by
   rcases(Nat.eq_or_lt_of_le C).imp KD Nat.le_of_pred_lt with e|e
   ·rw[e];exact z
   ·exact zero i e H
  have L:=Qj0 (B:=2^W) (t:=gB ks) (c:=n-1) (16-(n-1)) λi C H=>l i C<|bS 0x152c920244528208a24508a28224e09100600b2483832cb2480912c9200 Yt C H;rw[show n-1+(16-(n-1))=16 from aH 0x152c900245524014a08224508a08a08974114a08914a2560910cb2c900244b240182440 Yt Q]at L;have m:kS W ks<2^(W*(n-1)):=by show lU (2^W) (gB ks) 16<_;rw[L,vC];exact Kl G M _
  have bl:=An m;have:n<=n-1:=by have e:n=(dR ((kS W ks:Nat):Int)+W-1)/W:=x.symm;have v:(dR ((kS W ks:Nat):Int)+W-1)/W<=(W*(n-1)+(W-1))/W:=QkP<|fN 0x54940508a0895490d000528208224508a2822822460cb25020b243400190846200 Yt A bl;rw[W7 (by exact aH 0x380046021 Yt A),A3 (show W-1<W by exact aH 0x54900508a0891422893802c9006021 Yt A), <-e]at v;exact aH 0x18b2400060c12c9000 Yt v
  exact pO 0x54900528228914228226e0411802462c9000 Yt j this
end
end
section
theorem Qj2(B:aS T O n a f=aa x)(A:aS T O n b f=aa y):aS T O (n+1) (.bop ae [a,b]) f=aa (x||y):=by simp only[JV];simp only[Cs,Ct,B,A];clear B;cases x<;>(clear A;cases y)<;>rfl
section
variable {f s p:Nat} {ks:List Nat} {O:bC} {fr:Frm} {W:Nat}
theorem Qj3(c:Cx2 f s p ks)(G:1<=n)(A:n<=16)(M:gB ks (n-1)≠0)(hz:∀i,n<=i->i<16->gB ks i=0)(C:fr[12]?=aa (.val<|.list<|(bv n).map λi=>N'<|gB ks i))(H:fr[10]?=aa (.val<|.list<|eU λa b=>aJ a b ks)):aS aA O 40 Pt fr=aa ae:=by
 refine Qj2 (x:=ae) (y:=ae) ?_ ?_
 ·refine(Ex (x:=((gB ks (n-1):Nat):Int))<|dC (ce C) (JT aX) ?_).trans (by rw[fM<|by exact GM M]);obtain⟨m,rfl⟩:∃m,n=m+1:=⟨n-1,by exact aH 0x54901d04528224528a08225d04528914a08958324b240006009 Yt G⟩;rw[QlK,jD];exact Vm _ _
 ·have L:ai aA O 34 (.bi .len [.v 12]) fr=aa (.int (n:Int)):=by
   have:=uN (T:=aA) (O:=O) (n:=32) C;rwa[b8,E6]at this
  have U:ai aA O 37 (.bin .add (.v 12)<|.bin .mul (.lst [.ki 0])<|.bin .sub (.ki 16)<|.bi .len [.v 12]) fr=aa (.list<|((bv 16).map λi=>gB ks i).map N'):=by
   refine bn (aB C) (bn (xE aX) (bn aX L<|rA (a:=16) (b:=n) A)<|Qig (m:=16-n)<|by exact cN 0x1500244528224508a2460a249a0992c0091 Yt) ((sO<|by simp;exact aH 0x54009114a08a24508a2460a249a0990cb002440182440 Yt A).trans ?_);refine congrArg (λz=>aa<|tq z) ?_;rw[fg];have B:bv 16=bv n++(bv<|16-n).map (n+·):=by rw[<-List.range_add];congr 1;exact aH 0x54009174114a08914a28208974114a2452822560cb002440091182440 Yt A
   rw[B,jD,fg];refine congrArg (_++·) ?_;refine V5 (by simp) λi D Y=>?_;simp at D;simp only[List.getElem_replicate,List.getElem_map,List.getElem_range,Qld];rw[hz (n+i) (by exact yN)<|by exact bD 0x54809114a08224508a28938244300838b202440 Yt D];rfl
  have Q:ai aA O 36 (.comp2 [ab,ab,ab] 1 2 (.v 2) (.v 10) (.v 1) []) fr=aa (.list<|((bv 16).map λi=>gB ks i).map N'):=by refine(UH (g:=λa=>.list<|(bv 4).map λb=>N'<|aJ a b ks) (g2:=λb=>N' b) (h:=λa b=>N' b) (xs:=bv 4) (ys:=λa=>(bv 4).map λb=>aJ a b ks) (g7 (d:=.list<|eU λa b=>aJ a b ks) (aB H) rfl rfl) (λa _=>g7 (d:=.list<|(bv 4).map λb=>N'<|aJ a b ks) (aB rfl) (by rw[fg];rfl) rfl) (λa _ b _=>aB rfl)<|by simp;decide).trans ?_;rfl
  exact dS U (bE Q rfl)<|JW _
theorem Vt(A:w<4):((bv 4).filter λk=>(aa w==aa k))=[w]:=by rcases d7 A with e|e|e|e<;>subst e<;>rfl
theorem Qj4(c:Cx2 f s p ks)(C:ks.getLast?=aa w)(M:fr[8]?=aa (.val<|.list<|gh<|mu f s p))(L:fr[9]?=aa (.val<|S'<|ks.map<|mu f s p)):ai aA (aO Wf<|k+1) 40 Py fr=aa (.list [N' w]):=by
 have G:w<4:=c.k4 w<|LF C;have H:ks.map (mu f s p)≠[]:=by intro h;have B:=c.k6;rw[E9]at h;rw[h]at B;exact absurd B<|by decide
 have e:bU fr [ab,ab,ab,aa 8,aa 9]=[.un,.un,.un,.val<|.list<|gh<|mu f s p,.val<|S'<|ks.map<|mu f s p]:=by simp only[bU,km,M,L]
 have:=AB (T:=aA) (O:=aO Wf<|k+1) (n:=39) (f:=fr) (src:=[ab,ab,ab,aa 8,aa 9]) (t:=1) (elt:=.v 1) (it:=.rng [.ki 4]) (e:=.cmp .is (.call 6 [.bin .add (.ks [46,46,46])<|.idx (.v 3)<|.v 1,.v 4])<|.kb ac) (g:=N') (h:=N') (xs:=bv 4) (c:=λk=>ks.getLast?==aa k) (nV rfl (by decide)) (by decide) (λa A=>by have A:=eY.mp A;rw[e];have D:=(IT (AF (f:=f) (s:=s) (p:=p) a) H).1;rw[U3 (EN c) A ks c.k4]at D;exact dS (lP (bn lX (dC (ce rfl) (aB rfl)<|AI A)<|mI<|by show 3+1<=_;decide) (aB rfl)<|xx (by show 3+1<=_;decide) D) (bE nU rfl)<|EG _) (λa _ _=>by rw[e];exact aB rfl);rw[this,C,Vt G];rfl
theorem Qj5(c:Cx2 f s p ks)(A:ks.head?=aa v)(Q:fr[2]?=aa (.val<|.list<|ks.map N'))(M:fr[8]?=aa (.val<|.list<|gh<|mu f s p))(L:fr[9]?=aa (.val<|S'<|ks.map<|mu f s p)):aS aA (aO Wf<|k+1) 40 Pu fr=aa ae:=by
 have G:v<4:=c.k4 v<|W8 A;have H:ks.map (mu f s p)≠[]:=by intro h;have C:=c.k6;rw[E9]at h;rw[h]at C;exact absurd C<|by decide
 have e:bU fr [ab,ab,ab,aa 8,aa 9]=[.un,.un,.un,.val<|.list<|gh<|mu f s p,.val<|S'<|ks.map<|mu f s p]:=by simp only[bU,km,M,L]
 have:=AB (T:=aA) (O:=aO Wf<|k+1) (n:=37) (f:=fr) (src:=[ab,ab,ab,aa 8,aa 9]) (t:=1) (elt:=.v 1) (it:=.rng [.ki 4]) (e:=.cmp .is (.call 6 [.bin .add (.idx (.v 3)<|.v 1)<|.ks [46,46,46],.v 4])<|.kb ac) (g:=N') (h:=N') (xs:=bv 4) (c:=λk=>ks.head?==aa k) (nV rfl (by decide)) (by decide) (λa B=>by have B:=eY.mp B;rw[e];have D:=(IT (AF (f:=f) (s:=s) (p:=p) a) H).2;rw[QiS (EN c) B ks c.k4]at D;exact dS (lP (bn (dC (ce rfl) (aB rfl)<|AI B) lX<|mI<|by show 1+3<=_;decide) (aB rfl)<|xx (by show 1+3<=_;decide) D) (bE nU rfl)<|EG _) (λa _ _=>by rw[e];exact aB rfl);refine dS this (bE (qi (aB Q) qk aX<|Ep (k:=1)<|by decide) rfl) ?_;rw[A,Vt G];have:(ks.map N').take 1=[v].map N':=by
  cases ks with
  |nil=>cases A
  |cons x r=>obtain rfl:x=v:=aw A;rfl
 rw[this];exact JW [v]
theorem Qj6(k w:Nat):cY .notin (N' k) (.list [N' w])=aa (!(k==w)):=by show(if(eL (N' k)&&[N' w].all eL)=ac then aa ([N' w].any λy=>gJ y<|N' k)else ab).map _=_;refine(congrArg (EZ (!·))<|ar<|by rfl).trans ?_;refine congrArg aa (congrArg (!·) ?_);simp only[List.any_cons,List.any_nil,gJ,AN,WT];rw[iu];simp only[bJ];exact ci w k
theorem Vu(a:Nat):cY .gt (.int (a:Int)) (.int 0)=aa (decide (0<a)):=by
 by_cases q:0<a
 ·rw[uL (by exact oH q),df q]
 ·rw[xu (by exact aH 0x27b00066001 Yt q),fM q]
theorem Qj7(C:fr[14]?=aa (.val<|.list [N' w]))(B:fr[10]?=aa (.val<|.list<|eU T)):ai aA O 39 (.comp [ab,ab,ab,aa 14,aa 10] 1 (.v 1) (.rng [.ki 4]) [.bop ac [.cmp .notin (.v 1)<|.v 3,.cmp .gt (.bi .sum [.idx (.v 4)<|.v 1])<|.ki 0]]) fr=aa (.list<|(mM T w).map N'):=by
 have e:bU fr [ab,ab,ab,aa 14,aa 10]=[.un,.un,.un,.val<|.list [N' w],.val<|.list<|eU T]:=by simp only[bU,km,C,B]
 refine AB (g:=N') (h:=N') (xs:=bv 4) (c:=λk=> !(k==w)&&decide (0<aP T k)) (nV rfl (by decide)) (by decide) (λa A=>?_) (λa _ _=>by rw[e];exact aB rfl);have A:=eY.mp A;rw[e];exact Es (dS (aB rfl) (ce rfl)<|Qj6 a w)<|dS (gg (bE (dC (ce rfl) (aB rfl)<|xM T A) rfl)<|EH _) (bE aX rfl)<|Vu _
theorem Vv(c:Cx2 f s p ks)(D:ks.getLast?=aa w):(∀a b,a<4->b<4->(bX (λa b=>aJ a b ks) a b).natAbs <=100)/\∀a,a<4->a≠w->0<aP (λa b=>aJ a b ks) a->0<bX (λa b=>aJ a b ks) a a:=by
 have C:=c.kl;have os:∀a,a<4->aP (λa b=>aJ a b ks) a+mL a ks=ks.count a:=λa A=>J9 A ks c.k4;refine⟨λa b A U=>?_,λa A H L=>?_⟩
 ·have B:=os a A;have T:=QlU (a:=a) (l:=ks);have G:=Ka a b ks;unfold bX;show((if a=b then((aP (λa b=>aJ a b ks) a:Nat):Int)else 0)-((aJ a b ks:Nat):Int)).natAbs <=100;split
  ·exact OF<|show aP (λa b=>aJ a b ks) a+aJ a b ks<=100 by exact yX 0x14a48a2891a28890c0606089216403818188406200 Yt C B T G
  ·exact OF (a:=0)<|show 0+aJ a b ks<=100 by exact bS 0x1a28890c0046089206200 Yt C G
 ·have B:=os a A;have Q:mL a ks=0:=by unfold mL;rw[D,av<|λe=>H (aw e).symm]
  have M:a∈ks:=List.count_pos_iff.mp (by exact fN 0xe401380056403200 Yt L B);have:=QjI ks M (by rw[D];exact λe=>H (aw e).symm);unfold bX;rw[ar rfl];show 0<((aP (λa b=>aJ a b ks) a:Nat):Int)-((aJ a a ks:Nat):Int);exact jO 0x3cbb00b1807620341858140e200 Yt B Q this
theorem Qj8(c:Cx2 f s p ks)(C:30<=k)(A:ks.getLast?=aa w)(D:fr[14]?=aa (.val<|.list [N' w]))(B:fr[10]?=aa (.val<|.list<|eU λa b=>aJ a b ks)):ai aA (aO (wf+3)<|k+10) 40 Pv fr=aa (.int<|Dw w λa b=>aJ a b ks):=lP (aB B) (Qj7 D B)<|QjK C (Vv c A).1 (c.k4 w<|LF A) (Vv c A).2
end
end
section
theorem sW:∀n,n<=8->1<=fn n/\fn n<=2^16:=by decide
theorem Ky{x y:Int}{a b:Nat}(B:x.natAbs<=2^a)(A:y.natAbs<=2^b):(x*y).natAbs <=2^(a+b):=by rw[Fm,g9];exact qH B A
theorem EO(h:x.natAbs<=2^a)(A:a<=900):cb x=ac:=xK<|qt h<|W9 (by decide)<|aH 0x382aba2401a20b2240 Yt A
theorem Qj9(k w:Nat):gS .count (.list [N' w]) [N' k]=aa (.int ((if k=w then 1 else 0:Nat):Int)):=by
 show(if(eL (N' k)&&[N' w].all eL)=ac then aa (bQ (([N' w].countP λy=>gJ y (N' k):Nat):Int))else ab)=_;refine(ar<|by rfl).trans ?_;refine congrArg (λz:Nat=>aa<|bQ (z:Int)) ?_;have e:gJ (N' w) (N' k)=decide (k=w):=by show((w:Int)==(k:Int))=_;rw[iu];simp only[bJ,bH];exact ci w k
 simp only[V6,List.countP_nil,e];by_cases q:k=w<;>simp[q]
noncomputable abbrev pF(v0 v1 v2 v3 v4 v5 v6 v7 v8 v9 dx cp cq dO eh fD iA:FV)(tl:List FV):Frm:=v0::v1::v2::v3::v4::v5::v6::v7::v8::v9::dx::cp::cq::dO::eh::fD::iA::tl
section
variable {Wf k fu w:Nat} {T:dT} (v0 v1 v2 v3 v4 v5 v6 v7 v8 v9 dx cp cq dO eh fD:FV) (tl:List FV)
theorem EP(A:t<=8)(C:L<=2^a)(B:a<=800):bt aA (aO Wf<|k+1) Wf (fu+4) HS (pF v0 v1 v2 v3 v4 v5 v6 v7 v8 v9 dx cp cq (.val<|N' t) eh fD (.val<|N' L) tl)=aa (.next,pF v0 v1 v2 v3 v4 v5 v6 v7 v8 v9 dx cp cq (.val<|N' t) eh fD (.val<|N'<|L*fn t) tl):=by
 have b:=sW t A;refine cz (dA<|bn (aB rfl) (nR (aB rfl)<|Vo (c:=(t:Int)) (cN 0x7b00f09 Yt)<|aH 0x7089b00182240 Yt A)<|(sU (EO (a:=a) (by exact C)<|aH 0x1a20b22401828a2240 Yt B)<|EO (a:=16) ?_<|by decide).trans ?_) dj
 ·dsimp only[jE];exact b.2
 ·dsimp only[jE];show aa (bQ<|(L:Int)*(fn t:Int))=aa (bQ ((L*fn t:Nat):Int));dsimp only[iq]
theorem Qka(A:∀b,b<4->T j b<=8)(G:L<=2^a)(B:a<=700):∃M,gc (λf=>bt aA (aO Wf<|k+1) Wf (fu+4) HS f) (gf [13] ac) ((bv 4).map λb=>N'<|T j b) (pF v0 v1 v2 v3 v4 v5 v6 v7 v8 v9 dx cp cq dO eh fD (.val<|N' L) tl)=aa (.next,pF v0 v1 v2 v3 v4 v5 v6 v7 v8 v9 dx cp cq M eh fD (.val<|N'<|L*gq T j) tl):=by
 have f:=λb O=>(sW (T j b)<|A b O).2;have m:∀{x y a b:Nat},x<=2^a->y<=2^b->x*y<=2^(a+b):=λU Q=>by rw[g9];exact qH U Q
 have D:=m G (f 0<|by decide);have C:=m D (f 1<|by decide);have H:=m C (f 2<|by decide);rw[show L*gq T j=L*fn (T j 0)*fn (T j 1)*fn (T j 2)*fn (T j 3) by unfold gq;simp only[fY]];exact⟨_,ek rfl (EP v0 v1 v2 v3 v4 v5 v6 v7 v8 v9 dx cp cq eh fD tl (t:=T j 0) (A 0<|by decide) G<|aH 0x1828a22401a2e92240 Yt B) (ek rfl (EP v0 v1 v2 v3 v4 v5 v6 v7 v8 v9 dx cp cq eh fD tl (t:=T j 1) (A 1<|by decide) D<|aH 0x60a28890c24401a2e92240 Yt B) (ek rfl (EP v0 v1 v2 v3 v4 v5 v6 v7 v8 v9 dx cp cq eh fD tl (t:=T j 2) (A 2<|by decide) C<|aH 0x1828a22430910c24401a2e92240 Yt B) (ek rfl (EP v0 v1 v2 v3 v4 v5 v6 v7 v8 v9 dx cp cq eh fD tl (t:=T j 3) (A 3<|by decide) H<|aH 0x60a28890c24430910c24401a2e92240 Yt B) rfl)))⟩
theorem uX(B:∀b,b<4->T j b<=8):gq T j<=2^64:=by
 have f:=λb A=>(sW (T j b)<|B b A).2;have m:∀{x y a b:Nat},x<=2^a->y<=2^b->x*y<=2^(a+b):=λD C=>by rw[g9];exact qH D C
 unfold gq;exact m (m (m (f 0<|by decide)<|f 1<|by decide)<|f 2<|by decide)<|f 3<|by decide
theorem EQ(h:aP T j<=8):db w T j<=2^16:=by
 unfold db;split
 ·exact(sW _ h).2
 ·exact(sW _<|Oq h).2
theorem ER(D:j<4)(U:w<4)(A:aP T j<=7)(O:L<=2^a)(G:a<=700)(H:X.natAbs<=2^b)(C:b<=800):∃B,bt aA (aO Wf<|k+1) Wf (fu+8) HT (pF v0 v1 v2 v3 v4 (.val<|N' j) v6 v7 v8 v9 (.val<|.list<|eU T) cp cq dO (.val<|.list [N' w]) (.val<|.int X) (.val<|N' L) tl)=aa (.next,pF v0 v1 v2 v3 v4 (.val<|N' j) v6 v7 v8 v9 (.val<|.list<|eU T) cp cq B (.val<|.list [N' w]) (.val<|.int<|X*((db w T j:Nat):Int)) (.val<|N'<|L*gq T j) tl):=by
 have M:∀b,b<4->T j b<=8:=λb C=>by unfold aP at A;rcases d7 C with e|e|e|e<;>subst e<;>(first|exact G2 A|exact G3 A|exact G4 A|exact G5 A)
 obtain⟨B,h⟩:=Qka (Wf:=Wf) (k:=k) (fu:=fu+2) (T:=T) (j:=j) v0 v1 v2 v3 v4 (.val<|N' j) v6 v7 v8 v9 (.val<|.list<|eU T) cp cq dO (.val<|.list [N' w]) (.val<|.int<|X*((db w T j:Nat):Int)) tl M O G;refine⟨B,cz (dA<|bn (aB rfl) (nR (bn (bn (gg (bE (dC (ce rfl) (aB rfl)<|xM T D) rfl)<|EH _) aX<|rr _ _) (xD (aB rfl) (aB rfl)<|Qj9 j w)<|mG _ _)<|Vo (c:=((T j 0+T j 1+T j 2+T j 3:Nat):Int)-1+((if j=w then 1 else 0:Nat):Int)) (wi 0x1c3b202c9b03603403200f09 Yt) ?_) (c:=aa<|.int<|X*((db w T j:Nat):Int)) ?_)<|cz (iK (g7 (dC (ce rfl) (aB rfl)<|xM T D) rfl rfl) h) dj⟩
 ·unfold aP at A;split<;>(first|exact nk 0x70890ec24b26c0d80d00c8006e43603403200 Yt A|exact nk 0x70890ec04b26c0d80d00c8006e43603403200 Yt A)
 ·have e:fn (((T j 0+T j 1+T j 2+T j 3:Nat):Int)-1+((if j=w then 1 else 0:Nat):Int)).toNat =db w T j:=by
   delta db aP;by_cases q:j=w
   ·rw[ar q,ar q];congr 1;exact k9 0xd43b092c9b0360340320074114a24528225d04528914a089583603403200b03b092c9b03603403200 Yt
   ·rw[av q,av q];congr 1;exact k9 0x5490d80d00c80350ec04b26c0d80d00c801d04528914a08225d04528a08208914a082089d43b012c9b0360340320074114a24528228225d04528a08224528228208958b243603403200b03b012c9b03603403200 Yt
  rw[e];have Q:db w T j<=2^16:=EQ<|yW A;exact(sU (y:=((db w T j:Nat):Int)) (EO H<|aH 0x1a20b22401828a2240 Yt C)<|EO (a:=16) Q<|by decide).trans rfl
theorem Qkb(B:w<4)(A:∀j,j<4->aP T j<=7)(M:D.natAbs<=2^300):∃u g,gc (λf=>bt aA (aO Wf<|k+1) Wf (fu+8) HT f) (gf [5] ac) ((bv 4).map N') (pF v0 v1 v2 v3 v4 v5 v6 v7 v8 v9 (.val<|.list<|eU T) cp cq dO (.val<|.list [N' w]) (.val<|.int D) (.val<|.int 1) tl)=aa (.next,pF v0 v1 v2 v3 v4 u v6 v7 v8 v9 (.val<|.list<|eU T) cp cq g (.val<|.list [N' w]) (.val<|.int<|D*((FP w T:Nat):Int)) (.val<|N'<|PT T) tl):=by
 refine aE λU=>?_;have C:∀j,j<4->∀b,b<4->T j b<=8:=λj r b s=>by have:=A j r;unfold aP at this;rcases d7 s with e|e|e|e<;>subst e<;>(first|exact G2 this|exact G3 this|exact G4 this|exact G5 this)
 have m:∀{x y a b:Nat},x<=2^a->y<=2^b->x*y<=2^(a+b):=λp n=>by rw[g9];exact qH p n
 have H:1*gq T 0<=2^(0+64):=m (by decide) (uX<|C 0<|by decide);have G:=m H (uX<|C 1<|by decide);have d:=m G (uX<|C 2<|by decide);have Q:=Ky M (y:=((db w T 0:Nat):Int)) (b:=16) (EQ (by have:=A 0 (by decide);exact yW this));have O:=Ky Q (y:=((db w T 1:Nat):Int)) (b:=16) (EQ (by have:=A 1 (by decide);exact yW this));have h:=Ky O (y:=((db w T 2:Nat):Int)) (b:=16) (EQ (by have:=A 2 (by decide);exact yW this));obtain⟨v,t⟩:=ER (Wf:=Wf) (k:=k) (fu:=fu) (T:=T) v0 v1 v2 v3 v4 v6 v7 v8 v9 cp cq dO tl (j:=0) (L:=1) (a:=0) (by decide) B (A 0<|by decide) (by decide) (by decide) M (by decide);obtain⟨q,s1⟩:=ER (Wf:=Wf) (k:=k) (fu:=fu) (T:=T) v0 v1 v2 v3 v4 v6 v7 v8 v9 cp cq v tl (j:=1) (by decide) B (A 1<|by decide) H (by decide) Q (by decide);obtain⟨z,l⟩:=ER (Wf:=Wf) (k:=k) (fu:=fu) (T:=T) v0 v1 v2 v3 v4 v6 v7 v8 v9 cp cq q tl (j:=2) (by decide) B (A 2<|by decide) G (by decide) O (by decide);obtain⟨Y,o⟩:=ER (Wf:=Wf) (k:=k) (fu:=fu) (T:=T) v0 v1 v2 v3 v4 v6 v7 v8 v9 cp cq z tl (j:=3) (by decide) B (A 3<|by decide) d (by decide) h (by decide);have i:D*((FP w T:Nat):Int)=D*((db w T 0:Nat):Int)*((db w T 1:Nat):Int)*((db w T 2:Nat):Int)*((db w T 3:Nat):Int):=by unfold FP;simp only[iq,KB]
 have c:PT T=1*gq T 0*gq T 1*gq T 2*gq T 3:=by unfold PT;rw[A4]
 apply U;clear U;rw[i,c];exact⟨_,Y,ek rfl t (ek rfl s1 (ek rfl l (ek rfl o rfl)))⟩
end
theorem Vw(L:∀j,j<4->aP T j<=7):1<=PT T/\PT T<=2^256:=by
 have C:∀j,j<4->∀b,b<4->T j b<=8:=λj A b D=>by have:=L j A;unfold aP at this;rcases d7 D with e|e|e|e<;>subst e<;>(first|exact G2 this|exact G3 this|exact G4 this|exact G5 this)
 have m:∀{x y a b:Nat},x<=2^a->y<=2^b->x*y<=2^(a+b):=λH G=>by rw[g9];exact qH H G
 have B:∀{x y:Nat},1<=x->1<=y->1<=x*y:=λH G=>tw H G;have f:=λj A b D=>(sW (T j b)<|C j A b D).1;have r:∀j,j<4->1<=gq T j:=λj A=>by unfold gq;exact B (B (B (f j A 0<|by decide)<|f j A 1<|by decide)<|f j A 2<|by decide)<|f j A 3<|by decide
 unfold PT;exact⟨B (B (B (r 0<|by decide)<|r 1<|by decide)<|r 2<|by decide) (r 3<|by decide),m (m (m (uX<|C 0<|by decide)<|uX<|C 1<|by decide)<|uX<|C 2<|by decide)<|uX<|C 3<|by decide⟩
theorem Qkc(A:∀j,j<4->aP T j<=7):1<=FP w T:=by
 have f:∀j,j<4->1<=db w T j:=λj B=>by
  have:=A j B;unfold db;split
  ·exact(sW _<|yW this).1
  ·exact(sW _<|aH 0x1524014a08914228a2460892c9006e40 Yt this).1
 unfold FP;exact tw (tw (tw (f 0<|by decide)<|f 1<|by decide)<|f 2<|by decide)<|f 3<|by decide
theorem Qkd{N v w:Nat}{T:dT}(G:v<4)(D:w<4)(H:ip T=N)(L:N<=7)(B:xH v w T)(A:∀j,j<4->aP T j<=7):(Dw w T).natAbs <=2^300:=by
 have b:=congrArg Int.natAbs<|U6 N v w T G D H B;rw[Fm,Fm,ym,ym,ym]at b;have p:=(Vw A).2;have r:=EJ N v T;have C:(4:Nat)^N<=2^14:=by rw[show(4:Nat)=2^2 from rfl, <-vC];exact jF (by decide)<|aH 0x14a446c894c0446e40 Yt L
 have q:Rn N v T*PT T<=2^14*2^256:=qH (fV r C) p;have f:=Qkc (w:=w) A;have:(Dw w T).natAbs <=(Dw w T).natAbs *FP w T:=WP _ f;have e:(2:Nat)^14*2^256<=2^300:=by rw[<-g9];exact jF (by decide)<|by decide
 exact fV this<|b▸fV q e
end
section
abbrev pq(ks:List Nat):List ak:=(jA ks).map λq=>.tuple [N' q.1,N' q.2]
theorem Vx(a b:Nat):eL (.tuple [N' a,N' b])=ac:=rfl
theorem Qke(a b c d:Nat):gJ (.tuple [N' a,N' b]) (.tuple [N' c,N' d])=(a==c&&b==d):=by
 have e:∀x y:Nat,((x:Int)==(y:Int))=(x==y):=λx y=>by rw[iu];simp only[bJ];exact EW
 show(((a:Int)==(c:Int))&&(((b:Int)==(d:Int))&&ac))=_;rw[e,e,Bool.and_true]
theorem Qkf(A:List Nat)(a b:Nat):gS .count (.list<|pq A) [.tuple [N' a,N' b]]=aa (N'<|aJ a b A):=by
 show(if(eL (.tuple [N' a,N' b])&&(pq A).all eL)=ac then aa (bQ (((pq A).countP λy=>gJ y (.tuple [N' a,N' b]):Nat):Int))else ab)=_;rw[ar]
 ·refine congrArg (λz:Nat=>aa<|bQ (z:Int)) ?_;rw[<-U9,List.countP_map];refine List.countP_congr λq _=>?_;show gJ _ _=ac↔_;rw[Qke]
 ·rw[Vx,KR,du];intro y B;obtain⟨q,_,rfl⟩:=gk.mp B;exact Vx _ _
section
variable {f s p:Nat} {ks:List Nat} {O:bC} {fr:Frm}
theorem Qkg(c:Cx2 f s p ks)(D:fr[2]?=aa (.val<|.list<|ks.map N')):ai aA O 40 PA fr=aa (.list<|pq ks):=by
 have C:=c.kl;have B:=c.k6;have M:=c.k4;have e:bU fr [ab,ab,aa 2]=[.un,.un,.val<|.list<|ks.map N']:=by simp only[bU,km,D]
 have G:ai aA O 38 (.bi .len [.v 2]) fr=aa (.int (ks.length:Int)):=by have:=uN (T:=aA) (O:=O) (n:=36) D;rwa[b8]at this
 have body:∀i∈bv (ks.length-1),ai aA O 39 (.tup [.idx (.v 2)<|.bin .sub (.v 1)<|.ki 1,.idx (.v 2)<|.v 1]) ((bU fr [ab,ab,aa 2]).put 1<|.val<|N'<|1+i)=aa (.tuple [N'<|ks.getD i 0,N'<|ks.getD (i+1) 0]):=by
  intro i A;have A:=eY.mp A;rw[e];have H:idx2 (.list<|ks.map N') (.int ((1+i-1:Nat):Int))=aa (N'<|ks.getD i 0):=by rw[show 1+i-1=i from Ol];exact rz<|GY B A
  have g2:idx2 (.list<|ks.map N') (N'<|1+i)=aa (N'<|ks.getD (i+1) 0):=by rw[show 1+i=i+1 from Om];exact rz<|GZ B A
  exact j9 (dC (ce rfl) (bn (aB rfl) aX<|rA (a:=1+i) (b:=1)<|cN 0x60c0249 Yt) H)<|dC (ce rfl) (aB rfl) g2
 have L:=lR (T:=aA) (O:=O) (n:=39) (f:=fr) (src:=[ab,ab,aa 2]) (t:=1) (elt:=.tup [.idx (.v 2)<|.bin .sub (.v 1)<|.ki 1,.idx (.v 2)<|.v 1]) (it:=.rng [.ki 1,.bi .len [.v 2]])
  (g:=λi=>N'<|1+i) (h:=λi=>.tuple [N'<|ks.getD i 0,N'<|ks.getD (i+1) 0]) (xs:=bv<|ks.length-1) (JZ (a:=1) (b:=ks.length) (Oo) (G0 C) aX G) (by rw[E6];exact Op C B) body
 refine L.trans<|congrArg (λz=>aa<|tq z) ?_;unfold pq;rw[<-Kj,fg];rfl
theorem Qkh(c:Cx2 f s p ks)(B:ks.head?=aa v)(M:fr[2]?=aa (.val<|.list<|ks.map N'))(Q:fr[17]?=aa (.val<|.list<|pq ks))(L:10<=k):ai aA (aO wf k) 40 Px fr=aa (.list<|i7<|gi (ks.length-1) [v] v λa b=>aJ a b ks):=by
 have A:=c.kl;have D:v<4:=c.k4 v<|W8 B;have e:bU fr [ab,ab,ab,ab,aa 17]=[.un,.un,.un,.un,.val<|.list<|pq ks]:=by simp only[bU,km,Q]
 have G:(ks.map N').take 1=([]++[v]).map N':=by
  cases ks with
  |nil=>cases B
  |cons x r=>obtain rfl:x=v:=aw B;rfl
 have C:=Vn (wf:=wf) (k:=k-ks.length) (ks.length-1) [] v (λa b=>aJ a b ks) D (Vc ks c.k4) (aH 0x1524014a08914228a246e4b240182240 Yt A) (by simp;exact aH 0x19ac40182240 Yt A);have H:=c.k6;rw[show k-ks.length+(ks.length-1)+1=k from N3 0x54900508a08208954020508a08208a25d04528228224528a0895880c90cb2402c0206212246089006031 [_,_] Yt L A H]at C;refine lP ((qi (aB M) qk aX<|Ep (k:=1)<|by decide).trans<|by rw[G]) (a2:=.list<|kR λa b=>aJ a b ks) ?_ C;refine(UH (g:=N') (g2:=N') (h:=λa b=>N'<|aJ a b ks) (xs:=bv 4) (ys:=λ_=>bv 4) (nV rfl (by decide)) (λ_ _=>nV rfl (by decide)) (λa _ b _=>?_)<|by simp;decide).trans rfl;rw[e];exact xD (aB rfl) (j9 (aB rfl)<|aB rfl)<|Qkf ks a b
end
theorem Vy(h:x.natAbs<2^n)(A:n<=900000):cb x=ac:=by
 have:x.natAbs.log2<n+1:=by
  rcases pB x.natAbs with q|q
  ·rw[q,Nat.log2_zero];exact cN 0xe0c9001 Yt
  ·have:=(xV<|GH q).mpr h;exact GT this
 exact df<|bS 0x608228a8b26432401828b2a9a69920e0c9200 Yt A this
theorem xN{x y a b:Nat}(B:x<2^a)(A:y<2^b)(D:a<=100000)(C:b<=100000):bP .mul (.int (x:Int)) (.int (y:Int))=aa (.int ((x*y:Nat):Int))/\x*y<2^(a+b):=by refine⟨(sU (Vy (n:=a) (by exact B)<|Os D)<|Vy (n:=b) (by exact A)<|Os C).trans (by dsimp only[iq]),?_⟩;rw[g9];exact Nat.mul_lt_mul'' B A
theorem Qki(D:x<A)(B:y<A)(h:A*2<=C):x+y<C:=jO 0x3880d060e018380406213440 Yt D B h
theorem Qkj(x y:Int):cY .ne (.tuple [.int x,.int y]) (.tuple [.int x,.int y])=aa ae:=by
 have f:eL (.tuple [.int x,.int y])=ac:=rfl;show(if(ac&&eL (.tuple [.int x,.int y])&&eL (.tuple [.int x,.int y]))=ac then aa (gJ (.tuple [.int x,.int y])<|.tuple [.int x,.int y])else ab).map (!·)=_;refine(congrArg (EZ (!·))<|ar<|by rw[f];rfl).trans ?_;have:gJ (.tuple [.int x,.int y]) (.tuple [.int x,.int y])=ac:=by show((x==x)&&((y==y)&&ac))=ac;simp
 rw[this];rfl
theorem Kz{xs:List Int}(h:f[0]?=aa (.val<|.list<|xs.map .int)):ai aA O (n+2) (.bi .sum [.v 0]) f=aa (.int xs.sum):=gg (ce h)<|Kr xs
theorem ES{xs:List Int}(A:0<k)(h:f[0]?=aa (.val<|.list<|xs.map .int)):ai aA O (n+3) (.bin .mod (.bi .sum [.v 0])<|.ki k) f=aa (.int<|xs.sum%k):=bn (Kz h) aX<|pk _ A
noncomputable abbrev qF(v0 v1 v2 v3 v4 v5 v6 v7 v8 v9 dx cp cq dO eh fD iA f9 jg iS v20 ia ib:FV)(tl:List FV):Frm:=v0::v1::v2::v3::v4::v5::v6::v7::v8::v9::dx::cp::cq::dO::eh::fD::iA::f9::jg::iS::v20::ia::ib::tl
section
variable {wf k fu low S top:Nat} {rows:List ak} {xs:List Int} (v1 v2 v3 v4 v5 v6 v7 v8 v9 dx cp cq dO eh f9 iS v20 ia ib:FV) (tl:List FV)
theorem Vz(O:41<=k)(u:0<low)(C:low<2^257)(j:0<S)(A:S<2^10000)(H:rows.length<2^15)(M:top=rows.length*low)(L:more<low*S)(Y:way=0\/way=1\/way=2\/way=3): bt aA (aO (wf+3) k) (wf+3) (fu+4) PJ (qF (.val<|.list<|xs.map .int) v1 v2 v3 v4 v5 v6 v7 v8 v9 dx cp cq dO eh (.val<|N' top) (.val<|N' low) f9 (.val<|.list rows) (.val<|N' S) v20 (.val<|N' more) (.val<|.int way) tl)=aa (.next,qF (.val<|.list<|xs.map .int) v1 v2 v3 v4 v5 v6 v7 v8 v9 dx cp cq dO eh (.val<|N' top) (.val<|N' low) f9 (.val<|.list rows) (.val<|N' S) v20 (.val<|N' more) (.val<|.int way) tl):=by
 have G:=xN H C (by decide) (by decide);rw[<-M]at G;have D:=xN G.2 A (by decide) (by decide);have m2:=xN D.2 A (by decide) (by decide);have m3:=xN C A (by decide) (by decide);have m4:=xN H A (by decide) (by decide);have pos:0<low*S:=tw u j;have e:top*S*S=low*S*(rows.length*S):=by rw[M];simp only[fY,eQ,qG]
 have U:(top*S*S+more)/(low*S)=rows.length*S:=by rw[e,W7 pos,A3 L,WY]
 have T:(top*S*S+more)%(low*S)=more:=by rw[e,LG,A5 L]
 have B:uK (top*S*S+more)<|low*S:=by
  refine⟨pos,lZ m3.2 (jF (by decide)<|by decide),?_⟩;have q:more<2^(15+257+10000+10000):=lZ (Nat.lt_trans L m3.2) (jF (by decide)<|by decide);have z:(2:Nat)^(15+257+10000+10000)*2<=2^40000:=by rw[<-vB];exact jF (by decide)<|by decide
  exact Qki m2.2 q z
 have Q:=QhW (wf:=wf) (k:=k-11) (a:=top*S*S+more) (b:=low*S) (way:=way) (aH 0x1568900508a08914a08a2462da240c991802a9 Yt O) B Y;rw[U,T,show k-11+11=k from aH 0x1568900508a08974114a08914a2560036892da2401802a9 Yt O]at Q;have v:bP .mul (.int (rows.length:Int)) (N' S)=aa (N'<|rows.length*S):=m4.1;have y:bP .mul (N' top) (N' S)=aa (N'<|top*S):=D.1;have c2:bP .mul (N'<|top*S) (N' S)=aa (N'<|top*S*S):=m2.1;have c3:bP .mul (N' low) (N' S)=aa (N'<|low*S):=m3.1;have c4:bP .add (N'<|top*S*S) (N' more)=aa (N'<|top*S*S+more):=rfl;clear G D m2 m3 m4 B A C H;refine cz (j8 ae (dS (UD (bn (bn (bn (aB rfl) (aB rfl) y) (aB rfl) c2) (aB rfl) c4) (bn (aB rfl) (aB rfl) c3) (aB rfl) Q) (bE (j9 (bn (uN rfl) (aB rfl) v)<|aB rfl) rfl)<|Qkj _ _) dj) dj
theorem VA(O:41<=k)(L:0<low)(A:low<2^257)(G:0<S)(B:S<2^10000)(C:rows.length<2^15)(M:top=rows.length*low): ∃o u v,bt aA (aO (wf+3) k) (wf+3) (fu+10) PL (qF (.val<|.list<|xs.map .int) v1 v2 v3 v4 v5 v6 v7 v8 v9 dx cp cq dO eh (.val<|N' top) (.val<|N' low) f9 (.val<|.list rows) (.val<|N' S) v20 ia ib tl)=aa (.next,qF (.val<|.list<|xs.map .int) v1 v2 v3 v4 v5 v6 v7 v8 v9 dx cp cq dO eh (.val<|N' top) (.val<|N' low) f9 (.val<|.list rows) (.val<|N' S) o u v tl):=by
 refine aE λQ=>?_;have pos:0<low*S:=tw L G;have m3:=xN A B (by decide) (by decide);have c3:bP .mul (N' low) (N' S)=aa (.int ((low*S:Nat):Int)):=m3.1;obtain⟨r,l,y⟩:∃r:Nat,xs.sum%((low*S:Nat):Int)=(r:Int)/\r<low*S:=by clear A B m3 c3 C;have q:=VW xs.sum (b:=((low*S:Nat):Int))<|yT pos;have z:=VV xs.sum (b:=((low*S:Nat):Int))<|oH pos;exact⟨(xs.sum%((low*S:Nat):Int)).toNat,fT 0x3501d04528224528a08225d0452822452895ecb00007001 Yt q,pM 0x3500528228914a08228224e02c00e0013ec000 Yt pos z⟩
 have j:xs.sum%4=0\/xs.sum%4=1\/xs.sum%4=2\/xs.sum%4=3:=OD _;have Y:(xs.sum+3)%4=0\/(xs.sum+3)%4=1\/(xs.sum+3)%4=2\/(xs.sum+3)%4=3:=OD _;have T:=Vz (wf:=wf) (fu:=fu+4) (xs:=xs) (rows:=rows) v1 v2 v3 v4 v5 v6 v7 v8 v9 dx cp cq dO eh f9 (.val<|N' r) tl O L A G B C M y j;have U:=Vz (wf:=wf) (fu:=fu+4) (xs:=xs) (rows:=rows) v1 v2 v3 v4 v5 v6 v7 v8 v9 dx cp cq dO eh f9 (.val<|N' r) tl (more:=0) O L A G B C M pos Y;clear A B m3 C;have it:∀H D,ai aA (aO (wf+3) k) 39 (.tup [.tup [.v 20,.bin .mod (.bi .sum [.v 0])<|.ki 4],.tup [.ki 0,.bin .mod (.bin .add (.bi .sum [.v 0])<|.ki 3)<|.ki 4]]) (qF (.val<|.list<|xs.map .int) v1 v2 v3 v4 v5 v6 v7 v8 v9 dx cp cq dO eh (.val<|N' top) (.val<|N' low) f9 (.val<|.list rows) (.val<|N' S) (.val<|N' r) ia ib tl)=aa (.tuple [.tuple [N' r,.int<|xs.sum%4],.tuple [N' 0,.int<|(xs.sum+3)%4]]):=λ(H D:Nat)=>j9 (j9 (aB rfl)<|ES (by decide) rfl) (j9 aX<|bn (bn (Kz rfl) aX<|mG _ _) aX<|pk _<|by decide);apply Q;clear Q;refine⟨.val<|N' r,_,_,cz (dA<|bn (Kz rfl) (bn (aB rfl) (aB rfl) c3)<|(pk _<|by clear c3 it T U;exact oH pos).trans<|by rw[l];rfl)<|cz (iK (g7 (it 0 0) rfl rfl)<|ek rfl T (ek rfl U rfl)) dj⟩
end
end
section
theorem VB{l:List Nat}(h:∀z∈l,z<1114112):eL (S' l)=ac:=by
 unfold eL;have:(S' l).canLay0 =ac:=by show((l.toArray).all (· <0x110000))=ac;rw[List.all_toArray,du];exact λz hz=>df<|h z hz
 rw[this];rfl
theorem VC:j7.all (λw=>w.all λz=>decide (z<1114112))=ac:=by kernel_rfl
theorem Qkk{w:List Nat}(h:∀z∈w,z<1114112):cY .isin (S' w) (.list<|j7.map S')=aa (j7.contains w):=by
 show(if(eL (S' w)&&(j7.map S').all eL)=ac then aa ((j7.map S').any λy=>gJ y<|S' w)else ab)=_;rw[ar]
 ·refine congrArg aa ?_;have e:∀y:List Nat,gJ (S' y) (S' w)=(w==y):=λy=>by
   show(a8 y==a8 w)=_;rw[iu,bJ,bJ,JP];exact eq_comm
  rw[List.any_map,List.contains_eq_any_beq];congr 1;funext y;exact e y
 ·rw[VB h,KR,du];intro y A;obtain⟨x,B,rfl⟩:=gk.mp A;exact VB λz hz=>of_decide_eq_true<|du.mp (du.mp VC x B) z hz
theorem VD(l:List Int):eL (.list<|l.map .int)=ac:=by
 have a:AX (l.map .int)=ac/\AW (l.map .int)<=6:=by
  induction l with
  |nil=>exact⟨rfl,kh _⟩
  |cons x r A=>
   refine⟨?_,?_⟩
   ·rw[dF,AX,A.1];rfl
   ·rw[dF,AW,LD];have:=A.2;exact aH 0x34004528208208914a0820822891b1ec0046c40 Yt A.2
 unfold eL;rw[QlL,a.1,LD,df (by have:=a.2;exact aH 0x60890c9006c40 Yt a.2)];rfl
theorem Qkl:∀a b:List Int,LC (a.map .int) (b.map .int)=(a==b):=by
 intro A;induction A with
 |nil=>
  intro A;cases A with
  |nil=>exact rfl
  |cons D G=>exact rfl
 |cons x a C=>
  intro B;cases B with
  |nil=>exact rfl
  |cons y b=>show((x==y)&&LC (a.map .int) (b.map .int))=_;rw[C b];rfl
theorem VE(a b:List Int):cY .eq (.list<|a.map .int) (.list<|b.map .int)=aa (a==b):=by show(if(ac&&eL (.list<|a.map .int)&&eL (.list<|b.map .int))=ac then aa (gJ (.list<|a.map .int)<|.list<|b.map .int)else ab)=_;rw[ar<|by rw[VD,VD];rfl];exact congrArg aa<|Qkl a b
theorem VF(a b:List Nat):cY .eq (.list<|a.map N') (.list<|b.map N')=aa (a==b):=by
 have e:∀l:List Nat,l.map N'=(l.map λ(x:Nat)=>(x:Int)).map .int :=λl=>by rw[fg];rfl
 rw[e,e,VE];refine congrArg aa ?_;rw[iu,bJ,bJ];exact⟨λh=>by have:=congrArg (km Int.toNat) h;simpa[fg,WW]using this,λh=>by rw[h]⟩
noncomputable def qm(c:Nat->Nat->Bool):List Int:=(bv 4).flatMap λa=>((bv 4).filter (c a)).map λ_=>(1:Int)
theorem VG(c:Nat->Nat->Bool):(qm c==[])=ac↔∀a b,a<4->b<4->c a b=ae:=by
 rw[bJ];unfold qm;rw[List.flatMap_eq_nil_iff];constructor
 ·intro h a b B A;have:=h a<|eY.mpr B;rw[E9,QlV]at this;exact LB.mpr<|this b<|eY.mpr A
 ·intro h a B;rw[E9,QlV];intro b A;rw[h a b (eY.mp B)<|eY.mp A];decide
theorem Qkm(w:List Nat)(h:w≠[]):idx2 (S' w) (.int 0)=aa (S' [w.headD 0]):=by
 cases w with
 |nil=>exact absurd rfl h
 |cons x r=>show(e9 0 (a8 (x::r)).length).bind _=_;rw[kE,e9,ar (by decide),ar (by dsimp only[eK];exact cN 0x3ec0c9001 Yt)];rfl
theorem Qkn(c:Nat->Nat->Bool):((bv 4).flatMap λa=>((bv 4).filter<|c a).map λ_=>(bQ 1)).length <=100000:=by
 rw[List.length_flatMap,Qjt];have h:∀a,(((bv 4).filter<|c a).map λ_=>(bQ 1)).length <=4:=λa=>by rw[b8];exact QlN _ _
 have D:=h 0;have C:=h 1;have B:=h 2;have A:=h 3;exact rX 0x1828926826430032034181a16068501a1206840 Yt D C B A
section
variable {f s p:Nat} {ks:List Nat} {O:bC} {fr:Frm}
theorem VH(c:Cx2 f s p ks)(k:Nat):∀z∈iL f s p k,z<1114112:=by
 have A:∀g,g<48->∀z∈di g,z<1114112:=λg C z hz=>by
  have:di g∈j7:=by unfold di;rw[yj,ee<|show g<j7.length from C];exact Wt _
  exact of_decide_eq_true<|du.mp (du.mp VC _ this) z hz
 have B:=uU c.hp;intro z hz;unfold iL at hz;split at hz
 ·exact A f c.hf z hz
 ·split at hz
  ·exact A s c.hs z hz
  ·split at hz
   ·simp at hz;exact Ot B.1.2 hz
   ·simp at hz;exact Ot B.2.1.2 hz
def nZ(f s p:Nat)(ks:List Nat)(a b:Nat):Bool:=decide (0<aJ a b ks)&&sT f s p a b
theorem Qko{Wf k:Nat}(c:Cx2 f s p ks)(L:fr[3]?=aa (.val<|.list<|i5 f s p))(C:fr[10]?=aa (.val<|.list<|eU λa b=>aJ a b ks)):ai aA (aO Wf<|k+1) 40 Pr fr=aa (.bool<|qm (nZ f s p ks)==[]):=by
 have e:bU fr [ab,ab,ab,ab,ab,aa 3,aa 10]=[.un,.un,.un,.un,.un,.val<|.list<|i5 f s p,.val<|.list<|eU λa b=>aJ a b ks]:=by simp only[bU,km,L,C]
 have Q:=Qij (T:=aA) (O:=aO Wf<|k+1) (n:=38) (f:=fr) (src:=[ab,ab,ab,ab,ab,aa 3,aa 10]) (t:=1) (u:=2) (elt:=.ki 1) (it:=.rng [.ki 4]) (jt:=.rng [.ki 4])
  (e:=.bop ac [.cmp .gt (.idx (.idx (.v 6)<|.v 1)<|.v 2)<|.ki 0,.cmp .isin (.bin .add (.idx (.v 5)<|.v 1)<|.idx (.idx (.v 5)<|.v 2)<|.ki 0)<|.call 17 []])
  (g:=N') (g2:=N') (h:=λ_ _=>.int 1) (xs:=bv 4) (ys:=λ_=>bv 4) (c:=nZ f s p ks) (nV rfl (by decide)) (λ_ _=>nV rfl (by decide)) (λa B b A=>by
   have B:=eY.mp B;have A:=eY.mp A;rw[e];have D:=VH c a;have G:=Vd (p:=p) c.hf c.hs b;have M:lW f s p b<1114112:=by
    have:=VH c b;unfold lW;cases q:iL f s p b with
    |nil=>decide
    |cons x r=>rw[q]at this;exact this x (by simp)
   refine Es (x:=decide (0<aJ a b ks)) (y:=sT f s p a b) (dS (dC (bE (dC (ce rfl) (aB rfl)<|xM _ B) rfl) (aB rfl)<|Vp (λa b=>aJ a b ks) A) (bE aX rfl)<|Vu _) ?_;have H:=J1 (p:=p) (k:=a) c.hf c.hs;refine dS (bn (dC (ce rfl) (aB rfl)<|AD B) (dC (bE (dC (ce rfl) (aB rfl)<|AD A) rfl) aX<|Qkm _ G)<|mI<|by simp;exact aH 0x6e9a49a099006640 Yt H) (bE (JY J6) rfl)<|Qkk ?_;intro z hz;rcases eO.mp hz with h|h
   ·exact D z h
   ·obtain rfl:z=lW f s p b:=by simpa[lW]using h
    exact M) (λa _ b _ _=>aX) (Qkn _)
 refine qj Q (bE (show ai aA (aO Wf<|k+1) 38 (.lst []) fr=aa (.list [])from rfl) rfl) ?_;have:=VE (qm<|nZ f s p ks) [];unfold qm at this⊢;rw[List.map_flatMap]at this;simp only[fg]at this;exact this
end
end
section
section
variable {f s p n:Nat} {ks one:List Nat} {O:bC} {fr:Frm} {it:ME}
theorem Qkp{m:Nat->Nat}(B:∀d∈one,d<4)(A:one.length<=100)(h:cC aA O (n+10) it fr=aa (one.map N'))(D:fr[8]?=aa (.val<|.list<|gh m)):ai aA O (n+11) (.comp [ab,ab,aa 8] 1 (.idx (.v 2)<|.v 1) it []) fr=aa (.list<|(one.map λk=>[m k]).map S'):=by
 rw[fg];refine lR h (wh A) ?_;intro k C;have e:bU fr [ab,ab,aa 8]=[.un,.un,.val<|.list<|gh m]:=by simp only[bU,km,D]
 rw[e];exact dC (ce rfl) (aB rfl)<|AI<|B k C
theorem Qkq(B:∀d∈one,d<4)(A:one.length<=100)(h:cC aA O (n+10) it fr=aa (one.map N'))(D:fr[3]?=aa (.val<|.list<|i5 f s p)):ai aA O (n+11) (.comp [ab,ab,aa 3] 1 (.idx (.v 2)<|.v 1) it []) fr=aa (.list<|(one.map<|iL f s p).map S'):=by
 rw[fg];refine lR h (wh A) ?_;intro k C;have e:bU fr [ab,ab,aa 3]=[.un,.un,.val<|.list<|i5 f s p]:=by simp only[bU,km,D]
 rw[e];exact dC (ce rfl) (aB rfl)<|AD<|B k C
theorem Qkr(B:∀d∈one,d<4)(A:one.length<=100)(h:cC aA O (n+10) it fr=aa (one.map N'))(D:fr[4]?=aa (.val<|.list<|io f s p)):ai aA O (n+11) (.comp [ab,ab,aa 4] 1 (.idx (.v 2)<|.v 1) it []) fr=aa (.list<|(one.map<|eH f s p).map N'):=by
 rw[fg];refine lR h (wh A) ?_;intro k C;have e:bU fr [ab,ab,aa 4]=[.un,.un,.val<|.list<|io f s p]:=by simp only[bU,km,D]
 rw[e];exact dC (ce rfl) (aB rfl)<|Kx<|B k C
end
theorem VI{m:Nat->Nat}(D:∀a b,a<4->b<4->m a=m b->a=b):∀{x y:List Nat},(∀d∈x,d<4)->(∀d∈y,d<4)->(x.map m==y.map m)=(x==y)
 |[],[],_,_=>rfl
 |[],_::_,_,_=>rfl
 |_::_,[],_,_=>rfl
 |a::x,b::y,C,B=>by
  have G:=VI D (λd A=>C d<|bB _ A)<|λd A=>B d<|bB _ A;have e:(m a==m b)=(a==b):=by rw[iu,bJ,bJ];exact⟨D a b (C a<|by simp) (B b<|by simp),λe=>by rw[e]⟩
  show(m a==m b&&(x.map m==y.map m))=(a==b&&(x==y));rw[G,e]
theorem VJ(C:List Nat):∀A:List<|List Nat,(cB C A).length <=(A.map dG).sum +A.length*C.length:=by
 intro G;induction G with
 |nil=>exact kh _
 |cons x D H=>
  cases D with
  |nil=>simp[qZ,q7,oN]
  |cons y r=>have B:=H;rw[oN,cw,cw];simp only[dF,vi,eK,qE]at B⊢;exact N1 0x1830d38090d38096030d02280c00e0a060c34e02580d0200 [_,_,_,_,_,_] Yt B
structure RowOk(ks one:List Nat):Prop where
 l:one.length=ks.length
 d:∀d∈one,d<4
 a:∀a b,a<4->b<4->aJ a b one=aJ a b ks
section
variable {f s p:Nat} {ks one:List Nat}
theorem VK(c:Cx2 f s p ks)(r:RowOk ks one):(lV f s p one).length <=24:=by
 have h:∀l:List Nat,(lV f s p l).length <=3*l.length:=λl=>by
  induction l with
  |nil=>exact eR _
  |cons x r A=>have:=J1 (p:=p) (k:=x) c.hf c.hs;unfold lV at A⊢;rw[dF,Lm,cw,eK];exact fN 0x64c3250643200193419206640 Yt A this
 have:=h one;have:=r.l;have:=c.kl;omega
theorem VL{a b:Nat}{l:List Nat}:0<aJ a b l↔(a,b)∈jA l:=by
 rw[<-U9,List.countP_pos_iff];constructor
 ·rintro⟨q,C,h⟩;simp only[bo,bJ]at h;obtain⟨B,A⟩:=h;have:q=(a,b):=by rw[<-B, <-A]
  rwa[<-this]
 ·intro h;exact⟨_,h,by simp⟩
theorem Qks{wf k:Nat}(c:Cx2 f s p ks)(r:RowOk ks one)(G:60<=wf):∃os:List Nat,aO (wf+3) (k+2) 15 [S'<|lV f s p one]=aa (.list<|os.map N')/\(os==one.map (eH f s p))=(qm (nZ f s p ks)==[]):=by
 have H:=VK c r;cases q:(qm (nZ f s p ks)==[])with
 |true=>
  have h:=(VG _).mp q;have C:=Qjm c.hf c.hs c.hp c.hf6 c.hs6 one r.d (λz hz=>by
   have A:=Qjb one r.d z hz;have g:=h z.1 z.2 A.1 A.2;unfold nZ at g;have pos:0<aJ z.1 z.2 ks:=by rw[<-r.a z.1 z.2 A.1 A.2];exact VL.mpr hz
   rw[df pos,KR]at g;exact g)
  exact⟨_,J8 C (aH 0x1a2e40182640 Yt H) G,by simp⟩
 |false=>
  refine aE λL=>?_;have h:∃a b,a<4/\b<4/\nZ f s p ks a b=ac:=by
   refine aE λh=>?_;have:(qm (nZ f s p ks)==[])=ac:=(VG _).mpr λa b D B=>by
    cases g:nZ f s p ks a b with
    |false=>rfl
    |true=>exact absurd ⟨a,b,D,B,g⟩ h
   rw[q]at this;cases this
  obtain⟨a,b,D,B,g⟩:=h;unfold nZ at g;simp only[bo,bH]at g;obtain⟨os,C,M⟩:=Qjn c.hf c.hs c.hp c.hf6 c.hs6 one r.d ⟨(a,b),VL.mp (by rw[r.a a b D B];exact g.1),g.2⟩;apply L;clear L;exact⟨os,J8 C (aH 0x1a2e40182640 Yt H) G,by simpa using M⟩
abbrev xO(f s p:Nat)(ks:List Nat)(v0 v1 v5 v6 v7 dx cp cq dO eh fD iA f9 jg iS v20 ia ib oB mq:FV)(tl:List FV):Frm:=v0::v1::.val (.list (ks.map N'))::.val (.list (i5 f s p))::.val (.list (io f s p))::v5::v6::v7::.val (.list (gh (mu f s p)))::.val (S' (ks.map (mu f s p)))::dx::cp::cq::dO::eh::fD::iA::f9::jg::iS::v20::ia::ib::.val (.bool (qm (nZ f s p ks)==[]))::oB::mq::tl
variable {wf k fu:Nat} (v0 v1 v5 v6 v7 dx cp cq dO eh fD iA f9 jg iS v20 ia ib oB mq:FV) (tl:List FV)
theorem VM(c:Cx2 f s p ks)(r:RowOk ks one){dd:List Nat}(C:dd=[]\/dd=aW):bt aA (aO (wf+3)<|k+2) (wf+3) (fu+4) PI (xO f s p ks v0 v1 v5 v6 v7 dx cp cq dO eh fD iA f9 jg iS v20 ia ib (.val<|.list<|one.map N') (.val<|S' dd) tl)=aa (.next,xO f s p ks v0 v1 v5 v6 v7 dx cp cq dO eh fD iA f9 jg iS v20 ia ib (.val<|.list<|one.map N') (.val<|S' dd) tl):=by
 have B:=c.kl;have L:=c.k6;have A:=r.l;have H:=EN c;have G:fm<|one.map<|mu f s p:=λh=>by obtain⟨x,_,M⟩:=gk.mp h;exact AF x M
 have D:(cB dd<|one.map λk=>[mu f s p k]).length <=1000:=by
  refine fV (VJ _ _) ?_;have T:((one.map λk=>[mu f s p k]).map dG).sum =one.length:=by have:=De<|one.map<|mu f s p;simp only[fg,b8]at this⊢;exact this
  have Q:dd.length<=3:=by rcases C with h|h<;>rw[h]<;>decide
  rw[T,b8];have:=qH (show one.length<=8 from bS 0x6089006089216200 Yt B A) Q;exact mv 0x60aae890c0206089416408193642240 Yt B A this
 have O:jo (cB dd<|one.map λk=>[mu f s p k]) (ks.map<|mu f s p)=aa (one==ks):=by
  rw[<-VI H r.d c.k4];rcases C with h|h<;>subst h
  ·rw[Az,JX];exact RB G
  ·have:=Qd6 (x:=one.map<|mu f s p) (g:=ks.map<|mu f s p) G (by rw[b8,b8,A]) (by rw[b8];exact aH 0x180446031 Yt L);rwa[fg]at this
 refine cz (j8 ae (xC (lP (xD (aB rfl) (Qkp r.d (G6 B A) (g7 (aB rfl) rfl rfl) rfl) (Eu (by rcases C with h|h<;>rw[h]<;>decide)<|Ou D)) (aB rfl)<|xx (Ou D) O)<|bE (qj (aB rfl) (ce rfl)<|VF one ks) rfl) dj) dj
theorem Qkt(c:Cx2 f s p ks)(r:RowOk ks one)(L:60<=wf):∃D,bt aA (aO (wf+3)<|k+2) (wf+3) (fu+8) HP (xO f s p ks v0 v1 v5 v6 v7 dx cp cq dO eh fD iA f9 jg iS v20 ia ib (.val<|.list<|one.map N') mq tl)=aa (.next,xO f s p ks v0 v1 v5 v6 v7 dx cp cq dO eh fD iA f9 jg iS v20 ia ib (.val<|.list<|one.map N') D tl):=by refine aE λC=>?_;have B:=c.kl;have Q:=c.k6;have A:=r.l;have s1:=VM (wf:=wf) (k:=k) (fu:=fu+2) v0 v1 v5 v6 v7 dx cp cq dO eh fD iA f9 jg iS v20 ia ib tl c r (dd:=[])<|.inl rfl;have G:=VM (wf:=wf) (k:=k) (fu:=fu+2) v0 v1 v5 v6 v7 dx cp cq dO eh fD iA f9 jg iS v20 ia ib tl c r (dd:=aW)<|.inr rfl;obtain⟨os,H,O⟩:=Qks (k:=k) c r L;have M:=VK c r;apply C;clear C;refine⟨.val<|S' aW,cz (iK (g7 (j9 uO lX) rfl rfl)<|ek rfl s1 (ek rfl G rfl))<|cz (j8 ae (xC (qj (nR ((xD uO (Qkq r.d (G6 B A) (g7 (aB rfl) rfl rfl) rfl)<|Eu (kh _)<|by rw[Az];exact fV M<|by decide).trans<|by rw[Az];rfl) H) (bE (Qkr r.d (G6 B A) (g7 (aB rfl) rfl rfl) rfl) rfl) ?_)<|ce rfl) dj) dj⟩;rw[VF,O]
theorem Qku(c:Cx2 f s p ks)(M:60<=wf):∀(L:List<|List Nat),(∀one∈L,RowOk ks one)->∀oB mq:FV,∃C B,gc (λf=>bt aA (aO (wf+3)<|k+2) (wf+3) (fu+8) HP f) (gf [24] ac) (i7 L) (xO f s p ks v0 v1 v5 v6 v7 dx cp cq dO eh fD iA f9 jg iS v20 ia ib oB mq tl)=aa (.next,xO f s p ks v0 v1 v5 v6 v7 dx cp cq dO eh fD iA f9 jg iS v20 ia ib C B tl):=by
 intro D;induction D with
 |nil=>intro _ oB mq;exact⟨oB,mq,rfl⟩
 |cons one L H=>intro h oB mq;obtain⟨A,s1⟩:=Qkt v0 v1 v5 v6 v7 dx cp cq dO eh fD iA f9 jg iS v20 ia ib mq tl c (h one (by simp)) M;obtain⟨C,B,G⟩:=H (λo O=>h o (bB _ O)) (.val (.list (one.map N'))) A;exact⟨C,B,ek rfl s1 G⟩
end
end
section
theorem Qkv{x:List Nat}{k:Nat}(h:k<=1000000):iG (S' x) (.int (k:Int)) .none =aa (S'<|x.drop k):=by rw[JS (xB h) (h:=ab) rfl,Uz]
theorem Qkw{x:List Nat}{k:Nat}(h:k<=1000000):iG (S' x) .none (.int (k:Int))=aa (S'<|x.take k):=by rw[JS (l:=ab) rfl (xB h),UA]
theorem Qkx{x:List Nat}{b e:Nat}(h:e<=x.length)(B:b<=1000000)(A:e<=1000000):iG (S' x) (.int (b:Int)) (.int (e:Int))=aa (S'<|(x.take e).drop b):=by rw[JS (xB B)<|xB A,Qh9 x h]
theorem Qky{g:List Nat}(h:g.length<=100000):gR .list [S' g]=aa (.list<|(g.map λc=>[c]).map S'):=by show(if(a8 g).length <=100000 then aa (tq<|(a8 g).cps.toList.map λc=>.str<|a8 [c])else ab)=_;rw[kE,ar h,fg];rfl
theorem Qkz{g:List Nat}(h:g≠[]):idx2 (S' g) (.int<|-1)=aa (S' [g.getLastD 0]):=by
 obtain⟨l,x,rfl⟩:∃l x,g=l++[x]:=⟨g.dropLast,g.getLast h,(A2 h).symm⟩;show(e9 (-1) (a8<|l++[x]).length).bind _=_;rw[kE];unfold e9;rw[av (by decide),ar<|by simp;exact B3];have:(-1+((l++[x]).length :Int)).toNat =l.length:=by simp;exact GK
 rw[this];show(((l++[x])[l.length]?).map λc=>vp<|a8 [c])=_;simp
section
variable {Wf k fu:Nat} (v0 v1 v2 v3 v4 v5 v6 v7 v8 dx cp cq dO eh fD iA f9 jg iS v20 ia ib Gj oB mq Gk vW vX:FV) (tl:List FV)
theorem QkA{g:List Nat}:∀(L:List<|List Nat×Bool),(∀t∈L,jo t.1 g=aa t.2/\t.1.length<=100000)->∀vW vX:FV,∃B A,gc (λf=>bt aA (aO Wf<|k+1) Wf (fu+4) PK f) (gf [27,28] ae) (L.map λt=>.tuple [S' t.1,.bool t.2]) (lF v0 v1 v2 v3 v4 v5 v6 v7 v8 (.val<|S' g) dx cp cq dO eh fD iA f9 jg iS v20 ia ib Gj oB mq Gk vW vX tl)=aa (.next,lF v0 v1 v2 v3 v4 v5 v6 v7 v8 (.val<|S' g) dx cp cq dO eh fD iA f9 jg iS v20 ia ib Gj oB mq Gk B A tl):=by
 intro D;induction D with
 |nil=>intro _ vW vX;exact⟨vW,vX,rfl⟩
 |cons t L G=>intro h vW vX;obtain⟨B,A,e⟩:=G (λu H=>h u (bB _ H)) (.val (S' t.1)) (.val (.bool t.2));have C:=h t (by simp);refine⟨B,A,ek rfl (cz (j8 ae (xC (lP (aB rfl) (aB rfl) (xx C.2 C.1)) (ce rfl)) dj) dj) e⟩
end
theorem VN{g:List Nat}(h:g.length<=8):∀t∈sF g,t.1.length<=100000:=by
 intro t B;have dl:aW.length=3:=rfl;have A:=VJ aW<|(g.map λc=>[c])++[[g.getLastD 0]];have s1:(((g.map λc=>[c])++[[g.getLastD 0]]).map dG).sum =g.length+1:=by rw[jD,List.sum_append_nat,De];rfl
 rw[s1,cw,b8,dl]at A;simp only[eK,kg]at A;unfold sF at B;simp only[bF,jb,or_false]at B;rcases B with e|e|e|e|e|e|e<;>subst e<;>simp only[cw,fX,l6,eK,kg,dl]<;>(first|exact aH 0x54900528224508a28918289268264b240182240 Yt h|exact aH 0x1544034024508228228a08914208a08228224d00914208208a08914208a08208a2891828926826432d10030c9074009182240 Yt h|exact aH 0x5291182892682643003640182240 Yt h|exact bS 0x52a22460a249a0990060892060d36430c90480c9200 Yt h A|exact aH 0x55900d01914208a08a28224508228208a08934064508228248228914208a08208a2891828926826432d9003674019182240 Yt h|exact aH 0x55900d02114208a08a28224508228208a08934084508228248228914208a08208a2891828926826436432d9003643d00859182240 Yt h|exact aH 0x55900d021549d0084d00914208a08a28208208208a08914208a08228208208208a08934024508228248228208a08228224508228208228208a08a28224508208228224d021549d0084508a08208a08224d00914208208a08208208208224508228208228208a09208a25527402114228208224d00914208208a08208208224508228208228208a08208a2891828926826432d90036432c9d00843674009182240 Yt h)
section
variable {O:bC} {fr:Frm} {g:List Nat}
theorem QkB(M:6<=g.length)(B:g.length<=8)(A:fr[9]?=aa (.val<|S' g)):ai aA O 40 Pq fr=aa (.list<|(sF g).map λt=>.tuple [S' t.1,.bool t.2]):=by
 have dl:aW.length=3:=rfl;have lo:∀{n:Nat}(k:Nat),k<=1000000->ai aA O (n+2) (.sl (.v 9) (.ki (k:Int))<|.kn) fr=aa (S'<|g.drop k):=λk Q=>qi (aB A) aX qk<|Qkv Q;have H:∀{n:Nat}(k:Nat),k<=1000000->ai aA O (n+2) (.sl (.v 9) (.kn)<|.ki (k:Int)) fr=aa (S'<|g.take k):=λk Q=>qi (aB A) qk aX<|Qkw Q;have mid:∀{n:Nat},ai aA O (n+2) (.sl (.v 9) (.ki 1)<|.ki 4) fr=aa (S'<|(g.take 4).drop 1):=qi (aB A) aX aX (Qkx (b:=1) (e:=4) (aH 0x180846031 Yt M) (by decide)<|by decide);have L:∀k,(g.drop k).length <=8/\(g.take k).length <=8:=λk=>by rw[fX,l6];exact⟨bD 0x54800528224508a28918224b200182240 Yt B,bD 0xd00814208a08228914208a08a289182274008182240 Yt B⟩
 have G:=L 1;have j:=L 2;have C:=L 3;have D:=L 4;have T:((g.take 4).drop 1).length <=8:=by rw[fX];exact Oq D.2
 have a1:ai aA O 39 (.tup [.sl (.v 9) (.ki 1)<|.kn,.kb ae]) fr=aa (.tuple [S'<|g.drop 1,.bool ae]):=j9 (lo 1<|by decide) nU;have a2:ai aA O 39 (.tup [.bin .add (.bin .add (.sl (.v 9) (.kn)<|.ki 1)<|.ks [46])<|.sl (.v 9) (.ki 2)<|.kn,.kb ae]) fr=aa (.tuple [S'<|g.take 1++[46]++g.drop 2,.bool ae]):=j9 (lQ (lQ (H 1<|by decide) uO<|by simp;exact aH 0xd00914208208a08914208a082246ea2e89d00246031 Yt M) (lo 2<|by decide)<|by rw[cw];simp only[eK,kg];exact bS 0x182aba2430030c9048182248182240 Yt G.2 j.1) nU;have u:ai aA O 39 (.tup [.bin .add (.bin .add (.v 9)<|.ks [46,46,46])<|.v 9,.kb ae]) fr=aa (.tuple [S'<|g++aW++g,.bool ae]):=j9 (lQ (lQ (aB A) lX<|bS 0x60aae890c0206089216640 Yt B dl) (aB A)<|by rw[cw];exact bS 0x52922460aae890c80c0206089216640 Yt B dl) nU;have Y:=VN B (cB aW<|(g.map λc=>[c])++[[g.getLastD 0]],ae) (by unfold sF;simp);have U:g≠[]:=by intro h;rw[h]at M;exact absurd M<|by decide
 have v:ai aA O 39 (.tup [.meth .join (.ks [46,46,46]) [.bin .add (.bi .list [.v 9])<|.lst [.idx (.v 9)<|.neg<|.ki 1]],.kb ae]) fr=aa (.tuple [S'<|cB aW<|(g.map λc=>[c])++[[g.getLastD 0]],.bool ae]):=by refine j9 (xD lX (d:=.list<|((g.map λc=>[c])++[[g.getLastD 0]]).map S') (bn (gg (ce A)<|Qky<|G0 B) (xE<|dC (ce A) (JT aX)<|Qkz U)<|(sO<|by simp only[b8,eK,kg];exact aH 0x1828926826430c9040182240 Yt B).trans ?_)<|Eu (by rw[dl];decide) Y) nU;rw[jD (l₂:=[[g.getLastD 0]])];rfl
 have y:ai aA O 39 (.tup [.bin .add (.bin .add (.sl (.v 9) (.kn)<|.ki 3)<|.ks [46,46,46])<|.sl (.v 9) (.ki 3)<|.kn,.kb ac]) fr=aa (.tuple [S'<|g.take 3++aW++g.drop 3,.bool ac]):=j9 (lQ (lQ (H 3<|by decide) lX<|Ov dl C.2) (lo 3<|by decide)<|by rw[cw];exact mv 0x60aae890c80d0016650182248182240 Yt dl C.1 C.2) nU;have q:ai aA O 39 (.tup [.bin .add (.bin .add (.bin .add (.bin .add (.ks [46,46,46])<|.sl (.v 9) (.kn)<|.ki 4)<|.ks [46,46,46])<|.sl (.v 9) (.ki 3)<|.kn)<|.ks [46,46,46],.kb ae]) fr=aa (.tuple [S'<|aW++g.take 4++aW++g.drop 3++aW,.bool ae]):=j9 (lQ (lQ (lQ (lQ lX (H 4<|by decide)<|bS 0x60aae890c0216648182240 Yt dl D.2) lX<|by rw[cw];exact bS 0x52922460aae890c80c0216648182240 Yt dl D.2) (lo 3<|by decide)<|by rw[cw,cw];exact mv 0x14a48a2460aae890c80d00c0416650182248182240 Yt dl C.1 D.2) lX<|by rw[cw,cw,cw];exact mv 0x14a68a2460aae890d00c80d00c0416650182248182240 Yt dl C.1 D.2) nU;have z:ai aA O 39 (.tup [.bin .add (.bin .add (.bin .add (.bin .add (.sl (.v 9) (.kn)<|.ki 1)<|.ks [46,46,46])<|.sl (.v 9) (.ki 1)<|.ki 4)<|.ks [46,46,46])<|.sl (.v 9) (.ki 3)<|.kn,.kb ae]) fr=aa (.tuple [S'<|g.take 1++aW++(g.take 4).drop 1++aW++g.drop 3,.bool ae]):=j9 (lQ (lQ (lQ (lQ (H 1<|by decide) lX<|Ov dl G.2) mid<|by rw[cw];exact mv 0x60aae890c00d0216650182248182240 Yt dl G.2 T) lX<|by rw[cw,cw];exact mv 0x14a48a2460aae890d00c00d0216650182248182240 Yt dl G.2 T) (lo 3<|by decide)<|by rw[cw,cw,cw];exact rX 0x529228a2460aae890c80d80c00d8416658182250182248182240 Yt dl G.2 C.1 T) nU;rw[Cw];simp only[cO,cQ,a1,a2,u,v,y,q,z,b7];rfl
end
end
section
theorem QkC(A:List Nat):(A.map N')++[.int<|-1,.int 0,.int 255,.int 256]=((A.map λd:Nat=>(d:Int))++[-1,0,255,256]).map bQ:=by rw[jD,fg];rfl
theorem QkD{O:bC}{n:Nat}{f:Frm}:ai aA O (n+3) PF f=aa (.list [.int<|-1,.int 0,.int 255,.int 256]):=by simp only[Cw,cO,cQ,wy,ii,b7]
theorem QkE{e:Int}(h:0<=e)(A:e<5000):bP .pow (.int 3) (.int e)=aa (.int ((3^e.toNat:Nat):Int)):=by
 show(if(decide (0<=e)&&decide (e<=1000000)&&decide ((3:Int).natAbs <16))=ac then aa (bQ<|(3:Int)^e.toNat)else ab)=_;rw[ar]
 ·rw[pC];rfl
 ·rw[df h,df<|by exact fT 0x1c208a2a2c9900f08ac8a240 Yt A];rfl
theorem QkF{e:Nat}(h:e<5000):0<3^e/\3^e<2^10000:=by
 refine⟨WZ (by decide),?_⟩;have a:3^e<=4^e:=Nat.pow_le_pow_left (by decide) e;have b:(4:Nat)^e=2^(2*e):=by rw[show(4:Nat)=2^2 from rfl, <-vC]
 have c:2^(2*e)<2^10000:=W9 (by decide)<|aH 0x52913824a26914c044e08ac8a240 Yt h;exact qt (b▸a) c
theorem QkG{e:Int}(h:0<=e)(A:e<9000):bP .shl (.int 2) (.int e)=aa (.int ((2^(e.toNat+1):Nat):Int)):=by
 show(if(decide (0<=e)&&decide (e<=1000000)&&cb 2)=ac then aa (bQ<|2*2^e.toNat)else ab)=_;rw[ar]
 ·rw[pC,yl,uY];rfl
 ·rw[df h,df<|by exact fT 0x1c208a2a2c9900f0aa88a440 Yt A];rfl
theorem QkH{e:Nat}(h:e<9000):0<2^(e+1)-1/\2^(e+1)-1<2^10000/\1<=2^(e+1):=by have a:2^(e+1)<2^10000:=W9 (by decide)<|aH 0x3824a26910c900e0aa88a440 Yt h;have b:2^1<=2^(e+1):=jF (by decide)<|GI;generalize 2^(e+1)=A at*;generalize (2:Nat)^10000=C at*;exact⟨Og b,⟨bS 0x1524014228224508a28224e20b24018044e200 Yt b a,B5 b⟩⟩
theorem QkI:JI 103 60 200 83:=by
 intro m hm xs hl;rw[Un]at hm;obtain rfl:=aw hm;obtain⟨hf,hf6,_⟩:=Ez xs;obtain⟨hs,hs6,U⟩:=J4 xs;have hp:=J5 xs;obtain⟨C,YB,G,H,M⟩:=QiN xs;have q:=Qiy (wf:=103) (kk:=58) hl;generalize htx:(lT xs).1=text at C YB q;generalize hcw:(lT xs).2=A at C G H M q;generalize kc xs=f at hf hf6 U C q;generalize mK xs=s at hs hs6 U C q;generalize gO xs=p at hp C q;have c:Cx2 f s p A:=⟨hf,hs,hp,hf6,hs6,U,G,H,M⟩;have rd:=J8 (wf:=100) (kk:=58) C (aH 0x1a2e40182a40 Yt YB) (by decide);have YC:A≠[]:=by intro h;rw[h]at H;exact absurd H<|by decide
 obtain⟨v,hv⟩:∃v,A.head?=aa v:=by cases A with|nil=>exact absurd rfl YC|cons x r=>exact⟨x,rfl⟩
 obtain⟨w,hw⟩:∃w,A.getLast?=aa w:=⟨_,Ll YC⟩;have v4:v<4:=M v<|W8 hv;have w4:w<4:=M w<|LF hw;obtain⟨W,hW,h4,YD⟩:∃W:Nat,(4:Int)+xs.sum%1000=(W:Int)/\4<=W/\W<=2000:=⟨(4+xs.sum%1000).toNat,gG 0xb42aba240d438c2aba24084508a08208974114a08914a257b2c0e30aae890210e30aae89021 Yt,gG 0xb42aba240d438c2aba24084508a08208914228208208a246b038c2aba240861 Yt,gG 0x2d0aae890350e30aae8902114228208224528208208a0891824ba66c0e30aae89021 Yt⟩;obtain⟨n,n1,rU,Qoc,tz,zz⟩:=Qj1 (Wf:=103) (k:=59) c h4 YD (by decide);have B:=Qje M hv hw;have Q:=Vc A M;have hn:∀j,j<4->aP (λa b=>aJ a b A) j<=7:=λj hj=>by
  have:aP (λa b=>aJ a b A) j<=ip (λa b=>aJ a b A):=by unfold ip;rcases d7 hj with e|e|e|e<;>subst e<;>(first|exact k9 0x60d80d00c8000 Yt|exact k9 0x60d80d00c0200 Yt|exact k9 0x60d80c00d0200 Yt|exact k9 0x60c00d80d0200 Yt)
  exact N4 0x1525014228208914228a2822891b900608940643158b250206200 [_,_,_] Yt G H Q this
 have hD:=Qkd v4 w4 Q (Ow G H) B hn;have MW:=U6 (A.length-1) v w (λa b=>aJ a b A) v4 w4 Q B;have pb:=Vw hn;have hR:=EJ (A.length-1) v<|λa b=>aJ a b A;have MJ:(4:Nat)^(A.length-1)<=4^7:=jF (by decide)<|Ow G H;have Y:(i7<|gi (A.length-1) [v] v λa b=>aJ a b A).length =Rn (A.length-1) v (λa b=>aJ a b A):=by unfold i7;rw[b8,Ks]
 have ro:∀one∈gi (A.length-1) [v] v (λa b=>aJ a b A),RowOk A one:=λone h1=>by
  obtain⟨r,e,l,d,a⟩:=Qjv _ _ _ _ v4 Q one h1;refine⟨?_,?_,?_⟩
  ·rw[e,cw,l];simp only[eK,kg];exact aH 0x1524014228225d0452822452895800cb2400c9046031 Yt H
  ·intro z hz;rw[e]at hz;rcases eO.mp hz with h|h
   ·obtain rfl:z=v:=by simpa using h
    exact v4
   ·exact d z h
  ·intro x y hx hy;rw[e];exact a x y hx hy
 have YE:=λ(fr:Frm) h2 MV=>Qkh (wf:=103) (k:=60) (fr:=fr) c hv h2 MV (by decide);have ext:=λ(fr:Frm) BQ m8=>Qj8 (wf:=100) (k:=50) (fr:=fr) c (by decide) hw BQ m8;have p3:=QkF (e:=(xs.sum%5000).toNat)<|gG 0xb422b22890358c22b228900528208208224528208208a0893822b2289b2308ac8a240 Yt;have p2:=QkH (e:=(xs.sum%9000).toNat)<|gG 0xb42aa22910358c2aa229100528208208224528208208a089382aa2291b230aa88a440 Yt;have c3:=QkE (e:=xs.sum%5000) (gG 0xb422b228900508208a2478c22b2289001 Yt)<|gG 0xb422b228900508228224f08ac8a26308ac8a240 Yt;have c2:=QkG (e:=xs.sum%9000) (gG 0xb42aa229100508208a2478c2aa2291001 Yt)<|gG 0xb42aa229100508228224f0aa88a4630aa88a440 Yt;have YF:bP .sub (.int ((2^((xs.sum%9000).toNat +1):Nat):Int)) (.int 1)=aa (.int ((2^((xs.sum%9000).toNat +1)-1:Nat):Int)):=rA (b:=1) p2.2.2;generalize hS3:3^(xs.sum%5000).toNat =S3 at p3 c3;generalize oE:2^((xs.sum%9000).toNat +1)=S2 at p2 c2 YF;have eT:Dw w (λa b=>aJ a b A)*((FP w (λa b=>aJ a b A):Nat):Int)=((Rn (A.length-1) v (λa b=>aJ a b A)*PT (λa b=>aJ a b A):Nat):Int):=by rw[iq];exact MW.symm
 have MX:Rn (A.length-1) v (λa b=>aJ a b A)<2^15:=qt (fV hR MJ) (by decide);have MY:PT (λa b=>aJ a b A)<2^257:=qt pb.2 (by decide);generalize hRR:Rn (A.length-1) v (λa b=>aJ a b A)=R at eT MX Y MW hR;generalize QoR:gi (A.length-1) [v] v (λa b=>aJ a b A)=rows at Y ro YE;have hD':=hD;generalize hDD:Dw w (λa b=>aJ a b A)=D at eT hD ext;show Ret aA (aO 103 60) 103 200 P8.body (lF (.val<|.list<|xs.map .int) .un .un .un .un .un .un .un .un .un .un .un .un .un .un .un .un .un .un .un .un .un .un .un .un .un .un .un .un<|cR 15 .un) (.bool ac);generalize cR 15 FV.un=L;refine Ret.next (g:=(lF (.val<|.list<|xs.map .int) (.val<|S' text) (.val<|.list<|A.map N') (.val<|.list<|i5 f s p) (.val<|.list<|io f s p) .un .un .un .un .un .un .un .un .un .un .un .un .un .un .un .un .un .un .un .un .un .un .un .un L)) (Qic (nR (aB rfl) q) rfl) ?_;refine Ret.next (dA<|QjQ 0 M (GX G) (g7 (aB rfl) rfl rfl) rfl) ?_;refine Ret.no (dS (nR (aB rfl) rd) (ce rfl)<|JW _) ?_;obtain⟨O,lp7⟩:=QjP (Wf:=103) (k:=59) (fu:=191) (.val<|.list<|xs.map .int) (.val<|S' text) (.val<|.list<|A.map N') (.val<|.list<|i5 f s p) (.val<|.list<|io f s p) .un (.val<|.list<|(A.map<|eH f s p).map N') (.un ::.un ::.un ::.un ::.un ::.un ::.un ::.un ::.un ::.un ::.un ::.un ::.un ::.un ::.un ::.un ::.un ::.un ::.un ::.un ::.un ::L) ((A.map<|eH f s p).map (λd:Nat=>(d:Int))++[-1,0,255,256]) .un;refine Ret.next (g:=(lF (.val<|.list<|xs.map .int) (.val<|S' text) (.val<|.list<|A.map N') (.val<|.list<|i5 f s p) (.val<|.list<|io f s p) .un (.val<|.list<|(A.map<|eH f s p).map N') O .un .un .un .un .un .un .un .un .un .un .un .un .un .un .un .un .un .un .un .un .un L)) (iK (g7 (bn (aB rfl) QkD<|(sO<|by simp only[b8,eK,kg];exact aH 0x1828926826430c90c90c90c9040182240 Yt G).trans<|by rw[QkC]) rfl rfl) lp7) ?_;refine Ret.next (dA<|QjR c rfl) ?_;refine Ret.next (dA<|QjT M (GX G) (g7 (aB rfl) rfl rfl) rfl) ?_;refine Ret.next (dA<|QjU (wf:=103) (kk:=57) c (by decide) rfl rfl) ?_;refine Ret.next (dA<|bn aX (ES (by decide) rfl)<|(mG _ _).trans<|by rw[hW]) ?_;refine Ret.next (dA<|lP (QjY c YD rfl rfl) (aB rfl) Qoc) ?_;refine Ret.no (Qj3 c n1 rU tz zz rfl rfl) ?_;refine Ret.next (dA<|Qj4 c hw rfl rfl) ?_;refine Ret.no (Qj5 c hv rfl rfl rfl) ?_;refine Ret.next (dA<|ext _ rfl rfl) ?_;refine Ret.next (dA aX) ?_;obtain⟨u,o,MZ⟩:=Qkb (Wf:=103) (k:=59) (fu:=176) (w:=w) (T:=λa b=>aJ a b A) (.val<|.list<|xs.map .int) (.val<|S' text) (.val<|.list<|A.map N') (.val<|.list<|i5 f s p) (.val<|.list<|io f s p) .un (.val<|.list<|(A.map<|eH f s p).map N') O (.val<|.list<|gh<|mu f s p) (.val<|S'<|A.map<|mu f s p) (.val<|N' W) (.val<|.list<|(bv n).map λi=>N'<|gB A i) .un (.un ::.un ::.un ::.un ::.un ::.un ::.un ::.un ::.un ::.un ::.un ::.un ::L) w4 hn hD;rw[eT]at MZ;generalize hPP:PT (λa b=>aJ a b A)=low at MZ eT pb MY MW;refine Ret.next (g:=(lF (.val<|.list<|xs.map .int) (.val<|S' text) (.val<|.list<|A.map N') (.val<|.list<|i5 f s p) (.val<|.list<|io f s p) u (.val<|.list<|(A.map<|eH f s p).map N') O (.val<|.list<|gh<|mu f s p) (.val<|S'<|A.map<|mu f s p) (.val<|.list<|eU λa b=>aJ a b A) (.val<|N' W) (.val<|.list<|(bv n).map λi=>N'<|gB A i) o (.val<|.list [N' w]) (.val<|N'<|R*low) (.val<|N' low) .un .un .un .un .un .un .un .un .un .un .un .un L)) (iK (nV (m:=4) rfl (by decide)) MZ) ?_;refine Ret.next (dA<|Qkg c rfl) ?_;refine Ret.next (dA<|YE _ rfl rfl) ?_;obtain⟨y20,y21,y22,sh1⟩:=VA (wf:=100) (k:=60) (fu:=171) (low:=low) (S:=S3) (top:=R*low) (rows:=i7 rows) (xs:=xs) (.val<|S' text) (.val<|.list<|A.map N') (.val<|.list<|i5 f s p) (.val<|.list<|io f s p) u (.val<|.list<|(A.map<|eH f s p).map N') O (.val<|.list<|gh<|mu f s p) (.val<|S'<|A.map<|mu f s p) (.val<|.list<|eU λa b=>aJ a b A) (.val<|N' W) (.val<|.list<|(bv n).map λi=>N'<|gB A i) o (.val<|.list [N' w]) (.val<|.list<|pq A) .un .un .un (.un ::.un ::.un ::.un ::.un ::.un ::L) (by decide) pb.1 MY p3.1 p3.2 (by rw[Y];exact MX) (by rw[Y]);obtain⟨Gl,Gm,Gn,sh2⟩:=VA (wf:=100) (k:=60) (fu:=171) (low:=low) (S:=S2-1) (.val<|S' text) (.val<|.list<|A.map N') (.val<|.list<|i5 f s p) (.val<|.list<|io f s p) u (.val<|.list<|(A.map<|eH f s p).map N') O (.val<|.list<|gh<|mu f s p) (.val<|S'<|A.map<|mu f s p) (.val<|.list<|eU λa b=>aJ a b A) (.val<|N' W) (.val<|.list<|(bv n).map λi=>N'<|gB A i) o (.val<|.list [N' w]) (.val<|.list<|pq A) y20 y21 y22 (.un ::.un ::.un ::.un ::.un ::.un ::L) (by decide) pb.1 MY p2.1 p2.2.1 (by rw[Y];exact MX) (by rw[Y]);refine Ret.next (iK (g7 (j9 (bn aX (ES (by decide) rfl) c3)<|bn (bn aX (ES (by decide) rfl) c2) aX YF) rfl rfl)<|ek rfl sh1 (ek rfl sh2 rfl)) ?_;refine Ret.next (dA<|Qko c rfl rfl) ?_;obtain⟨BU,vY,Qoj⟩:=Qku (wf:=100) (k:=58) (.val<|.list<|xs.map .int) (.val<|S' text) u (.val<|.list<|(A.map<|eH f s p).map N') O (.val<|.list<|eU λa b=>aJ a b A) (.val<|N' W) (.val<|.list<|(bv n).map λi=>N'<|gB A i) o (.val<|.list [N' w]) (.val<|N'<|R*low) (.val<|N' low) (.val<|.list<|pq A) (.val<|.list<|i7 rows) (.val<|N'<|S2-1) Gl Gm Gn (.un ::.un ::.un ::L) c (by decide) rows ro .un .un;refine Ret.next (iK (g7 (aB rfl) rfl rfl) Qoj) ?_;have gl:(A.map<|mu f s p).length =A.length:=b8 ..;have nd:fm<|A.map<|mu f s p:=λh=>by obtain⟨x,_,hx⟩:=gk.mp h;exact AF x hx
 refine Ret.next (dA<|QkB (by rw[gl];exact H) (by rw[gl];exact G) rfl) ?_;obtain⟨Go,Gp,Qok⟩:=QkA (.val<|.list<|xs.map .int) (.val<|S' text) (.val<|.list<|A.map N') (.val<|.list<|i5 f s p) (.val<|.list<|io f s p) u (.val<|.list<|(A.map<|eH f s p).map N') O (.val<|.list<|gh<|mu f s p) (.val<|.list<|eU λa b=>aJ a b A) (.val<|N' W) (.val<|.list<|(bv n).map λi=>N'<|gB A i) o (.val<|.list [N' w]) (.val<|N'<|R*low) (.val<|N' low) (.val<|.list<|pq A) (.val<|.list<|i7 rows) (.val<|N'<|S2-1) Gl Gm Gn (.val<|.bool<|qm (nZ f s p A)==[]) BU vY (.val<|.list<|(sF<|A.map<|mu f s p).map λt=>.tuple [S' t.1,.bool t.2]) L (sF<|A.map<|mu f s p) (λt Q=>⟨Qd7 nd (by rw[gl];exact H) t Q,VN (by rw[gl];exact G) t Q⟩) .un .un;refine Ret.next (iK (g7 (aB rfl) rfl rfl) Qok) ?_;exact Ret.retE nU
theorem law2_holds:PySem.Challenge.rw_uc0059_02.Holds:=Qhs (by decide) QkI (by rw[Un];rfl)
end
end Mine.Internal
end
open PySem PySem.W
theorem PySem.Challenge.cw_uc0059_02_holds : PySem.Challenge.rw_uc0059_02.Holds :=
 Mine.Internal.law2_holds
