import PyProof.Rows.All
import PyProof.AttrMiss
import PyProof.CollectIter
import PyProof.MeetsIn
import PyProof.EqKinds
import PyProof.P3Statements
import PyProof.StrBlockI
import PyProof.StrBlockL
import PyProof.ListNew
import PyProof.ListCopy
import PyProof.StrCalls2
import PyProof.Rows.SumAny
import PyProof.TypeOfCall
import PyProof.SetRoads
import PyProof.SetNew
import PyProof.Rows.SetFrom
import PyProof.Rows.ExtendIn
import Wide.Tac
import KE.KPop
import KE.KDictIter
import KE.KMinKey
import KE.KSortTup
import Wide.FinOn
import OpenK.AllK
import Wide.All
import Lean
import PySem.Challenge.RW_oc0179_01
set_option linter.all false
set_option Elab.async false
set_option backward.match.sparseCases false
set_option compiler.extract_closed false
set_option compiler.reuse false
set_option genInjectivity false
set_option genSizeOf false
set_option maxRecDepth 1000000
set_option tactic.hygienic false
set_option maxHeartbeats 20000000
open Option renaming some->ae,none->ag,none->bq,map_eq_some_iff->jZ,bind_eq_some_iff->qT,ite_none_right_eq_some->tI,map_some->tS,isNone_iff_eq_none->wY,map_eq_none_iff->A6,isSome_iff_exists->Bt,map->Hn
open _root_ renaming List->ah,Nat->ak,Option->ax,Bool->aB,String->aI,if_neg->aK,if_pos->aN,Array->aZ,beq_iff_eq->bU,congrArg->bZ,Unit->b8,Nonempty->cU,False->dm,True->eN,decide_eq_true_eq->ft,of_decide_eq_true->gx,decide_eq_true->i7,if_false->jb,if_true->jB,of_decide_eq_false->jE,beq_eq_false_iff_ne->oi,decide_eq_false->pJ,bne_iff_ne->qS,or_false->tW,ForInStep->tZ,Decidable->wo,beq_false_of_ne->Aw,reduceIte->AQ,bne_self_eq_false->AU,ne_true_of_eq_false->Bm,beq_self_eq_true->ID,ne_of_beq_false->IY,decide_eq_false_iff_not->Jj
open Bool renaming true->aj,false->az,and_eq_true->cW,false_eq_true->ja,false_ne_true->jd,or_eq_true->pP,not_eq_true->pQ,not_true->qU,eq_iff_iff->qW,or_true->rq,not_eq_true'->wX,and_false->w6,noConfusion->Ay,or_false->AX,not_false->GZ,or_eq_false_iff->HQ
open PySem.Str renaming ofString->aq
open PySem renaming Str->au,Value->aw,Addr->ay,wpAny->aA,wpAny_pure->aC,Shared->aD,Heap->aG,Expr->aH,model->aV,Env->bH,rawInt->bI,Scope->bN,wpAny_bind->bO,Tok->cK,Sem->dn,Stmt->dy,Around->d8,wpAny_holding->eA,wpAny_mono->eB,wpAny_field->e6,Arguments->fh,Pos->fj,sizeLine_eq->fG,pyIter->f6,SetTable->gr,wpAny_call_entry->gw,wpAny_rule->gN,wpAny_setField_rec->gO,PyData->hV,pyNext->hX,wpAny_letGo->hY,mainGlobals->iG,compareOp->i5,IsZip->i6,field->jc,World->ju,nsFind->jw,IsPair->jx,starEach->jA,wpAny_standAt->jC,Operator->jU,rule->jX,Builtin->j2,slot_listiter_next->j3,wpAny_seqItems->j4,slot_listiter_iter->j6,codeAny->j',codeAny_builtin->kb,hashStr->lq,assign->lu,holding->ly,backTo->lA,isSubtype->lC,NameKind->l6,wpAny_isInstance->mc,backToKw->mh,keywordEach->mn,updateSeq->mw,wpAny_updateSeq->mx,Model->mZ,Keyword->m5,wpAny_newTuple->m7,notedBy->ng,wpAny_callSpecial?_slot->nh,wpAny_of_eq->nj,call_meets->nk,wpAny_attempt->nv,Const->n6,Program->n7,IsEnum->oh,wpAny_newList->oj,partValue->om,setField->oo,swapsWith->ou,callSpecial?->ow,wpAny_pyIter_slot->oA,isSubtype_stop->oB,keeperOf->oE,plainId_quiet->oH,CmpOp->pB,JoinOk->pE,typeIs_str->pR,assignEach->pS,argsOk->pT,wpAny_askSetting->pU,getMethod_builtin->pZ,wpAny_truthy_bool->qM,StrKeys->qN,builtinsNs->qO,storeName->qY,wpAny_newObj_type->qZ,wpAny_execs_nil->q8,seqItems?->q9,typeLookup_type->rg,builtinLookup_eq_fast->rh,isSubtype_type->rj,wpAny_setState_of->rm,letOwnedTupleGo->rn,entry_listiter_iter->ru,args_listiter_iter->rz,wants->rF,wpAny_specialOf->rG,wpAny_tryCatch->rH,wpAny_eqBool_int->tq,isTrue->tu,IsRangeIter->tw,pickOrder->tz,wpAny_allTrue_Or_cons->tG,standAt->tH,richCompare->tJ,wpAny_setField->tN,wpAny_execs_cons->tQ,wpAny_throw->tR,typeLookup->tU,wpAny_alloc->t9,wpAny_call->uc,codeAny_of_tree->ud,checkBuiltinCall->ue,wpAny_Call_Name_kw->ug,FuncData->wm,DictEntry->wt,IsRange->wz,seqEpoch->wA,newTuple->wC,newList->wD,newExc->wL,setNext->wN,findBy->wU,bindArgs->wV,cellOf->w8,compPost->w9,codeAny_mono->xc,ExcName->xi,wpAny_isTrue_BoolOp->Aq,wpAny_items_nil->As,wpAny_items_cons->Au,entry_listiter_next->AE,args_listiter_next->AF,raiseNew->AG,entryFor->AH,wpAny_pyIter_list->AY,evalArgs->A8,sizeLine->Bb,relayAll->Be,getMethod->Bo,treeTable->Bp,importedModules->Bs,wpAny_Constant_none->GK,wpAny_Constant_bool->GL,wpAny_Constant_int->GN,wpAny_Constant_str->GO,wpAny_loadName_cell->GP,wpAny_allTrue_And_cons->GW,wpAny_allTrue_Or_nil->GX,wpAny_Return_some->Hd,firstArgMember->He,entryFor_alias->Hg,wpAny_setEntries_of->Hm,wpAny_updateSeq_pair->Hu,codeAny_call_function->Hz,slot_list_setitem->HH,callType_newIn->HJ,wpAny_pyIter_enum->HM,wpAny_pyIter_rangeiter->HN,wpAny_pyIter_zip->HO,wpAny_functionCodeX->HX,wpAny_builtinsFor->HY,weight_type_call_type->Ic,codeAny_call_builtin->Ig,am_int_getattr_none->IF,am_entry_int_getattribute->IG,meets_getattribute_miss_int->IH
open List renaming mem_singleton->aJ,length_map->aO,mem_cons->bu,length_append->bK,all_eq_true->bW,getElem?_eq_getElem->cy,mem_of_getElem?->cD,getElem?_eq_some_iff->cF,size_toArray->cG,range->dz,getElem?_map->dA,map_append->dH,mem_append->dX,length_take->er,length_set->eM,length_cons->fq,append_nil->fT,map_cons->f9,lookup_cons->gv,take_of_length_le->gy,set_cons_succ->gz,set_cons_zero->gA,mem_append_left->gM,mem_append_right->hW,getElem?_set_ne->jz,append_assoc->jY,take_length->j5,drop_eq_nil_of_le->kf,getElem?_append_left->lz,pairwise_cons->lE,toArray->l8,getElem?_set_self->l9,forIn_nil->me,nil_append->mo,drop_zero->mq,mem_map->mv,getElem?_eq_none_iff->nq,length_eq_zero_iff->nr,mem_range->nu,drop_eq_getElem_cons->oz,map_map->oL,set_set->oM,length_filter_le->pF,any_cons->pK,nodup_cons->pN,not_mem_nil->pO,drop_eq_nil_iff->pV,forIn_cons->pW,getElem_mem->pY,length_zip->p3,mem_iff_getElem->qR,length_nil->q7,lookup->rA,of_mem_zip->rB,cons_append->rC,getElem?_eq_none->rI,map_take->rJ,nodup_append->tE,isEmpty_nil->tT,map_nil->ua,isEmpty_iff->ub,take_zero->uh,countP_cons->uj,map_reverse->um,any_eq_true->ur,foldl_append->uu,getElem?_zip_eq_some->uv,length_singleton->uw,getElem?_append_right->wF,getElem_inj->wG,range_succ->wO,length_range->wQ,mem_of_mem_drop->wW,map_inj_left->xh,pairwise_iff_getElem->xk,pairwise_append->xl,getElem?_drop->xm,findIdx?_eq_some_iff_getElem->An,contains_iff_mem->Ax,filterMap_cons->AM,take_add_one->AP,all_cons->AZ,mem_filter->A3,take_nil->A5,zip_cons_cons->Bj,mem_cons_of_mem->Bk,getElem?_concat_length->Bu,set_getElem_self->Bv,reverse_perm->Bw,perm_append_comm->Bx,pairwise_singleton->By,dropLast_concat_getLast->BA,any_append->BC,isEmpty_map->BD,flatMap_append->BF,countP_le_length->BG,find?_cons->GI,nodup_nil->GJ,append_toArray->GV,replicate->Hc,getElem?_toArray->Hf,eq_nil_of_length_eq_zero->Hh,length_eraseIdx_of_lt->Hk,length_eq_one_iff->Hr,mem_map_of_mem->Hv,take_append_drop->Hw,mem_of_mem_take->Hx,map_congr_left->Hy,filter_nil->HB,filterMap_nil->HC,any_eq_false->HG,zip_nil_right->HW,take_succ_eq_append_getElem->H8,drop_length->Ih,countP_mono_left->Im,countP_true->Io,ext_getElem->Ip,mem_reverse->Iq,getElem_map->IE,mem_of_find?_eq_some->II,getElem?_cons_succ->IM,take_left'->IS,length_drop->IW,find?_append->IZ,filter_eq_nil_iff->Ja,filter_cons_of_pos->Jb,filter_cons_of_neg->Jc,getElem?_range->Jd,countP_append->Jf,mem_or_eq_of_mem_set->Jg,sum_append->Jh,getElem?_of_mem->Ji
open PySem.Txt renaming split->aU,join->jv,slice->lh,startswith->pD
open Nat renaming le_refl->a4,zero_le->cZ,lt_irrefl->dP,le_trans->dW,le_succ->gP,lt_of_lt_of_le->gQ,le_of_ble_eq_true->iY,lt_succ_self->jD,ne_of_lt->jV,zero_add->ke,ble->l7,min_eq_left->m8,le_of_lt->nz,le_of_eq->n8,not_lt->oa,ble_eq->p4,add_assoc->qL,min_le_left->tm,le_add_right->tn,casesOn->tD,min_eq_right->tM,lt_trans->wH,lt_of_le_of_lt->wI,reduceAdd->xj,add_zero->xn,le_succ_of_le->xo,add_le_add_right->Ac,add_right_comm->Ae,add_comm->Af,not_le->Ag,ne_of_gt->Ah,le_antisymm->Ai,le_min->Aj,succ_le_succ->Av,succ_pos->Bg,lt_succ_of_lt->Bh,add_le_add_left->Gw,lt_of_le_of_ne->Gy,min_le_right->Gz,sub_le->GA,sub_add_cancel->GB,le_add_left->GC,add_le_add->GD,le_zero->Hi,mod_lt->Hj,le_of_succ_le_succ->Hq,le_of_sub_eq_zero->H6,lt_of_sub_pos->H7,div_le_self->IJ,lt_or_gt_of_ne->IP,lt_or_ge->IQ,zero_min->IT,min_zero->IU,succ_min_succ->IV,sub_eq_zero_of_le->Je
open PySem.Heap renaming get?_push_of_some->be,get?_push_size->cV,SameBut->fm,lt_size->gL,get?_update_self->iH,size_push->j8,dictOf_iff->tF,get?_update_other->AB,get?_none_of_le->Bc,get?_push_ne->Bi,NewAttrErr->Bn,ExtBut->HV,NewExc->HZ,size_update->Iw
open PyProof.Rows renaming seqObj->bC,arrOf->jy,numOf->lx,get?_update_seq->ny,IntsAre->og,isSubtype_of_subB->oJ,listUpdate_at->oK,failedOf->qQ,tail_any->tL,exec_Assign->wK,seqEpoch_at->xf,listItems_at->xg,general'->Am,subscriptTail->Az,Subscript_->AA,size_push'->Bl,wpAny_call_entry_kw->Iy,slot_list_sort->Iz,entry_list_sort->IA,args_list_sort->V',args_list_sort_rev->Wa
open PySem.Obj renaming mapSeq->bQ,data_mapFields->m9,isFreed_of_fields->oq,putName_eq->rD,putNameByArray->rE,mapFields->tO,cls_mapFields->tP,putSet->H4
open PySem.PyData renaming eqv->bY,strOk->cY,eqvAll->lF,depthAll->GY,list->I9,tuple->Jk
open Option.some renaming inj->dp,injEq->A4
open PySem.Value renaming none->dq,ref->gu,isStrOf->lr,type->lB,str->qV,int->tK,builtin->uf,isStrOf_shape->GG
open PySem.Heap.SameBut renaming update->dY
open Int renaming toNat_natCast->eD,ofNat_lt->iZ,lt_trans->uo,zero_add->ux,natCast_nonneg->wq,neg_lt_neg->Ao,eq_ofNat_of_zero_le->Ap,add_zero->BE,lt_of_lt_of_le->GF,le_natAbs->GQ,lt_of_le_of_lt->GR,ne_of_gt->GS,toNat_lt->G9,not_lt->Ha,ofNat_le->Hb,ediv_one->HK,neg_neg->HL,fdiv_eq_ediv_of_nonneg->IK,ofNat_sub->IL
open PySem.W renaming findIn->fk,Frag->jt,tabObj->jW,emptyDict->j7,boot_heap->my,Looks->oD,instObj->pG,takerIn->pH,typeIn->qP,kla_obj->wu,callWith_of->wR,plainOver->Ak,hasDictIn->Al,boot_drawn->Bq,boot_toks->Br
open PySem.Builtin.Range renaming rangeFitsLong->fH,rangeSize->j9,rangeFields->V7,small->V8
open PySem.NameKind renaming free->kc,cell->oF
open Classical renaming byContradiction->lg,em->uq
open Prod.mk renaming inj->lD,injEq->wZ
open PySem.Builtin.Str renaming occurrences->l5,partsBetween->m4,strKind->IB
open PySem.Around renaming under_plainId->mu,under_plain->Ib
open PySem.SetTable renaming below->m6,grown->Bf,has->H3,fits_plain_off->H5,fresh->Ie
open ForInStep renaming yield->nx
open PySem.Code renaming builtin->oG,quiet_builtin->Ia
open PyProof.Rows.SortSt renaming mk'->pI
open PySem.Keeper renaming machine->pX,frame->tX,boundFrame->tY
open Prod renaming ext->qX
open Pure renaming pure->th
open PySem.Builtin.List renaming listUpdate->tB,listItems->GH,listExtendWith->Ij,listSameRef->Ik,listSubscript?->V6
open PySem.Data renaming noConfusion->tC
open Array renaming toList_map->uk,getElem?_eq_getElem->wJ,toList_inj->xd,length_toList->Bd,toList_push->Hl,getElem?_eq_none_iff->Ho,size_push->Ii,toList_reverse->Ir,forIn_toList->Iv
open PySem.FuncBody renaming stmts->wy
open List.Perm renaming cons->wM
open PySem.Calls renaming spliced_cons->w7,evalArgs_plain->A9,spliced_nil->Ba
open PySem.Shared renaming TypeIs->xb
open Ne renaming symm->AD
open PySem.pickOrder renaming go->AJ
open PySem.SetTable.below renaming go->AK
open PySem.Builtin.SmallTypes renaming nextOf->AW,ownedTupleIsFree->Hs,ownedTupleHandOut->Ht
open PUnit renaming unit->A2
open PySem.W.Looks renaming of_pure->A7
open List.Pairwise renaming nil->Bz
open String renaming ofList->Gu
open PyProof renaming noPylong_small->GU
open PySem.DictEntry renaming refKey->HD
open PySem.ScopeKind renaming function->HP
open PySem.Manifest renaming find?->HU
open PySem.Builtin.Frozenset renaming newClass->H9,slot0->V4,sizeOf->V5,updateFrom->V9
open PySem.Builtin.Builtins renaming bindParams->Il
open StateT renaming run_pure->Iu
open PySem.IsL renaming update->IC
open PySem.Heap.IsSliceOf renaming new->VZ
namespace Mine.Internal
section
open Lean
def je (k:aI)(a:ah Syntax):Syntax:=.node .none k.toName a.toArray
def mp {α β}(f:α->β):ah α->ah β
 | []=>[]
 |a :: l=>f a :: mp f l
def fo {α β}(f:α->β->β)(b:β):ah α->β
 | []=>b
 |a :: l=>f a (fo f b l)
def mem (x:aI):ah aI->aB
 | []=>az
 |y :: l=>x == y || mem x l
def uy:ah Syntax->ah Syntax
 |a :: b :: l=>a :: .atom .none "," :: uy (b :: l)
 |l=>l
def xp:ah Syntax->ah Syntax
 |a :: l=>if a.isIdent then a :: xp l else []
 | []=>[]
def BH (a:ah Syntax)(w:ah Char)(s:ah Syntax):ah Syntax:=
 match w with
 | []=>s
 |c :: r=>
 let k:=Gu r.reverse
 let n:=c.toNat - 48
 if c == '\'' then .atom .none k :: s
 else if c == '.' then mkIdent k.toName :: s
 else if c == '$' then a.getD (k.toNat?.getD 0) .missing :: s
 else if c == 'S' then je "Lean.Parser.Tactic.tacticSeq" [je "Lean.Parser.Tactic.tacticSeq1Indented" [je "null" (s.take 1)]] :: s.drop 1
 else
 let d:=r.getLastD ' '
 je ((if mem k ["null","group","hygieneInfo","fieldIdx","PySem.W.tacticWtm_at_"]then "" else if d == 'T' || d == 'C' then "Lean.Parser." else "Lean.Parser.Tactic.")++k) (s.take n).reverse :: s.drop n
def xq (a:ah Syntax):ah Char->ah Char->ah Syntax->ah Syntax
 |w,c :: r,s=>if c == ' ' then xq a [] r (BH a w s)else xq a (c :: w) r s
 |w,[],s=>BH a w s
def cH (t:aI)(a:ah Syntax):Syntax:=(xq a [] t.toList []).headD .missing
def kg (t u:Syntax):Syntax:=cH "first' |' 0$ S group2 |' 1$ S group2 null2 first2" [t,u]
def iI (t u:Syntax):Syntax:=cH "(' 0$ ;' 1$ null3 tacticSeq1Indented1 tacticSeq1 )' paren3" [t,u]
def Jl (r:Syntax):Syntax:=
 let b:=cH "rewrite' null0 optConfig1 [' 0$ null1 ]' rwRuleSeq3 null0 rewriteSeq4" [r]
 if (r.find? (·.isOfKind ``Parser.Term.syntheticHole)).isSome then b
 else kg (cH ("with_reducible_and_instances' refine' rw"++(if r[0].getNumArgs == 0 then "R" else "L")++". 0$ ?' _' Term.syntheticHole2 null2 Term.app2 refine2 S withReducibleAndInstances2") [r[1]]) b
def xr (p:Syntax):Syntax:=cH "0$ rintroPat.one1" [if p[1].getNumArgs == 0 && p[0][0].getNumArgs == 1 then p[0][0][0]else cH "(' 0$ )' rcasesPat.paren3" [p]]
def tupP (p:Syntax):aB:=p[0].isOfKind ``Parser.Tactic.rcasesPat.tuple && p[0][1].getNumArgs > 1
def uz:ah Syntax->Syntax
 | []=>cH "skip' skip1" []
 |p :: ps=>iI (cH (if tupP p then "(' intro' hrin. null1 intro2 ;' obtain' 0$ null1 rcasesPatMed1 null1 null0 :=' hrin. null1 null2 obtain4 null3 tacticSeq1Indented1 tacticSeq1 )' paren3" else "rintro' 1$ null1 null0 rintro3") [p[0],p]) (uz ps)
def xt (e t:Syntax)(ps:ah Syntax):ak->Syntax
 | 0=>cH "rcases' null0 0$ elimTarget2 null1 with' 1$ null1 rcasesPatMed1 null0 rcasesPatLo2 null2 rcases3" [e,t]
 |k+1=>
  let s:=fo (λq s=>iI (cH "try' clear' 0$ null1 clear2 S tacticTry_2" [q]) s) (uz (mp xr (ps.take (k+1))++[match ps.drop (k+1)with | [p]=>xr p |r=>cH "⟨' 0$ ⟩' rcasesPat.tuple3 rintroPat.one1" [je "null" (uy r)]])) ((mp (λp=>p[0][0][0][0]) ps).reverse++[e])
  let f (n:aI):=iI (cH ("refine' "++n++". 0$ ?' _' Term.syntheticHole2 null2 Term.app2 refine2") [e]) s
  kg (f ("and"++toString (k+2))) (kg (f ("ex"++toString (k+1))) (xt e t ps k))
def Jm (x:Syntax):Syntax:=
 let c (t:aI):=cH t [x]
 let r (n:aI):=kg (iI (c ("replace' 0$ Term.letId1 null0 null0 :=' "++n++".inj. 0$ null1 Term.app2 Term.letIdDecl5 Term.letDecl1 replace2")) (c "cases' null0 0$ elimTarget2 null1 null0 null0 cases4"))
 let d (n:aI):=kg (iI (c ("refine' and2. "++n++".inj. 0$ null1 Term.app2 ?' _' Term.syntheticHole2 null2 Term.app2 refine2")) (c "(' clear' 0$ null1 clear2 ;' intro' h1. h2. null2 intro2 ;' cases' null0 h1. elimTarget2 null1 null0 null0 cases4 ;' cases' null0 h2. elimTarget2 null1 null0 null0 cases4 null7 tacticSeq1Indented1 tacticSeq1 )' paren3"))
 kg (c "subst' 0$ null1 subst2") (kg (c "contradiction' contradiction1") (r "Option.some" (r "AV.ref" (d "Prod.mk" (d "List.cons" (c "rcases' null0 0$ elimTarget2 null1 with' ⟨' null0 ⟩' rcasesPat.tuple3 null1 rcasesPatMed1 null0 rcasesPatLo2 null2 rcases3"))))))
def BJ (x a:Syntax):ah aI->Syntax
 | []=>cH "cases' null0 (' [anonymous]. hygieneInfo1 Term.hygienicLParen2 0$ )' Term.paren3 elimTarget2 null1 null0 1$ null1 cases4" [x,a]
 |n :: l=>kg (cH ("induction' null0 0$ elimTarget2 null1 using' "++n++(if n == "Nat" then ".casesAuxOn" else ".casesOn")++". null2 null0 1$ null1 induction5") [x,a]) (BJ x a l)
def BK:ah aI->Syntax
 | []=>cH "fail' null0 fail2" []
 |n :: l=>kg (cH ("refine' "++n++". ?' _' Term.syntheticHole2 null1 Term.app2 refine2") []) (BK l)
def xu:ak->ak->aI->ah aI
 |k+1,n,s=>if n < 2 then [s]else xu k ((n+1) / 2) (s++" .' 1' fieldIdx1 Term.proj3")++xu k (n / 2) (s++" .' 2' fieldIdx1 Term.proj3")
 | 0,_,s=>[s]
def BM (c m:aI)(l a:ah Syntax):Syntax:=
 let k:=toString l.length
 let e:=a.isEmpty
 let f:=fo (λn s=>kg (cH ("exact' "++n++". exact2") []) s) (cH "first' |' apply' nP. apply2 S group2 |' apply' nF. apply2 S group2 null2 first2" []) ("nI neA neS neI neW neB neE neX neM neP neRT neK neAS neDA neR".splitOn " ")
 iI (cH ("refine' "++(if e then "no_implicit_lambda%' " else "")++m++k++". (' [anonymous]. hygieneInfo1 Term.hygienicLParen2 by' repeat'' 1$ S repeat'2 S Term.byTactic2 )' Term.paren3 _' Term.hole1 "++(if e then "?' _' Term.syntheticHole2 null3 Term.app2 Term.noImplicitLambda2" else "0$ ?' _' Term.syntheticHole2 null4 Term.app2")++" refine2") [a.headD .missing,f])
  (cH "generalize' 0$ null0 generalize3" [je "null" (uy (mp (λp=>cH ("null0 (' [anonymous]. hygieneInfo1 Term.hygienicLParen2 "++c++k++". _' Term.hole1 _' Term.hole1 null2 Term.app2 )' Term.paren3"++p.1++" =' 0$ generalizeArg4") [p.2]) ((xu l.length l.length "").zip l)))])
def rK:ak->ah Syntax->Syntax
 |n+1,l=>
  let m:=l.length
  let k:=if m < 11 then m else if m < 13 then 10 else if m < 16 then 13 else if m < 20 then 16 else if m < 23 then 20 else 23
  let t:=BM "pc" "pk" (l.take k) []
  if k == m then t else iI t (rK n (l.drop k))
 | 0,_=>.missing
def BN (e t:Syntax)(ps:ah Syntax):ak->Syntax
 | 0=>xt e t ps (ps.length - 1)
 |k+1=>kg (iI (BM "oc" "ox" (mp (λp=>p[0][0][0][0]) (ps.take (k+1))) [e]) (iI (cH "try' clear' 0$ null1 clear2 S tacticTry_2" [e]) (uz [match ps.drop (k+1)with | [p]=>xr p |r=>cH "⟨' 0$ ⟩' rcasesPat.tuple3 rintroPat.one1" [je "null" (uy r)]]))) (BN e t ps k)
def xw (b:aB)(l:ah Syntax):ak->Syntax
 | 0=>.missing
 |n+1=>
  let a:=xp l
  let t:=if a.isEmpty then cH "skip' skip1" []else if b then rK 9 a else cH "intro' 0$ intro2" [je "null" a]
  match l.drop a.length with
  | []=>t
  |_ :: r=>iI t (xw (!b) r n)
def Jn (l:ah Syntax):Syntax:=
 let a:=xp l
 match a,l.drop a.length with
 |_,[]=>rK 9 a
 | [],_ :: r=>xw aj r r.length
 |_,[_]=>iI (cH "revert' 0$ revert2" [je "null" a]) (rK 9 a)
 |_,_ :: b=>iI (cH "revert' 0$ revert2" [je "null" a]) (iI (rK 9 a) (cH "intro' 0$ intro2" [je "null" b]))
def uA:ak->Syntax->ah Syntax
 |n+1,s=>s :: fo (λs l=>uA n s++l) [] s.getArgs.toList
 | 0,_=>[]
def BO:ak->Syntax->Syntax
 |n+1,.node _ k a=>.node .none k (mp (BO n) a.toList).toArray
 |_,s=>s.setInfo .none
def nm (s:Syntax):aI:=toString s.getId.getRoot
def Jo (s:Syntax)(l:ah aI):ah aI:=
 let k:=toString s.getKind
 mp nm (if k == "Lean.binderIdent" then [s[0]]else if k == "Lean.Parser.Term.basicFun" then s[0].getArgs.toList else if mem k ["Lean.Parser.Term.forall","Lean.Parser.Term.explicitBinder","Lean.Parser.Term.implicitBinder"]then s[1].getArgs.toList else [])++l
def Jp (tab hd:aI)(d:Syntax):Syntax:=
 let e:=d[1]
 let us:=uA 99 e[2]
 let ui:=mp nm us
 let bd:=fo Jo [] us
 let vs:=fo (λx l=>if mem x ui && !mem x bd then ((mkIdent x.toName).raw,aj) :: l else l) (fo (λb l=>let f:=fo (λs f=>if s.isIdent then mem (nm s) (hd.splitOn " ")else f) az (uA 99 b[2]);mp (·,f) b[1].getArgs.toList++l) [] e[2][0].getArgs.toList) (tab.splitOn " ")
 let l:=(fo (λ(x,y) (l,f)=>(if f == y then x :: l else x :: .missing :: l,y)) ([],(vs.getLastD (.missing,aj)).2) vs)
 d.setArg 1 (e.setArg 3 (e[3].setArg 1 (cH "by' revert' 0$ revert2 ;' 1$ ;' (' 2$ )' paren3 null5 tacticSeq1Indented1 tacticSeq1 Term.byTactic2" [je "null" (mp (·.1) vs),xw l.2 l.1 99,e[3][1][1]])))
def Jq (n:aI)(m b:Syntax):Syntax:=
 if b[0].getPos?.isNone || fo (λs f=>s.isToken "meta" || f) az (uA 9 m)then .missing else
 let k:=toString b.getKind
 let a:=[m,b[1],b[2],b[3],b[2][0],b[2][1][0],b,m.setArg 4 (cH "noncomputable' Command.noncomputable1 null1" [])]
 let q (s:aI):=cH (s++" Command.declaration2") a
 BO 999 (if k == "Lean.Parser.Command.definition" then q "0$ theorem' 1$ 4$ 5$ Command.declSig2 3$ Command.theorem4"
  else if k == "Lean.Parser.Command.abbrev" then if m[1].getNumArgs == 0 then q "7$ def' 1$ 2$ 3$ null0 Command.definition5" else (q "7$ 6$").modifyArg 0 (·.setArg 1 (je "null" []))
  else if k == "Lean.Parser.Command.theorem" then
   let (tab,hd):=if n == "Mine.Internal.Q" then ("B H df E F I b w k i n s j U d A h b0 row dd LP k0 di rp ri mi NP Q O cs v a m T p M K l as args W u vs gB D Z QB z R x y r x6 x0 x5 x7 x1 bS f Y x3 x8 x9 hZ ia ib x4 fU ic ie ig V e elt S L o J G body ifs N QL bR mm kw X dI a9 ks ys","AO AV Ad eO fh aB DE DS DT aH FL Int ah kh ak aS ax Or RT Rd bN St au aI Tr")else ("X Y h H h₀ kl B J j own br C fJ I Z jF A F U aP k i W n u ep E E' a D S L w s z dE v it o o' x y prog V pos p q G l le K Q kvs N e elt r target kw T xs ai ao d b M es O m mg fd R ct f op lo ci ca ifs mm","AI AO AV ay Arg fh d8 aZ aB pB n6 Cx DA DE DI DR DS DT bH aH Flow jt wm aG Int ah kh mZ ak Obj jU ax Or fj n7 PySem.Fin RT Res Result bN gr aD St au aI cK b8 aw ju")
   Jp tab hd (q "0$ 6$")else q "0$ 6$")
def rL (m b:Syntax):MacroM Syntax:=do
 let r:=Jq (toString (<-Macro.getCurrNamespace)) m b
 if r.isMissing then Macro.throwUnsupported else return r
end
open Lean in
local macro_rules
 | `(tactic| cases $x:ident $a:inductionAlts)=>return BJ x a ("Option List Nat Bool Or AV AO Res FL AI PySem.Expr PySem.Stmt".splitOn " ")
 | `(tactic| cases $x:ident)=>return Jm x
 | `(tactic| rw $r:rwRuleSeq)=>return r.raw[1].getSepArgs.toList.foldr (λr=>iI (Jl r)) (cH "try' with_reducible' rfl' tacticRfl1 S withReducible2 S tacticTry_2" [])
 | `(tactic| rintro $ps:rintroPat*)=>let l:=ps.toList.map (·.raw);if l.length < 2 && !tupP l.head! then Macro.throwUnsupported else return uz l
 | `(tactic| obtain $p:rcasesPatMed:=$e:term)=>let t:=if p.raw[0].getNumArgs == 1 then p.raw[0][0]else .missing;if t.isOfKind ``Parser.Tactic.rcasesPat.paren then let t:=t[1][0][0][0];let ps:=t[1].getSepArgs.toList;return BN e t ps (min (ps.length - 1) (ps.takeWhile λp=>p[0][0].getNumArgs == 1 && p[0][0][0][0].isIdent && p[0][0][0][0].getId != `rfl).length)else let ps:=t[1].getSepArgs.toList;if ps.length < 2 then Macro.throwUnsupported else return xt e t ps (ps.length - 1)
 | `(tactic| intros $xs*)=>if xs.isEmpty then Macro.throwUnsupported else return Jn (xs.toList.map (·.raw))
 | `(tactic| show $t:term)=>return cH "refine' (' [anonymous]. hygieneInfo1 Term.hygienicLParen2 ?' _' Term.syntheticHole2 :' 0$ null1 )' Term.typeAscription5 refine2" [t]
open Lean in
local macro_rules
 | `($m:declModifiers $b:definition)=>rL m b
 | `($m:declModifiers $b:theorem)=>rL m b
 | `($m:declModifiers $b:abbrev)=>rL m b
 | `($m:declModifiers $b:structure)=>rL m b
 | `($m:declModifiers $b:inductive)=>rL m b
@[elab_as_elim] def Wb {α:Sort _}{a b:α}{p:α->Prop}(h:a=b)(x:p b):p a:=h ▸ x
@[elab_as_elim] def Wc {α:Sort _}{a b:α}{p:α->Prop}(h:a=b)(x:p a):p b:=h ▸ x
section
variable {A B C D E F H I J K L M G:Prop}
def and2 (h:A/\B)(f:A->B->G):G:=f h.1 h.2
def and3 (h:A/\B/\C)(f:A->B->C->G):G:=and2 h.2 (f h.1)
def and4 (h:A/\B/\C/\D)(f:A->B->C->D->G):G:=and3 h.2 (f h.1)
def and5 (h:A/\B/\C/\D/\E)(f:A->B->C->D->E->G):G:=and4 h.2 (f h.1)
def and6 (h:A/\B/\C/\D/\E/\F)(f:A->B->C->D->E->F->G):G:=and5 h.2 (f h.1)
def and7 (h:A/\B/\C/\D/\E/\F/\H)(f:A->B->C->D->E->F->H->G):G:=and6 h.2 (f h.1)
def and8 (h:A/\B/\C/\D/\E/\F/\H/\I)(f:A->B->C->D->E->F->H->I->G):G:=and7 h.2 (f h.1)
def and9 (h:A/\B/\C/\D/\E/\F/\H/\I/\J)(f:A->B->C->D->E->F->H->I->J->G):G:=and8 h.2 (f h.1)
def and10 (h:A/\B/\C/\D/\E/\F/\H/\I/\J/\K)(f:A->B->C->D->E->F->H->I->J->K->G):G:=and9 h.2 (f h.1)
def and11 (h:A/\B/\C/\D/\E/\F/\H/\I/\J/\K/\L)(f:A->B->C->D->E->F->H->I->J->K->L->G):G:=and10 h.2 (f h.1)
def and12 (h:A/\B/\C/\D/\E/\F/\H/\I/\J/\K/\L/\M)(f:A->B->C->D->E->F->H->I->J->K->L->M->G):G:=and11 h.2 (f h.1)
end
section
variable {A B C D E F H I J K:Sort _}{G:Prop}
def ex1 {R:A->Prop}(h:∃a,R a)(f:∀a,R a->G):G:=h.elim f
def ex2 {R:A->B->Prop}(h:∃a b,R a b)(f:∀a b,R a b->G):G:=h.elim λa h=>ex1 h (f a)
def ex3 {R:A->B->C->Prop}(h:∃a b c,R a b c)(f:∀a b c,R a b c->G):G:=h.elim λa h=>ex2 h (f a)
def ex4 {R:A->B->C->D->Prop}(h:∃a b c d,R a b c d)(f:∀a b c d,R a b c d->G):G:=h.elim λa h=>ex3 h (f a)
def ex5 {R:A->B->C->D->E->Prop}(h:∃a b c d e,R a b c d e)(f:∀a b c d e,R a b c d e->G):G:=h.elim λa h=>ex4 h (f a)
def ex6 {R:A->B->C->D->E->F->Prop}(h:∃a b c d e f,R a b c d e f)(f:∀a b c d e f,R a b c d e f->G):G:=h.elim λa h=>ex5 h (f a)
def ex7 {R:A->B->C->D->E->F->H->Prop}(h:∃a b c d e f g,R a b c d e f g)(f:∀a b c d e f g,R a b c d e f g->G):G:=h.elim λa h=>ex6 h (f a)
def ex8 {R:A->B->C->D->E->F->H->I->Prop}(h:∃a b c d e f g i,R a b c d e f g i)(f:∀a b c d e f g i,R a b c d e f g i->G):G:=h.elim λa h=>ex7 h (f a)
def ex9 {R:A->B->C->D->E->F->H->I->J->Prop}(h:∃a b c d e f g i j,R a b c d e f g i j)(f:∀a b c d e f g i j,R a b c d e f g i j->G):G:=h.elim λa h=>ex8 h (f a)
def ex10 {R:A->B->C->D->E->F->H->I->J->K->Prop}(h:∃a b c d e f g i j k,R a b c d e f g i j k)(f:∀a b c d e f g i j k,R a b c d e f g i j k->G):G:=h.elim λa h=>ex9 h (f a)
end
universe u
abbrev ij {α:Type u}(n:cU α)(P:α->Prop):α:=@Classical.epsilon α n λa=>¬ P a
def iJ {α:Type u}{n:cU α}{P:α->Prop}(h:P (ij n P))(a:α):P a:=lg λk=>@Classical.epsilon_spec α (λa=>¬ P a) ⟨a,k⟩ h
section
variable {A B C D E F H I J K L M N O Q R S T U V W X Y:Type u}{G:Prop}
variable (n:cU (A))(P:A->Prop)
abbrev pc1:=ij n λt=>P t
def pk1 (h:P (pc1 n P))(a):P a:=iJ (P:=λt=>P t) h a
abbrev oc1:=pc1 n λa=>¬ P a
def ox1 (h:∃a,P a)(f:P (oc1 n P)->G):G:=lg λg=>ex1 h (pk1 n (λa=>¬ P a) λr=>g (f r))
variable (n:cU (A×B))(P:A->B->Prop)
abbrev pc2:=ij n λt=>P t.1 t.2
def pk2 (h:P (pc2 n P).1 (pc2 n P).2)(a b):P a b:=iJ (P:=λt=>P t.1 t.2) h (a,b)
abbrev oc2:=pc2 n λa b=>¬ P a b
def ox2 (h:∃a b,P a b)(f:P (oc2 n P).1 (oc2 n P).2->G):G:=lg λg=>ex2 h (pk2 n (λa b=>¬ P a b) λr=>g (f r))
variable (n:cU ((A×B)×C))(P:A->B->C->Prop)
abbrev pc3:=ij n λt=>P t.1.1 t.1.2 t.2
def pk3 (h:P (pc3 n P).1.1 (pc3 n P).1.2 (pc3 n P).2)(a b c):P a b c:=iJ (P:=λt=>P t.1.1 t.1.2 t.2) h ((a,b),c)
abbrev oc3:=pc3 n λa b c=>¬ P a b c
def ox3 (h:∃a b c,P a b c)(f:P (oc3 n P).1.1 (oc3 n P).1.2 (oc3 n P).2->G):G:=lg λg=>ex3 h (pk3 n (λa b c=>¬ P a b c) λr=>g (f r))
variable (n:cU ((A×B)×C×D))(P:A->B->C->D->Prop)
abbrev pc4:=ij n λt=>P t.1.1 t.1.2 t.2.1 t.2.2
def pk4 (h:P (pc4 n P).1.1 (pc4 n P).1.2 (pc4 n P).2.1 (pc4 n P).2.2)(a b c d):P a b c d:=iJ (P:=λt=>P t.1.1 t.1.2 t.2.1 t.2.2) h ((a,b),(c,d))
abbrev oc4:=pc4 n λa b c d=>¬ P a b c d
def ox4 (h:∃a b c d,P a b c d)(f:P (oc4 n P).1.1 (oc4 n P).1.2 (oc4 n P).2.1 (oc4 n P).2.2->G):G:=lg λg=>ex4 h (pk4 n (λa b c d=>¬ P a b c d) λr=>g (f r))
variable (n:cU (((A×B)×C)×D×E))(P:A->B->C->D->E->Prop)
abbrev pc5:=ij n λt=>P t.1.1.1 t.1.1.2 t.1.2 t.2.1 t.2.2
def pk5 (h:P (pc5 n P).1.1.1 (pc5 n P).1.1.2 (pc5 n P).1.2 (pc5 n P).2.1 (pc5 n P).2.2)(a b c d e):P a b c d e:=iJ (P:=λt=>P t.1.1.1 t.1.1.2 t.1.2 t.2.1 t.2.2) h (((a,b),c),(d,e))
abbrev oc5:=pc5 n λa b c d e=>¬ P a b c d e
def ox5 (h:∃a b c d e,P a b c d e)(f:P (oc5 n P).1.1.1 (oc5 n P).1.1.2 (oc5 n P).1.2 (oc5 n P).2.1 (oc5 n P).2.2->G):G:=lg λg=>ex5 h (pk5 n (λa b c d e=>¬ P a b c d e) λr=>g (f r))
variable (n:cU (((A×B)×C)×(D×E)×F))(P:A->B->C->D->E->F->Prop)
abbrev pc6:=ij n λt=>P t.1.1.1 t.1.1.2 t.1.2 t.2.1.1 t.2.1.2 t.2.2
def pk6 (h:P (pc6 n P).1.1.1 (pc6 n P).1.1.2 (pc6 n P).1.2 (pc6 n P).2.1.1 (pc6 n P).2.1.2 (pc6 n P).2.2)(a b c d e f):P a b c d e f:=iJ (P:=λt=>P t.1.1.1 t.1.1.2 t.1.2 t.2.1.1 t.2.1.2 t.2.2) h (((a,b),c),((d,e),f))
abbrev oc6:=pc6 n λa b c d e f=>¬ P a b c d e f
def ox6 (h:∃a b c d e f,P a b c d e f)(f:P (oc6 n P).1.1.1 (oc6 n P).1.1.2 (oc6 n P).1.2 (oc6 n P).2.1.1 (oc6 n P).2.1.2 (oc6 n P).2.2->G):G:=lg λg=>ex6 h (pk6 n (λa b c d e f=>¬ P a b c d e f) λr=>g (f r))
variable (n:cU (((A×B)×C×D)×(E×F)×H))(P:A->B->C->D->E->F->H->Prop)
abbrev pc7:=ij n λt=>P t.1.1.1 t.1.1.2 t.1.2.1 t.1.2.2 t.2.1.1 t.2.1.2 t.2.2
def pk7 (h:P (pc7 n P).1.1.1 (pc7 n P).1.1.2 (pc7 n P).1.2.1 (pc7 n P).1.2.2 (pc7 n P).2.1.1 (pc7 n P).2.1.2 (pc7 n P).2.2)(a b c d e f g):P a b c d e f g:=iJ (P:=λt=>P t.1.1.1 t.1.1.2 t.1.2.1 t.1.2.2 t.2.1.1 t.2.1.2 t.2.2) h (((a,b),(c,d)),((e,f),g))
abbrev oc7:=pc7 n λa b c d e f g=>¬ P a b c d e f g
def ox7 (h:∃a b c d e f g,P a b c d e f g)(f:P (oc7 n P).1.1.1 (oc7 n P).1.1.2 (oc7 n P).1.2.1 (oc7 n P).1.2.2 (oc7 n P).2.1.1 (oc7 n P).2.1.2 (oc7 n P).2.2->G):G:=lg λg=>ex7 h (pk7 n (λa b c d e f g=>¬ P a b c d e f g) λr=>g (f r))
variable (n:cU (((A×B)×C×D)×(E×F)×H×I))(P:A->B->C->D->E->F->H->I->Prop)
abbrev pc8:=ij n λt=>P t.1.1.1 t.1.1.2 t.1.2.1 t.1.2.2 t.2.1.1 t.2.1.2 t.2.2.1 t.2.2.2
def pk8 (h:P (pc8 n P).1.1.1 (pc8 n P).1.1.2 (pc8 n P).1.2.1 (pc8 n P).1.2.2 (pc8 n P).2.1.1 (pc8 n P).2.1.2 (pc8 n P).2.2.1 (pc8 n P).2.2.2)(a b c d e f g i):P a b c d e f g i:=iJ (P:=λt=>P t.1.1.1 t.1.1.2 t.1.2.1 t.1.2.2 t.2.1.1 t.2.1.2 t.2.2.1 t.2.2.2) h (((a,b),(c,d)),((e,f),(g,i)))
abbrev oc8:=pc8 n λa b c d e f g i=>¬ P a b c d e f g i
def ox8 (h:∃a b c d e f g i,P a b c d e f g i)(f:P (oc8 n P).1.1.1 (oc8 n P).1.1.2 (oc8 n P).1.2.1 (oc8 n P).1.2.2 (oc8 n P).2.1.1 (oc8 n P).2.1.2 (oc8 n P).2.2.1 (oc8 n P).2.2.2->G):G:=lg λg=>ex8 h (pk8 n (λa b c d e f g i=>¬ P a b c d e f g i) λr=>g (f r))
variable (n:cU ((((A×B)×C)×D×E)×(F×H)×I×J))(P:A->B->C->D->E->F->H->I->J->Prop)
abbrev pc9:=ij n λt=>P t.1.1.1.1 t.1.1.1.2 t.1.1.2 t.1.2.1 t.1.2.2 t.2.1.1 t.2.1.2 t.2.2.1 t.2.2.2
def pk9 (h:P (pc9 n P).1.1.1.1 (pc9 n P).1.1.1.2 (pc9 n P).1.1.2 (pc9 n P).1.2.1 (pc9 n P).1.2.2 (pc9 n P).2.1.1 (pc9 n P).2.1.2 (pc9 n P).2.2.1 (pc9 n P).2.2.2)(a b c d e f g i j):P a b c d e f g i j:=iJ (P:=λt=>P t.1.1.1.1 t.1.1.1.2 t.1.1.2 t.1.2.1 t.1.2.2 t.2.1.1 t.2.1.2 t.2.2.1 t.2.2.2) h ((((a,b),c),(d,e)),((f,g),(i,j)))
abbrev oc9:=pc9 n λa b c d e f g i j=>¬ P a b c d e f g i j
def ox9 (h:∃a b c d e f g i j,P a b c d e f g i j)(f:P (oc9 n P).1.1.1.1 (oc9 n P).1.1.1.2 (oc9 n P).1.1.2 (oc9 n P).1.2.1 (oc9 n P).1.2.2 (oc9 n P).2.1.1 (oc9 n P).2.1.2 (oc9 n P).2.2.1 (oc9 n P).2.2.2->G):G:=lg λg=>ex9 h (pk9 n (λa b c d e f g i j=>¬ P a b c d e f g i j) λr=>g (f r))
variable (n:cU ((((A×B)×C)×D×E)×((F×H)×I)×J×K))(P:A->B->C->D->E->F->H->I->J->K->Prop)
abbrev pc10:=ij n λt=>P t.1.1.1.1 t.1.1.1.2 t.1.1.2 t.1.2.1 t.1.2.2 t.2.1.1.1 t.2.1.1.2 t.2.1.2 t.2.2.1 t.2.2.2
def pk10 (h:P (pc10 n P).1.1.1.1 (pc10 n P).1.1.1.2 (pc10 n P).1.1.2 (pc10 n P).1.2.1 (pc10 n P).1.2.2 (pc10 n P).2.1.1.1 (pc10 n P).2.1.1.2 (pc10 n P).2.1.2 (pc10 n P).2.2.1 (pc10 n P).2.2.2)(a b c d e f g i j k):P a b c d e f g i j k:=iJ (P:=λt=>P t.1.1.1.1 t.1.1.1.2 t.1.1.2 t.1.2.1 t.1.2.2 t.2.1.1.1 t.2.1.1.2 t.2.1.2 t.2.2.1 t.2.2.2) h ((((a,b),c),(d,e)),(((f,g),i),(j,k)))
abbrev oc10:=pc10 n λa b c d e f g i j k=>¬ P a b c d e f g i j k
def ox10 (h:∃a b c d e f g i j k,P a b c d e f g i j k)(f:P (oc10 n P).1.1.1.1 (oc10 n P).1.1.1.2 (oc10 n P).1.1.2 (oc10 n P).1.2.1 (oc10 n P).1.2.2 (oc10 n P).2.1.1.1 (oc10 n P).2.1.1.2 (oc10 n P).2.1.2 (oc10 n P).2.2.1 (oc10 n P).2.2.2->G):G:=lg λg=>ex10 h (pk10 n (λa b c d e f g i j k=>¬ P a b c d e f g i j k) λr=>g (f r))
variable (n:cU ((((A×B)×C×D)×(E×F)×H)×((I×J)×K)×(L×M)×N))(P:A->B->C->D->E->F->H->I->J->K->L->M->N->Prop)
abbrev pc13:=ij n λt=>P t.1.1.1.1 t.1.1.1.2 t.1.1.2.1 t.1.1.2.2 t.1.2.1.1 t.1.2.1.2 t.1.2.2 t.2.1.1.1 t.2.1.1.2 t.2.1.2 t.2.2.1.1 t.2.2.1.2 t.2.2.2
def pk13 (h:P (pc13 n P).1.1.1.1 (pc13 n P).1.1.1.2 (pc13 n P).1.1.2.1 (pc13 n P).1.1.2.2 (pc13 n P).1.2.1.1 (pc13 n P).1.2.1.2 (pc13 n P).1.2.2 (pc13 n P).2.1.1.1 (pc13 n P).2.1.1.2 (pc13 n P).2.1.2 (pc13 n P).2.2.1.1 (pc13 n P).2.2.1.2 (pc13 n P).2.2.2)(a b c d e f g i j k l m o):P a b c d e f g i j k l m o:=iJ (P:=λt=>P t.1.1.1.1 t.1.1.1.2 t.1.1.2.1 t.1.1.2.2 t.1.2.1.1 t.1.2.1.2 t.1.2.2 t.2.1.1.1 t.2.1.1.2 t.2.1.2 t.2.2.1.1 t.2.2.1.2 t.2.2.2) h ((((a,b),(c,d)),((e,f),g)),(((i,j),k),((l,m),o)))
variable (n:cU ((((A×B)×C×D)×(E×F)×H×I)×((J×K)×L×M)×(N×O)×Q×R))(P:A->B->C->D->E->F->H->I->J->K->L->M->N->O->Q->R->Prop)
abbrev pc16:=ij n λt=>P t.1.1.1.1 t.1.1.1.2 t.1.1.2.1 t.1.1.2.2 t.1.2.1.1 t.1.2.1.2 t.1.2.2.1 t.1.2.2.2 t.2.1.1.1 t.2.1.1.2 t.2.1.2.1 t.2.1.2.2 t.2.2.1.1 t.2.2.1.2 t.2.2.2.1 t.2.2.2.2
def pk16 (h:P (pc16 n P).1.1.1.1 (pc16 n P).1.1.1.2 (pc16 n P).1.1.2.1 (pc16 n P).1.1.2.2 (pc16 n P).1.2.1.1 (pc16 n P).1.2.1.2 (pc16 n P).1.2.2.1 (pc16 n P).1.2.2.2 (pc16 n P).2.1.1.1 (pc16 n P).2.1.1.2 (pc16 n P).2.1.2.1 (pc16 n P).2.1.2.2 (pc16 n P).2.2.1.1 (pc16 n P).2.2.1.2 (pc16 n P).2.2.2.1 (pc16 n P).2.2.2.2)(a b c d e f g i j k l m o p q r):P a b c d e f g i j k l m o p q r:=iJ (P:=λt=>P t.1.1.1.1 t.1.1.1.2 t.1.1.2.1 t.1.1.2.2 t.1.2.1.1 t.1.2.1.2 t.1.2.2.1 t.1.2.2.2 t.2.1.1.1 t.2.1.1.2 t.2.1.2.1 t.2.1.2.2 t.2.2.1.1 t.2.2.1.2 t.2.2.2.1 t.2.2.2.2) h ((((a,b),(c,d)),((e,f),(g,i))),(((j,k),(l,m)),((o,p),(q,r))))
variable (n:cU (((((A×B)×C)×D×E)×((F×H)×I)×J×K)×(((L×M)×N)×O×Q)×((R×S)×T)×U×V))(P:A->B->C->D->E->F->H->I->J->K->L->M->N->O->Q->R->S->T->U->V->Prop)
abbrev pc20:=ij n λt=>P t.1.1.1.1.1 t.1.1.1.1.2 t.1.1.1.2 t.1.1.2.1 t.1.1.2.2 t.1.2.1.1.1 t.1.2.1.1.2 t.1.2.1.2 t.1.2.2.1 t.1.2.2.2 t.2.1.1.1.1 t.2.1.1.1.2 t.2.1.1.2 t.2.1.2.1 t.2.1.2.2 t.2.2.1.1.1 t.2.2.1.1.2 t.2.2.1.2 t.2.2.2.1 t.2.2.2.2
def pk20 (h:P (pc20 n P).1.1.1.1.1 (pc20 n P).1.1.1.1.2 (pc20 n P).1.1.1.2 (pc20 n P).1.1.2.1 (pc20 n P).1.1.2.2 (pc20 n P).1.2.1.1.1 (pc20 n P).1.2.1.1.2 (pc20 n P).1.2.1.2 (pc20 n P).1.2.2.1 (pc20 n P).1.2.2.2 (pc20 n P).2.1.1.1.1 (pc20 n P).2.1.1.1.2 (pc20 n P).2.1.1.2 (pc20 n P).2.1.2.1 (pc20 n P).2.1.2.2 (pc20 n P).2.2.1.1.1 (pc20 n P).2.2.1.1.2 (pc20 n P).2.2.1.2 (pc20 n P).2.2.2.1 (pc20 n P).2.2.2.2)(a b c d e f g i j k l m o p q r s t u v):P a b c d e f g i j k l m o p q r s t u v:=iJ (P:=λt=>P t.1.1.1.1.1 t.1.1.1.1.2 t.1.1.1.2 t.1.1.2.1 t.1.1.2.2 t.1.2.1.1.1 t.1.2.1.1.2 t.1.2.1.2 t.1.2.2.1 t.1.2.2.2 t.2.1.1.1.1 t.2.1.1.1.2 t.2.1.1.2 t.2.1.2.1 t.2.1.2.2 t.2.2.1.1.1 t.2.2.1.1.2 t.2.2.1.2 t.2.2.2.1 t.2.2.2.2) h (((((a,b),c),(d,e)),(((f,g),i),(j,k))),((((l,m),o),(p,q)),(((r,s),t),(u,v))))
variable (n:cU (((((A×B)×C)×(D×E)×F)×((H×I)×J)×(K×L)×M)×(((N×O)×Q)×(R×S)×T)×((U×V)×W)×X×Y))(P:A->B->C->D->E->F->H->I->J->K->L->M->N->O->Q->R->S->T->U->V->W->X->Y->Prop)
abbrev pc23:=ij n λt=>P t.1.1.1.1.1 t.1.1.1.1.2 t.1.1.1.2 t.1.1.2.1.1 t.1.1.2.1.2 t.1.1.2.2 t.1.2.1.1.1 t.1.2.1.1.2 t.1.2.1.2 t.1.2.2.1.1 t.1.2.2.1.2 t.1.2.2.2 t.2.1.1.1.1 t.2.1.1.1.2 t.2.1.1.2 t.2.1.2.1.1 t.2.1.2.1.2 t.2.1.2.2 t.2.2.1.1.1 t.2.2.1.1.2 t.2.2.1.2 t.2.2.2.1 t.2.2.2.2
def pk23 (h:P (pc23 n P).1.1.1.1.1 (pc23 n P).1.1.1.1.2 (pc23 n P).1.1.1.2 (pc23 n P).1.1.2.1.1 (pc23 n P).1.1.2.1.2 (pc23 n P).1.1.2.2 (pc23 n P).1.2.1.1.1 (pc23 n P).1.2.1.1.2 (pc23 n P).1.2.1.2 (pc23 n P).1.2.2.1.1 (pc23 n P).1.2.2.1.2 (pc23 n P).1.2.2.2 (pc23 n P).2.1.1.1.1 (pc23 n P).2.1.1.1.2 (pc23 n P).2.1.1.2 (pc23 n P).2.1.2.1.1 (pc23 n P).2.1.2.1.2 (pc23 n P).2.1.2.2 (pc23 n P).2.2.1.1.1 (pc23 n P).2.2.1.1.2 (pc23 n P).2.2.1.2 (pc23 n P).2.2.2.1 (pc23 n P).2.2.2.2)(a b c d e f g i j k l m o p q r s t u v w x y):P a b c d e f g i j k l m o p q r s t u v w x y:=iJ (P:=λt=>P t.1.1.1.1.1 t.1.1.1.1.2 t.1.1.1.2 t.1.1.2.1.1 t.1.1.2.1.2 t.1.1.2.2 t.1.2.1.1.1 t.1.2.1.1.2 t.1.2.1.2 t.1.2.2.1.1 t.1.2.2.1.2 t.1.2.2.2 t.2.1.1.1.1 t.2.1.1.1.2 t.2.1.1.2 t.2.1.2.1.1 t.2.1.2.1.2 t.2.1.2.2 t.2.2.1.1.1 t.2.2.1.1.2 t.2.2.1.2 t.2.2.2.1 t.2.2.2.2) h (((((a,b),c),((d,e),f)),(((g,i),j),((k,l),m))),((((o,p),q),((r,s),t)),(((u,v),w),(x,y))))
end
open PySem
set_option genInjectivity true in
inductive AV where
 |none |bool (b:aB) |int (i:Int) |str (s:au)
 |one (a:AV) |pair (a b:AV) |dB (a b c:AV)
 |ref (i:ak) |fn (n:au) |ty (n:aI) |bi (n:aI)
 |gR (l:ah Int) |code (q:au) |cL (l:ah au)
deriving Inhabited
inductive AO where
 |list (l:ah AV) |cell (v:ax AV) |inst (d:ak) |bc (l:ah (au×AV))
 |dict (l:ah ((au ⊕ Int)×AV)) |iter (src:ax ak) (i:ak) |obj
 |lam (args:fh) (body:aH) (sc:bN) (cel:ah (au×ak))
deriving Inhabited
@[reducible] abbrev St:=ah AO
inductive Res (β:Type) where
 |ok (b:β) |err (k:aI)
structure P (β:Type) where
 run:St->(Res β->St->Prop)->Prop
 mono:∀{st:St} {p q:Res β->St->Prop},(∀r bh,p r bh->q r bh)->run st p->run st q
namespace P
abbrev pure {β:Type}(b:β):P β:=⟨λst p=>p (.ok b) st,λh x=>h _ _ x⟩
abbrev fail {β:Type}:P β:=⟨λu u=>dm,λu x=>x⟩
abbrev err {β:Type}(k:aI):P β:=⟨λst p=>p (.err k) st,λh x=>h _ _ x⟩
abbrev bind {β γ:Type}(m:P β)(f:β->P γ):P γ:=
 ⟨λst p=>m.run st λr bh=>match r with
  |.ok b=>(f b).run bh p
  |.err k=>p (.err k) bh,
   λ{st p q} h x=>m.mono (λr bh y=>by
  cases r with
  |ok b=>exact(f b).mono h y
  |err k=>exact h _ _ y) x⟩
noncomputable instance:Monad P where
 pure:=P.pure
 bind:=P.bind
abbrev get:P St:=⟨λst p=>p (.ok st) st,λh x=>h _ _ x⟩
abbrev set (bh:St):P b8:=⟨λu p=>p (.ok ()) bh,λh x=>h _ _ x⟩
abbrev perm {α:Type}(l:ah α):P (ah α):=⟨λst p=>∀l',l'.Perm l->p (.ok l') st,λh x l' hl=>h _ _ (x l' hl)⟩
abbrev uB {β γ:Type}(m:P β)(ok:β->P γ)(bad:aI->P γ):P γ:=
 ⟨λst p=>m.run st λr bh=>match r with
  |.ok b=>(ok b).run bh p
  |.err k=>(bad k).run bh p,
   λ{st p q} h x=>m.mono (λr bh y=>by
  cases r with
  |ok b=>exact(ok b).mono h y
  |err k=>exact(bad k).mono h y) x⟩
abbrev alloc (o:AO):P ak:=⟨λst p=>p (.ok st.length) (st++[o]),λh x=>h _ _ x⟩
abbrev load (i:ak):P AO:=⟨λst p=>match st[i]? with |some o=>p (.ok o) st |Option.none=>dm,λ{st p q} h x=>by
 revert x;cases st[i]? with
 |none=>exact id
 |some o=>exact h _ _⟩
abbrev store (i:ak)(o:AO):P b8:=⟨λst p=>p (.ok ()) (st.set i o),λh x=>h _ _ x⟩
abbrev guard (c:Prop)[wo c]:P b8:=if c then P.pure ()else P.fail
abbrev opt {β:Type}:ax β->P β
 |some b=>P.pure b
 |Option.none=>P.fail
section
variable {β γ:Type}{st:St}{p:Res β->St->Prop}
@[simp] def run_pure (b:β):(P.pure b).run st p=p (.ok b) st:=rfl
@[simp] def Wd (b:β):(th b:P β).run st p=p (.ok b) st:=rfl
@[simp] def We:(P.fail:P β).run st p=dm:=rfl
@[simp] def Wf (k:aI):(P.err k:P β).run st p=p (.err k) st:=rfl
def run_bind (m:P γ)(f:γ->P β):(m>>=f).run st p=m.run st λr bh=>match r with
  |.ok b=>(f b).run bh p
  |.err k=>p (.err k) bh:=rfl
@[simp] def Wg {p:Res ak->St->Prop}(o:AO):(P.alloc o).run st p=p (.ok st.length) (st++[o]):=rfl
@[simp] def Wh {p:Res b8->St->Prop}(i:ak)(o:AO):(P.store i o).run st p=p (.ok ()) (st.set i o):=rfl
def run_load {p:Res AO->St->Prop}{i:ak}{o:AO}(h:st[i]? =ae o):(P.load i).run st p=p (.ok o) st:=by
 show(match st[i]? with |some o=>p (.ok o) st |Option.none=>dm)=_;rw[h]
end
end P
@[reducible] abbrev Or:=AV->ah AV->ah (au×AV)->P AV
inductive FL where
 |next |brk |cont |ret (v:AV)
inductive AI where
 |list (src:ax ak) (i:ak)
 |set (left:ah au)
 |range (cur:Int) (left:ak) (step:Int)
 |zip (a b:AI)
 |enum (n:Int) (a:AI)
 |obj (i:ak)
abbrev lst (i:ak):P (ah AV):=do
 match <-P.load i with
 |.list l=>P.pure l
 |_=>P.fail
abbrev bx:AI->P (ax (AV×AI))
 |.list bq _=>P.pure bq
 |.list (ae s) i=>do
  let l <-lst s
  match l[i]? with
  |some v=>P.pure (ae (v,.list (ae s) (i+1)))
  |Option.none=>P.pure bq
 |.set []=>P.pure bq
 |.set (v :: l)=>P.pure (ae (.str v,.set l))
 |.range _ 0 _=>P.pure bq
 |.range c (n+1) d=>P.pure (ae (.int c,.range (c+d) n d))
 |.zip a b=>do
  match <-bx a with
  |Option.none=>P.pure bq
  |some (x,a')=>
   match <-bx b with
   |Option.none=>P.pure bq
   |some (y,b')=>P.pure (ae (.pair x y,.zip a' b'))
 |.enum n a=>do
  match <-bx a with
  |Option.none=>P.pure bq
  |some (x,a')=>P.pure (ae (.pair (.int n) x,.enum (n+1) a'))
 |.obj i=>do
  match <-P.load i with
  |.iter bq _=>P.pure bq
  |.iter (ae s) k=>
   let l <-lst s
   match l[k]? with
   |some v=>P.store i (.iter (ae s) (k+1));P.pure (ae (v,.obj i))
   |Option.none=>P.store i (.iter bq 0);P.pure bq
  |_=>P.fail
abbrev c8 (f:AV->ax hV):ah AV->ax (ah hV)
 | []=>ae []
 |x :: l=>match f x,c8 f l with
  |some d,ae ds=>ae (d :: ds)
  |_,_=>bq
abbrev uC:AV->ax hV
 |.none=>ae .none
 |.bool b=>ae (.bool b)
 |.int i=>ae (.int i)
 |.str s=>if cY s then ae (.str s)else bq
 |_=>bq
abbrev gb:AV->ax (ah AV)
 |.one a=>ae [a]
 |.pair a b=>ae [a,b]
 |.dB a b c=>ae [a,b,c]
 |_=>bq
abbrev refOf:AV->ax ak
 |.ref i=>ae i
 |_=>bq
abbrev listOf:AO->ax (ah AV)
 |.list l=>ae l
 |_=>bq
abbrev a8:ak->St->AV->ax hV
 | 0,_,v=>uC v
 |n+1,st,v=>match gb v with
  |some l=>(c8 (a8 n st) l).map .tuple
  |Option.none=>match refOf v with
   |some i=>(st[i]?.bind listOf).bind λl=>(c8 (a8 n st) l).map .list
   |Option.none=>uC v
abbrev dF:AV->P Int
 |.int i=>P.pure i
 |_=>P.fail
abbrev nB:AV->P au
 |.str i=>P.pure i
 |_=>P.fail
abbrev Jr:AV->P aI
 |.ty i=>P.pure i
 |_=>P.fail
abbrev e8:AV->P ak
 |.ref i=>P.pure i
 |_=>P.fail
abbrev oN:ah AV->P AV
 | [a,b]=>P.pure (.pair a b)
 | [a,b,c]=>P.pure (.dB a b c)
 |_=>P.fail
abbrev cz (l:ah AV):P AV:=do
 P.guard (l.length<=4096)
 let i <-P.alloc (.list l)
 P.pure (.ref i)
abbrev eE:AV->P aB
 |.none=>P.pure az
 |.bool b=>P.pure b
 |.int i=>P.pure (i != 0)
 |.str s=>do P.guard (s.length<=4096);P.pure (s.length != 0)
 |.ref i=>do
  match <-P.load i with
  |.list l=>P.pure (!l.isEmpty)
  |.dict l=>P.pure (!l.isEmpty)
  |_=>P.fail
 |_=>P.fail
abbrev Js:jU->Int->Int->P AV
 |.Add,a,b=>P.pure (.int (a+b))
 |.Sub,a,b=>P.pure (.int (a - b))
 |.Mult,a,b=>do P.guard (a.natAbs < 2 ^ 62/\b.natAbs < 2 ^ 62);P.pure (.int (a * b))
 |.FloorDiv,a,b=>do P.guard (0 < b/\b < 2 ^ 29);P.pure (.int (a.fdiv b))
 |.Mod,a,b=>do P.guard (0 < b/\b < 2 ^ 29);P.pure (.int (a.fmod b))
 |.Pow,a,b=>do P.guard (0<=b/\b<=60/\a.natAbs < 2 ^ 62);P.pure (.int (a ^ b.toNat))
 |.RShift,a,b=>do P.guard (b=1);P.pure (.int (a.fdiv 2))
 |_,_,_=>P.fail
abbrev gc (op:jU)(a b:AV):P AV:=match a with
 |.int i=>do
  let j <-dF b
  Js op i j
 |.str x=>do
  P.guard (op= .Add)
  let y <-nB b
  P.guard (x.length+y.length<=4096);P.pure (.str (x++y))
 |.ref i=>do
  P.guard (op= .Add)
  let j <-e8 b
  cz ((<-lst i)++(<-lst j))
 |_=>P.fail
abbrev lG (a b:AV):P aB:=do
 let st <-P.get
 match a8 8 st a,a8 8 st b with
 |some x,ae y=>P.pure (bY x y)
 |_,_=>P.fail
abbrev xx (x:AV)(l:ah AV):P aB:=do
 let st <-P.get
 match a8 8 st x,c8 (a8 8 st) l with
 |some d,ae ds=>P.pure (ds.any λy=>bY y d)
 |_,_=>P.fail
abbrev gC:AV->ax (au ⊕ Int)
 |.str x=>ae (.inl x)
 |.int i=>ae (.inr i)
 |_=>bq
abbrev eF (l:ah ((au ⊕ Int)×AV))(k:au ⊕ Int):ax AV:=(l.find? λp=>p.1=k).map (·.2)
abbrev putD (l:ah ((au ⊕ Int)×AV))(k:au ⊕ Int)(v:AV):ah ((au ⊕ Int)×AV):=
 if l.any (λp=>p.1=k)then l.map (λp=>if p.1=k then (p.1,v)else p)else l++[(k,v)]
abbrev keyOk:AV->aB
 |.str _=>aj
 |.int _=>aj
 |_=>az
abbrev inSet (l:ah au):AV->aB
 |.str y=>l.contains y
 |_=>az
abbrev intOf:AV->ax Int
 |.int i=>ae i
 |_=>bq
abbrev nC:AV->ax (Int×Int)
 |.dB a b _=>(intOf a).bind λi=>(intOf b).map λj=>(i,j)
 |_=>bq
abbrev BP:ax (Int×Int)->ax (Int×Int)->P aB
 |some (a,b),ae (c,d)=>if a=c then (if b=d then P.fail else P.pure (decide (b < d)))else P.pure (decide (a < c))
 |_,_=>P.fail
abbrev xy:AV->aB
 |.none=>aj
 |_=>az
abbrev BQ (a b:AV):P aB:=match a with
 |.int i=>do
  let j <-dF b
  P.pure (decide (i < j))
 |_=>BP (nC a) (nC b)
abbrev isA (a b:AV):P aB:=match b with
 |.none=>P.pure (xy a)
 |.ref j=>match refOf a with
  |some i=>P.pure (i == j)
  |Option.none=>do
   let _ <-P.opt (gb a)
   P.pure az
 |.ty n=>do
  let m <-Jr a
  P.pure (m == n)
 |_=>P.fail
abbrev BR (x b:AV):P aB:=match b with
 |.cL l=>do P.guard (keyOk x=aj);P.pure (inSet l x)
 |.ref i=>do
  match <-P.load i with
  |.list l=>xx x l
  |.dict l=>do
   let k <-P.opt (gC x)
   P.pure (eF l k).isSome
  |_=>P.fail
 |_=>P.fail
abbrev dQ (op:pB)(a b:AV):P aB:=match op with
 |.Eq=>lG a b
 |.NotEq=>do return !(<-lG a b)
 |.Lt=>BQ a b
 |.Gt=>do
  let i <-dF a
  let j <-dF b
  P.pure (decide (i > j))
 |.GtE=>do
  let i <-dF a
  let j <-dF b
  P.pure (decide (i ≥ j))
 |.Is=>isA a b
 |.In=>BR a b
 |_=>P.fail
abbrev ik (t k:AV):P AV:=match refOf t with
 |some i=>do
  let o <-P.load i
  match o with
  |.list l=>do
   let j <-dF k
   P.guard (-(2 ^ 62) < j/\j < 2 ^ 62)
   P.opt (if 0<=j then l[j.toNat]? else if 0<=j+l.length then l[(j+l.length).toNat]? else bq)
  |.dict l=>do
   let k <-P.opt (gC k)
   P.opt (eF l k)
  |_=>P.fail
 |Option.none=>do
  let j <-dF k
  P.guard (0<=j/\j < 8)
  let l <-P.opt (gb t)
  P.opt l[j.toNat]?
abbrev oO:ax AV->P (ax Int)
 |Option.none=>P.pure bq
 |some v=>do
  let j <-dF v
  P.pure (ae j)
abbrev ix (d n:ak):ax Int->ak
 |Option.none=>d
 |some j=>min j.toNat n
abbrev nD:ax Int->aB
 |Option.none=>aj
 |some j=>decide (0<=j) && decide (j < 2 ^ 62)
abbrev uD (l:ah AV)(a b:ax Int):P AV:=do
 P.guard (nD a=aj/\nD b=aj)
 cz ((l.take (ix l.length l.length b)).drop (ix 0 l.length a))
abbrev km (x:AV)(lo hi:ax AV):P AV:=do
 let a <-oO lo
 let b <-oO hi
 match x with
 |.ref i=>do
  let l <-lst i
  uD l a b
 |.gR l=>uD (l.map .int) a b
 |.str s=>do
  P.guard (s.length<=4096)
  P.pure (.str (lh s a b))
 |_=>P.fail
abbrev oP (x k v:AV):P b8:=do
 let i <-e8 x
 let o <-P.load i
 match o with
 |.list l=>do
  let j <-dF k
  P.guard (0<=j/\j.toNat < l.length/\j < 2 ^ 62)
  P.store i (.list (l.set j.toNat v))
 |.dict l=>do
  let k <-P.opt (gC k)
  P.guard (l.length<=64)
  P.store i (.dict (putD l k v))
 |_=>P.fail
abbrev putField (l:ah (au×AV))(k:au)(v:AV):ah (au×AV):=
 if l.any (λp=>p.1 == k)then l.map (λp=>if p.1 == k then (p.1,v)else p)else l++[(k,v)]
abbrev xA:AV->aB
 |.bi _=>az
 |_=>aj
abbrev p5:ah au:=[aq "_mods",aq "_dirs",aq "_ignore"]
abbrev uE (i:ak):P (ak×ah (au×AV)):=do
 match <-P.load i with
 |.inst d=>do
  match <-P.load d with
  |.bc l=>P.pure (d,l)
  |_=>P.fail
 |_=>P.fail
abbrev mA (o:AV)(n:au):P AV:=do
 P.guard (n∈p5)
 let i <-e8 o
 let p <-uE i
 let v <-P.opt (p.2.lookup n)
 P.guard (xA v=aj)
 P.pure v
abbrev p6 (o:AV)(n:au)(v:AV):P b8:=do
 P.guard (n∈p5)
 let i <-e8 o
 let p <-uE i
 P.guard (p.2.length<=64)
 P.store p.1 (.bc (putField p.2 n v))
abbrev rM (i:ak):P AI:=do
 match <-P.load i with
 |.list _=>P.pure (.list (ae i) 0)
 |.iter _ _=>P.pure (.obj i)
 |_=>P.fail
abbrev jG:AV->P AI
 |.ref i=>rM i
 |.cL l=>do
  let l' <-P.perm l
  P.pure (.set l')
 |_=>P.fail
abbrev intsOf:ah AV->ax (ah Int)
 | []=>ae []
 |.int i :: l=>(intsOf l).map (i :: ·)
 |_ :: _=>bq
abbrev sortBy {α:Type}(lt:α->α->aB):ah α->ah α
 | []=>[]
 |x :: l=>cf lt x (sortBy lt l)
where
 cf (lt:α->α->aB) (x:α):ah α->ah α
  | []=>[x]
  |y :: l=>if lt y x then y :: cf lt x l else x :: y :: l
abbrev cX (a b:Int×Int):aB:=decide (a.1 < b.1) || (a.1 == b.1 && decide (a.2 < b.2))
abbrev rN:ah AV->ax (ah ((Int×Int)×AV))
 | []=>ae []
 |v :: l=>(nC v).bind λk=>(rN l).map ((k,v) :: ·)
abbrev uF (rev:aB)(l:ah AV):P (ah AV):=do
 let ks <-P.opt (rN l)
 P.guard ((ks.map (·.1)).Nodup/\l.length<=4)
 P.pure ((sortBy (λx y=>if rev then cX y.1 x.1 else cX x.1 y.1) ks).map (·.2))
abbrev nE (F:Or)(k:AV):ah AV->P (ah (Int×AV))
 | []=>P.pure []
 |v :: l=>do
  let i <-dF (<-F k [v] [])
  return (i,v) :: (<-nE F k l)
abbrev uG (g:aB)(i:Int)(x:AV):ax (Int×AV)->Int×AV
 |Option.none=>(i,x)
 |some p=>if (if g then decide (p.1 < i)else decide (i < p.1))then (i,x)else p
abbrev oQ (F:Or)(k d:AV)(g:aB):ak->AI->ax (Int×AV)->P AV
 | 0,_,_=>P.fail
 |n+1,it,old=>do
  match <-bx it with
  |Option.none=>P.pure (old.elim d (·.2))
  |some (x,jH)=>do
   let r <-F k [x] []
   let i <-dF r
   oQ F k d g n jH (ae (uG g i x old))
abbrev isCallable (x:AV):P b8:=do
 let i <-e8 x
 match <-P.load i with
 |.lam .. =>P.pure ()
 |_=>P.fail
abbrev strsOf:ah AV->ax (ah au)
 | []=>ae []
 |.str i :: l=>(strsOf l).map (i :: ·)
 |_ :: _=>bq
abbrev one:ah AV->P AV
 |x :: l=>do P.guard (l.isEmpty=aj);P.pure x
 | []=>P.fail
abbrev rO (l:ah AV):P b8:=P.guard (l.isEmpty=aj)
abbrev noKw (l:ah (au×AV)):P b8:=P.guard (l.isEmpty=aj)
abbrev p7 (n:au):ah (au×AV)->P (AV×ah (au×AV))
 |p :: l=>do P.guard (p.1=n);P.pure (p.2,l)
 | []=>P.fail
abbrev BS:AV->P b8
 |.bool aj=>P.pure ()
 |_=>P.fail
abbrev uH:ah (au×AV)->P aB
 | []=>P.pure az
 |p :: l=>do
  let q <-p7 (aq "reverse") (p :: l)
  BS q.1
  noKw q.2
  P.pure aj
inductive BI where
 |len |iter |object |sum |list |set |type |sorted |best (greatest:aB)
abbrev Jt:BI->AV
 |.len=>.bi "len" |.iter=>.bi "iter" |.object=>.ty "object" |.sum=>.bi "sum" |.list=>.ty "list" |.set=>.ty "set" |.type=>.ty "type"
 |.sorted=>.bi "sorted" |.best g=>.bi (if g then "max" else "min")
abbrev p8:AV->ax BI
 |.bi n=>if n="len" then ae .len else if n="iter" then ae .iter else if n="sum" then ae .sum else if n="sorted" then ae .sorted
  else if n="min" then ae (.best az)else if n="max" then ae (.best aj)else bq
 |.ty n=>if n="object" then ae .object else if n="list" then ae .list else if n="set" then ae .set else if n="type" then ae .type else bq
 |_=>bq
abbrev jI (F:Or)(args:ah AV)(kw:ah (au×AV)):BI->P AV
 |.len=>do
  let x <-one args
  noKw kw
  match gb x with
  |some l=>P.pure (.int l.length)
  |Option.none=>do
   let i <-e8 x
   match <-P.load i with
   |.list l=>P.pure (.int l.length)
   |.iter _ _=>P.err "TypeError"
   |_=>P.fail
 |.iter=>do
  let x <-one args
  noKw kw
  let i <-e8 x
  match <-P.load i with
  |.list _=>do let j <-P.alloc (.iter (ae i) 0);P.pure (.ref j)
  |.iter _ _=>P.pure (.ref i)
  |_=>P.fail
 |.object=>do
  rO args
  noKw kw
  let j <-P.alloc .obj
  P.pure (.ref j)
 |.sum=>do
  let x <-one args
  noKw kw
  let i <-e8 x
  let l <-lst i
  let ns <-P.opt (intsOf l)
  P.pure (.int ns.sum)
 |.list=>do
  let x <-one args
  noKw kw
  let i <-e8 x
  match <-P.load i with
  |.list l=>cz l
  |.iter s k=>match s with
   |Option.none=>cz []
   |some s=>do
    let l <-lst s
    P.guard (k<=l.length/\l.length<=4096)
    P.store i (.iter bq 0)
    cz (l.drop k)
  |_=>P.fail
 |.set=>do
  noKw kw
  if args.isEmpty then P.pure (.cL [])else do
   let x <-one args
   let i <-e8 x
   let l <-lst i
   let xs <-P.opt (strsOf l)
   P.guard (xs.Nodup/\xs.length<=3)
   P.pure (.cL xs)
 |.type=>do
  let x <-one args
  noKw kw
  match x with
  |.str _=>P.pure (.ty "str")
  |.int _=>P.pure (.ty "int")
  |_=>P.fail
 |.sorted=>do
  let x <-one args
  let q <-p7 (aq "key") kw
  let rev <-uH q.2
  let i <-e8 x
  let l <-lst i
  P.guard (l.length<=4)
  isCallable q.1
  let ks <-nE F q.1 l
  cz ((sortBy (λx y=>if rev then decide (y.1 < x.1)else decide (x.1 < y.1)) ks).map (·.2))
 |.best g=>do
  let x <-one args
  let d <-p7 (aq "default") kw
  let q <-p7 (aq "key") d.2
  noKw q.2
  let i <-e8 x
  isCallable q.1
  oQ F q.1 d.1 g 65 (.obj i) bq
abbrev xB (F:Or)(f:AV)(args:ah AV)(kw:ah (au×AV)):P AV:=do
 let b <-P.opt (p8 f)
 jI F args kw b
inductive kh where
 |startswith |split |join |append |extend |pop |sort |names
deriving DecidableEq
abbrev rP (m:au):ax kh:=
 if m=aq "startswith" then ae .startswith else if m=aq "split" then ae .split else if m=aq "join" then ae .join
 else if m=aq "append" then ae .append else if m=aq "extend" then ae .extend else if m=aq "pop" then ae .pop
 else if m=aq "sort" then ae .sort else if m=aq "names" then ae .names else bq
abbrev lH (o:AV)(n:kh):P b8:=match o with
 |.str _=>P.guard (n= .startswith\/n= .split\/n= .join)
 |.ref i=>do
  match <-P.load i with
  |.list _=>P.guard (n= .append\/n= .extend\/n= .pop\/n= .sort)
  |.inst d=>do
   match <-P.load d with
   |.bc l=>P.guard (n= .names/\(l.lookup (aq "names")).isNone=aj)
   |_=>P.fail
  |_=>P.fail
 |_=>P.fail
abbrev e9 (F:Or)(o:AV)(n:kh)(args:ah AV)(kw:ah (au×AV)):P AV:=match n with
 |.startswith=>do
  let s <-nB o
  let x <-one args
  noKw kw
  let p <-nB x
  P.pure (.bool (pD s p))
 |.split=>do
  let s <-nB o
  let x <-one args
  noKw kw
  let c <-nB x
  P.guard ((c.length == 0)=az/\s.length<=4096/\(m4 s (l5 s c 0 s.length (s.length+1)) c.length).length<=4096)
  cz ((aU s c).map .str)
 |.join=>do
  let s <-nB o
  let x <-one args
  noKw kw
  let i <-e8 x
  let vs <-lst i
  let l <-P.opt (strsOf vs)
  P.guard (pE s l=aj)
  P.pure (.str (jv s l))
 |.append=>do
  let i <-e8 o
  let v <-one args
  noKw kw
  let l <-lst i
  P.guard (l.length<=4096);P.store i (.list (l++[v]));P.pure .none
 |.extend=>do
  let i <-e8 o
  let x <-one args
  noKw kw
  let j <-e8 x
  let l <-lst i
  let l' <-lst j
  P.guard (i≠j/\l.length<=4096/\l'.length<=4096)
  P.store i (.list (l++l'));P.pure .none
 |.pop=>do
  let i <-e8 o
  rO args
  noKw kw
  let l <-lst i
  let v <-P.opt l.getLast?
  P.store i (.list l.dropLast);P.pure v
 |.sort=>do
  let i <-e8 o
  rO args
  let rev <-uH kw
  let l <-lst i
  let l' <-uF rev l
  P.store i (.list l');P.pure .none
 |.names=>do
  let i <-e8 o
  noKw kw
  F (.fn (aq "_Ignore.names")) (.ref i :: args) []
abbrev p9 (n:au):ax AV:=
 if n == aq "sep" then ae (.str (aq "/"))
 else match ([("len",AV.bi "len"),("reversed",.ty "reversed"),("range",.ty "range"),("iter",.bi "iter"),("object",.ty "object"),("min",.bi "min"),("max",.bi "max"),
   ("sorted",.bi "sorted"),("zip",.ty "zip"),("type",.ty "type"),("str",.ty "str"),("int",.ty "int"),("bool",.ty "bool"),("float",.ty "float"),("tuple",.ty "tuple"),("dict",.ty "dict"),("set",.ty "set"),("enumerate",.ty "enumerate"),("sum",.bi "sum"),("list",.ty "list"),("AttributeError",.ty "AttributeError"),("TypeError",.ty "TypeError")].find? λp=>n == aq p.1)with
  |some p=>ae p.2
  |Option.none=>if ["heapreplace","heapify","_heapreplace_max","_heapify_max","_siftdown","_siftup","_siftdown_max","_siftup_max","nsmallest","nlargest","_kind","_c_path","_splitroot","_normpath","normpath","_Ignore","_law_to_be_left_out","_law_ranks","_law_few","_law_says"].any λp=>n == aq p then ae (.fn n)else bq
structure RT where
 F:Or
 cel:ah (au×ak)
 loc:ah (ax AV)
abbrev mB:au:=aq "asks"
abbrev fb (sc:bN):aB:=decide (sc.kind= .function) && !sc.isGenerator && !sc.isCoroutine && (sc.names.all λp=>p.2 != .local || sc.names.lookup p.1 == ae .local) && sc.names.lookup mB != ae .cell
abbrev cM (sc:bN)(n:au):ax l6:=sc.names.lookup n
abbrev lI (sc:bN)(n:au):ax ak:=sc.names.findIdx? λp=>p.1 == n
abbrev BU (i:ak)(r:RT):P AV:=P.opt (r.loc[i]?.join)
abbrev uI (x:au)(r:RT):P AV:=do
 let c <-P.opt (r.cel.lookup x)
 match <-P.load c with
 |.cell (ae v)=>P.pure v
 |_=>P.fail
abbrev xC (i:ak)(v:AV)(r:RT):P (ah (ax AV)):=P.pure (r.loc.set i (ae v))
abbrev kn (x:au)(v:AV)(r:RT):P (ah (ax AV)):=do
 let c <-P.opt (r.cel.lookup x)
 match <-P.load c with
 |.cell _=>do P.store c (.cell (ae v));P.pure r.loc
 |_=>P.fail
abbrev DE:=RT->P AV
abbrev DT:=RT->P aB
abbrev DI:=RT->P AI
abbrev DA:=AV->RT->P (ah (ax AV))
abbrev DS:=RT->P (FL×ah (ax AV))
abbrev forA (body:DS)(put:DA):ak->AI->RT->P (FL×ah (ax AV))
 | 0,_,_=>P.fail
 |n+1,it,r=>do
  match <-bx it with
  |Option.none=>P.pure (.next,r.loc)
  |some (v,jH)=>do
   let loc <-put v r
   let (f,lJ) <-body { r with loc:=loc }
   match f with
   |.next |.cont=>forA body put n jH { r with loc:=lJ }
   |.brk=>P.pure (.next,lJ)
   |.ret v=>P.pure (.ret v,lJ)
abbrev iK (test:DT)(body:DS):ak->RT->P (FL×ah (ax AV))
 | 0,_=>P.fail
 |n+1,r=>do
  if <-test r then do
   let (f,lJ) <-body r
   match f with
   |.next |.cont=>iK test body n { r with loc:=lJ }
   |.brk=>P.pure (.next,lJ)
   |.ret v=>P.pure (.ret v,lJ)
  else P.pure (.next,r.loc)
abbrev cw (elt:DE)(ifs:ah DT)(put:DA):ak->AI->RT->ah AV->P (ah AV)
 | 0,_,_,_=>P.fail
 |n+1,it,r,acc=>do
  match <-bx it with
  |Option.none=>P.pure acc
  |some (v,jH)=>do
   let loc <-put v r
   let r':={ r with loc:=loc }
   let ok <-ifs.foldlM (λb t=>if b then t r' else P.pure az) aj
   if ok then do
    P.guard (acc.length<=4096)
    let x <-elt r'
    cw elt ifs put n jH r' (acc++[x])
   else cw elt ifs put n jH r' acc
abbrev dG:ah DE->RT->P (ah AV)
 | [],_=>P.pure []
 |d :: ds,r=>do
  let v <-d r
  return v :: (<-dG ds r)
abbrev fV:ah (au×DE)->RT->P (ah (au×AV))
 | [],_=>P.pure []
 |(n,d) :: ds,r=>do
  let v <-d r
  return (n,v) :: (<-fV ds r)
abbrev jf:ah DA->ah AV->RT->P (ah (ax AV))
 | [],[],r=>P.pure r.loc
 |a :: as,v :: vs,r=>do
  let loc <-a v r
  jf as vs { r with loc:=loc }
 |_,_,_=>P.fail
abbrev oR:n6->ax AV
 |.none=>ae .none
 |.bool b=>ae (.bool b)
 |.int i=>ae (.int i)
 |.str s=>ae (.str s)
 |_=>bq
inductive AS where
 |val (v:AV)
 |range (cur:Int) (left:ak) (step:Int)
abbrev DR:=RT->P AS
abbrev lK (l:ah AV):P AS:=do
 let ns <-P.opt (intsOf l)
 match ns with
 | [b]=>do P.guard (-4096 < b/\b < 4096);P.pure (.range 0 b.toNat 1)
 | [a,b,c]=>do P.guard (a=0/\c= -1/\ -4096 < b/\b < 4096);P.pure (.range 0 (-b).toNat (-1))
 |_=>P.fail
abbrev qa:AS->P AI
 |.range c k d=>do P.guard (c=0/\d=1);P.pure (.range (k - 1) k (-1))
 |_=>P.fail
abbrev eP:AS->P AI
 |.val v=>do
  let i <-e8 v
  rM i
 |.range c k d=>P.pure (.range c k d)
abbrev isInt:AV->aB
 |.int _=>aj
 |_=>az
abbrev uJ:aH->ax au
 |.Name n _=>ae n
 |_=>bq
abbrev constOf:aH->ax n6
 |.Constant c _ _=>ae c
 |_=>bq
abbrev BV:aH->aB
 |.List es _=>es.isEmpty
 |_=>az
abbrev namesOf:ah aH->ax (ah au)
 | []=>ae []
 |e :: l=>(uJ e).bind λn=>(namesOf l).map (n :: ·)
abbrev uK:aH->ax (ah aH)
 |.Tuple es _ _=>ae es
 |_=>bq
abbrev Ju (c:aH):ax (ah au):=match uK c with
 |some es=>namesOf es
 |Option.none=>(uJ c).map λn=>[n]
abbrev takes (c:aH):ax (aI->aB):=match uK c with
 |some es=>if namesOf es=ae [aq "TypeError",aq "AttributeError"]then ae λk=>k == "TypeError" || k == "AttributeError" else bq
 |Option.none=>if uJ c=ae (aq "AttributeError")then ae λk=>k == "AttributeError" else bq
abbrev BW (sc:bN)(c:aH):aB:=((Ju c).getD []).all λn=>cM sc n == ae .globalImplicit
abbrev argName:Arg->au
 |⟨n,_,_⟩=>n
abbrev eu (r:RT)(f:AV)(args:ah AV)(kw:ah (au×AV)):P AV:=
 match f with
 |.fn _=>r.F f args kw
 |.ref i=>do match <-P.load i with
  |.lam .. =>r.F f args kw
  |_=>P.fail
 |_=>xB r.F f args kw
abbrev dg (e:aH):aB:=match e with |.Starred .. =>az |_=>aj
abbrev nG (e:aH):aB:=match e with |.ListComp .. =>az |.SetComp .. =>az |.DictComp .. =>az |_=>aj
abbrev kq (e:aH):aB:=match e with |.Tuple .. =>aj |_=>az
abbrev fK (t:aH)(ai:AI):aB:=kq t || match ai with |.zip .. =>az |.enum .. =>az |_=>aj
abbrev iL (r:aH):aB:=match r with |.Set .. =>az |_=>aj
abbrev stuck {α β:Type}:α->P β:=λu=>P.fail
abbrev nH (sc:bN)(x:au)(r:RT):P AV:=if x == aq "__debug__" || x == aq "__classdict__" then P.fail else match cM sc x with
 |some .local=>match lI sc x with
  |some i=>BU i r
  |Option.none=>P.fail
 |some .cell |some .free=>uI x r
 |some .globalImplicit=>match p9 x with
  |some v=>P.pure v
  |Option.none=>P.fail
 |_=>P.fail
abbrev nameA (sc:bN)(x:au)(v:AV)(r:RT):P (ah (ax AV)):=match cM sc x with
 |some .local=>match lI sc x with
  |some i=>xC i v r
  |Option.none=>P.fail
 |some .cell=>kn x v r
 |_=>P.fail
abbrev BX (c:n6):DE:=match oR c with
 |some v=>λu=>P.pure v
 |Option.none=>stuck
abbrev fL (r:RT):ah (au×l6)->ah (au×ak)->ax (ah (au×ak))
 | [],acc=>ae acc
 |(x,k) :: l,acc=>if k == .free then match r.cel.lookup x with
   |some c=>fL r l ((x,c) :: acc)
   |Option.none=>bq
  else fL r l acc
abbrev kr:ah (au×l6)->ah (au×ak)->P (ah (au×ak))
 | [],acc=>P.pure acc
 |(x,k) :: l,acc=>if k == .cell then do
   let i <-P.alloc (.cell bq)
   kr l ((x,i) :: acc)
  else kr l acc
abbrev qb (sc:bN):ah (au×AV)->RT->P (ah (ax AV))
 | [],r=>P.pure r.loc
 |(x,v) :: l,r=>do
  let loc <-nameA sc x v r
  qb sc l { r with loc:=loc }
abbrev cP (F:Or)(sc:bN)(outer:ah (au×ak))(binds:ah (au×AV)):P RT:=do
 let cel <-kr sc.names outer
 let loc <-qb sc binds { F,cel,loc:=sc.names.map λu=>bq }
 P.pure { F,cel,loc }
abbrev jg:AO->aB
 |.lam .. =>aj
 |_=>az
abbrev BY:fh->aB
 |⟨_,_,_,_,[],_,[]⟩=>aj
 |_=>az
abbrev ku (d:ax DE)(r:RT):P (ax AV):=match d with
 |some d=>do return ae (<-d r)
 |Option.none=>P.pure bq
abbrev oS (f:aH->DE):m5->au×DE
 |⟨ae x,v,_⟩=>(x,f v)
 |⟨bq,_,_⟩=>(Str.empty,stuck)
abbrev kwOk:m5->aB
 |⟨ae _,_,_⟩=>aj
 |_=>az
abbrev lL (args:ah aH)(ks:ah m5):aB:=args.all dg && ks.all kwOk
abbrev xD (o:aH)(ap q:fj):aB:=(match o with |.Call .. =>az |_=>aj) && ap.endLine == q.line
mutual
noncomputable def cE (sc:bN):ak->aH->DE
 | 0,_=>stuck
 |n+1,e=>match e with
  |.Constant c _ _=>BX c
  |.Name x _=>nH sc x
  |.BinOp l op r _=>λrt=>do
   let a <-cE sc n l rt
   let b <-cE sc n r rt
   gc op a b
  |.UnaryOp .Not x _=>λrt=>do
   let v <-cE sc n x rt
   let b <-eE v
   P.pure (.bool !b)
  |.UnaryOp .USub x _=>λrt=>do
   let v <-cE sc n x rt
   let i <-dF v
   P.pure (.int (-i))
  |.BoolOp .And [x,y] _=>λrt=>do
   let v <-cE sc n x rt
   let b <-eE v
   if b then cE sc n y rt else P.pure v
  |.BoolOp .Or [x,y] _=>λrt=>do
   let v <-cE sc n x rt
   let b <-eE v
   if b then P.pure v else cE sc n y rt
  |.IfExp t b o _=>λrt=>do
   let c <-cT sc n t rt
   if c then cE sc n b rt else cE sc n o rt
  |.Compare l [op] [r] _=>λrt=>do
   P.guard (iL r=aj)
   let a <-cE sc n l rt
   let b <-cE sc n r rt
   let c <-dQ op a b
   P.pure (.bool c)
  |.List es _=>λrt=>do
   let l <-dG (es.map (cE sc n)) rt
   cz l
  |.Tuple es _ _=>λrt=>do
   let l <-dG (es.map (cE sc n)) rt
   oN l
  |.Dict [ae (.Constant ck _ _)] [.Constant cv _ _] _=>λu=>do
   let kv <-P.opt (oR ck)
   let vv <-P.opt (oR cv)
   let k <-P.opt (gC kv)
   let i <-P.alloc (.dict [(k,vv)])
   P.pure (.ref i)
  |.Attribute (.Name x p) a _=>λrt=>do
   let v <-cE sc n (.Name x p) rt
   mA v a
  |.Subscript o i _=>match i with
   |.Slice lo hi bq _=>λrt=>do
    let v <-cE sc n o rt
    let a <-ku (lo.map (cE sc n)) rt
    let b <-ku (hi.map (cE sc n)) rt
    km v a b
   |i=>λrt=>do
    let v <-cE sc n o rt
    let k <-cE sc n i rt
    ik v k
  |.Lambda args body aP _=>λrt=>do
   P.guard (BY args=aj/\cM sc mB=ae .cell)
   let st <-P.get
   P.guard (st.all (λo=>!jg o)=aj)
   let cs <-P.opt (fL rt aP.names [])
   let i <-P.alloc (.lam args body aP cs)
   P.pure (.ref i)
  |.ListComp elt [⟨t,src,ifs,0⟩] aP _=>λrt=>do
   P.guard (iL src=aj)
   P.guard (fb aP=aj)
   let cs <-P.opt (fL rt aP.names [])
   let ai <-cI sc n src rt
   P.guard (fK t ai=aj)
   let r2 <-cP rt.F aP cs []
   let l <-cw (cE aP n elt) (ifs.map (cT aP n)) (cA aP n t) 128 ai r2 []
   cz l
  |.Call f args ks q=>match f with
   |.Attribute o m ap=>λrt=>do
    P.guard (lL args ks=aj/\xD o ap q=aj/\args.length+ks.length < 28)
    let mm <-P.opt (rP m)
    let ov <-cE sc n o rt
    if isInt ov=aj/\mm= .startswith then P.err "AttributeError"
    else do
     lH ov mm
     let vs <-dG (args.map (cE sc n)) rt
     let kv <-fV (ks.map (oS (cE sc n))) rt
     e9 rt.F ov mm vs kv
   |.Name x p=>λrt=>do
    P.guard (lL args ks=aj)
    let fv <-cE sc n (.Name x p) rt
    let vs <-dG (args.map (cE sc n)) rt
    let kv <-fV (ks.map (oS (cE sc n))) rt
    eu rt fv vs kv
   |_=>stuck
  |_=>stuck
noncomputable def cT (sc:bN):ak->aH->DT
 | 0,_=>stuck
 |n+1,e=>match e with
  |.UnaryOp .Not x _=>λrt=>do
   let b <-cT sc n x rt
   P.pure !b
  |.BoolOp .And [x,y] _=>λrt=>do
   let a <-cT sc n x rt
   if a then cT sc n y rt else P.pure az
  |.BoolOp .Or [x,y] _=>λrt=>do
   let a <-cT sc n x rt
   if a then P.pure aj else cT sc n y rt
  |.BoolOp .Or [x,y,z] _=>λrt=>do
   let a <-cT sc n x rt
   if a then P.pure aj else do
    let b <-cT sc n y rt
    if b then P.pure aj else cT sc n z rt
  |.Compare l [op] [r] _=>λrt=>do
   P.guard (iL r=aj)
   let a <-cE sc n l rt
   let b <-cE sc n r rt
   dQ op a b
  |.IfExp t b o _=>λrt=>do
   let c <-cT sc n t rt
   if c then cT sc n b rt else cT sc n o rt
  |.BoolOp _ _ _=>stuck
  |.Compare _ _ _ _=>stuck
  |e=>λrt=>do
   let v <-cE sc n e rt
   eE v
noncomputable def cR (sc:bN):ak->aH->DR
 | 0,_=>stuck
 |n+1,e=>match e with
  |.Call (.Name f p) args [] q=>
   if cM sc f == ae .globalImplicit && f == aq "range" then λrt=>do
    P.guard (lL args []=aj)
    let l <-dG (args.map (cE sc n)) rt
    lK l
   else λrt=>do
    let v <-cE sc n (.Call (.Name f p) args [] q) rt
    P.pure (.val v)
  |e=>λrt=>do
   let v <-cE sc n e rt
   P.pure (.val v)
noncomputable def cI (sc:bN):ak->aH->DI
 | 0,_=>stuck
 |n+1,e=>match e with
  |.Call (.Name f p) args [] q=>
   if cM sc f == ae .globalImplicit && f == aq "enumerate" then match args with
    | [a]=>λrt=>do
     P.guard (dg a=aj)
     let x <-cR sc n a rt
     let i <-eP x
     P.pure (.enum 0 i)
    |_=>stuck
   else if cM sc f == ae .globalImplicit && f == aq "zip" then match args with
    | [a,b]=>λrt=>do
     P.guard (dg a=aj/\dg b=aj)
     let x <-cR sc n a rt
     let y <-cR sc n b rt
     let i <-eP x
     let j <-eP y
     P.pure (.zip i j)
    |_=>stuck
   else if cM sc f == ae .globalImplicit && f == aq "reversed" then match args with
    | [a]=>λrt=>do
     P.guard (dg a=aj)
     let i <-cR sc n a rt
     qa i
    |_=>stuck
   else λrt=>do
    let v <-cR sc n (.Call (.Name f p) args [] q) rt
    eP v
  |e=>λrt=>do
   let v <-cE sc n e rt
   jG v
noncomputable def cA (sc:bN):ak->aH->DA
 | 0,_=>λu=>stuck
 |n+1,e=>match e with
  |.Name x _=>nameA sc x
  |.Attribute o a _=>λv rt=>do
   let ov <-cE sc n o rt
   p6 ov a v
   P.pure rt.loc
  |.Subscript o i _=>λv rt=>do
   let ov <-cE sc n o rt
   let iv <-cE sc n i rt
   oP ov iv v
   P.pure rt.loc
  |.Tuple es _ _=>λv rt=>do
   let l <-P.opt (gb v)
   P.guard (l.length=es.length/\es.all dg=aj)
   jf (es.map (cA sc n)) l rt
  |_=>λu=>stuck
end
abbrev Jv (sc:bN):dy->DS
 |.Pass _=>λrt=>P.pure (.next,rt.loc)
 |.Assign ts e _=>λrt=>do
  let xs <-P.opt (namesOf ts)
  let x <-P.opt xs.head?
  P.guard (xs.length=1)
  let c <-P.opt (constOf e)
  let v <-P.opt (oR c)
  let loc <-nameA sc x v rt
  P.pure (.next,loc)
 |.Return e _=>λrt=>do
  let e <-P.opt e
  P.guard (BV e=aj)
  let v <-cz []
  P.pure (.ret v,rt.loc)
 |_=>stuck
abbrev rQ (sc:bN)(l:ah dy):DS:=λrt=>do
 let s <-P.opt l.head?
 P.guard (l.length=1)
 Jv sc s rt
abbrev ew (f:dy->DS):ah dy->DS
 | []=>λrt=>P.pure (.next,rt.loc)
 |s :: l=>λrt=>do
  let x <-f s rt
  match x with
  |(.next,loc)=>ew f l { rt with loc:=loc }
  |x=>P.pure x
abbrev cS (sc:bN):ak->dy->DS
 | 0,_=>stuck
 |n+1,s=>match s with
  |.Pass _=>λrt=>P.pure (.next,rt.loc)
  |.Break _=>λrt=>P.pure (.brk,rt.loc)
  |.Continue _=>λrt=>P.pure (.cont,rt.loc)
  |.Return (ae e) _=>λrt=>do
   let v <-cE sc 40 e rt
   P.pure (.ret v,rt.loc)
  |.Expr e _=>λrt=>do
   P.guard (nG e=aj)
   let _ <-cE sc 40 e rt
   P.pure (.next,rt.loc)
  |.Assign [t] e _=>λrt=>do
   P.guard (kq e=az/\dg t=aj)
   let v <-cE sc 40 e rt
   let loc <-cA sc 40 t v rt
   P.pure (.next,loc)
  |.AugAssign (.Name x _) op e _=>λrt=>do
   P.guard (op= .Add\/op= .Sub)
   let o <-nH sc x rt
   let i <-dF o
   let v <-cE sc 40 e rt
   let j <-dF v
   let v <-gc op (.int i) (.int j)
   let loc <-nameA sc x v rt
   P.pure (.next,loc)
  |.If t b o _=>λrt=>do
   let c <-cT sc 40 t rt
   if c then ew (cS sc n) b rt else ew (cS sc n) o rt
  |.While t b [] _=>λrt=>iK (cT sc 40 t) (ew (cS sc n) b) 64 rt
  |.For t i b [] _=>λrt=>do
   P.guard (iL i=aj)
   let it <-cI sc 40 i rt
   P.guard (fK t it=aj)
   forA (ew (cS sc n) b) (cA sc 40 t) 128 it rt
  |.Try [.Assign [.Name x _] e _] [.ExceptHandler (ae c) bq h _] o [] _=>λrt=>do
   P.guard (nG e=aj/\kq e=az/\BW sc c=aj)
   P.uB (cE sc 40 e rt) (λv=>do
     let loc <-nameA sc x v rt
     ew (cS sc n) o { rt with loc:=loc })
    λk=>match takes c with
     |some f=>if f k then rQ sc h rt else P.fail
     |Option.none=>P.fail
  |_=>stuck
abbrev uL (n:au):ah dy->ax (fh×ah dy×bN)
 | []=>bq
 |.FunctionDef m a b _ _ _ sc _ _ _ :: l=>if m == n then ae (a,b,sc)else uL n l
 |_ :: l=>uL n l
abbrev uM (n:au):ah dy->ax (fh×ah dy×bN)
 | []=>bq
 |.ClassDef _ _ _ b _ _ _ _ _ _ _ :: l=>match uL n b with
  |some x=>ae x
  |Option.none=>uM n l
 |_ :: l=>uM n l
abbrev BZ (a:fh):aB:=a.posonlyargs.isEmpty && a.vararg.isNone && a.kwonlyargs.isEmpty && a.kwarg.isNone && decide (a.args.map argName).Nodup
abbrev fW (a:fh)(args:ah AV)(kw:ah (au×AV)):ax (ah (au×AV)):=
 let ps:=a.args.map argName
 let n:=args.length
 if BZ a && n<=ps.length && (ps.drop n) == kw.map (·.1)then ae ((ps.take n).zip args++kw)else bq
abbrev eQ:FL->P AV
 |.ret v=>P.pure v
 |.next=>P.pure .none
 |_=>P.fail
abbrev B2 (F:Or)(a:fh)(b:ah dy)(sc:bN)(args:ah AV)(kw:ah (au×AV)):P AV:=do
 let binds <-P.opt (fW a args kw)
 let rt <-cP F sc [] binds
 let x <-ew (cS sc 20) b rt
 eQ x.1
abbrev xE:ah dy:=PySem.Challenge.pw_oc0179_01.main.body
abbrev gE:au:=aq "_Ignore"
abbrev uN:au:=aq "_Ignore.names"
abbrev nJ:au:=aq "_Ignore.__init__"
abbrev jJ:au:=aq "normpath"
abbrev defOf (n:au):ax (fh×ah dy×bN):=
 if n == uN then uM (aq "names") xE else if n == nJ then uM (aq "__init__") xE else uL n xE
abbrev lM (F:Or)(n:au)(args:ah AV)(kw:ah (au×AV)):P AV:=match defOf n with
 |some (a,b,sc)=>B2 F a b sc args kw
 |Option.none=>P.fail
abbrev oU (F:Or)(args:ah AV)(kw:ah (au×AV)):P AV:=match defOf jJ,args,kw with
 |some (_,b,sc),[v],[]=>do
  let k <-P.alloc (.dict [])
  let rt <-cP F sc [] [(aq "args",.one v),(aq "kwargs",.ref k)]
  let x <-ew (cS sc 20) b rt
  eQ x.1
 |_,_,_=>P.fail
abbrev qc (F:Or)(args:ah AV)(kw:ah (au×AV)):P AV:=do
 let d <-P.alloc (.bc [])
 let i <-P.alloc (.inst d)
 let r <-lM F nJ (.ref i :: args) kw
 match r with
 |.none=>P.pure (.ref i)
 |_=>P.fail
abbrev B3 (F:Or)(i:ak)(args:ah AV)(kw:ah (au×AV)):P AV:=do
 let o <-P.load i
 match o with
 |.lam a e sc cs=>do
  P.guard (fb sc=aj)
  let binds <-P.opt (fW a args kw)
  let rt <-cP F sc cs binds
  cE sc 40 e rt
 |_=>P.fail
abbrev B4 (F:Or):Or:=λf args kw=>match f with
 |.ref i=>B3 F i args kw
 |.fn n=>if n == gE then qc F args kw else if n == jJ then oU F args kw else lM F n args kw
 |_=>P.fail
abbrev FN:ak->Or
 | 0=>λu u u=>P.fail
 |n+1=>B4 (FN n)
abbrev uO (Jw:ah Int):P AV:=FN 12 (.fn (aq "law")) [.gR Jw] []
def TT {a b c:ak}(h:a<=b)(k:b<=c):a<=c:=dW h k
def CH {u v w:ak}(i j k l:ak)(h:u+i<=v+j)(g:v+k<=w+l):u+(i+k)<=w+(j+l):=by
 rw[<-qL];refine dW (Ac h k) ?_;rw[Ae,Af j,<-qL];exact Ac g j
def FI {u v:ak}(i j p q:ak)(h:u+i<=v+j)(c:l7 (j+p) (i+q)=aj):u+p<=v+q:=by
 refine Nat.le_of_add_le_add_right (b:=i) ?_;rw[Ae];refine dW (Ac h p) ?_;rw[qL,qL,Af q];exact Gw (iY c) v
def CF {u v w:ak}(i j k l p q:ak)(h:u+i<=v+j)(g:v+k<=w+l)(c:l7 (j+l+p) (i+k+q)=aj):u+p<=w+q:=FI (i+k) (j+l) p q (CH i j k l h g) c
def XX {u:ak}{C:Prop}(i j:ak)(h:u+i<=u+j)(c:l7 i j=az):C:=absurd ((Nat.ble_eq_true_of_le (Nat.le_of_add_le_add_left h)).symm.trans c) (λe=>nomatch e)
def EL {a b:ak}(h:a=b):a<=b:=n8 h
def EG {a b:ak}(h:a=b):b<=a:=n8 h.symm
def NL {a b:ak}(h: ¬ a < b):b<=a:=oa.mp h
def NG {a b:ak}(h: ¬ a<=b):b+1<=a:=Ag.mp h
def NV {a b:ak}(h: ¬ a=b)(k:a<=b):a+1<=b:=Gy k h
def NU {a b:ak}(h: ¬ a=b)(k:b<=a):b+1<=a:=Gy k λe=>h e.symm
def NE {a b:ak}(h:a+1<=b):a≠b:=jV h
def NT {a b:ak}(h:b+1<=a):a≠b:=Ah h
def AN {a b:ak}(h:a<=b)(k:b<=a):a=b:=Ai h k
def DN {a b:ak}(h:b<=a): ¬ a < b:=oa.mpr h
def DM {a b:ak}(h:b+1<=a): ¬ a<=b:=Ag.mpr h
def ML {a b:ak}:min a b<=a:=tm a b
def MR {a b:ak}:min a b<=b:=Gz a b
def Wi {a b c:ak}(h:a<=b)(k:a<=c):a<=min b c:=Aj.2 ⟨h,k⟩
def SB {a b:ak}:a - b<=a:=GA a b
def SU {a b:ak}:a<=a - b+b:=Nat.le_add_of_sub_le (a4 _)
def SW {a b:ak}(h:b<=a):a - b+b<=a:=n8 (GB h)
def AL {a b:ak}:a<=a+b:=tn a b
def AR {a b:ak}:b<=a+b:=GC b a
def SS {a b c d:ak}(h:a<=b)(k:c<=d):a+c<=b+d:=GD h k
def ZZ {a:ak}:0<=a:=cZ a
def RR {a:ak}(p q:ak)(c:l7 p q=aj):a+p<=a+q:=Gw (iY c) a
def BB {p q:ak}(c:l7 p q=aj):p<=q:=iY c
def LA {α}{l m:ah α}:(l++m).length<=l.length+m.length:=n8 bK
def LB {α}{l m:ah α}:l.length+m.length<=(l++m).length:=n8 bK.symm
def LI {α}{l:ah α}{x:α}:(l++[x]).length<=l.length+1:=n8 bK
def LJ {α}{l:ah α}{x:α}:l.length+1<=(l++[x]).length:=by rw[bK];exact a4 _
def Wj {α}{l:ah α}{n:ak}:(l.take n).length<=n:=by rw[er];exact tm ..
def Wk {α}{l:ah α}{n:ak}:(l.take n).length<=l.length:=by rw[er];exact Gz ..
def Wl {α}{l:ah α}{p:α->aB}:(l.filter p).length<=l.length:=pF p l
def Jx {α}{l:ah α}{i:ak}{x:α}:l.length<=(l.set i x).length:=n8 eM.symm
@[reducible] abbrev kB {α β:Type}(M:mZ)(A:d8)(f:α->dn β)(Q:β->aD->Prop)(E:aw->aD->Prop)(a:α)(s:aD):Prop:=aA M A (f a) Q E s
def wB {α β:Type}{M:mZ}{A:d8}{m:dn α}{f:α->dn β}{Q:β->aD->Prop}{E:aw->aD->Prop}{s:aD}(h:aA M A m (kB M A f Q E) E s):aA M A (m>>=f) Q E s:=bO h
def NO {p q:Prop}(h: ¬p)(k: ¬q): ¬(p\/q):=not_or.2 ⟨h,k⟩
def NA {p q:Prop}(h: ¬p): ¬(p/\q):=λk=>h k.1
def NB {p q:Prop}(h: ¬q): ¬(p/\q):=λk=>h k.2
def LN {a b:ak}(h:a<=b):a<=min a b:=Aj.2 ⟨a4 _,h⟩
def LO {a b:ak}(h:b<=a):b<=min a b:=Aj.2 ⟨h,a4 _⟩
def JE {n:ak}(m:ak)(h:m < n):(m:Int) < (n:Int):=iZ.2 h
def JC {n:ak}(m:ak)(h:n < m):(n:Int) < (m:Int):=iZ.2 h
def JP {n:ak}:(0:Int)<=(n:Int):=wq n
def KN {n:ak}{a:Int}(h:a < 0):a < (n:Int):=GF h (wq n)
def nP {α β:Type u}(a:cU α)(b:cU β):cU (α×β):=a.elim λa=>b.elim λb=>⟨(a,b)⟩
def nI {α:Type u}[Inhabited α]:cU α:=⟨default⟩
def neA:cU d8:=⟨{}⟩
def neS:cU aD:=⟨{}⟩
def neW:cU ju:=⟨⟨λu u=>0,{ strHash:=λu=>0,shareClass:=λu=>0,mergeTok:=λt=>t,idOf:=λu=>0,idOfShared:=λu u=>0,followText:=λu=>az,idOfImm:=λu=>0 }⟩⟩
def neI:cU AI:=⟨.set []⟩
def neE {β:Type}:cU (RT->P β):=⟨λu=>P.fail⟩
def neB:cU DS:=neE
def neDA:cU DA:=⟨λu u=>P.fail⟩
def neP {β:Type}:cU (P β):=⟨P.fail⟩
def neM:cU mZ:=neW.elim λw=>⟨aV default w⟩
def neK:cU (au ⊕ Int):=⟨.inr 0⟩
def neRT:cU RT:=⟨⟨λu u u=>P.fail,[],[]⟩⟩
def neAS:cU AS:=⟨.val .none⟩
def neR {β:Type}:cU (Res β):=⟨.err ""⟩
def nF {α β:Type}(n:cU β):cU (α->β):=n.elim λb=>⟨λu=>b⟩
open PySem.W PyProof.Rows
structure Cx where
 w:ju
 base:aG
 os:OsState
 ky:au->ax ay
 gT:ay
 bad:ah ay
 K:jt
def neX:cU Cx:=neW.elim λw=>⟨⟨w,default,default,λu=>ag,0,[],default⟩⟩
abbrev cJ:ay:=175
abbrev rR:ay:=177
abbrev Cx.ok (X:Cx)(a:ay):Prop:=a≠cJ/\a∉X.bad
@[reducible] abbrev MX (X:Cx):mZ:=aV PySem.Challenge.pw_oc0179_01 X.w
abbrev rS (o:Obj)(vs:aZ aw):Prop:=o.cls= .type "tuple"/\∃n,o.data= .seq vs n
inductive kD (w:ju):ah au->ah (Int×aw)->Prop where
 |nil:kD w [] []
 |cons {x:au} {t:cK} {xs:ah au} {es:ah (Int×aw)} (r:kD w xs es):kD w (x :: xs) ((lq w x,.str x t) :: es)
abbrev B5 (w:ju)(l:ah au)(es:aZ (Int×aw))(t:gr):Prop:=
 ∃xs:ah au,xs.Perm l/\kD w xs es.toList/\t.fits es.size=aj/\es.size<=3/\(es.size≠0->t.plain=az)/\t.led= !w.params.followText "set-order"
inductive VA (T:ay->Prop):aw->Prop where
 |mk {a:ay} (e:T a):VA T (.ref a)
inductive V1 (T:aZ aw->ay->Prop)(P:aw->Prop):aw->Prop where
 |mk {a:ay} {vx:aw} (t:T #[vx] a) (hx:P vx):V1 T P (.ref a)
inductive V2 (T:aZ aw->ay->Prop)(P R:aw->Prop):aw->Prop where
 |mk {a:ay} {vx vy:aw} (t:T #[vx,vy] a) (hx:P vx) (hy:R vy):V2 T P R (.ref a)
inductive V3 (T:aZ aw->ay->Prop)(P R S:aw->Prop):aw->Prop where
 |mk {a:ay} {vx vy vz:aw} (t:T #[vx,vy,vz] a) (hx:P vx) (hy:R vy) (hz:S vz):V3 T P R S (.ref a)
inductive TupAt (X:Cx)(ρ:ah ay)(h:aG)(vs:aZ aw)(a:ay):Prop where
 |mk {o:Obj} (n1:a∉ρ) (n2:X.ok a) (e:h.get? a=ae o) (t:rS o vs):TupAt X ρ h vs a
inductive xF (X:Cx)(ρ:ah ay)(h:aG)(l:ah Int)(a:ay):Prop where
 |mk {items:ah aw} (n1:a∉ρ) (n2:X.ok a) (e:h.IsList a items.toArray) (hl:og items l) (hn:l.length<=4096):xF X ρ h l a
inductive B6 (X:Cx)(ρ:ah ay)(h:aG)(l:ah au)(a:ay):Prop where
 |mk {o:Obj} {es:aZ (Int×aw)} {ep:ak} {t:gr} (n1:a∉ρ) (n2:X.ok a) (e:h.get? a=ae o) (c:o.ExactSet) (d:o.data= .set es ep t) (r:B5 X.w l es t):B6 X ρ h l a
inductive B7 (X:Cx)(ρ:ah ay)(h:aG)(q:au)(a:ay):Prop where
 |mk {o:Obj} {vs:aZ aw} {t:cK} (n1:a∉ρ) (n2:X.ok a) (e:h.get? a=ae o) (c:o.cls= .type "code") (d:o.data= .fields vs) (hq:vs[1]? =ae (.str q t)):B7 X ρ h q a
abbrev aF (X:Cx)(ρ:ah ay)(h:aG):AV->aw->Prop
 |.none=>λv=>v= .none
 |.bool b=>λv=>v= .bool b
 |.int i=>λv=>∃t,v= .int i t
 |.str x=>λv=>∃t,v= .str x t
 |.ty n=>λv=>v= .type n
 |.bi n=>λv=>v= .builtin n
 |.fn n=>VA λa=>X.ky n=ae a
 |.ref i=>VA λa=>ρ[i]? =ae a
 |.one x=>V1 (TupAt X ρ h) (aF X ρ h x)
 |.pair x y=>V2 (TupAt X ρ h) (aF X ρ h x) (aF X ρ h y)
 |.dB x y z=>V3 (TupAt X ρ h) (aF X ρ h x) (aF X ρ h y) (aF X ρ h z)
 |.gR l=>VA (xF X ρ h l)
 |.cL l=>VA (B6 X ρ h l)
 |.code q=>VA (B7 X ρ h q)
inductive aT (X:Cx)(ρ:ah ay)(h:aG):ah AV->ah aw->Prop where
 |nil:aT X ρ h [] []
 |cons {x:AV} {v:aw} {xs:ah AV} {vs:ah aw} (hx:aF X ρ h x v) (hs:aT X ρ h xs vs):aT X ρ h (x :: xs) (v :: vs)
abbrev KO (X:Cx)(a:ay)(o o':Obj):Prop:=o'=o\/(X.base.get? a=ag/\(∃es ep,o.data= .dict es ep)/\∃sl,o'={ o with slots:=sl })
abbrev iq (d:Data):Prop:=∃es ep,d= .dict es ep
structure Step (X:Cx)(ex ρ:ah ay)(h:aG)(eR:ah ay)(h':aG):Prop where
 there:∀a o,h.get? a=ae o->∃o',h'.get? a=ae o'
 ext:∃δ,eR=ρ++δ/\∀a∈δ,h.get? a=ag
 keep:∀a o,h.get? a=ae o->a∉ρ->a≠cJ->(a∈ex->¬ iq o.data)->∃o',h'.get? a=ae o'/\KO X a o o'
inductive Kp (o:Obj):Prop where
 |seq {xs:aZ aw} {n:ak} (d:o.data= .seq xs n)
 |set {es:aZ (Int×aw)} {ep:ak} {t:gr} (d:o.data= .set es ep t)
 |code {vs:aZ aw} (c:o.cls= .type "code") (d:o.data= .fields vs)
structure gU (X:Cx)(bad ρ eR:ah ay)(h h':aG):Prop where
 ref:∀(i:ak) (a:ay),ρ[i]? =ae a->eR[i]? =ae a
 obj:∀a o,a∉ρ->X.ok a->h.get? a=ae o->Kp o->a∉eR/\(a≠cJ/\a∉bad)/\h'.get? a=ae o
abbrev jK (X:Cx)(ρ:ah ay)(h:aG):ax AV->ax aw->Prop
 |Option.none,w=>w=bq
 |Option.some x,w=>∃v,w=Option.some v/\aF X ρ h x v
def Jy {prog:n7}{w:ju}{A:d8}{E:aw->aD->Prop}{s:aD}{a:au}{b:Int}{t u:cK}{Q:aB->aD->Prop}(h:Q az s):aA (aV prog w) A (eqBool (.str a t) (.int b u)) Q E s:=by
 unfold eqBool;refine eA ?_;rw[aK (by simp)];exact bO (show aA _ _ (i5 .Eq _ _) _ _ _ from EqMixed.eq_str_int (qM h))
def Jz {prog:n7}{w:ju}{A:d8}{E:aw->aD->Prop}{s:aD}{a:au}{b:Int}{t u:cK}{Q:aB->aD->Prop}(h:Q az s):aA (aV prog w) A (eqBool (.int b u) (.str a t)) Q E s:=by
 unfold eqBool;refine eA ?_;rw[aK (by simp)];exact bO (show aA _ _ (i5 .Eq _ _) _ _ _ from EqMixed.eq_int_str (qM h))
abbrev uP:au ⊕ Int->aw->aB
 |.inl x,v=>lr x v
 |.inr i,v=>Value.isInt i v
def mC {k:au ⊕ Int}{v:aw}(h:uP k v=aj):(∃x t,k= .inl x/\v= .str x t)\/(∃i t,k= .inr i/\v= .int i t):=by
 cases k with
 |inl x=>obtain⟨t,rfl⟩:=GG h;exact .inl ⟨x,t,rfl,rfl⟩
 |inr i=>obtain⟨t,rfl⟩:=Value.isInt_shape h;exact .inr ⟨i,t,rfl,rfl⟩
abbrev mD (X:Cx):KeyKind PySem.Challenge.pw_oc0179_01 X.w (au ⊕ Int) where
 is:=uP
 hash:=λk=>match k with |.inl x=>lq X.w x |.inr i=>hashInt i
 inj:=λv a b ha hb=>by
  rcases mC ha with ⟨x,t,rfl,rfl⟩ |⟨i,t,rfl,rfl⟩<;>rcases mC hb with ⟨y,u,rfl,e⟩ |⟨j,u,rfl,e⟩<;>cases e <;>rfl
 byValue:=λk v h=>by rcases mC h with ⟨x,t,rfl,rfl⟩ |⟨i,t,rfl,rfl⟩<;>rfl
 pyHash:=λhv h=>by
  rcases mC hv with ⟨x,t,rfl,rfl⟩ |⟨i,t,rfl,rfl⟩
  ·exact wpAny_pyHash_str h
  ·exact wpAny_pyHash_int h
 eqBool:=λhu hv h=>by
  rcases mC hu with ⟨x,t,rfl,rfl⟩ |⟨i,t,rfl,rfl⟩<;>rcases mC hv with ⟨y,u,rfl,rfl⟩ |⟨j,u,rfl,rfl⟩
  ·exact wpAny_eqBool_str (by simpa using h)
  ·exact Jy (by simpa using h)
  ·exact Jz (by simpa using h)
  ·refine tq ?_;rw[show(i == j)=decide ((Sum.inr i:au ⊕ Int)= .inr j) from by by_cases e:i=j <;>simp[e]];exact h
 «strs»:=λk x t v h=>by
  rcases mC h with ⟨y,u,rfl,e⟩ |⟨i,u,rfl,e⟩
  ·cases e;cases v <;>rfl
  ·cases e
inductive eS (X:Cx)(ρ:ah ay)(h:aG):ah ((au ⊕ Int)×AV)->ah ((au ⊕ Int)×aw)->Prop where
 |nil:eS X ρ h [] []
 |cons {k:au ⊕ Int} {x:AV} {v:aw} {l:ah ((au ⊕ Int)×AV)} {kvs:ah ((au ⊕ Int)×aw)} (hx:aF X ρ h x v) (hs:eS X ρ h l kvs):eS X ρ h ((k,x) :: l) ((k,v) :: kvs)
inductive fX (ρ:ah ay):ah (au×ak)->ah (au×ay)->Prop where
 |nil:fX ρ [] []
 |cons {x:au} {c:ak} {a:ay} {l:ah (au×ak)} {cl:ah (au×ay)} (e:ρ[c]? =ae a) (r:fX ρ l cl):fX ρ ((x,c) :: l) ((x,a) :: cl)
abbrev OB (X:Cx)(ρ:ah ay)(h:aG):AO->Obj->Prop
 |.list l,o=>∃(items:ah aw) (n:ak),o={ cls:=.type "list",data:=.seq items.toArray n }/\aT X ρ h l items/\l.length<=10000
 |.cell v,o=>o.cls= .type "cell"/\∃v',o.data= .cell v'/\jK X ρ h v v'
 |.inst d,o=>∃da,ρ[d]? =ae da/\o=pG X.gT da
 |.bc l,o=>o.cls= .type "dict"/\∃(es:aZ wt) (n:ak),o.data= .dict es n/\qN es/\es.size<=l.length/\∀x,jK X ρ h (l.lookup x) (jw es x)
 |.dict l,o=>∃kvs,o.IsDictOf (mD X) kvs/\eS X ρ h l kvs/\l.length<=100
 |.iter (ae s) i,o=>o.cls= .type "list_iterator"/\∃a,ρ[s]? =ae a/\o.data= .fields #[.ref a,.int i 0]
 |.iter .none _,o=>o.cls= .type "list_iterator"/\∃vs,o.data= .fields vs/\vs[0]? =ae .none
 |.obj,o=>o.cls= .type "object"/\o.data= .plain
 |.lam args body sc cel,o=>∃name qual cl pm c xG,o=wu name qual args body sc cl pm c xG/\fX ρ cel cl/\aF X ρ h (.code qual) (.ref c)
abbrev nK:aw->aB
 |.type n=>["list","cell","dict","set","list_iterator","object","function","code"].contains n
 |.ref _=>aj
 |_=>az
structure Inv (X:Cx)(ρ:ah ay)(st:St)(h:aG):Prop where
 len:ρ.length=st.length
 nodup:ρ.Nodup
 obj:∀(i:ak) (ao:AO) (a:ay),st[i]? =ae ao->ρ[i]? =ae a->∃o,h.get? a=ae o/\OB X ρ h ao o
 base:∀b o,X.base.get? b=ae o->b≠cJ->h.get? b=ae o
 new:∀a∈ρ,X.base.get? a=ag
 gd:∃o,X.base.get? cJ=ae o
 mods:∃o,X.base.get? sysModules=ae o
 tab:∃vs,h.get? cJ=ae (jW vs)/\(vs= #[]\/∃ao∈st,jg ao=aj)
 gf:∀b∈X.bad,∃o,h.get? b=ae o
abbrev gV (o:Obj):Prop:=∃es ep,o.data= .dict es ep/\qN es
abbrev uQ (X:Cx)(ρ:ah ay)(h h':aG):Prop:=∀a o,h.get? a=ae o->a∉ρ->gV o->X.base.get? a=ag->∃o',h'.get? a=ae o'/\gV o'
structure Go (X:Cx)(ex ρ:ah ay)(h:aG)(eR:ah ay)(h':aG):Prop where
 step:Step X ex ρ h eR h'
 fr:uQ X ρ h h'
abbrev eT (k:aI)(e:ay)(h₀ h:aG):Prop:=
 h₀.get? e=ag/\nK (.type k)=az/\k≠"frame"/\∃o vs,h.get? e=ae o/\o.cls= .type k/\o.data= .fields vs/\4 < vs.size/\
  (vs[1]? =ae .none\/∃T oT ts,vs[1]? =ae (.ref T)/\h₀.get? T=ag/\T≠e/\h.get? T=ae oT/\oT.cls= .type "traceback"/\oT.data= .fields ts/\3 < ts.size)
@[reducible] abbrev sh (z:aD)(h:aG)(t:ak):aD:=⟨h,z.gens,z.drawn,t,z.os⟩
abbrev Zs (z z':aD):Prop:=z'.gens=z.gens/\z'.os=z.os
abbrev aL {α β:Type}(X:Cx)(z:aD)(ex ρ:ah ay)(h:aG)(R:ah ay->aG->β->α->Prop)(Q:α->aD->Prop)(E:aw->aD->Prop):Res β->St->Prop:=λr bh=>
 ∀z' eR h' t',Zs z z'->Inv X eR bh h'->Go X ex ρ h eR h'->match r with
  |.ok b=>∀a,R eR h' b a->Q a (sh z' h' t')
  |.err k=>∀e,eT k e h h'->E (.ref e) (sh z' h' t')
abbrev aW {α β:Type}(X:Cx)(A:d8)(ex:ah ay)(R:ah ay->aG->β->α->Prop)(ρ:ah ay)(st:St)(h:aG)(t:dn α)(m:P β):Prop:=
 ∀z tk Q E,m.run st (aL X z ex ρ h R Q E)->aA (MX X) A t Q E (sh z h tk)
abbrev SV (X:Cx)(x:AV)(v:aw):Prop:=∀ρ h,aF X ρ h x v
abbrev FnAt (h:aG)(a:ay)(d:ax (fh×ah dy×bN)):Prop:=
 ∃o fd,h.get? a=ae o/\o.data= .func fd/\d.map (λp=>(p.1,wy p.2.1,p.2.2))=ae (fd.params,fd.body,fd.scope)/\fd.scope.kind= .function/\fd.scope.isGenerator=az/\fd.scope.isCoroutine=az/\
  fd.globals=iG/\fd.closure=[]/\fd.builtins=qO/\h.CodeRec fd.code fd.qualname/\(fd.defaults= .none\/∃T ot items n,fd.defaults= .ref T/\h.get? T=ae ot/\ot.data= .seq items n)/\(cM fd.scope mB=ae .cell->fd.code= .ref rR)
structure B8 (K:jt)(C:ay)(ky:au->ax ay):Prop where
 makes:makesIn K C=aj
 keep:keepIn K (.ref C)=aj
 init:∃fI,ky nJ=ae fI/\fk K (.ref C) "__init__"=ae (ae (.ref fI))/\qP K (.ref fI)=ae (.type "function")
 names:∃fN,ky uN=ae fN/\fk K (.ref C) (aq "names")=ae (ae (.ref fN))/\qP K (.ref fN)=ae (.type "function")
 ga:fk K (.ref C) "__getattribute__"=ae (ae (.builtin "object.__getattribute__"))
 gk:fk K (.ref C) "__getattr__"=ae ag
 sa:fk K (.ref C) "__setattr__"=ae (ae (.builtin "object.__setattr__"))
 over:Ak K C=aj
 hasDict:Al K C=aj
 attrs:∀n∈p5,fk K (.ref C) n=ae ag/\pH K C n=ae ag
structure cn (X:Cx):Prop where
 lim:X.base.NoLimit
 lN:X.K.In X.base
 B9:X.K.lookup cJ=ag
 fns:∀n a,X.ky n=ae a->n≠gE->∀h:aG,(∀b o,X.base.get? b=ae o->b≠cJ->h.get? b=ae o)->FnAt h a (defOf n)
 cls:X.ky gE=ae X.gT
 iM:B8 X.K X.gT X.ky
 cd:CodeHd X.base rR cJ
 bt:∀mg,X.base.Ns iG mg->X.base.BuiltinsAt mg cJ
 gl:∃mg mb,X.base.Ns iG mg/\X.base.Ns qO mb/\∀x v,p9 x=ae v->(∃v',mg x=ae v'/\SV X v v')\/(mg x=ag/\∃v',mb x=ae v'/\SV X v v')
abbrev uR:ax l6->ax l6->Prop
 |some .local,k=>k=ae .local
 |some .cell,k=>k=ae .cell
 |some .free,k=>k=ae .cell\/k=ae .free
 |some .globalImplicit,k=>k=ae .globalImplicit
 |_,_=>eN
abbrev Frs (X:Cx)(l:ah bH)(ρ:ah ay)(h:aG):Prop:=∀e∈l,e.scope.kind≠ .module/\∃L o,e.frame=ae L/\X.base.get? L=ag/\L∉ρ/\h.get? L=ae o/\gV o
structure Ar (X:Cx)(n u:ak)(A:d8)(l:ah bH)(ρ:ah ay)(h:aG):Prop where
 handled:A.handled=ag
 depth:A.depth+2 * n<=980
 units:A.units+u<=9800
 frames:A.frames=ae l
 dR:Frs X l ρ h
structure En (X:Cx)(sc:bN)(env:bH)(cel:ah (au×ak))(loc:ah (ax AV))(ρ:ah ay)(h:aG):Prop where
 kind:env.scope.kind= .function
 glob:env.globals=iG
 blt:env.builtins=qO
 kinds:∀x,uR (cM sc x) (env.kindOf x)
 len:loc.length=sc.names.length
 ns:∃m,h.Ns env.locals m/\∀x i v,cM sc x=ae .local->lI sc x=ae i->loc[i]? =ae (ae v)->∃v',m x=ae v'/\aF X ρ h v v'
 fY:env.locals∉ρ
 ir:X.base.get? env.locals=ag
 cells:∀x c,cel.lookup x=ae c->∃a,ρ[c]? =ae a/\env.cells.lookup x=ae a
@[reducible] abbrev RV (X:Cx):ah ay->aG->AV->aw->Prop:=λρ h x v=>aF X ρ h x v
@[reducible] abbrev RB (X:Cx):ah ay->aG->aB->aB->Prop:=λu u x v=>x=v
structure Ctx (X:Cx)(k:ak)(sc:bN)(A:d8)(l:ah bH)(env:bH)(cel:ah (au×ak))(loc:ah (ax AV))(ρ:ah ay)(st:St)(h:aG):Prop where
 ok:cn X
 ar:Ar X k (20 * k+40) A l ρ h
 top:∃e l',l=e :: l'/\e.frame=env.frame
 inv:Inv X ρ st h
 en:En X sc env cel loc ρ h
 code:cM sc mB=ae .cell->env.code= .ref rR
abbrev HE (X:Cx)(F:Or)(k:ak)(sc:bN)(e:aH)(d:DE):Prop:=
 ∀ ⦃A:d8⦄ ⦃l:ah bH⦄ ⦃env:bH⦄ ⦃cel:ah (au×ak)⦄ ⦃loc:ah (ax AV)⦄ ⦃ρ:ah ay⦄ ⦃st:St⦄ ⦃h:aG⦄,Ctx X k sc A l env cel loc ρ st h->aW X A [] (RV X) ρ st h (eval e env) (d ⟨F,cel,loc⟩)
abbrev HT (X:Cx)(F:Or)(k:ak)(sc:bN)(e:aH)(d:DT):Prop:=
 ∀ ⦃A:d8⦄ ⦃l:ah bH⦄ ⦃env:bH⦄ ⦃cel:ah (au×ak)⦄ ⦃loc:ah (ax AV)⦄ ⦃ρ:ah ay⦄ ⦃st:St⦄ ⦃h:aG⦄,Ctx X k sc A l env cel loc ρ st h->aW X A [] (RB X) ρ st h (tu e env (eval e env)) (d ⟨F,cel,loc⟩)
@[reducible] abbrev JA (X:Cx):ah ay->aG->ah AV->ah aw->Prop:=λρ h x v=>aT X ρ h x v
@[reducible] abbrev lO (_:Cx):ah ay->aG->aB->aw->Prop:=λu u b v=>v= .bool b
abbrev B' (l:ah au):au ⊕ Int->aB
 |.inl x=>l.contains x
 |.inr _=>az
abbrev uS:aH->aB
 |.Slice .. =>aj
 |_=>az
abbrev rT (X:Cx)(ρ:ah ay)(h:aG):ax AV->aw->Prop
 |Option.none,v=>v= .none
 |some x,v=>aF X ρ h x v
@[reducible] abbrev RL (X:Cx)(sc:bN)(env:bH)(cel:ah (au×ak)):ah ay->aG->ah (ax AV)->b8->Prop:=λρ h loc u=>En X sc env cel loc ρ h
abbrev HA (X:Cx)(F:Or)(k:ak)(sc:bN)(e:aH)(d:DA):Prop:=
 ∀ ⦃A:d8⦄ ⦃l:ah bH⦄ ⦃env:bH⦄ ⦃cel:ah (au×ak)⦄ ⦃loc:ah (ax AV)⦄ ⦃ρ:ah ay⦄ ⦃st:St⦄ ⦃h:aG⦄,Ctx X k sc A l env cel loc ρ st h->∀{x:AV} {v:aw},aF X ρ h x v->
  aW X A [env.locals] (RL X sc env cel) ρ st h (lu e env v) (d x ⟨F,cel,loc⟩)
structure dD (S C:ah ay)(h h':aG):Prop where
 there:∀a o,h.get? a=ae o->∃o',h'.get? a=ae o'
 keep:∀a o,h.get? a=ae o->a∉C->∃sl,h'.get? a=ae { o with slots:=sl }/\(a∉S->sl=o.slots)
abbrev jL (l:ah bH):ah ay:=l.filterMap (·.frame)
abbrev mE (k:aI)(e:ay)(h₀ h:aG):Prop:=
 h₀.get? e=ag/\nK (.type k)=az/\k≠"frame"/\∃o vs,h.get? e=ae o/\o.cls= .type k/\o.data= .fields vs/\4 < vs.size/\
  ∃T oT ts,vs[1]? =ae (.ref T)/\h₀.get? T=ag/\T≠e/\h.get? T=ae oT/\oT.cls= .type "traceback"/\oT.data= .fields ts/\3 < ts.size
structure kF (X:Cx)(ex:ah ay)(l:ah bH)(st:St)(br:ah ay)(h₀:aG)(ρ:ah ay)(h h':aG):Prop where
 inv:Inv X ρ st h'
 go:Go X ex br h₀ ρ h'
 dR:Frs X l ρ h'
 vals:∀x v,aF X ρ h x v->aF X ρ h' x v
 ns:∀a m,h.Ns a m->h'.Ns a m
inductive mF (X:Cx)(ρ:ah ay)(h:aG):FL->Flow->Prop where
 |next:mF X ρ h .next .next
 |brk:mF X ρ h .brk .brk
 |cont:mF X ρ h .cont .cont
 |ret {x:AV} {v:aw} (hx:aF X ρ h x v):mF X ρ h (.ret x) (.ret v)
@[reducible] abbrev RS (X:Cx)(sc:bN)(env:bH)(cel:ah (au×ak)):ah ay->aG->FL×ah (ax AV)->Flow->Prop:=λρ h p f=>mF X ρ h p.1 f/\En X sc env cel p.2 ρ h
abbrev HS (X:Cx)(F:Or)(k:ak)(sc:bN)(s:dy)(d:DS):Prop:=
 ∀ ⦃A:d8⦄ ⦃l:ah bH⦄ ⦃env:bH⦄ ⦃cel:ah (au×ak)⦄ ⦃loc:ah (ax AV)⦄ ⦃ρ:ah ay⦄ ⦃st:St⦄ ⦃h:aG⦄,Ctx X k sc A l env cel loc ρ st h->aW X A [env.locals] (RS X sc env cel) ρ st h (exec s env) (d ⟨F,cel,loc⟩)
abbrev iN (X:Cx)(F:Or)(k:ak)(sc:bN)(s:ah dy)(d:DS):Prop:=
 ∀ ⦃A:d8⦄ ⦃l:ah bH⦄ ⦃env:bH⦄ ⦃cel:ah (au×ak)⦄ ⦃loc:ah (ax AV)⦄ ⦃ρ:ah ay⦄ ⦃st:St⦄ ⦃h:aG⦄,Ctx X k sc A l env cel loc ρ st h->aW X A [env.locals] (RS X sc env cel) ρ st h (execs s env) (d ⟨F,cel,loc⟩)
inductive bP (X:Cx)(ρ:ah ay)(h:aG):ah ay->AI->aw->Prop where
 |list {s i:ak} {a I:ay} (e:ρ[s]? =ae a) (hi:h.IsListIter I a i) (n:I∉ρ) (b:X.base.get? I=ag):bP X ρ h [I] (.list (ae s) i) (.ref I)
 |range {I:ay} {c d:Int} {k:ak} (hi:tw h I c k d) (n:I∉ρ) (b:X.base.get? I=ag):bP X ρ h [I] (.range c k d) (.ref I)
 |obj {i:ak} {a:ay} (e:ρ[i]? =ae a):bP X ρ h [] (.obj i) (.ref a)
abbrev eG (X:Cx)(ρ:ah ay)(h:aG)(own:ah ay):Prop:=∀c∈own,c∉ρ/\X.base.get? c=ag/\(c∈X.bad\/∃o vs,h.get? c=ae o/\o.data= .fields vs/\o.cls≠ .type "code")
structure Dr (own ρ:ah ay)(h h':aG):Prop where
 there:∀a o,h.get? a=ae o->∃o',h'.get? a=ae o'
 keep:∀a o,h.get? a=ae o->a∉own->a∉ρ->h'.get? a=ae o
abbrev strOf (e:Int×aw):au:=match e.2 with |.str x _=>x |_=>Str.empty
abbrev uT (w:ju)(e:Int×aw):Prop:=∃x t,e=(lq w x,.str x t)
inductive gF (X:Cx)(ρ:ah ay)(h:aG)(a:ay)(es:aZ (Int×aw))(ep:ak)(t:gr):aw->ak->ah (Int×aw)->Prop where
 |text {i:ak} {j:ak} (hb:X.w.params.followText "set-order"=aj):gF X ρ h a es ep t (bI j) i ((tz (X.w.params.setOrder a ep) es).toList.drop i)
 |drawn {T:ay} {oT:Obj} {ps:ah ak} {i:ak} (hb:X.w.params.followText "set-order"=az) (n1:T∉ρ) (n2:X.ok T) (e:h.get? T=ae oT) (ht:rS oT (ps.map λ(p:ak)=>bI p).toArray) (hp:∀p∈ps,p < es.size):
   gF X ρ h a es ep t (.ref T) i ((ps.drop i).filterMap λp=>es[p]?)
 |one (hb:X.w.params.followText "set-order"=az) (hs:es.size<=1):gF X ρ h a es ep t (bI (0:ak)) 0 es.toList
 |done {j i:ak} (hb:X.w.params.followText "set-order"=az) (hs:es.size<=1) (hj:es.size<=m6 t.place j):gF X ρ h a es ep t (bI j) i []
abbrev qe (first:aw)(i:ak)(a:ay)(n ep:ak):Obj:={ cls:=.type "set_iterator",data:=.fields #[first,bI i,.ref a,bI n,bI ep] }
inductive dT (X:Cx)(ρ:ah ay)(h:aG):ah ay->AI->aw->Prop where
 |simple {own:ah ay} {ai:AI} {it:aw} (r:bP X ρ h own ai it):dT X ρ h own ai it
 |enum {own:ah ay} {a:AI} {e it:ay} {i:Int} {old:aw} (he:oh h e it i old) (n:e∉ρ) (b:X.base.get? e=ag) (ne:e∉own) (r:bP X ρ h own a (.ref it)):dT X ρ h (e :: own) (.enum i a) (.ref e)
 |zip {o1 o2:ah ay} {a1 a2:AI} {q TI TO:ay} {v1 v2 x y:aw} (hz:i6 h q TI TO .none) (hI:jx h TI v1 v2) (hO:jx h TO x y)
   (n:q∉ρ/\TI∉ρ/\TO∉ρ) (b:X.base.get? q=ag/\X.base.get? TI=ag/\X.base.get? TO=ag) (bad:TO∈X.bad) (xH:X.ok TI) (d:TI≠TO/\q∉o1++o2/\TO∉o1++o2/\(∀c∈o1,c∉o2)/\TI∉o1++o2)
   (r1:bP X ρ h o1 a1 v1) (r2:bP X ρ h o2 a2 v2):dT X ρ h (q :: TO :: (o1++o2)) (.zip a1 a2) (.ref q)
 |set {a it:ay} {o:Obj} {es:aZ (Int×aw)} {ep:ak} {t:gr} {first:aw} {i:ak} {cur:ah (Int×aw)} (n:it∉ρ) (b:X.base.get? it=ag) (na:a∉ρ) (xI:X.ok a) (ho:h.get? a=ae o)
   (hd:o.data= .set es ep t) (hf:t.fits es.size=aj) (kG:es.size≠0->t.plain=az) (mG:t.led= !X.w.params.followText "set-order") (good:∀e∈cur,uT X.w e)
   (hi:h.get? it=ae (qe first i a es.size ep)) (hc:gF X ρ h a es ep t first i cur):dT X ρ h [it] (.set (cur.map strOf)) (.ref it)
abbrev Ca (n:aI):aB:=["enumerate","zip","dict_itemiterator","dict_reverseitemiterator","odict_iterator","itertools.zip_longest","itertools.pairwise"].contains n
abbrev Cx.more (X:Cx)(bad:ah ay):Cx:={ X with bad:=bad++X.bad }
abbrev rU (X:Cx)(z:aD)(ρ:ah ay)(h:aG)(Q E:aw->aD->Prop):Res AI->St->Prop:=λr bh=>match r with
 |.ok ai=>∀z' eR h' t' bad own it,Zs z z'->Inv (X.more bad) eR bh h'->Go X [] ρ h eR h'->dT (X.more bad) eR h' own ai it->(∀c∈own,h.get? c=ag)->(∀b∈bad,h.get? b=ag)->Q it (sh z' h' t')
 |.err k=>∀z' eR h' t',Zs z z'->Inv X eR bh h'->Go X [] ρ h eR h'->∀e,eT k e h h'->E (.ref e) (sh z' h' t')
abbrev HI (X:Cx)(F:Or)(k:ak)(sc:bN)(e:aH)(d:DI):Prop:=
 ∀ ⦃A:d8⦄ ⦃l:ah bH⦄ ⦃env:bH⦄ ⦃cel:ah (au×ak)⦄ ⦃loc:ah (ax AV)⦄ ⦃ρ:ah ay⦄ ⦃st:St⦄ ⦃h:aG⦄,Ctx X k sc A l env cel loc ρ st h->∀z tk Q E,(d ⟨F,cel,loc⟩).run st (rU X z ρ h Q E)->
  aA (MX X) A (eval e env) (λx jh=>aA (MX X) A (f6 x) Q E jh) E (sh z h tk)
abbrev rV {β:Type}(p:Res β->St->Prop):Res β->St->Prop:=λr st=>match r with
 |.err _=>dm
 |.ok b=>p (.ok b) st
inductive cq (X:Cx)(ρ:ah ay)(h:aG):ah (au×AV)->ah (au×aw)->Prop where
 |nil:cq X ρ h [] []
 |cons {n:au} {x:AV} {v:aw} {xs:ah (au×AV)} {vs:ah (au×aw)} (hx:aF X ρ h x v) (hs:cq X ρ h xs vs):cq X ρ h ((n,x) :: xs) ((n,v) :: vs)
abbrev HF (X:Cx)(F:Or)(k:ak):Prop:=∀{A:d8} {l:ah bH} {ρ:ah ay} {st:St} {h:aG},cn X->Ar X k (20 * k+30) A l ρ h->Inv X ρ st h->
 ∀{fv:AV} {f:aw} {args:ah AV} {vs:ah aw} {kw:ah (au×AV)} {kvs:ah (au×aw)},aF X ρ h fv f->aT X ρ h args vs->cq X ρ h kw kvs->aW X A [] (RV X) ρ st h (call f vs kvs) (F fv args kw)
abbrev nL:m5->aH
 |⟨_,v,_⟩=>v
abbrev Flow.value:Flow->aw
 |.ret v=>v
 |_=>.none
abbrev Cb:ax (fh×ah dy×bN)->aB
 |some (a,_,sc)=>a.posonlyargs.isEmpty && a.args.isEmpty && a.kwonlyargs.isEmpty && a.vararg.map argName == ae (aq "args") && a.kwarg.map argName == ae (aq "kwargs") && fb sc
 |_=>az
inductive lP (X:Cx)(ρ:ah ay)(h:aG):AS->aw->Prop where
 |val {x:AV} {v:aw} (r:aF X ρ h x v):lP X ρ h (.val x) v
 |range {r:ay} {b c:Int} {t u v:cK} {k:ak} (n:r∉ρ) (bb:X.base.get? r=ag) (hr:wz h r 0 b c t u v) (hb: -4096 < b/\b < 4096) (hc:c=1/\k=b.toNat\/c= -1/\k=(-b).toNat):lP X ρ h (.range 0 k c) (.ref r)
abbrev HR (X:Cx)(F:Or)(k:ak)(sc:bN)(e:aH)(d:DR):Prop:=
 ∀ ⦃A:d8⦄ ⦃l:ah bH⦄ ⦃env:bH⦄ ⦃cel:ah (au×ak)⦄ ⦃loc:ah (ax AV)⦄ ⦃ρ:ah ay⦄ ⦃st:St⦄ ⦃h:aG⦄,Ctx X k sc A l env cel loc ρ st h->aW X A [] (lP X) ρ st h (eval e env) (d ⟨F,cel,loc⟩)
structure jM (L:aB)(t:gr):Prop where
 xJ:t.dummies= #[]
 mask:7<=t.mask
 led:t.led=L
abbrev kH (w:ju)(h:aG)(S:ay)(xs:ah au):Prop:=
 ∃o es ep t,h.get? S=ae o/\o.ExactSet/\o.data= .set es ep t/\(∀e∈es.toList,uT w e)/\(es.toList.map strOf).Perm xs/\t.fits es.size=aj/\jM (!w.params.followText "set-order") t/\(es.size≠0->t.plain=az)
abbrev JB (g:aB):aI:=if g then "max" else "min"
abbrev lp (g:aB):aI:=if g then "max.loop" else "min.loop"
abbrev qf:ax (aw×Int×cK)->aZ aw
 |none=>#[]
 |some p=>#[p.1,.int p.2.1 p.2.2]
abbrev rW (g:aB)(n:Int):ax (aw×Int×cK)->aB
 |none=>aj
 |some p=>if g then decide (p.2.1 < n)else decide (n < p.2.1)
abbrev upd (s:aD)(S:ay)(xs:aZ aw):aD:={ s with heap:=s.heap.update S (bQ λu=>xs) }
abbrev qg (X:Cx)(ρ:ah ay)(h:aG):ax (Int×AV)->ax (aw×Int×cK)->Prop
 |none,w=>w=ag
 |some p,w=>∃v t,w=ae (v,p.1,t)/\aF X ρ h p.2 v
abbrev mH {α:Type}(n:ak)(lt:ak->ak->aB):KasT α->ax α
 |.ret a=>ae a
 |.ask i j k=>if i < n/\j < n/\i≠j then mH n lt (k (lt i j))else ag
abbrev fZ (r:ah ak)(i j:ak):aB:=decide (r.getD i 0 < r.getD j 0)
abbrev rX (n:ak)(r:ah ak):aB:=(mH n (fZ r) (kas_sort n)).map (·.toList) == ae (sortBy (fZ r) (dz n))
abbrev ranks:ak->ah (ah ak)
 | 0=>[[]]
 |n+1=>(ranks n).flatMap λr=>[0 :: r,1 :: r,2 :: r,3 :: r]
structure nM {α:Type}(lt:α->α->aB):Prop where
 uU:∀x,lt x x=az
 trans:∀x y z,lt x y=aj->lt y z=aj->lt x z=aj
 neg:∀x y z,lt x z=aj->lt x y=aj\/lt y z=aj
abbrev iu {α:Type}(lt:α->α->aB)(l:ah α)(x:α):ak:=l.countP λy=>lt y x
abbrev gG (x y:Keyed):aB:=decide (lx x.1 < lx y.1)
abbrev fu (rev:aB)(lt:Keyed->Keyed->aB)(it:ah Keyed):ah aw:=(sortBy (λx y=>if rev then lt y x else lt x y) it).map (·.2)
inductive Cc (X:Cx)(bad:ah ay)(F:Or)(z:aD)(ρ:ah ay)(h:aG)(kk:AV)(a kS:ay)(e1:ak)(l:ah AV)(vs:ah aw)(g:ah (Int×AV)->P AV)(p:Res AV->St->Prop)(i:ak)(s':aD):Prop where
 |mk {z':aD} {eR:ah ay} {bh:St} {h':aG} {t':ak} {acc:ah (Int×AV)} {keys:ah aw} {e:ak} (es:s'=sh z' h' t') (Z:Zs z z') (I:Inv (X.more bad) eR bh h') (G:Go X [] ρ h eR h') (ha:a∉eR) (hk:kS∉eR)
  (gk:h'.get? kS=ae (bC "list" (l8 keys) e)) (ga:h'.get? a=ae (bC "list" #[] e1)) (hi:og keys (acc.map (λp:Int×AV=>p.1))) (hl:keys.length=i) (Wm:acc.map (λp:Int×AV=>p.2)=l.take i)
  (Wn:aT (X.more bad) eR h' l vs) (hr:(nE F kk (l.drop i)>>=λrs=>g (acc++rs)).run bh p):Cc X bad F z ρ h kk a kS e1 l vs g p i s'
abbrev dJ (h:aG)(v:aw):Int×Int:=match v with
 |.ref a=>match h.get? a with
  |some o=>match o.data with
   |.seq xs _=>(lx (xs.getD 0 .none),lx (xs.getD 1 .none))
   |_=>(0,0)
  |none=>(0,0)
 |_=>(0,0)
abbrev ji (h:aG)(x y:Keyed):aB:=cX (dJ h x.1) (dJ h y.1)
abbrev nN (h:aG)(v:aw):Prop:=∃a o x t y u w n,v= .ref a/\h.get? a=ae o/\o.cls= .type "tuple"/\o.data= .seq #[.int x t,.int y u,w] n
set_option backward.match.sparseCases true in
abbrev rY (a:ay)(b:aB):dn PySem.Fin:=do
 let items <-GH (.ref a)
 tB (.ref a) λu=>#[]
 let before <-wA a
 let held <-wC items.toList
 let JD <-wD []
 ly [held,JD] do
  if b then jX "list.sort.reverse"
  let kind <-if items.size < 2 then pure Am else keyKind' items
  let ((),s) <-(if items.size < 2 then pure ()else sortRuns').run (pI kind (if b then (items.zip items).reverse else items.zip items) #[] 7 ag)
  let sorted:=(jy s).map (·.2)
  let touched:=(<-wA a) != before
  tB (.ref a) λu=>if b then sorted.reverse else sorted
  if let ae e:=qQ s then jX "list.sort.comparison-raised";throw e
  if touched then jX "list.sort.modified";raiseError "ValueError" "list modified during sort"
  ret .none
inductive jj (X:Cx)(ρ:ah ay):AV->kh->aw->ah aw->Prop where
 |startswith {s:au} {t:cK}:jj X ρ (.str s) .startswith (.builtin "str.startswith") [.str s t]
 |split {s:au} {t:cK}:jj X ρ (.str s) .split (.builtin "str.split") [.str s t]
 |join {s:au} {t:cK}:jj X ρ (.str s) .join (.builtin "str.join") [.str s t]
 |append {i:ak} {a:ay} (e:ρ[i]? =ae a):jj X ρ (.ref i) .append (.builtin "list.append") [.ref a]
 |extend {i:ak} {a:ay} (e:ρ[i]? =ae a):jj X ρ (.ref i) .extend (.builtin "list.extend") [.ref a]
 |pop {i:ak} {a:ay} (e:ρ[i]? =ae a):jj X ρ (.ref i) .pop (.builtin "list.pop") [.ref a]
 |sort {i:ak} {a:ay} (e:ρ[i]? =ae a):jj X ρ (.ref i) .sort (.builtin "list.sort") [.ref a]
 |names {i:ak} {a f:ay} (e:ρ[i]? =ae a) (ef:X.ky uN=ae f):jj X ρ (.ref i) .names (.ref f) [.ref a]
abbrev Cd:kh->aI
 |.startswith=>"startswith" |.split=>"split" |.join=>"join" |.append=>"append" |.extend=>"extend" |.pop=>"pop" |.sort=>"sort" |.names=>"names"
structure mI (X:Cx)(F:Or)(k n:ak):Prop where
 e:∀sc e,HE X F k sc e (cE sc n e)
 t:∀sc e,HT X F k sc e (cT sc n e)
 r:∀sc e,HR X F k sc e (cR sc n e)
 i:∀sc e,HI X F k sc e (cI sc n e)
 a:∀sc e,HA X F k sc e (cA sc n e)
abbrev mJ:ah (au×ay):=[(aq "heapreplace",28),(aq "heapify",35),(aq "_heapreplace_max",42),(aq "_heapify_max",49),(aq "_siftdown",56),(aq "_siftup",63),(aq "_siftdown_max",70),(aq "_siftup_max",77),
 (aq "nsmallest",83),(aq "nlargest",89),(aq "_kind",96),(aq "_c_path",103),(aq "_splitroot",110),(aq "_normpath",117),(aq "normpath",124),(aq "_Ignore.__init__",137),(aq "_Ignore.names",144),(aq "_Ignore",147),
 (aq "_law_to_be_left_out",156),(aq "_law_ranks",161),(aq "_law_few",166),(aq "_law_says",173),(aq "law",178)]
abbrev kI (n:au):ax ay:=mJ.lookup n
@[reducible] abbrev X0 (K:jt)(w:ju)(jh:aD):Cx:={ w:=w,base:=jh.heap,os:=jh.os,ky:=kI,gT:=147,bad:=[],K:=K }
abbrev fnIn (K:jt)(a:ay):ax wm:=match K.lookup a with |some ⟨_,_,.func fd,_⟩=>ae fd |_=>ag
abbrev recIn (K:jt)(c:aw)(q:au):aB:=match c with
 |.ref a=>match K.lookup a with
  |some ⟨_,_,.fields vs,_⟩=>(match (vs[1]? :ax aw)with |some (.str x _)=>x == q |_=>az)
  |_=>az
 |_=>az
abbrev xK (K:jt)(v:aw):aB:=match v with
 |.none=>aj
 |.ref a=>match K.lookup a with |some ⟨_,_,.seq _ _,_⟩=>aj |_=>az
 |_=>az
abbrev rZ (K:jt)(fd:wm):aB:=fd.scope.kind == .function && !fd.scope.isGenerator && !fd.scope.isCoroutine && fd.globals == iG && fd.closure.isEmpty && fd.builtins == qO && recIn K fd.code fd.qualname && xK K fd.defaults && (cM fd.scope mB != ae .cell || fd.code == .ref rR)
abbrev BL:ah (aI×AV):=[("len",AV.bi "len"),("reversed",.ty "reversed"),("range",.ty "range"),("iter",.bi "iter"),("object",.ty "object"),("min",.bi "min"),("max",.bi "max"),
   ("sorted",.bi "sorted"),("zip",.ty "zip"),("type",.ty "type"),("str",.ty "str"),("int",.ty "int"),("bool",.ty "bool"),("float",.ty "float"),("tuple",.ty "tuple"),("dict",.ty "dict"),("set",.ty "set"),("enumerate",.ty "enumerate"),("sum",.bi "sum"),("list",.ty "list"),("AttributeError",.ty "AttributeError"),("TypeError",.ty "TypeError")]
abbrev oV:ah aI:=["heapreplace","heapify","_heapreplace_max","_heapify_max","_siftdown","_siftup","_siftdown_max","_siftup_max","nsmallest","nlargest","_kind","_c_path","_splitroot","_normpath","normpath","_Ignore","_law_to_be_left_out","_law_ranks","_law_few","_law_says"]
abbrev iO (K:jt)(x:au):ax (ax aw):=match K.lookup iG with |some ⟨_,_,.dict es _,_⟩=>ae (jw es x) |_=>ag
abbrev uV:AV->ax aw
 |.bi n=>ae (.builtin n)
 |.ty n=>ae (.type n)
 |_=>ag
abbrev lhs (K:jt):=(((mJ.filter λp=>p.1 != gE).all (λp=>(fnIn K p.2).any (rZ K))),
 ((mJ.filter λp=>p.1 != gE).map (λp=>(fnIn K p.2).map (λfd=>(fd.params,fd.body,fd.scope)))),
 ((K.lookup cJ).isNone),
 (codeHdIn K 177 175),
 (makesIn K 147),
 (keepIn K (.ref 147)),
 (fk K (.ref 147) "__init__"),
 (qP K (.ref 137)),
 (fk K (.ref 147) (aq "names")),
 (qP K (.ref 144)),
 (fk K (.ref 147) "__getattribute__"),
 (fk K (.ref 147) "__getattr__"),
 (fk K (.ref 147) "__setattr__"),
 (Ak K 147),
 (Al K 147),
 (fk K (.ref 147) (aq "_mods")),
 (pH K 147 (aq "_mods")),
 (fk K (.ref 147) (aq "_dirs")),
 (pH K 147 (aq "_dirs")),
 (fk K (.ref 147) (aq "_ignore")),
 (pH K 147 (aq "_ignore")),
 (BL.map (λp=>iO K (aq p.1))),
 (oV.map (λn=>iO K (aq n))),
 ((match iO K (aq "sep")with |some (ae (.str x _))=>x == aq "/" |_=>az)),
 (iO K (aq "law")))
abbrev rhs:=((aj),
 ((mJ.filter λp=>p.1 != gE).map (λp=>(defOf p.1).map (λq=>(q.1,wy q.2.1,q.2.2)))),
 (aj),
 (aj),
 (aj),
 (aj),
 (ae (ae (.ref 137)):ax (ax aw)),
 (ae (.type "function"):ax aw),
 (ae (ae (.ref 144)):ax (ax aw)),
 (ae (.type "function"):ax aw),
 (ae (ae (.builtin "object.__getattribute__")):ax (ax aw)),
 (ae ag:ax (ax aw)),
 (ae (ae (.builtin "object.__setattr__")):ax (ax aw)),
 (aj),
 (aj),
 (ae ag:ax (ax aw)),
 (ae ag:ax (ax aw)),
 (ae ag:ax (ax aw)),
 (ae ag:ax (ax aw)),
 (ae ag:ax (ax aw)),
 (ae ag:ax (ax aw)),
 (BL.map (λu=>ae ag):ah (ax (ax aw))),
 (oV.map (λn=>ae ((kI (aq n)).map gu)):ah (ax (ax aw))),
 (aj),
 (ae (ae (.ref 178)):ax (ax aw)))
abbrev Ce:ah ay:=[2,3,15,17,18,20,21,22,24,25,27,28,29,31,32,34,35,36,38,39,41,42,43,45,46,48,49,50,52,53,55,56,57,59,60,62,63,64,66,67,69,70,71,73,74,76,77,78,79,82,83,84,85,88,89,90,92,93,95,96,97,99,100,102,103,104,106,107,109,110,111,113,114,116,117,118,120,121,123,124,132,133,136,137,138,140,141,143,144,145,146,147,148,149,152,155,156,157,160,161,162,165,166,167,169,170,172,173,174,177,178]
abbrev FK (h:aG):jt:=Ce.filterMap λa=>(h.get? a).map λo=>(a,o)
@[reducible] abbrev pw:=PySem.Challenge.pw_oc0179_01
abbrev q0:n7:=view pw [26]
abbrev uW:ah au:=["_wall","heapreplace","heapify","_heapreplace_max","_heapify_max","_siftdown","_siftup","_siftdown_max","_siftup_max","nsmallest","nlargest","sep","_kind","_c_path","_splitroot","_normpath","normpath","_Ignore","_law_to_be_left_out","_law_ranks","_law_few","_law_says"].map aq
abbrev xM (s:aD):=(lhs (FK s.heap),s.heap.get? 175)
variable {X Y:Cx}{h H h₀ kl:aG}{B J j own br C fJ:ah ay}{I Z jF:St}{A:d8}{F:Or}{U aP:bN}{k i W n u ep:ak}{E E':aw->aD->Prop}{a D S L:ay}{w:ju}{s z dE:aD}{v it:aw}{o o':Obj}{x y:AV}{prog:n7}{V:ah aw}{pos p q:fj}{G:bH}{l le:ah bH}{K:jt}{Q:ah (au×ak)}{kvs:ah (au×aw)}{N:ah (ax AV)}{e elt r target:aH}{kw:ah (au×AV)}{T xs:ah AV}{ai:AI}{ao:AO}{d:DE}{b:Int}{M:mZ}{es:ah ((au ⊕ Int)×aw)}{O:aZ aw}{m mg:au->ax aw}{fd:wm}{R:Result->aD->Prop}{ct:DT}{f:aH->DE}{op:pB}{lo:ax aH}{ci:DI}{ca:DA}{ifs:ah aH}{mm:kh}
def aF.none:aF X B h .none .none:=rfl
def aF.bool (b:aB):aF X B h (.bool b) (.bool b):=rfl
def aF.int (i:Int)(t:cK):aF X B h (.int i) (.int i t):=⟨t,rfl⟩
def aF.str (x:au)(t:cK):aF X B h (.str x) (.str x t):=⟨t,rfl⟩
def aF.ty (n:aI):aF X B h (.ty n) (.type n):=rfl
def aF.bi (n:aI):aF X B h (.bi n) (.builtin n):=rfl
def aF.fn {n:au}(e:X.ky n=ae a):aF X B h (.fn n) (.ref a):=⟨e⟩
def aF.ref (e:B[i]? =ae a):aF X B h (.ref i) (.ref a):=⟨e⟩
def aF.pair {vx vy:aw}(n1:a∉B)(n2:X.ok a)(e:h.get? a=ae o)(t:rS o #[vx,vy])(hx:aF X B h x vx)(hy:aF X B h y vy):aF X B h (.pair x y) (.ref a):=⟨⟨n1,n2,e,t⟩,hx,hy⟩
def KO.refl (X:Cx)(a:ay)(o:Obj):KO X a o o:=.inl rfl
theorem KO.trans {a0 b0 c0:Obj}(x:KO X a a0 b0)(y:KO X a b0 c0):KO X a a0 c0:=by
 rcases x with rfl |⟨hb,hc,sl,rfl⟩
 ·exact y
 ·rcases y with rfl |⟨_,_,JF,rfl⟩
  ·exact .inr ⟨hb,hc,sl,rfl⟩
  ·exact .inr ⟨hb,hc,JF,rfl⟩
def KO.exact (x:KO X a o o')(h:∀es ep,o.data≠ .dict es ep):o'=o:=by
 rcases x with e |⟨_,⟨es,ep,hc⟩,_⟩
 ·exact e
 ·exact absurd hc (h es ep)
def KO.cls (x:KO X a o o'):o'.cls=o.cls:=by
 rcases x with rfl |⟨_,_,_,rfl⟩<;>rfl
def KO.data (x:KO X a o o'):o'.data=o.data:=by
 rcases x with rfl |⟨_,_,_,rfl⟩<;>rfl
def JG {d:Data}{xs:aZ aw}(h:d= .seq xs n): ¬ iq d:=by
 subst h;rintro⟨_,_,q⟩;cases q
def Step.refl (X:Cx)(ex B:ah ay)(h:aG):Step X ex B h B h:=⟨λu o e=>⟨o,e⟩,⟨[],(fT _).symm,λu D=>nomatch D⟩,λa o e u u u=>⟨o,e,.refl ..⟩⟩
def Step.dt {ex:ah ay}(S:Step X ex B h J H)(e:h.get? a=ae o)(hn:a∉B):a∉J:=by
 obtain⟨F,rfl,E⟩:=S.ext;intro D;rcases dX.mp D with D |D
 ·exact hn D
 ·rw[E a D]at e;cases e
def Step.trans {ex b0:ah ay}(S:Step X ex B h J H)(a0:Step X ex J H b0 kl):Step X ex B h b0 kl:=by
 refine⟨λa o e=>by obtain⟨F,E⟩:=S.there a o e;exact a0.there a F E,?_,λa o e N O M=>?_⟩
 ·obtain⟨R,rfl,Q⟩:=S.ext;obtain⟨G,rfl,I⟩:=a0.ext;refine⟨R++G,jY ..,λa D=>?_⟩;rcases dX.mp D with D |D
  ·exact Q a D
  ·cases q:h.get? a with
   |none=>rfl
   |some o=>obtain⟨F,E⟩:=S.there a o q;rw[I a D]at E;cases E
 ·obtain⟨F,E,k⟩:=S.keep a o e N O M;obtain⟨K,L,U⟩:=a0.keep a F E (S.dt e N) O (λD=>by rw[k.data];exact M D);exact⟨K,L,k.trans U⟩
def Step.mono {ex:ah ay}{a0:ah ay}(S:Step X ex B h J H)(hs:∀a∈ex,a∈a0):Step X a0 B h J H:=
 ⟨S.there,S.ext,λa o e F G D=>S.keep a o e F G λE=>D (hs a E)⟩
def Step.drop {ex:ah ay}(S:Step X (L :: ex) B h J H)(hL:h.get? L=ag):Step X ex B h J H:=
 ⟨S.there,S.ext,λa o e F G E=>S.keep a o e F G λD=>by
  rcases bu.mp D with rfl |D
  ·rw[hL]at e;cases e
  ·exact E D⟩
def Step.iP {ex:ah ay}(S:Step X ex B h J H)(e:B[i]? =ae a):J[i]? =ae a:=by
 obtain⟨E,rfl,_⟩:=S.ext;obtain⟨D,_⟩:=cF.mp e;rw[lz D];exact e
def Step.uX {ex:ah ay}(S:Step X ex B h J H)(e:h.get? a=ae o)(n1:a∉B)(n2:a≠cJ)(nd:∀es ep,o.data≠ .dict es ep):H.get? a=ae o:=by
 obtain⟨E,D,k⟩:=S.keep a o e n1 n2 λ_ ⟨es,ep,q⟩=>nd es ep q;rw[k.exact nd]at D;exact D
def Kp.nd (k:Kp o)(es:aZ wt)(ep:ak):o.data≠ .dict es ep:=λq=>by
 cases k with
 |seq d=>exact tC (d.symm.trans q)
 |set d=>exact tC (d.symm.trans q)
 |code _ d=>exact tC (d.symm.trans q)
def Kp.nf {ws:aZ aw}(k:Kp o)(q:o.data= .fields ws):o.cls= .type "code":=by
 cases k with
 |seq d=>exact tC (d.symm.trans q)
 |set d=>exact tC (d.symm.trans q)
 |code c _=>exact c
theorem aF.dK (S:gU X j B J h H):∀{v:aw},aF X B h x v->aF { X with bad:=j } J H x v:=by
 have D:∀{V:aZ aw} {a:ay},TupAt X B h V a->TupAt { X with bad:=j } J H V a:=λq=>by
  obtain⟨F,I,e,c,n,d⟩:=q;obtain⟨G,E,e⟩:=S.obj _ _ F I e (.seq d);exact⟨G,E,e,c,n,d⟩
 induction x with
 |ref i=>rintro _ ⟨e⟩;exact⟨S.ref _ _ e⟩
 |one x ix=>rintro _ ⟨t,K⟩;exact⟨D t,ix K⟩
 |pair x y ix L=>rintro _ ⟨t,K,M⟩;exact⟨D t,ix K,L M⟩
 |dB x y z ix L Q=>rintro _ ⟨t,K,M,R⟩;exact⟨D t,ix K,L M,Q R⟩
 |gR l=>
  rintro _ ⟨⟨F,I,⟨o,e,c,n,d⟩,N,O⟩⟩;obtain⟨G,E,e⟩:=S.obj _ _ F I e (.seq d);exact⟨⟨G,E,⟨o,e,c,n,d⟩,N,O⟩⟩
 |cL l=>
  rintro _ ⟨⟨F,I,e,c,d,r⟩⟩;obtain⟨G,E,e⟩:=S.obj _ _ F I e (.set d);exact⟨⟨G,E,e,c,d,r⟩⟩
 |code q=>
  rintro _ ⟨⟨F,I,e,c,d,r⟩⟩;obtain⟨G,E,e⟩:=S.obj _ _ F I e (.code c d);exact⟨⟨G,E,e,c,d,r⟩⟩
 |_=>exact id
def Step.dK {ex:ah ay}(S:Step X ex B h J H):gU X X.bad B J h H:=⟨λu u=>S.iP,λu u D E e k=>⟨S.dt e D,E,S.uX e D E.1 k.nd⟩⟩
def aF.step {ex:ah ay}(S:Step X ex B h J H)(r:aF X B h x v):aF X J H x v:=r.dK S.dK
def aT.jk (f:∀{x:AV} {v:aw},aF X B h x v->aF Y J H x v)(r:aT X B h xs V):aT Y J H xs V:=by
 induction r with
 |nil=>exact .nil
 |cons E _ D=>exact .cons (f E) D
def aT.step {ex:ah ay}(S:Step X ex B h J H)(r:aT X B h xs V):aT X J H xs V:=r.jk λq=>q.step S
def aT.length (r:aT X B h xs V):V.length=xs.length:=by
 induction r with
 |nil=>rfl
 |cons _ _ D=>exact bZ Nat.succ D
def aT.get (r:aT X B h xs V):∀{i:ak} {x:AV},xs[i]? =ae x->∃v,V[i]? =ae v/\aF X B h x v:=by
 induction r with
 |nil=>exact λe=>nomatch e
 |cons E _ D=>
  intro i x e;cases i with
  |zero=>exact⟨_,rfl,dp e ▸ E⟩
  |succ i=>exact D e
def aT.append {ys:ah AV}{ws:ah aw}(r:aT X B h xs V)(q:aT X B h ys ws):aT X B h (xs++ys) (V++ws):=by
 induction r with
 |nil=>exact q
 |cons E _ D=>exact .cons E D
def aT.set (r:aT X B h xs V)(hx:aF X B h x v):∀(i:ak),aT X B h (xs.set i x) (V.set i v):=by
 induction r with
 |nil=>exact λu=>.nil
 |cons F E D=>exact λi=>tD i (.cons hx E) λi=>.cons F (D i)
def aT.take (r:aT X B h xs V):∀(n:ak),aT X B h (xs.take n) (V.take n):=by
 induction r with
 |nil=>exact λn=>tD n .nil λu=>.nil
 |cons E F D=>exact λi=>tD i .nil λi=>.cons E (D i)
def aT.drop (r:aT X B h xs V):∀(n:ak),aT X B h (xs.drop n) (V.drop n):=by
 induction r with
 |nil=>exact λn=>tD n .nil λu=>.nil
 |cons F E D=>exact λi=>tD i (.cons F E) λi=>D i
def jK.none:jK X B h .none .none:=rfl
def jK.some (hx:aF X B h x v):jK X B h (.some x) (.some v):=⟨v,rfl,hx⟩
def OB.cls (b:OB X B h ao o):nK o.cls=aj:=by
 cases ao with
 |list l=>obtain⟨_,_,rfl,_⟩:=b;rfl
 |cell v=>rw[b.1];rfl
 |inst d=>obtain⟨F,_,rfl⟩:=b;rfl
 |bc l=>rw[b.1];rfl
 |dict l=>obtain⟨D,⟨E,G,⟨c,_⟩,_⟩,_⟩:=b;rw[c];rfl
 |iter s i=>cases s with
  |none=>rw[b.1];rfl
  |some s=>rw[b.1];rfl
 |obj=>rw[b.1];rfl
 |lam _ _ _ _=>obtain⟨_,_,_,_,_,_,rfl,_⟩:=b;rfl
def jK.jk {x:ax AV}{v:ax aw}(f:∀{x:AV} {v:aw},aF X B h x v->aF Y J H x v)(r:jK X B h x v):jK Y J H x v:=by
 cases x with
 |none=>exact r
 |some x=>exact r.imp λu q=>⟨q.1,f q.2⟩
def eS.jk {l:ah ((au ⊕ Int)×AV)}(f:∀{x:AV} {v:aw},aF X B h x v->aF Y J H x v)(r:eS X B h l es):eS Y J H l es:=by
 induction r with
 |nil=>exact .nil
 |cons E _ D=>exact .cons (f E) D
def eS.length {l:ah ((au ⊕ Int)×AV)}(r:eS X B h l es):es.length=l.length:=by
 induction r with
 |nil=>rfl
 |cons _ _ D=>exact bZ Nat.succ D
def eS.get {l:ah ((au ⊕ Int)×AV)}(r:eS X B h l es)(k:au ⊕ Int):jK X B h (eF l k) (valueAt es k):=by
 unfold eF valueAt;induction r with
 |nil=>exact .none
 | @cons E _ _ _ _ F _ D=>
  rw[GI,GI];by_cases e:E=k
  ·rw[i7 e];exact .some F
  ·rw[pJ e];exact D
def eS.any {l:ah ((au ⊕ Int)×AV)}(r:eS X B h l es)(k:au ⊕ Int):(es.any λkv=>decide (kv.1=k))=l.any λp=>decide (p.1=k):=by
 induction r with
 |nil=>rfl
 |cons _ _ D=>rw[pK,pK,D]
def eS.map {l:ah ((au ⊕ Int)×AV)}(r:eS X B h l es)(k:au ⊕ Int)(hx:aF X B h x v):
  eS X B h (l.map λp=>if p.1=k then (p.1,x)else p) (es.map λkv=>if kv.1=k then (kv.1,v)else kv):=by
 induction r with
 |nil=>exact .nil
 | @cons F _ _ _ _ E _ D=>
  rw[f9,f9];by_cases e:F=k
  ·rw[aN e,aN e];exact .cons hx D
  ·rw[aK e,aK e];exact .cons E D
def eS.snoc {l:ah ((au ⊕ Int)×AV)}(r:eS X B h l es)(k:au ⊕ Int)(hx:aF X B h x v):eS X B h (l++[(k,x)]) (es++[(k,v)]):=by
 induction r with
 |nil=>exact .cons hx .nil
 |cons E _ D=>exact .cons E D
def eS.put {l:ah ((au ⊕ Int)×AV)}(r:eS X B h l es)(k:au ⊕ Int)(hx:aF X B h x v):eS X B h (putD l k x) (stored es k v):=by
 unfold putD stored;rw[r.any k];split
 ·exact r.map k hx
 ·exact r.snoc k hx
def fX.mono {l:ah (au×ak)}{cl:ah (au×ay)}(r:fX B l cl)(h:∀(i:ak) (a:ay),B[i]? =ae a->J[i]? =ae a):fX J l cl:=by
 induction r with
 |nil=>exact .nil
 |cons e _ D=>exact .cons (h _ _ e) D
def fX.get {l:ah (au×ak)}{cl:ah (au×ay)}{x:au}{c:ak}(r:fX B l cl):l.lookup x=ae c->∃a,B[c]? =ae a/\cl.lookup x=ae a:=by
 induction r with
 |nil=>exact λe=>nomatch e
 | @cons y _ _ _ _ e _ D=>
  rw[gv,gv];cases x == y with
  |true=>exact λh=>dp h ▸ ⟨_,e,rfl⟩
  |false=>exact D
theorem OB.dK (S:gU X j B J h H)(b:OB X B h ao o):OB { X with bad:=j } J H ao o:=by
 have f:∀{x:AV} {v:aw},aF X B h x v->aF { X with bad:=j } J H x v:=λr=>r.dK S;cases ao with
 |list l=>obtain⟨O,n,d,r,c⟩:=b;exact⟨O,n,d,r.jk f,c⟩
 |cell v=>obtain⟨c,M,d,r⟩:=b;exact⟨c,M,d,r.jk f⟩
 |inst d=>obtain⟨L,e,r⟩:=b;exact⟨L,S.ref _ _ e,r⟩
 |bc l=>obtain⟨c,K,n,d,k,z,r⟩:=b;exact⟨c,K,n,d,k,z,λx=>(r x).jk f⟩
 |dict l=>obtain⟨F,d,r,c⟩:=b;exact⟨F,d,r.jk f,c⟩
 |iter s i=>cases s with
  |none=>exact b
  |some s=>obtain⟨c,a,e,d⟩:=b;exact⟨c,a,S.ref _ _ e,d⟩
 |obj=>exact b
 |lam _ _ _ _=>obtain⟨D,E,N,I,c,G,e,r,v⟩:=b;exact⟨D,E,N,I,c,G,e,r.mono S.ref,f v⟩
def OB.step {ex:ah ay}(S:Step X ex B h J H)(b:OB X B h ao o):OB X J H ao o:=b.dK S.dK
def gV.ko (f:gV o)(k:KO X a o o'):gV o':=by obtain⟨B,D,d,q⟩:=f;exact⟨B,D,k.data.trans d,q⟩
def uQ.refl (X:Cx)(B:ah ay)(h:aG):uQ X B h h:=λu o e u f u=>⟨o,e,f⟩
def Go.refl (X:Cx)(ex B:ah ay)(h:aG):Go X ex B h B h:=⟨.refl ..,uQ.refl X B h⟩
def Go.trans {ex a0:ah ay}(x:Go X ex B h J H)(y:Go X ex J H a0 kl):Go X ex B h a0 kl:=⟨x.step.trans y.step,λa o e n f b=>by
 obtain⟨F,D,E⟩:=x.fr a o e n f b;exact y.fr a F D (x.step.dt e n) E b⟩
def Go.mono {ex a0:ah ay}(x:Go X ex B h J H)(hs:∀a∈ex,a∈a0):Go X a0 B h J H:=⟨x.step.mono hs,x.fr⟩
theorem eT.oW {k:aI}{e:ay}{a0:aG}(x:eT k e a0 h)(hs:∀a o,h₀.get? a=ae o->∃o',a0.get? a=ae o'):eT k e h₀ h:=by
 have old:∀a,a0.get? a=ag->h₀.get? a=ag:=λa q=>by
  cases K:h₀.get? a with
  |none=>rfl
  |some o=>obtain⟨o',E⟩:=hs a o K;rw[q]at E;cases E
 obtain (⟨a,b,G,D⟩):=x;obtain (⟨o,V,I,F,H,J,B⟩):=D;refine⟨old _ a,b,G,o,V,I,F,H,J,?_⟩;rcases B with B |⟨T,oT,ts,d1,d2,d3⟩
 ·exact .inl B
 ·exact .inr ⟨T,oT,ts,d1,old _ d2,d3⟩
def Zs.refl (z:aD):Zs z z:=⟨rfl,rfl⟩
def Zs.trans {z' a0:aD}(x:Zs z z')(y:Zs z' a0):Zs z a0:=⟨y.1.trans x.1,y.2.trans x.2⟩
def aL.shift {d0:aD}{ex c0:ah ay}{e0:aG}{α β:Type}{R:ah ay->aG->β->α->Prop}{b0:α->aD->Prop}(a0:Zs z d0)(S:Go X ex B h c0 e0){r:Res β}(p:aL X z ex B h R b0 E r Z):aL X d0 ex c0 e0 R b0 E r Z:=λG J H F K I D=>by
 obtain q:=p G J H F (a0.trans K) I (S.trans D);cases r with
 |ok b=>exact q
 |err k=>exact λe x=>q e (x.oW S.step.there)
def aW.then {ex:ah ay}{α c0 β b0:Type}{R:ah ay->aG->β->α->Prop}{R':ah ay->aG->b0->c0->Prop}{a0:c0->aD->Prop}{t:dn α}{m:P β}{g:β->P b0}(h1:aW X A ex R B I h t m)(hr:(m>>=g).run I (aL X z ex B h R' a0 E)){Q':α->aD->Prop}(k:∀z' J Z H t' b a,Inv X J Z H->Go X ex B h J H->R J H b a->(g b).run Z (aL X z' ex J H R' a0 E)->Q' a (sh z' H t')):aA (MX X) A t Q' E (sh z h W):=by
 refine h1 z W Q' E (m.mono (λr Z y=>?_) (show m.run I _ from hr));intro z' J H t' F D S;cases r with
 |ok b=>exact λa G=>k z' J Z H t' b a D S G ((g b).mono (λu u p=>p.shift F S) y)
 |err k=>exact λe x=>y z' J H t' F D S e x
def aW.bind {ex:ah ay}{α b0 β a0:Type}{R:ah ay->aG->β->α->Prop}{R':ah ay->aG->a0->b0->Prop}{t:dn α}{f:α->dn b0}{m:P β}{g:β->P a0}(h1:aW X A ex R B I h t m)(h2:∀J Z H b a,Inv X J Z H->Go X ex B h J H->R J H b a->aW X A ex R' J Z H (f a) (g b)):aW X A ex R' B I h (t>>=f) (m>>=g):=by
 intro z W Q E L;refine bO (h1.then L λG J Z H F b a D S K y=>?_);exact h2 J Z H b a D S K G F Q E y
def aL.here {ex:ah ay}{α β:Type}{R:ah ay->aG->β->α->Prop}{a0:α->aD->Prop}{b:β}(b0:Inv X B Z h){a:α}(p:∀z' J H t',Zs z z'->Inv X J Z H->Go X ex B h J H->∀a,R J H b a->a0 a (sh z' H t'))(r:R B h b a)(t':ak):a0 a (sh z h t'):=
 p z B h t' (.refl z) b0 (.refl ..) a r
def aW.pure {ex:ah ay}{α β:Type}{R:ah ay->aG->β->α->Prop}{a:α}{b:β}(a0:Inv X B I h)(r:R B h b a):aW X A ex R B I h (th a) (P.pure b):=λz W Q E D=>
 aC (D z B h W (.refl z) a0 (.refl ..) a r)
def aW.fail {ex:ah ay}{α β:Type}{R:ah ay->aG->β->α->Prop}{t:dn α}:aW X A ex R B I h t (P.fail:P β):=λu u u u D=>D.elim
def Inv.xN (a0:Inv X B I h)(e:h.get? a=ae o)(hc:nK o.cls=az):a∉B:=by
 intro F;obtain⟨i,E,G⟩:=qR.mp F;have gg:i < I.length:=a0.len ▸ E;obtain⟨H,D,b⟩:=a0.obj i I[i] a (cy gg) (by rw[cy E,G]);rw[e]at D;cases D;rw[b.cls]at hc;cases hc
def Inv.xO (a0:Inv X B I h)(e:h.get? a=ae o)(hc:o.cls≠ .none):a≠cJ:=by
 rintro rfl;obtain⟨V,D,_⟩:=a0.tab;rw[e]at D;cases D;exact hc rfl
def Inv.lt (a0:Inv X B I h)(hm:a∈B):a < h.objs.size:=by
 obtain⟨i,D,E⟩:=qR.mp hm;have gg:i < I.length:=a0.len ▸ D;obtain⟨G,F,b⟩:=a0.obj i I[i] a (cy gg) (by rw[cy D,E]);exact gL F
def Inv.Cf (a0:Inv X B I h):cJ∉B:=λD=>by obtain⟨o,e⟩:=a0.gd;rw[a0.new _ D]at e;cases e
def Inv.ey (a0:Inv X B I h)(e:h.get? a=ag):X.base.get? a=ag:=by
 cases q:X.base.get? a with
 |none=>rfl
 |some o=>
  by_cases E:a=cJ
  ·obtain⟨V,D,_⟩:=a0.tab;rw[<-E,e]at D;cases D
  ·rw[a0.base a o q E]at e;cases e
def Go.push (X:Cx)(ex B:ah ay)(h:aG)(o:Obj):Go X ex B h B (h.push o):=
 ⟨⟨λa D e=>⟨D,be _ e⟩,⟨[],(fT _).symm,λu E=>nomatch E⟩,λa D e u u u=>⟨D,be _ e,.refl ..⟩⟩,
  λa D e u f u=>⟨D,be _ e,f⟩⟩
def Inv.push (a0:Inv X B I h)(o:Obj):Inv X B I (h.push o):=
 ⟨a0.len,a0.nodup,λi K a F E=>by
   obtain⟨D,G,b⟩:=a0.obj i K a F E;exact⟨D,be _ G,b.step (Go.push X [] B h o).step⟩,
  λb D e H=>be _ (a0.base b D e H),a0.new,a0.gd,a0.mods,by obtain⟨V,e,c⟩:=a0.tab;exact⟨V,be _ e,c⟩,λb J=>by obtain⟨o,e⟩:=a0.gf b J;exact⟨o,be _ e⟩⟩
def eU (h:aG):h.get? h.objs.size=ag:=by
 cases q:h.get? h.objs.size with
 |none=>rfl
 |some o=>exact absurd (gL q) (dP _)
def Go.alloc (X:Cx)(ex B:ah ay)(h:aG)(o:Obj):Go X ex B h (B++[h.objs.size]) (h.push o):=
 ⟨⟨λa D e=>⟨D,be _ e⟩,⟨[h.objs.size],rfl,λa E=>by rw[aJ.mp E];exact eU h⟩,λa D e u u u=>⟨D,be _ e,.refl ..⟩⟩,
  λa D e u f u=>⟨D,be _ e,f⟩⟩
theorem Inv.snoc {o:Obj}(a0:Inv X B I h)(S:gU X j B (B++[D]) h H)(hb:∀b∈j,b∈X.bad)(hk:∀b o,h.get? b=ae o->H.get? b=ae o)(hD:D∉B)(hB:X.base.get? D=ag)(e:H.get? D=ae o)(b:OB { X with bad:=j } (B++[D]) H ao o):Inv { X with bad:=j } (B++[D]) (I++[ao]) H:=by
 refine⟨by rw[bK,bK,a0.len];rfl,?_,λi M a F G=>?_,λJ L e Q=>hk _ _ (a0.base J L e Q),λa E=>?_,a0.gd,a0.mods,by obtain⟨V,e,c⟩:=a0.tab;exact⟨V,hk _ _ e,c.imp id λ⟨ao,E,q⟩=>⟨ao,gM _ E,q⟩⟩,λb E=>(a0.gf b (hb b E)).imp λo=>hk b o⟩
 ·refine tE.mpr ⟨a0.nodup,pN.mpr ⟨pO,GJ⟩,λa N b hb e=>?_⟩;rw[aJ.mp hb]at e;exact hD (e ▸ N)
 ·by_cases K:i < I.length
  ·rw[lz K]at F;rw[lz (by rw[a0.len];exact K)]at G;obtain⟨L,O,J⟩:=a0.obj i M a F G;exact⟨L,hk _ _ O,J.dK S⟩
  ·obtain gg:=oa.mp K;rw[wF gg]at F;rw[wF (by rw[a0.len];exact gg)]at G;rw[aJ.mp (cD F),aJ.mp (cD G)];exact⟨o,e,b⟩
 ·rcases dX.mp E with E |E
  ·exact a0.new a E
  ·rw[aJ.mp E];exact hB
def Inv.alloc (a0:Inv X B I h)(b:OB X B h ao o)(hf:o.isFreed=az):Inv X (B++[h.objs.size]) (I++[ao]) (h.push o):=
 have S:=(Go.alloc X [] B h o).step
 a0.snoc S.dK (λu=>id) (λu u e=>be _ e) (λD=>dP _ (a0.lt D)) (a0.ey (eU h)) (cV _ hf) (b.step S)
def Go.change (X:Cx)(hm:a∈B)(hs:fm a h H)(he:H.get? a=ae o')(ex:ah ay):Go X ex B h B H:=by
 refine⟨⟨λb o e=>?_,⟨[],(fT _).symm,λu hm=>nomatch hm⟩,λb o e D u u=>⟨o,(hs.2 b λq=>D (q ▸ hm)).trans e,.refl ..⟩⟩,λb o e D f u=>?_⟩
 ·by_cases q:b=a
  ·subst q;exact⟨_,he⟩
  ·exact⟨o,(hs.2 b q).trans e⟩
 exact⟨o,(hs.2 b λq=>D (q ▸ hm)).trans e,f⟩
theorem Inv.change {b0:AO}(a0:Inv X B I h)(hi:I[i]? =ae ao)(ha:B[i]? =ae a)(hs:fm a h H)(he:H.get? a=ae o')(b:OB X B h b0 o')(ex:ah ay)(hq:jg ao=aj->jg b0=aj:=by intro q0;cases q0):
  Inv X B (I.set i b0) H/\Go X ex B h B H:=by
 obtain N:a∈B:=cD ha;obtain G:=Go.change X N hs he;refine⟨⟨by simp[a0.len],a0.nodup,λj T c J K=>?_,λQ L F U=>?_,a0.new,a0.gd,a0.mods,?_,λb l=>by obtain⟨o,e⟩:=a0.gf b l;exact(G ex).step.there b o e⟩,G ex⟩
 ·by_cases D:j=i
  ·subst D;rw[ha]at K;cases K;obtain k:j < I.length:=(cF.mp hi).1;rw[l9 k]at J;cases J;exact⟨o',he,b.step (G []).step⟩
  ·rw[jz (λq=>D q.symm)]at J;obtain⟨L,F,S⟩:=a0.obj j T c J K;obtain O:c≠a:=λq=>by
    subst q;obtain Z:=cF.mp K;obtain A:=cF.mp ha;exact D ((wG a0.nodup).mp (Z.2.trans A.2.symm))
   exact⟨L,(hs.2 c O).trans F,S.step (G []).step⟩
 ·refine(hs.2 Q λq=>?_).trans (a0.base Q L F U);rw[q,a0.new a N]at F;cases F
 ·obtain⟨V,Y,c⟩:=a0.tab;refine⟨V,(hs.2 cJ λq=>a0.Cf (q ▸ N)).trans Y,c.imp id λ⟨W,M,q⟩=>?_⟩;obtain⟨j,D,R⟩:=qR.mp M;by_cases E:j=i
  ·subst E;rw[cy D,R]at hi;cases hi;exact⟨b0,cD (i:=j) (by rw[l9 D]),hq q⟩
  ·exact⟨W,cD (i:=j) (by rw[jz (λq=>E q.symm),cy D,R]),q⟩
def gh {α:Type}{a:α}{P:Prop}(e:ag=ae a):P:=nomatch e
def Inv.ns (a0:Inv X B I h)(n:X.base.Ns a m)(ha:a≠cJ):h.Ns a m:=by
 obtain⟨o,E,D,e,r⟩:=n;exact⟨o,E,D,a0.base a o e ha,r⟩
def Inv.lim (a0:Inv X B I h)(C:cn X):h.NoLimit:=by
 obtain⟨D,n,e⟩:=C.lim;exact⟨D,a0.ns n (by decide),e⟩
def Frs.step {ex:ah ay}(x:Frs X l B h)(k:Go X ex B h J H):Frs X l J H:=λe D=>by
 obtain⟨a,L,o,b,c,n,d,f⟩:=x e D;obtain⟨G,E,F⟩:=k.fr L o d n f c;exact⟨a,L,G,b,c,k.step.dt d n,E,F⟩
def Go.ns (S:Go X [] B h J H)(n:h.Ns a m)(h1:a∉B)(h2:a≠cJ):H.Ns a m:=by
 obtain⟨o,F,G,e,d,r⟩:=n;obtain⟨I,E,k⟩:=S.step.keep a o e h1 h2 λD=>nomatch D;exact⟨I,F,G,E,k.data.trans d,r⟩
def En.xO (a0:En X U G Q N B h)(b0:Inv X B I h):G.locals≠cJ:=λe=>by
 have:=a0.ir;obtain⟨o,D⟩:=b0.gd;rw[e,D]at this;cases this
def En.step (a0:En X U G Q N B h)(b0:Inv X B I h)(S:Go X [] B h J H):En X U G Q N J H:=by
 refine⟨a0.kind,a0.glob,a0.blt,a0.kinds,a0.len,?_,?_,a0.ir,λx c F=>?_⟩
 ·obtain⟨m,n,r⟩:=a0.ns;refine⟨m,S.ns n a0.fY (a0.xO b0),λx i v F K E=>?_⟩;obtain⟨L,D,M⟩:=r x i v F K E;exact⟨L,D,M.step S.step⟩
 ·obtain⟨m,n,r⟩:=a0.ns;obtain⟨o,O,R,e,_⟩:=n;exact S.step.dt e a0.fY
 ·obtain⟨a,E,D⟩:=a0.cells x c F;exact⟨a,S.step.iP E,D⟩
def Ar.step {ex:ah ay}(a:Ar X n u A l B h)(k:Go X ex B h J H):Ar X n u A l J H:=⟨a.handled,a.depth,a.units,a.frames,a.dR.step k⟩
def JH {x y:au}(hx:lI U x=ae i)(hy:lI U y=ae i):x=y:=by
 unfold lI at hx hy;obtain⟨E,B,_⟩:=An.mp hx;obtain⟨F,D,_⟩:=An.mp hy;rw[bU]at B D;exact B.symm.trans D
def JI (a0:Inv X B I h)(c:n6)(k:ak)(b0:fj):aW X A [] (RV X) B I h (eval (.Constant c k b0) G) (BX c ⟨F,Q,N⟩):=by
 intro z W D E H;cases c with
 |none=>exact GK (H _ _ _ _ (.refl _) a0 (.refl ..) _ .none)
 |bool b=>exact GL (H _ _ _ _ (.refl _) a0 (.refl ..) _ (.bool b))
 |int i=>exact GN (H _ _ _ _ (.refl _) a0 (.refl ..) _ (.int i _))
 |str x=>exact GO (H _ _ _ _ (.refl _) a0 (.refl ..) _ (.str x _))
 |float _=>exact H.elim
 |complex _ _=>exact H.elim
 |bytes _=>exact H.elim
 |ellipsis=>exact H.elim
def c9 {β γ:Type}{o:ax β}{g:β->P γ}{p:Res γ->St->Prop}(hr:(P.opt o>>=g).run I p):∃b,o=ae b/\(g b).run I p:=by
 cases o with
 |none=>exact hr.elim
 |some b=>exact⟨b,rfl,hr⟩
def uY {β:Type}{o:ax β}{p:Res β->St->Prop}(hr:(P.opt o).run I p):∃b,o=ae b/\p (.ok b) I:=by
 cases o with
 |none=>exact hr.elim
 |some b=>exact⟨b,rfl,hr⟩
def eV {γ:Type}{g:AO->P γ}{p:Res γ->St->Prop}(hr:(P.load i>>=g).run I p):∃o,I[i]? =ae o/\(g o).run I p:=by
 rw[P.run_bind]at hr;unfold P.load at hr;dsimp only at hr;revert hr;cases I[i]? with
 |none=>exact λx=>x.elim
 |some o=>exact λx=>⟨o,rfl,x⟩
def a6 {γ:Type}{c:Prop}[wo c]{g:b8->P γ}{p:Res γ->St->Prop}(hr:(P.guard c>>=g).run I p):c/\(g ()).run I p:=by
 unfold P.guard at hr;by_cases B:c
 ·rw[aN B]at hr;exact⟨B,hr⟩
 ·rw[aK B]at hr;exact hr.elim
def jl {γ:Type}{g:Int->P γ}{p:Res γ->St->Prop}(hr:(dF x>>=g).run I p):∃i,x= .int i/\(g i).run I p:=by
 cases x with
 |int i=>exact⟨i,rfl,hr⟩
 |_=>exact hr.elim
def xP {γ:Type}{g:au->P γ}{p:Res γ->St->Prop}(hr:(nB x>>=g).run I p):∃i,x= .str i/\(g i).run I p:=by
 cases x with
 |str i=>exact⟨i,rfl,hr⟩
 |_=>exact hr.elim
def iw {γ:Type}{g:ak->P γ}{p:Res γ->St->Prop}(hr:(e8 x>>=g).run I p):∃i,x= .ref i/\(g i).run I p:=by
 cases x with
 |ref i=>exact⟨i,rfl,hr⟩
 |_=>exact hr.elim
def xQ (h:refOf x=ae i):x= .ref i:=by
 cases x with
 |ref j=>exact bZ AV.ref (dp h)
 |_=>exact gh h
def Cg {i:Int}(h:intOf x=ae i):x= .int i:=by
 cases x with
 |int j=>exact bZ AV.int (dp h)
 |_=>exact gh h
def JJ {c:ak}{v:ax AV}(a0:Inv X B I h)(hc:I[c]? =ae (.cell v))(ha:B[c]? =ae a):∃v',h.IsCell a v'/\jK X B h v v':=by
 obtain⟨o,e,_,v',d,r⟩:=a0.obj c _ a hc ha;exact⟨v',⟨o,e,d⟩,r⟩
def JK {x:au}{c:RT}{p:Res AV->St->Prop}(hr:(uI x c).run I p):∃i v,c.cel.lookup x=ae i/\I[i]? =ae (.cell (ae v))/\p (.ok v) I:=by
 obtain⟨i,D,hr⟩:=c9 hr;obtain⟨o,B,hr⟩:=eV hr;cases o with
 |cell v=>cases v with
  |none=>exact hr.elim
  |some v=>exact⟨i,v,D,B,hr⟩
 |_=>exact hr.elim
theorem Ci (C:cn X)(b0:Inv X B I h)(a0:En X U G Q N B h)(x:au):aW X A [] (RV X) B I h (loadName G x) (nH U x ⟨F,Q,N⟩):=by
 intros _ z W D E _ H;unfold nH at H;by_cases O:(x == aq "__debug__" || x == aq "__classdict__")=aj
 ·rw[aN O]at H;exact H.elim
 rw[aK O]at H;obtain J:=a0.kinds x;obtain Q:∀{k:Prop},(uI x ⟨F,Q,N⟩).run I (aL X z [] B h (RV X) D E)->(∀a v,G.cells.lookup x=ae a->h.IsCell a (ae v)->D v (sh z h W)->k)->k:=λH k=>by
  obtain⟨c,v,l,u,H⟩:=JK H;obtain⟨a,w,K⟩:=a0.cells x c l;obtain⟨_,L,M,rfl,S⟩:=JJ b0 u w;exact k a M K L (H _ _ _ _ (.refl _) b0 (.refl ..) _ S)
 cases V:cM U x with
 |none=>rw[V]at H;exact H.elim
 |some k=>
  rw[V]at H J;cases k with
  | «local»=>
   dsimp only at H;cases T:lI U x with
   |none=>rw[T]at H;exact H.elim
   |some i=>
    rw[T]at H;obtain⟨v,e,H⟩:=uY (show(P.opt (N[i]?.join)).run I _ from H);obtain⟨m,n,r⟩:=a0.ns;obtain⟨M,Z,S⟩:=r x i v V T (Option.join_eq_some_iff.mp e);exact wpAny_loadName_local a0.kind J n Z (H _ _ _ _ (.refl _) b0 (.refl ..) _ S)
  |cell=>exact Q H λa v K L q=>GP a0.kind J K L q
  |free=>
   refine Q H ?_;intro a;intros _ v _ K L q;rcases J with J |J
   ·exact GP a0.kind J K L q
   ·exact wpAny_loadName_free a0.kind J K L q (by rw[pP,not_or,pQ,pQ]at O;exact O.2)
  |globalExplicit=>exact H.elim
  |globalImplicit=>
   dsimp only at H;cases R:p9 x with
   |none=>rw[R]at H;exact H.elim
   |some v=>
    intros v _ R;rw[R]at H;obtain (⟨o,b,Y,j,r⟩):=C.gl;have q:aA (MX X) A (loadGlobal G x) D E (sh z h W):=by
     rcases r x v R with ⟨M,e,sv⟩ |⟨e0,M,e,sv⟩
     ·exact PySem.Calls.loadGlobal_global (by rw[a0.glob];exact b0.ns Y (by decide)) e (H _ _ _ _ (.refl _) b0 (.refl ..) _ (sv ..))
     ·exact PySem.Calls.loadGlobal_builtin (by rw[a0.glob];exact b0.ns Y (by decide)) e0 (by rw[a0.blt];exact b0.ns j (by decide)) e (H _ _ _ _ (.refl _) b0 (.refl ..) _ (sv ..))
    rw[loadName_read a0.kind J];exact q
def Cj (C:cn X)(b0:Inv X B I h)(a0:En X U G Q N B h)(x:au)(c0:fj):aW X A [] (RV X) B I h (eval (.Name x c0) G) (nH U x ⟨F,Q,N⟩):=by
 intro z W D E H;by_cases J:(x == aq "__debug__" || x == aq "__classdict__")=aj
 ·unfold nH at H;rw[aN J]at H;exact H.elim
 ·have Ck:=J;rw[pP,not_or,pQ,pQ]at Ck;exact wpAny_Name (Ci (F:=F) C b0 a0 x z W D E H) Ck.1
def Cm {a:Int}(h:a.natAbs < 2 ^ 62): -(2 ^ 64) < a/\a < 2 ^ 64:=by
 have k:(a.natAbs:Int) < 2 ^ 64:=iZ.2 (wH h (by decide:2 ^ 62 < 2 ^ 64));exact⟨GF (Ao k) (Int.neg_le_of_neg_le (Int.natAbs_neg a ▸ GQ)),GR GQ k⟩
def JL (h:0 < b/\b < 2 ^ 29):b.natAbs < 1073741824:=by
 obtain⟨n,rfl⟩:=Ap (Int.le_of_lt h.1);exact wH (iZ.1 h.2) (by decide:2 ^ 29 < 1073741824)
def Inv.not_modules (a0:Inv X B I h)(hm:a∈B):(a == sysModules)=az:=by
 rw[oi];intro e;obtain⟨o,D⟩:=a0.mods;have:=a0.new a hm;rw[e,D]at this;cases this
def ez {l:ah AV}(a0:Inv X B I h)(hi:I[i]? =ae (.list l))(ha:B[i]? =ae a):
  ∃(O:ah aw) (n:ak),IsL h a O.toArray n/\aT X B h l O/\O.length=l.length/\l.length<=10000:=by
 obtain⟨o,e,O,n,rfl,r,c⟩:=a0.obj i _ a hi ha;exact⟨O,n,e,r,r.length,c⟩
def gW {γ:Type}{g:ah AV->P γ}{p:Res γ->St->Prop}(hr:(lst i>>=g).run I p):∃l,I[i]? =ae (.list l)/\(g l).run I p:=by
 have B:(P.load i>>=λo=>(match o with |.list l=>P.pure l |_=>P.fail)>>=g).run I p:=hr;obtain⟨o,e,B⟩:=eV B;cases o with
 |list l=>exact⟨l,e,B⟩
 |_=>exact B.elim
def JM {l:ah AV}(a0:Inv X B I h)(r:aT X B h l V):aW X A [] (RV X) B I h (wD V) (cz l):=by
 intro z W Q E D;obtain⟨F,D⟩:=a6 D;have D:aL X z [] B h (RV X) Q E (.ok (.ref I.length)) (I++[.list l]):=D;refine oj ?_ (by rw[r.length];show l.length<=2 ^ 24;exact FI 0 4096 0 16777216 F rfl);refine D _ _ _ _ (.refl _) (a0.alloc (ao:=.list l) ⟨V,0,rfl,r,by exact FI 0 4096 0 10000 F rfl⟩ rfl) (Go.alloc ..) _ (.ref ?_);rw[<-a0.len];simp
def xR (a0:Inv X B I h)(o:Obj)(V:ah aw)(ho:o={ cls:=.type "tuple",data:=.seq V.toArray }):h.objs.size∉B/\X.ok h.objs.size/\(h.push o).get? h.objs.size=ae o/\rS o V.toArray:=by
 subst ho;refine⟨λE=>dP _ (a0.lt E),⟨λe=>?_,λF=>?_⟩,cV _ rfl,rfl,_,rfl⟩
 ·obtain⟨V,D,_⟩:=a0.tab;rw[<-e,eU]at D;cases D
 ·obtain⟨o,e⟩:=a0.gf _ F;rw[eU]at e;cases e
set_option tactic.hygienic true in theorem JN {l : ah AV} (a0 : Inv X B I h) (r : aT X B h l V) : aW X A [] (RV X) B I h (wC V) (oN l) := by
 intro z W Q E hr;cases r with
 |nil=>exact hr.elim
 |cons h1 r=>
  cases r with
  |nil=>exact hr.elim
  |cons h2 r=>
   cases r with
   |nil=>
    rename_i x v y w;refine m7 ?_ (by show 2<=2 ^ 24;decide);obtain⟨n1,n2,e,t⟩:=xR a0 _ [v,w] rfl;obtain S:=Go.push X [] B h { cls:=.type "tuple",data:=.seq [v,w].toArray };exact hr _ _ _ _ (.refl _) (a0.push _) S _ (.pair n1 n2 e t (h1.step S.step) (h2.step S.step))
   |cons h3 r=>
    cases r with
    |nil=>
     rename_i x v y w u w2;refine m7 ?_ (by show 3<=2 ^ 24;decide);obtain⟨n1,n2,e,t⟩:=xR a0 _ [v,w,w2] rfl;obtain S:=Go.push X [] B h { cls:=.type "tuple",data:=.seq [v,w,w2].toArray };exact hr _ _ _ _ (.refl _) (a0.push _) S _ (⟨⟨n1,n2,e,t⟩,h1.step S.step,h2.step S.step,h3.step S.step⟩)
    |cons h4 r=>exact hr.elim
theorem JO {op:jU}{w:aw}(a0:Inv X B I h)(hx:aF X B h x v)(hy:aF X B h y w):aW X A [] (RV X) B I h (binaryOp op v w) (gc op x y):=by
 intros _ z W Q E _ D;have mk:∀{i:Int},aL X z [] B h (RV X) Q E (.ok (.int i)) I->∀t K,Q (.int i t) (sh z h K):=λD t K=>D _ _ _ _ (.refl _) a0 (.refl ..) _ (.int ..);cases x with
 |int a=>
  intros a _ hx D;obtain (⟨t,rfl⟩):=hx;obtain⟨b,rfl,D⟩:=jl D;obtain (⟨u,rfl⟩):=hy;cases op with
  |Add=>exact PySem.P.add_int (mk D _ _)
  |Sub=>exact PySem.P.sub_int (mk D _ _)
  |Mult=>
   obtain⟨F,D⟩:=a6 D;exact PySem.P.mul_int (mk D _ _) (IntMulOk.of_left (intBits_le_64 (Cm F.1).1 (Cm F.1).2))
  |FloorDiv=>
   obtain⟨F,D⟩:=a6 D;exact floordiv_int (GS F.1) (mk D _ _) (.inl (GU (JL F)))
  |Mod=>
   obtain⟨F,D⟩:=a6 D;exact mod_int' (GS F.1) (mk D _ _)
  |Pow=>
   obtain⟨F,D⟩:=a6 D;exact pow_int_small F.1 (by lia) (by exact FI 1 4611686018427387904 1 18446744073709551616 F.2.2 rfl) (mk D _ _)
  |RShift=>
   obtain⟨F,D⟩:=a6 D;subst F;exact rshift_int (by decide) (mk D _ _)
  |_=>exact D.elim
 |str a=>
  intros a _ hx D;obtain (⟨t,rfl⟩):=hx;obtain⟨q,G⟩:=a6 D;clear D;subst q;obtain⟨b,q,D⟩:=xP G;clear G;subst q;obtain (⟨u,rfl⟩):=hy;obtain⟨F,D⟩:=a6 D;exact add_str (λK U=>D _ _ _ _ (.refl _) a0 (.refl ..) _ (.str ..)) (by show _<=2 ^ 24;exact FI 0 4096 0 16777216 F rfl)
 |ref i=>
  intros i _ hx D;obtain⟨e⟩:=hx;obtain⟨q,G⟩:=a6 D;clear D;subst q;obtain (⟨j,q,D⟩):=iw G;clear G;subst q;obtain⟨N⟩:=hy;obtain (⟨V,T,D⟩):=gW D;obtain (⟨R,Y,D⟩):=gW D;obtain⟨F,D⟩:=a6 D;obtain⟨H,l,k,Z,L,_⟩:=ez a0 T e;obtain⟨J,o,S,O,M,_⟩:=ez a0 Y N;refine PySem.P.add_list k S ?_ (by rw[cG,cG];show _<=2 ^ 24;lia);rw[GV];refine D _ _ _ _ (.refl _) (a0.alloc (ao:=.list (V++R)) ⟨H++J,0,rfl,Z.append O,by exact FI 0 4096 0 10000 F rfl⟩ rfl) (Go.alloc ..) _ (.ref ?_);rw[<-a0.len];simp
 |_=>exact D.elim
theorem uZ (a0:Inv X B I h)(hx:aF X B h x v):aW X A [] (RB X) B I h (truthy v) (eE x):=by
 intros _ z W Q E _ D;cases x with
 |none=>cases hx;exact truthy_none (D _ _ _ _ (.refl _) a0 (.refl ..) _ rfl)
 |bool b=>cases hx;exact qM (D _ _ _ _ (.refl _) a0 (.refl ..) _ rfl)
 |int i=>obtain⟨t,rfl⟩:=hx;exact PySem.P.truthy_int (D _ _ _ _ (.refl _) a0 (.refl ..) _ rfl)
 |str x=>
  obtain⟨t,rfl⟩:=hx;obtain⟨H,D⟩:=a6 D;refine PySem.P.truthy_str (by lia) (D _ _ _ _ (.refl _) a0 (.refl ..) _ ?_);rcases Nat.eq_zero_or_pos x.length with q |q
  ·rw[q];rfl
  ·rw[qS.mpr (by lia),qS.mpr (by lia)]
 |ref i=>
  intros i _ hx D;obtain⟨e⟩:=hx;obtain⟨o,i,D⟩:=eV D;cases o with
  |list l=>
   obtain⟨J,n,q,r,len,K⟩:=ez a0 i e;refine wpAny_truthy_list q.isList (by rw[cG];lia) (D _ _ _ _ (.refl _) a0 (.refl ..) _ ?_);cases l with
   |nil=>cases r;rfl
   |cons a b=>cases r;rfl
  |dict l=>
   obtain⟨o,G,F,d,r,c⟩:=a0.obj _ _ _ i e;refine wpAny_truthy_dict (knd:=mD X) (a0.not_modules (cD e)) (tF.mpr ⟨o,G,d⟩) (by rw[r.length];lia) (D _ _ _ _ (.refl _) a0 (.refl ..) _ ?_);cases r <;>rfl
  |_=>exact D.elim
 |_=>exact D.elim
def Ctx.step (K:Ctx X k U A l G Q N B I h)(b0:Inv X J Z H)(a0:Go X [] B h J H):Ctx X k U A l G Q N J Z H:=
 ⟨K.ok,K.ar.step a0,K.top,b0,K.en.step K.inv a0,K.code⟩
def JQ {l:aH}{op:jU}{a b:DE}(ha:HE X F k U l a)(hb:HE X F k U r b):HE X F k U (.BinOp l op r pos) (λrt=>do
   let x0 <-a rt
   let y0 <-b rt
   gc op x0 y0):=by
 intro A l G Q N B I h K z W D E M;refine wpAny_BinOp ?_;refine(ha K).then M λz1 V o m t1 x v Y j T J=>?_;refine(hb (K.step Y j)).then J λO u S h2 L y w f R Z H=>?_;exact JO f (T.step R.step) Z O L D E H
def JR {x:aH}{a:DE}(ha:HE X F k U x a):HE X F k U (.UnaryOp .Not x pos) (λrt=>do
   let v0 <-a rt
   let b0 <-eE v0
   P.pure (.bool !b0)):=by
 intro A l G Q N B I h K z W D E L;refine wpAny_UnaryOp ?_;refine(ha K).then L λf R Y j m x v S G1 O J=>?_;refine not_value ?_;refine(uZ S O).then J λb V M h2 u y w Z o T H=>?_;obtain rfl:y=w:=T;exact H _ _ _ _ (.refl _) Z (.refl ..) _ (.bool _)
def JS {x:aH}{a:DE}(ha:HE X F k U x a):HE X F k U (.UnaryOp .USub x pos) (λrt=>do
   let v0 <-a rt
   let i0 <-dF v0
   P.pure (.int (-i0))):=by
 intro A l G Q N B I h K z W D E L;refine wpAny_UnaryOp ?_;refine(ha K).then L λT R O S V x v J Y M H=>?_;obtain⟨i,rfl,H⟩:=jl H;obtain⟨t,rfl⟩:=M;exact PySem.P.neg_int (H _ _ _ _ (.refl _) J (.refl ..) _ (.int ..))
def JT {x y:aH}{a b:DE}(ha:HE X F k U x a)(hb:HE X F k U y b):HE X F k U (.BoolOp .And [x,y] pos) (λrt=>do
   let v0 <-a rt
   let c <-eE v0
   if c then b rt else P.pure v0):=by
 intro A l G Q N B I h K z W D E T;refine wpAny_And2 ?_;refine(ha K).then T λz1 Z f m t1 x v O u M J=>?_;refine(uZ O M).then J λV o Y h2 S y w R L j H=>?_;obtain rfl:y=w:=j;cases y with
 |true=>exact hb ((K.step O u).step R L) V S D E H
 |false=>exact H _ _ _ _ (.refl _) R (.refl ..) _ (M.step L.step)
def JU {x y:aH}{a b:DE}(ha:HE X F k U x a)(hb:HE X F k U y b):HE X F k U (.BoolOp .Or [x,y] pos) (λrt=>do
   let v0 <-a rt
   let c <-eE v0
   if c then P.pure v0 else b rt):=by
 intro A l G Q N B I h K z W D E T;refine wpAny_Or2 ?_;refine(ha K).then T λz1 Z f m t1 x v O u M J=>?_;refine(uZ O M).then J λV o Y h2 S y w R L j H=>?_;obtain rfl:y=w:=j;cases y with
 |true=>exact H _ _ _ _ (.refl _) R (.refl ..) _ (M.step L.step)
 |false=>exact hb ((K.step O u).step R L) V S D E H
def JV {t b o:aH}{cb co:DE}(ht:HT X F k U t ct)(hb:HE X F k U b cb)(ho:HE X F k U o co):HE X F k U (.IfExp t b o pos) (λrt=>do
   let c <-ct rt
   if c then cb rt else co rt):=by
 intro A l G Q N B I h K z W D E R;refine wpAny_IfExp ?_;refine(ht K).then R λL V T Y M x v J O S H=>?_;obtain rfl:x=v:=S;cases x with
 |true=>exact hb (K.step J O) L M D E H
 |false=>exact ho (K.step J O) L M D E H
def JW {x:aH}{a:DT}(ha:HT X F k U x a):HT X F k U (.UnaryOp .Not x pos) (λrt=>do
   let b0 <-a rt
   P.pure !b0):=by
 intro A l G Q N B I h K z W D E L;refine wpAny_isTrue_Not ?_;refine(ha K).then L λT R O S V x v J Y M H=>?_;obtain rfl:x=v:=M;exact H _ _ _ _ (.refl _) J (.refl ..) _ rfl
def JX {x y:aH}{a b:DT}(ha:HT X F k U x a)(hb:HT X F k U y b):HT X F k U (.BoolOp .And [x,y] pos) (λrt=>do
   let c <-a rt
   if c then b rt else P.pure az):=by
 intro A l G Q N B I h K z W D E L;refine Aq (GW ?_);refine(ha K).then L λM V T Y O x v J R S H=>?_;obtain rfl:x=v:=S;cases x with
 |true=>
  refine GW ?_;refine eB (hb (K.step J R) M O _ _ H) (λc Z q=>?_) λu u q=>q;cases c with
  |true=>exact wpAny_allTrue_And_nil q
  |false=>exact q
 |false=>exact H _ _ _ _ (.refl _) J (.refl ..) _ rfl
def JY {x y:aH}{a b:DT}(ha:HT X F k U x a)(hb:HT X F k U y b):HT X F k U (.BoolOp .Or [x,y] pos) (λrt=>do
   let c <-a rt
   if c then P.pure aj else b rt):=by
 intro A l G Q N B I h K z W D E L;refine Aq (tG ?_);refine(ha K).then L λM V T Y O x v J R S H=>?_;obtain rfl:x=v:=S;cases x with
 |true=>exact H _ _ _ _ (.refl _) J (.refl ..) _ rfl
 |false=>
  refine tG ?_;refine eB (hb (K.step J R) M O _ _ H) (λc Z q=>?_) λu u q=>q;cases c with
  |true=>exact q
  |false=>exact GX q
def JZ {x y w:aH}{a b c:DT}(ha:HT X F k U x a)(hb:HT X F k U y b)(hc:HT X F k U w c):HT X F k U (.BoolOp .Or [x,y,w] pos) (λrt=>do
   let u0 <-a rt
   if u0 then P.pure aj else do
    let v0 <-b rt
    if v0 then P.pure aj else c rt):=by
 intro A l G Q N B I h K z W D E T;refine Aq (tG ?_);refine(ha K).then T λz1 j o f t1 x v M O L J=>?_;obtain rfl:x=v:=L;cases x with
 |true=>exact J _ _ _ _ (.refl _) M (.refl ..) _ rfl
 |false=>
  refine tG ?_;refine(hb (K.step M O)).then J λV u Z h2 S x v R Y L H=>?_;obtain rfl:x=v:=L;cases x with
  |true=>exact H _ _ _ _ (.refl _) R (.refl ..) _ rfl
  |false=>
   refine tG ?_;refine eB (hc ((K.step M O).step R Y) V S _ _ H) (λc m q=>?_) λd d q=>q;cases c with
   |true=>exact q
   |false=>exact GX q
def J2 {a:DE}(ha:HE X F k U e a)(he:∀G whole,tu e G whole=(do let v0 <-whole;tH e.pos;ly [v0] (truthy v0))):HT X F k U e (λrt=>do
   let v0 <-a rt
   eE v0):=by
 intro A l G Q N B I h K z W D E L;refine wpAny_isTrue_value ?_ (he _ _);refine(ha K).then L λM T S V O x v J Y R H=>?_;exact uZ J R M O D E H
def kJ {a0:ah aH}(h:dg e=aj):jA (e :: a0) G=(az,eval e G) :: jA a0 G:=by
 cases e <;>first |rfl |cases h
def xS:∀(es:ah aH) (f:aH->DE) (pos:fj),(∀e∈es,HE X F k U e (f e))->(∀e∈es,dg e=az->f e=stuck)->
  ∀{A:d8} {l:ah bH} {G:bH} {Q:ah (au×ak)} {N:ah (ax AV)} {B:ah ay} {I:St} {h:aG},Ctx X k U A l G Q N B I h->
   aW X A [] (JA X) B I h (spliced (lA pos (jA es G))) (dG (es.map f) ⟨F,Q,N⟩):=by
 intro o;induction o with
 |nil=>
  intro f pos _ _ A l G Q N B I h K;exact λz W D E H=>As (H _ _ _ _ (.refl _) K.inv (.refl ..) _ .nil)
 |cons e es ih=>
  intro f pos S Y A l G Q N B I h K;intro z W D E H;cases T:dg e with
  |false=>
   obtain H:(f e ⟨F,Q,N⟩>>=λv=>dG (es.map f) ⟨F,Q,N⟩>>=λV=>P.pure (v :: V)).run I _:=H;rw[Y e (.head _) T]at H;exact H.elim
  |true=>
  refine Au ?_ (kJ T);refine(S e (.head _) K).then H λz1 w b0 h1 t1 x v b m u R=>?_;refine(ih f pos (λJ L=>S J (.tail _ L)) (λJ L=>Y J (.tail _ L)) (K.step b m)).then R λz2 a0 j h2 t2 xs V I2 Z O M=>?_;exact M _ _ _ _ (.refl _) I2 (.refl ..) _ (.cons (u.step Z.step) O)
def J3 {es:ah aH}(he:∀e∈es,HE X F k U e (f e))(hp:∀e∈es,dg e=az->f e=stuck):HE X F k U (.List es pos) (λrt=>do
   let l0 <-dG (es.map f) rt
   cz l0):=by
 intro A l G Q N B I h K z W D E M;refine List_ ?_;refine(xS es f pos he hp K).then M λO T S Y R j V L Z H J=>?_;exact JM L H O R D E J
def J4 {es:ah aH}(he:∀e∈es,HE X F k U e (f e))(hp:∀e∈es,dg e=az->f e=stuck):HE X F k U (.Tuple es n pos) (λrt=>do
   let l0 <-dG (es.map f) rt
   oN l0):=by
 intro A l G Q N B I h K z W D E M;refine Tuple_ ?_;refine(xS es f pos he hp K).then M λO T S Y R j V L Z H J=>?_;exact JN L H O R D E J
def J5 {o:AO}{l:ah AV}(h:listOf o=ae l):o= .list l:=by
 cases o with
 |list _=>exact bZ AO.list (dp h)
 |_=>exact gh h
def xT {f:AV->ax hV}{l:ah AV}(hf:∀x v d,aF X B h x v->f x=ae d->∃as,Reads h v d as/\d.canLay0=aj/\d.depth<=n)(r:aT X B h l V):
  ∀{ds:ah hV},c8 f l=ae ds->∃as,ReadsAll h V ds as/\PyData.canLayAll0 ds=aj/\GY ds<=n:=by
 induction r with
 |nil=>exact λe=>dp e ▸ ⟨[],.nil,rfl,cZ _⟩
 | @cons x v l _ L Q N=>
  intro F e;have e:(match f x,c8 f l with |some d,ae ds=>ae (d :: ds) |_,_=>ag)=ae F:=e;cases D:f x with
  |none=>rw[D]at e;cases e
  |some d=>
   rw[D]at e;cases E:c8 f l with
   |none=>rw[E]at e;cases e
   |some ds=>
    rw[E]at e;cases e;obtain⟨as,I,K,G⟩:=hf x _ d L D;obtain⟨M,J,H,O⟩:=N E;refine⟨as++M,.cons I J,?_,Nat.max_le.mpr ⟨G,O⟩⟩;unfold PyData.canLayAll0;rw[K,H];rfl
theorem u5 {l:ah AV}(hx:aF X B h x v)(e:gb x=ae l):∃a O,v= .ref a/\IsTup h a O.toArray/\aT X B h l O:=by
 cases x with
 |one=>obtain⟨⟨_,_,D,t⟩,hx⟩:=hx;cases e;exact⟨_,_,rfl,⟨_,D,t⟩,.cons hx .nil⟩
 |pair=>obtain⟨⟨_,_,D,t⟩,hx,E⟩:=hx;cases e;exact⟨_,_,rfl,⟨_,D,t⟩,.cons hx (.cons E .nil)⟩
 |dB=>obtain⟨⟨_,_,D,t⟩,hx,E,F⟩:=hx;cases e;exact⟨_,_,rfl,⟨_,D,t⟩,.cons hx (.cons E (.cons F .nil))⟩
 |_=>exact gh e
def Cn {d:hV}(hx:aF X B h x v)(e:uC x=ae d):∃as,Reads h v d as/\d.canLay0=aj/\d.depth<=n:=by
 cases x with
 |none=>cases hx;cases e;exact⟨[],.none,rfl,cZ _⟩
 |bool b=>cases hx;cases e;exact⟨[],.bool b,rfl,cZ _⟩
 |int i=>obtain⟨t,rfl⟩:=hx;cases e;exact⟨[],.int i t,rfl,cZ _⟩
 |str x=>
  obtain⟨t,rfl⟩:=hx;obtain⟨q,e⟩:=tI.mp e;cases e;exact⟨[],.str x t,q,cZ _⟩
 |_=>exact gh e
theorem qh (a0:Inv X B I h)(n:ak):∀(x:AV) (v:aw) (d:hV),aF X B h x v->a8 n I x=ae d->∃as,Reads h v d as/\d.canLay0=aj/\d.depth<=n:=by
 induction n with
 |zero=>exact λx v d D e=>Cn D e
 |succ n H=>
  intros n _ H;intro x v d D e;have e:(match gb x with |some l=>(c8 (a8 n I) l).map .tuple |none=>match refOf x with |some i=>(I[i]?.bind listOf).bind λl=>(c8 (a8 n I) l).map .list |none=>uC x)=ae d:=e;cases J:gb x with
  |some l=>
   rw[J]at e;obtain⟨N,G,rfl⟩:=jZ.mp e;obtain⟨a,O,rfl,⟨o,M,R,m,K⟩,r⟩:=u5 D J;obtain⟨as,r,c,d⟩:=xT H r G;exact⟨as,.tuple M R K r,c,Av d⟩
  |none=>
   rw[J]at e;cases F:refOf x with
   |none=>rw[F]at e;exact Cn D e
   |some i=>
    rw[F]at e;obtain q:=xQ F;subst q;obtain⟨L⟩:=D;obtain⟨l,E,e⟩:=qT.mp e;obtain⟨o,Q,E⟩:=qT.mp E;obtain⟨N,G,rfl⟩:=jZ.mp e;obtain q:=J5 E;subst q;obtain⟨S,m,q,r,_⟩:=ez a0 Q L;obtain⟨as,r,c,d⟩:=xT H r G;exact⟨_,.list q rfl rfl r,c,Av d⟩
def Co {d1 d2:ak}(hA:A.units+u<=9800)(h1:d1<=8):A.units+min d1 d2 < cLine:=by
 have:=tm d1 d2;show _ < 9900
 lia
def Cp {v:aw}{w:aw}(hA:A.units+u<=9800)(a0:Inv X B I h)(hx:aF X B h x v)(hy:aF X B h y w):
  aW X A [] (λc c b v=>v= .bool b) B I h (i5 .Eq v w) (lG x y)/\aW X A [] (λc c b v=>v= .bool !b) B I h (i5 .NotEq v w) (lG x y):=by
 have H:∀{p:Res aB->St->Prop},(lG x y).run I p->∃F G,a8 8 I x=ae F/\a8 8 I y=ae G/\p (.ok (bY F G)) I:=by
  intro p D;obtain D:(match a8 8 I x,a8 8 I y with |some x,ae y=>P.pure (bY x y) |_,_=>P.fail).run I p:=D;cases J:a8 8 I x with
  |none=>rw[J]at D;exact D.elim
  |some F=>
   cases T:a8 8 I y with
   |none=>rw[J,T]at D;exact D.elim
   |some G=>rw[J,T]at D;exact⟨F,G,rfl,rfl,D⟩
 constructor
 ·intro z W Q E D;obtain⟨F,G,S,K,D⟩:=H D;obtain⟨U,M,R,L⟩:=qh a0 8 x v F hx S;obtain⟨V,O,N,Y⟩:=qh a0 8 y w G hy K;exact SeqAt.compareEq_reads M O R N (Co hA L) (D _ _ _ _ (.refl _) a0 (.refl ..) _ rfl)
 ·intro z W Q E D;obtain⟨F,G,S,K,D⟩:=H D;obtain⟨U,M,R,L⟩:=qh a0 8 x v F hx S;obtain⟨V,O,N,Y⟩:=qh a0 8 y w G hy K;exact SeqAt.compareNe_reads M O R N (Co hA L) (D _ _ _ _ (.refl _) a0 (.refl ..) _ rfl)
def J6 {v:aw}{l:ah AV}(hA:A.units+u<=9800)(a0:Inv X B I h)(hx:aF X B h x v)(hi:I[i]? =ae (.list l))(ha:B[i]? =ae a):
  aW X A [] (λc c b v=>v= .bool b) B I h (i5 .In v (.ref a)) (xx x l):=by
 intro z W Q E D;obtain D:(match a8 8 I x,c8 (a8 8 I) l with |some d,ae H=>P.pure (H.any λy=>bY y d) |_,_=>P.fail).run I _:=D;cases F:a8 8 I x with
 |none=>rw[F]at D;exact D.elim
 |some d=>
  cases G:c8 (a8 8 I) l with
  |none=>rw[F,G]at D;exact D.elim
  |some H=>
   rw[F,G]at D;obtain⟨R,J,M,N⟩:=qh a0 8 x v d hx F;obtain⟨O,m,q,r,_⟩:=ez a0 hi ha;obtain⟨S,K,L,T⟩:=xT (qh a0 8) r G;refine SeqAt.in_list_reads (.list q rfl rfl (by simpa using K)) J L M ?_ (D _ _ _ _ (.refl _) a0 (.refl ..) _ rfl);have:=tm (GY H) d.depth;show _ < 9900
   lia
theorem J7 {b:ay}{i b0 k m:Int}{t1 t2 t3 t4:cK}{v':aw}{a0:aw->aD->Prop}(hu:A.units < cLine)(ha:IsTup s.heap a #[.int i t1,.int b0 t2,v])(hb:IsTup s.heap b #[.int k t3,.int m t4,v'])(c0:i=k->b0≠m)(h:a0 (.bool (if i=k then decide (b0 < m)else decide (i < k))) s):
  aA (aV prog w) A (i5 .Lt (.ref a) (.ref b)) a0 E s:=by
 show aA _ _ (tJ .Lt (.ref a) (.ref b)) a0 E s;have H:∀(P:PySem.Fin->aD->Prop) (A:d8),P (.done (.ret (.bool (if i=k then decide (b0 < m)else decide (i < k))))) s->aA (aV prog w) A (j2.«tuple.__lt__» ⟨[.ref a,.ref b],[]⟩) P E s:=by
  intros _ P A _ h;show aA _ _ (isInstance (.ref b) (.type "tuple")>>=_) _ _ s;refine wB (mc hb.typeIs isSubtype_tuple_tuple ?_);simp only[qU,ja,jb];refine wB (tupleItemsOf_ ha ?_);refine wB (tupleItemsOf_ hb ?_);refine wB ?_;refine wpAny_forIn_list _ (λB r F=>r.1=ag/\F=s/\(B=[(tK i t1,tK k t3),(.int b0 t2,.int m t4),(v,v')]\/(i=k/\B=[(tK b0 t2,tK m t4),(v,v')]))) _ ?_ ?_ _ _ ⟨rfl,rfl,.inl rfl⟩
  ·rintro⟨p,q⟩ B r F ⟨hr,rfl,hc |⟨rfl,hc⟩⟩
   ·cases hc;refine wB (tq ?_);by_cases D:i=k
    ·subst D;simp only[BEq.rfl,qU,ja,jb];exact aC ⟨rfl,rfl,.inr ⟨trivial,trivial⟩⟩
    ·rw[Aw D];simp only[GZ,jB];rw[aK D]at h;refine wB (gN ?_);refine wB (show aA _ _ (i5 .Lt (.int i t1) (.int k t3)) _ _ _ from PySem.P.lt_int ?_);exact wB (aC (aC (aC h)))
   ·cases hc;refine wB (tq ?_);obtain G:=c0 rfl;rw[Aw G];simp only[GZ,jB];rw[aN rfl]at h;refine wB (gN ?_);refine wB (show aA _ _ (i5 .Lt (.int b0 t2) (.int m t4)) _ _ _ from PySem.P.lt_int ?_);exact wB (aC (aC (aC h)))
  ·rintro⟨r1,r2⟩ F ⟨_,_,hc |⟨_,hc⟩⟩<;>cases hc
 refine wpAny_richCompare_same_room ha.typeIs hb.typeIs PySem.F.slot_tuple_lt ?_ hu;exact gw PySem.F.slot_tuple_lt ha.typeIs PySem.F.entry_tuple_lt (H _ _ ⟨_,rfl,by simp,h⟩) (PySem.F.args_tuple_lt_2 _ _)
def isStrOf_self (x:au)(t:cK):lr x (.str x t)=aj:=by simp[lr]
def r9 {k:au ⊕ Int}(hx:aF X B h x v)(hk:gC x=ae k):(mD X).is k v=aj/\v.scannable=aj:=by
 cases x with
 |int i=>obtain⟨t,rfl⟩:=hx;cases hk;exact⟨i7 rfl,rfl⟩
 |str s=>obtain⟨t,rfl⟩:=hx;cases hk;exact⟨isStrOf_self s t,rfl⟩
 |_=>exact gh hk
def kD.mem {xs:ah au}{es:ah (Int×aw)}{e:Int×aw}(r:kD X.w xs es)(he:e∈es):∃x t,x∈xs/\e=(lq X.w x,.str x t):=by
 induction r with
 |nil=>cases he
 |cons r E=>
  rcases bu.mp he with rfl |he
  ·exact⟨_,_,.head _,rfl⟩
  ·obtain⟨x,t,D,B⟩:=E he;exact⟨x,t,.tail _ D,B⟩
def kD.J8 {xs:ah au}{es:ah (Int×aw)}{x:au}(r:kD X.w xs es)(hx:x∈xs):∃t,(lq X.w x,qV x t)∈es:=by
 induction r with
 |nil=>cases hx
 |cons r B=>
  rcases bu.mp hx with rfl |hx
  ·exact⟨_,.head _⟩
  ·obtain⟨t,h⟩:=B hx;exact⟨t,.tail _ h⟩
theorem J9 {l:ah au}{es:aZ (Int×aw)}{t:gr}(e:h.get? a=ae o)(hx:o.ExactSet)(hd:o.data= .set es ep t)(r:B5 X.w l es t):
  h.SetOf (mD X) a (B' l) es.size:=by
 obtain⟨I,F,r,E,G,_⟩:=r;refine⟨o,es,ep,t,e,hx,hd,λe B=>?_,λk=>?_,wI G (by decide),E,rfl⟩
 ·obtain⟨x,W,_,rfl⟩:=r.mem B;exact⟨⟨.inl x,isStrOf_self x W,rfl⟩,rfl⟩
 ·cases k with
  |inl y=>
   show l.contains y=aj↔_;rw[Ax,<-F.mem_iff];constructor
   ·intro D;obtain⟨t,H⟩:=r.J8 D;exact⟨_,H,isStrOf_self _ t⟩
   ·rintro⟨e,B,D⟩;obtain⟨x,W,hx,rfl⟩:=r.mem B;rcases mC (show uP (.inl y) (qV x W)=aj from D)with ⟨y,t,q1,q⟩ |⟨i,t,q1,q⟩
    ·cases q;cases q1;exact hx
    ·cases q
  |inr i=>
   refine⟨λq=>Ay (show az=aj from q),?_⟩;rintro⟨e,B,D⟩;obtain⟨x,W,hx,rfl⟩:=r.mem B;rcases mC (show uP (.inr i) (qV x W)=aj from D)with ⟨y,t,q1,q⟩ |⟨i,t,q1,q⟩
   ·cases q1
   ·cases q
def xU {l:ah ((au ⊕ Int)×AV)}(a0:Inv X B I h)(hi:I[i]? =ae (.dict l))(ha:B[i]? =ae a):
  ∃kvs,h.DictOf (mD X) a kvs/\eS X B h l kvs/\l.length<=100:=by
 obtain⟨o,e,kvs,d,r,c⟩:=a0.obj i _ a hi ha;exact⟨kvs,tF.mpr ⟨o,e,d⟩,r,c⟩
def J' {a0:aw->aD->Prop}{x y:ay}{ox oy:Obj}(b0:x≠y)(hx:s.heap.get? x=ae ox)(hy:s.heap.get? y=ae oy)(c0:oy.cls≠ .type "tuple")(h:a0 (.bool az) s):
  aA M A (i5 .Is (.ref x) (.ref y)) a0 E s:=by
 exact wB (PySem.SeqAt.wpAny_isSame_ref_other' b0 hx hy c0 (aC h))
def xV {p:Int×Int}(e:nC x=ae p):∃c,x= .dB (.int p.1) (.int p.2) c:=by
 cases x with
 |dB a b c=>
  obtain⟨i,D,e⟩:=qT.mp e;obtain⟨j,B,rfl⟩:=jZ.mp e;exact⟨c,by rw[Cg D,Cg B]⟩
 |_=>exact gh e
def Cq (a0:Inv X B I h)(e:B[i]? =ae a):∃o,h.get? a=ae o/\o.cls≠ .type "tuple":=by
 have D:i < I.length:=a0.len ▸ (cF.mp e).1;obtain⟨o,E,b⟩:=a0.obj i _ a (cy D) e;exact⟨o,E,λq=>Ay (b.cls.symm.trans (bZ nK q))⟩
theorem Ka {w:aw}(hA:A.units+u<=9800)(a0:Inv X B I h)(hx:aF X B h x v)(hy:aF X B h y w):aW X A [] (lO X) B I h (i5 .Lt v w) (BQ x y):=by
 intros _ z W Q E _ D;have J:(BP (nC x) (nC y)).run I (aL X z [] B h (lO X) Q E)->aA (MX X) A (i5 .Lt v w) Q E (sh z h W):=by
  clear D;intro D;cases G:nC x with
  |none=>rw[G]at D;exact D.elim
  |some p=>
   intros p _ G;cases F:nC y with
   |none=>rw[G,F]at D;exact D.elim
   |some q=>
    intros q _ F;rw[G,F]at D;obtain⟨_,e⟩:=xV G;subst e;obtain⟨_,e⟩:=xV F;subst e;obtain⟨a,b⟩:=p;obtain⟨c,d⟩:=q;obtain⟨⟨_,_,e,t⟩,⟨_,rfl⟩,⟨_,rfl⟩,_⟩:=hx;obtain⟨⟨_,_,L,K⟩,⟨_,rfl⟩,⟨_,rfl⟩,_⟩:=hy;obtain D:(if a=c then (if b=d then P.fail else P.pure (decide (b < d)))else P.pure (decide (a < c)):P aB).run I (aL X z [] B h (lO X) Q E):=D;refine J7 (by show _ < 9900;lia) ⟨_,e,t⟩ ⟨_,L,K⟩ (λq=>?_) ?_
    ·rw[aN q]at D;intro H;rw[aN H]at D;exact D
    ·by_cases q:a=c
     ·rw[aN q]at D |-;by_cases H:b=d
      ·rw[aN H]at D;exact D.elim
      ·rw[aK H]at D;exact D _ _ _ _ (.refl _) a0 (.refl ..) _ rfl
     ·rw[aK q]at D |-;exact D _ _ _ _ (.refl _) a0 (.refl ..) _ rfl
 cases x with
 |int a=>
  obtain⟨t,rfl⟩:=hx;obtain⟨b,q,D⟩:=jl D;subst q;obtain⟨u,rfl⟩:=hy;exact PySem.P.lt_int (D _ _ _ _ (.refl _) a0 (.refl ..) _ rfl)
 |_=>exact J D
theorem Kb {l:ah AV}(hx:aF X B h x v)(e:gb x=ae l):∃a o,v= .ref a/\a∉B/\h.get? a=ae o:=by
 cases x with
 |one=>obtain⟨⟨n,_,D,_⟩,_⟩:=hx;exact⟨_,_,rfl,n,D⟩
 |pair=>obtain⟨⟨n,_,D,_⟩,_⟩:=hx;exact⟨_,_,rfl,n,D⟩
 |dB=>obtain⟨⟨n,_,D,_⟩,_⟩:=hx;exact⟨_,_,rfl,n,D⟩
 |_=>exact gh e
set_option tactic.hygienic true in theorem Kc {w : aw} (a0 : Inv X B I h) (hx : aF X B h x v) (hy : aF X B h y w) : aW X A [] (lO X) B I h (i5 .Is v w) (isA x y) := by
 intro z W Q E hr;cases y with
 |none=>
  cases hy;refine PySem.is_none ?_;have key:(v == dq)=xy x:=by
   cases x with
   |none=>cases hx;rfl
   |int i=>obtain⟨t,rfl⟩:=hx;rfl
   |str i=>obtain⟨t,rfl⟩:=hx;rfl
   |bool i=>cases hx;rfl
   |ty i=>cases hx;rfl
   |bi i=>cases hx;rfl
   |_=>cases hx;rfl
  rw[key];exact hr _ _ _ _ (.refl _) a0 (.refl ..) _ rfl
 |ref j=>
  obtain⟨e'⟩:=hy;rename_i b;obtain⟨o2,e2,nt⟩:=Cq a0 e';cases hq:refOf x with
  |some i=>
   obtain q:=xQ hq;subst q;obtain⟨e⟩:=hx;rename_i a;obtain hr:aL X z [] B h (lO X) Q E (.ok (i == j)) I:=hr;by_cases q:i=j
   ·subst q;rw[e]at e';cases e';exact wpAny_is_ref_self (hr _ _ _ _ (.refl _) a0 (.refl ..) _ (by simp))
   ·obtain Kd:a≠b:=λq'=>by
     subst q';obtain h3:=cF.mp e;obtain h4:=cF.mp e';exact q ((wG a0.nodup).mp (h3.2.trans h4.2.symm))
    obtain⟨o1,e1,ni⟩:=Cq a0 e;exact wpAny_is_ref_other Kd e1 e2 ni (hr _ _ _ _ (.refl _) a0 (.refl ..) _ (by rw[Aw q]))
  |none=>
   have hr:(P.opt (gb x)>>=λu=>P.pure az).run I (aL X z [] B h (lO X) Q E):=by
    unfold isA at hr;rw[hq]at hr;exact hr
   obtain⟨p,ek,hr⟩:=c9 hr;obtain⟨a,o,q,n1,e⟩:=Kb hx ek;subst q;exact J' (λq=>n1 (q ▸ cD e')) e e2 nt (hr _ _ _ _ (.refl _) a0 (.refl ..) _ rfl)
 |ty n=>
  cases hy;cases x with
  |ty m=>
   cases hx;obtain hr:aL X z [] B h (lO X) Q E (.ok (m == n)) I:=hr;refine wpAny_is_plain rfl ?_;have e:(lB m == lB n)=(m == n):=by rw[qW];simp
   rw[e];exact hr _ _ _ _ (.refl _) a0 (.refl ..) _ rfl
  |_=>exact hr.elim
 |_=>exact hr.elim
def Ke {w:aw}(hA:A.units+u<=9800)(a0:Inv X B I h)(hx:aF X B h x v)(hy:aF X B h y w):aW X A [] (lO X) B I h (i5 .In v w) (BR x y):=by
 intro z W Q E D;cases y with
 |ref i=>
  obtain⟨e⟩:=hy;obtain⟨o,J,D⟩:=eV D;cases o with
  |list l=>exact J6 hA a0 hx J e z W Q E D
  |dict l=>
   obtain⟨k,F,D⟩:=c9 D;obtain⟨G,d,r,_⟩:=xU a0 J e;refine wpAny_in_of (r9 hx F).1 (a0.not_modules (cD e)) d.mapOf (D _ _ _ _ (.refl _) a0 (.refl ..) _ ?_);have:=r.get k;cases H:eF l k with
   |none=>rw[H]at this;rw[show valueAt G k=ag from this];rfl
   |some b=>rw[H]at this;obtain⟨_,e,_⟩:=this;rw[e];rfl
  |_=>exact D.elim
 |cL l=>
  obtain⟨⟨L,M,e,c,d,r⟩⟩:=hy;obtain⟨K,D⟩:=a6 D;obtain D:aL X z [] B h (lO X) Q E (.ok (inSet l x)) I:=D;obtain⟨k,F,Kf⟩:∃k,gC x=ae k/\B' l k=inSet l x:=by
   cases x with
   |int i=>exact⟨_,rfl,rfl⟩
   |str s=>exact⟨_,rfl,rfl⟩
   |_=>cases K
  obtain q:=r9 hx F;refine wpAny_inSet_of (knd:=mD X) (s:=sh z h W) q.1 q.2 (J9 e c d r) ?_;rw[Kf];exact D _ _ _ _ (.refl _) a0 (.refl ..) _ rfl
 |_=>exact D.elim
def Cr {w:aw}(hA:A.units+u<=9800)(a0:Inv X B I h)(hx:aF X B h x v)(hy:aF X B h y w):aW X A [] (lO X) B I h (i5 op v w) (dQ op x y):=by
 have G:∀{β:Type} {g:Int->Int->P β} {p:Res β->St->Prop},(dF x>>=λi=>dF y>>=λj=>g i j).run I p->∃i j t u,v= .int i t/\w= .int j u/\(g i j).run I p:=λD=>by
  obtain⟨i,q,F⟩:=jl D;clear D;subst q;obtain⟨j,q,H⟩:=jl F;clear F;subst q;obtain⟨t,K⟩:=hx;obtain⟨u,L⟩:=hy;exact⟨i,j,t,u,K,L,H⟩
 cases op with
 |Eq=>exact(Cp hA a0 hx hy).1
 |NotEq=>
  intro z W Q E D;refine(Cp hA a0 hx hy).2.then (show(lG x y>>=λb=>P.pure !b).run I _ from D) λS O N R T b v J U M F=>?_;exact F _ _ _ _ (.refl _) J (.refl ..) _ M
 |Lt=>exact Ka hA a0 hx hy
 |Gt=>
  intro z W Q E D;obtain⟨i,j,t,u,rfl,rfl,D⟩:=G D;exact PySem.P.gt_int (D _ _ _ _ (.refl _) a0 (.refl ..) _ rfl)
 |GtE=>
  intro z W Q E D;obtain⟨i,j,t,u,rfl,rfl,D⟩:=G D;exact PySem.P.ge_int (D _ _ _ _ (.refl _) a0 (.refl ..) _ rfl)
 |Is=>exact Kc a0 hx hy
 |In=>exact Ke hA a0 hx hy
 |_=>exact λz W Q E D=>D.elim
def Cs (h:iL r=aj):behindInMarks op r=az:=by
 cases r <;>first |rfl |cases h
def Kg {l:aH}{a b:DE}(ha:HE X F k U l a)(hb:HE X F k U r b):HE X F k U (.Compare l [op] [r] pos) (λrt=>do
   P.guard (iL r=aj)
   let x0 <-a rt
   let y0 <-b rt
   let c <-dQ op x0 y0
   P.pure (.bool c)):=by
 intro A l G Q N B I h K z W D E H;obtain⟨j,H⟩:=a6 H;refine wpAny_Compare1 ?_ (Cs j);refine(ha K).then H λz1 Z b0 h1 t1 x v o m Y M=>?_;refine(hb (K.step o m)).then M λz2 a0 V h2 t2 y w I2 T f L=>?_;refine(Cr K.ar.units I2 (Y.step T.step) f).then L λz3 R u h3 t3 c v S G3 O J=>?_;rw[show v= .bool c from O];exact J _ _ _ _ (.refl _) S (.refl ..) _ (.bool c)
def Kh {l:aH}{a b:DE}(ha:HE X F k U l a)(hb:HE X F k U r b):HT X F k U (.Compare l [op] [r] pos) (λrt=>do
   P.guard (iL r=aj)
   let x0 <-a rt
   let y0 <-b rt
   dQ op x0 y0):=by
 intro A l G Q N B I h K z W O E R;obtain⟨hq,R⟩:=a6 R;refine wpAny_isTrue_Compare1 ?_ (Cs hq);refine(ha K).then R λz1 a0 c0 h1 t1 x v I1 G1 m T=>?_;refine(hb (K.step I1 G1)).then T λu b0 f h2 Y y w I2 o ry S=>?_;refine Cr K.ar.units I2 (m.step o.step) ry u Y _ _ ((dQ op x y).mono (λr Z p=>?_) S);intro j J H t' M D L;obtain q:=p j J H t' M D L;cases r with
 |ok c=>exact λv V=>by rw[show v= .bool c from V];exact qM (q c rfl)
 |err e=>exact q
def Ki {l:ah AV}(e:gb x=ae l):l.length<=3:=by
 cases x <;>cases e <;>simp
def xW (h:uS e=az)(o i:aw):subscripted e az o i=operate [o,i] (getItem o i):=by
 cases e <;>first |rfl |cases h
theorem Kj {value b0:aH}{w:aw}(a0:Inv X B I h)(hs:uS b0=az)(hx:aF X B h x v)(hy:aF X B h y w):aW X A [] (RV X) B I h (Az value b0 v w) (ik x y):=by
 intros _ z W Q E _ D;unfold ik at D;cases K:refOf x with
 |none=>
  rw[K]at D;obtain (⟨j,q,D⟩):=jl D;subst q;obtain (⟨t,rfl⟩):=hy;obtain⟨N,D⟩:=a6 D;obtain (⟨l,f,D⟩):=c9 D;obtain⟨b,F,D⟩:=uY D;obtain⟨a,O,rfl,T,r⟩:=u5 hx f;obtain⟨M,H,G⟩:=r.get F;obtain R:j.toNat < O.length:=(cF.mp H).1;exact tL T.typeIs PySem.F.slot_tuple_getitem.lookup (getItem_tuple T (by lia) (by lia) (seqIndex_of N.1 (by rw[cG];exact(G9 N.1).1 R)) (by simpa using H) (D _ _ _ _ (.refl _) a0 (.refl ..) _ G)) (xW hs _ _)
 |some i=>
  intros i _ K;rw[K]at D;obtain q:=xQ K;subst q;obtain⟨e⟩:=hx;obtain⟨o,U,D⟩:=eV D;cases o with
  |list l=>
   obtain⟨j,q,D⟩:=jl D;subst q;obtain⟨t,rfl⟩:=hy;obtain⟨N,D⟩:=a6 D;obtain⟨b,F,D⟩:=uY D;obtain⟨Y,n,q,r,len,m⟩:=ez a0 U e;refine tL q.isList.typeIs PySem.F.slot_list_getitem.lookup ?_ (xW hs _ _);by_cases L:0<=j
   ·rw[aN L]at F;obtain⟨M,H,G⟩:=r.get F;exact wpAny_getItem_list q.isList L (by lia) (by simpa using H) (D _ _ _ _ (.refl _) a0 (.refl ..) _ G)
   ·rw[aK L]at F;by_cases S:0<=j+l.length
    ·rw[aN S]at F;obtain⟨M,H,G⟩:=r.get F;have J:(Y.toArray.size:Int)=l.length:=by rw[cG,len]
     exact wpAny_getItem_list_neg q.isList (by lia) (by rw[J];lia) (by lia) (by rw[J];simpa using H) (D _ _ _ _ (.refl _) a0 (.refl ..) _ G)
    ·rw[aK S]at F;exact gh F
  |dict l=>
   obtain⟨k,Z,D⟩:=c9 D;obtain⟨b,F,D⟩:=uY D;obtain⟨V,d,r,_⟩:=xU a0 U e;obtain q:=r.get k;rw[F]at q;obtain⟨M,u,G⟩:=q;exact tL d.mapOf.typeIs PySem.F.slot_dict_getitem.lookup (wpAny_getItem_of (r9 hy Z).1 d.mapOf u (D _ _ _ _ (.refl _) a0 (.refl ..) _ G)) (xW hs _ _)
  |_=>exact D.elim
def Kk {o i:aH}{a b:DE}(hs:uS i=az)(ha:HE X F k U o a)(hb:HE X F k U i b):HE X F k U (.Subscript o i pos) (λrt=>do
   let v0 <-a rt
   let w0 <-b rt
   ik v0 w0):=by
 intro A l G Q N B I h K z W D E M;refine AA ?_;refine(ha K).then M λz1 V f h1 t1 x v Y j T J=>?_;refine(hb (K.step Y j)).then J λO u S h2 L y w m R Z H=>?_;exact Kj m hs (T.step R.step) Z O L D E H
def Ct {o:ax AV}{γ:Type}{g:ax Int->P γ}{p:Res γ->St->Prop}(ho:rT X B h o v)(hr:(oO o>>=g).run I p):∃l:ax (Int×cK),v=om l/\(g (l.map (·.1))).run I p:=by
 cases o with
 |none=>exact⟨ag,ho,hr⟩
 |some x=>
  obtain⟨j,q,hr⟩:=jl (g:=λj=>P.pure (ae j)>>=g) hr;subst q;obtain⟨t,q⟩:=ho;exact⟨ae (j,t),q,hr⟩
def Cu (l:ax (Int×cK)):IsPart (om l) (l.map (·.1)):=by
 cases l with
 |none=>exact .none
 |some p=>exact .int _ _
def Cv {o:ax Int}(h:nD o=aj):∀a0,o=ae a0->0<=a0:=λa0 q=>by
 subst q;exact gx (Bool.and_eq_true_iff.mp h).1
def Kl (lo hi:ax Int)(n:ak)(h0:∀a0,lo=ae a0->0<=a0)(h1:∀a0,hi=ae a0->0<=a0):
  sliceBounds lo hi ag n=(((ix 0 n lo:ak):Int),((ix n n hi:ak):Int),1):=by
 have c:∀(o:ax Int) (d:ak),(∀a0,o=ae a0->0<=a0)->(match o with
   |none=>(d:Int)
   |some i=>let i:=if i < 0 then i+n else i;if (1:Int) > 0 then max 0 (min i n)else max (-1) (min i ((n:Int) - 1)))=((ix d n o:ak):Int):=λo d h=>by
  cases o with
  |none=>rfl
  |some a0=>
   dsimp only;rw[aK (Ha.mpr (h a0 rfl)),aN (by decide),Int.max_eq_right (Int.le_min.mpr ⟨h a0 rfl,wq n⟩)];obtain⟨m,rfl⟩:=Ap (h a0 rfl);show min (m:Int) n=((min m n:ak):Int);rcases Nat.le_total m n with c |c
   ·rw[m8 c,Int.min_eq_left (Hb.2 c)]
   ·rw[tM c,Int.min_eq_right (Hb.2 c)]
 exact qX (c lo 0 h0) (qX (c hi n h1) rfl)
def Km (O:ah aw)(lo hi:ax Int)(h0:∀a0,lo=ae a0->0<=a0)(h1:∀a0,hi=ae a0->0<=a0):
  slicePick O.toArray lo hi ag=((O.take (ix O.length O.length hi)).drop (ix 0 O.length lo)).toArray:=by
 unfold slicePick;rw[Kl lo hi _ h0 h1];dsimp only;rw[sliceRange_one,pick_run,List.drop_take];simp
def Kn {l:ah Int}(r:og V l):aT X B h (l.map .int) V:=by
 induction r with
 |nil=>exact .nil
 |cons i t _ D=>exact .cons (.int i t) D
def Cw {ve:aH}{ad:ay}{O:ah aw}{l:ah AV}{la lb:ax (Int×cK)}{hi:ax aH}(b0:Inv X B I h)(q:h.IsList ad O.toArray)(r:aT X B h l O)(h4:l.length<=10000):
  ∀z W a0 E,(uD l (la.map (·.1)) (lb.map (·.1))).run I (aL X z [] B h (RV X) a0 E)->aA (MX X) A (Az ve (.Slice lo hi ag p) (.ref ad) (.ref h.objs.size)) a0 E (sh z (h.push { cls:=.type "slice",data:=.fields #[om la,om lb,.none] }) W):=by
 intro z W a0 E D;obtain G:=Go.push X [] B h { cls:=.type "slice",data:=.fields #[om la,om lb,.none] };obtain⟨F,D⟩:=a6 D;obtain⟨H,D⟩:=a6 D;obtain len:=r.length;refine tL (q.push _).typeIs PySem.F.slot_list_getitem.lookup ?_ (ops:=[.ref h.objs.size,.ref ad]) rfl;refine wpAny_getItem_list_slice (q.push _) (VZ h _ _ _) (Cu la) (Cu lb) .none (by simp) ?_ (by rw[cG,len];show _<=2 ^ 24;exact FI 0 10000 0 16777216 h4 rfl);rw[Km O _ _ (Cv F.1) (Cv F.2),len];refine D _ _ _ _ (.refl _) ((b0.push _).alloc (ao:=.list _) ⟨_,0,rfl,((r.take _).drop _).step G.step,by exact FI 0 4096 0 10000 H rfl⟩ rfl) (G.trans (Go.alloc ..)) _ (.ref ?_);rw[<-b0.len];simp
theorem Ko {hi:ax aH}{ve:aH}{a b:ax AV}{va vb:aw}(a0:Inv X B I h)(hx:aF X B h x v)(ha:rT X B h a va)(hb:rT X B h b vb):
  ∀z W b0 E,(km x a b).run I (aL X z [] B h (RV X) b0 E)->aA (MX X) A (Az ve (.Slice lo hi ag p) v (.ref h.objs.size)) b0 E (sh z (h.push { cls:=.type "slice",data:=.fields #[va,vb,.none] }) W):=by
 intros _ z W b0 E _ hr;obtain (⟨la,ea,hr⟩):=Ct ha hr;obtain (⟨lb,eb,hr⟩):=Ct hb hr;subst ea eb;cases x with
 |ref i=>
  obtain⟨e⟩:=hx;obtain⟨l,gg,hr⟩:=gW hr;obtain⟨it,n,q,r,_,hl⟩:=ez a0 gg e;exact Cw a0 q.isList r hl z W b0 E hr
 |gR l=>
  obtain⟨⟨n1,n2,e,hl,hn⟩⟩:=hx;exact Cw a0 e (Kn hl) (by rw[aO];exact FI 0 4096 0 10000 hn rfl) z W b0 E hr
 |str s=>
  intros s _ hx hr;obtain⟨t,rfl⟩:=hx;obtain⟨hg,hr⟩:=a6 hr;obtain G:=Go.push X [] B h { cls:=.type "slice",data:=.fields #[om la,om lb,.none] };obtain hr:∀t' t,b0 (.str (lh s (la.map (·.1)) (lb.map (·.1))) t') (sh z _ t):=λt' t=>hr z B _ t (.refl _) (a0.push _) G _ (.str _ _);refine tL (T:="str") (pR _ s t) PySem.F.slot_str_getitem.lookup ?_ (ops:=[.ref h.objs.size,.str s t]) rfl;refine wpAny_getItem_str_slice (l:=la) (u:=lb) (st:=ag) ⟨_,cV _ rfl,rfl,rfl⟩ rfl ?_;unfold sliceMade;obtain e:lh s (la.map (·.1)) (lb.map (·.1))=if (((ag:ax (Int×cK)).map (·.1)).getD 1 == 1 && (slicePicked s la lb ag).length == s.length)=aj then s else ⟨((slicePicked s la lb ag).filterMap (s.cps[·]?)).toArray⟩:=rfl
  rw[e]at hr;split
  ·rename_i q;rw[aN q]at hr;exact hr _ _
  ·rename_i q;rw[aK q]at hr;refine⟨?_,hr _ _⟩;show(l8 _).size<=2 ^ 24;rw[cG];exact dW (dW (List.length_filterMap_le (s.cps[·]?) _) (sliceIndices_le (la.map (·.1)) (lb.map (·.1)) s.length)) (by exact FI 0 4096 0 16777216 hg rfl)
 |_=>exact hr.elim
def Cy (ha:∀e,lo=ae e->HE X F k U e (f e))(K:Ctx X k U A l G Q N B I h):
  aW X A [] (rT X) B I h (evalPart lo G) (ku (lo.map f) ⟨F,Q,N⟩):=by
 intro z W D E J;cases lo with
 |none=>exact aC (J _ _ _ _ (.refl _) K.inv (.refl ..) _ rfl)
 |some e=>
  rw[evalPart_some];refine(ha e rfl K).then J λT R O S V x v L Y M H=>?_;exact H _ _ _ _ (.refl _) L (.refl ..) _ M
def Kq {o:aH}{hi:ax aH}{a:DE}(ha:HE X F k U o a)(h1:∀e,lo=ae e->HE X F k U e (f e))(h2:∀e,hi=ae e->HE X F k U e (f e)):
  HE X F k U (.Subscript o (.Slice lo hi ag p) pos) (λrt=>do
    let v0 <-a rt
    let x0 <-ku (lo.map f) rt
    let y0 <-ku (hi.map f) rt
    km v0 x0 y0):=by
 intro A l G Q N B I h K z W D E hr;refine AA ?_;refine(ha K).then hr λz1 b0 d0 b t1 x v Y j rx S=>?_;refine wpAny_Slice ?_;refine(Cy h1 (K.step Y j)).then S λz2 O a0 R t2 y w I2 V Z L=>?_;refine(Cy h2 ((K.step Y j).step I2 V)).then L λz3 H c0 h3 t3 y' w' m u T J=>?_;have M:rT X H h3 y w:=by
  cases y with
  |none=>exact Z
  |some y=>exact aF.step u.step (show aF X O R y w from Z)
 rw[evalPart_none];exact aC (Ko (lo:=lo) (hi:=hi) (ve:=o) (p:=p) m ((rx.step V.step).step u.step) M T z3 t3 D E J)
def Go.keeps (X:Cx)(B:ah ay)(hk:∀b o,h.get? b=ae o->H.get? b=ae o)(ex:ah ay):Go X ex B h B H:=
 ⟨⟨λb o e=>⟨o,hk b o e⟩,⟨[],(fT _).symm,λu D=>nomatch D⟩,λb o e u u u=>⟨o,hk b o e,.refl ..⟩⟩,λb o e u f u=>⟨o,hk b o e,f⟩⟩
def Inv.keeps (a0:Inv X B I h)(hk:∀b o,h.get? b=ae o->H.get? b=ae o):Inv X B I H:=
 ⟨a0.len,a0.nodup,λi L a F E=>by
   obtain⟨D,G,b⟩:=a0.obj i L a F E;exact⟨D,hk _ _ G,b.step (Go.keeps X B hk []).step⟩,
  λb D e J=>hk _ _ (a0.base b D e J),a0.new,a0.gd,a0.mods,by obtain⟨V,e,c⟩:=a0.tab;exact⟨V,hk _ _ e,c⟩,λb K=>by obtain⟨o,e⟩:=a0.gf b K;exact⟨o,hk _ _ e⟩⟩
def Inv.frame (a0:Inv X B I h)(hL:L∉B)(hB:X.base.get? L=ag)(hs:fm L h H)(e:h.get? L=ae o)(f:gV o)(e':H.get? L=ae o')(f':gV o'):
  Inv X B I H/\Go X [L] B h B H:=by
 have G:Go X [L] B h B H:=by
  refine⟨⟨λb E D=>?_,⟨[],(fT _).symm,λu O=>nomatch O⟩,λb E D Y u W=>?_⟩,λb E D Y N u=>?_⟩
  ·by_cases q:b=L
   ·subst q;exact⟨_,e'⟩
   ·exact⟨E,(hs.2 b q).trans D⟩
  ·by_cases q:b=L
   ·subst q;rw[e]at D;cases D;obtain⟨S,j,d,_⟩:=f;exact absurd ⟨S,j,d⟩ (W (.head _))
   ·exact⟨E,(hs.2 b q).trans D,.refl ..⟩
  ·by_cases q:b=L
   ·subst q;exact⟨o',e',f'⟩
   ·exact⟨E,(hs.2 b q).trans D,N⟩
 obtain F:cJ≠L:=λq=>by obtain⟨o,e⟩:=a0.gd;rw[q,hB]at e;cases e
 refine⟨⟨a0.len,a0.nodup,λi T a K J=>?_,λb E D Z=>?_,a0.new,a0.gd,a0.mods,?_,λb A=>by obtain⟨o,e⟩:=a0.gf b A;exact G.step.there b o e⟩,G⟩
 ·obtain⟨U,M,R⟩:=a0.obj i T a K J;exact⟨U,(hs.2 a λq=>hL (q ▸ cD J)).trans M,R.step G.step⟩
 ·refine(hs.2 b λq=>?_).trans (a0.base b E D Z);rw[q,hB]at D;cases D
 ·obtain⟨V,Q,c⟩:=a0.tab;exact⟨V,(hs.2 cJ F).trans Q,c⟩
def Cz (n:h.Ns L m):∃o,h.get? L=ae o/\gV o:=by
 obtain⟨o,B,D,e,d,q,_⟩:=n;exact⟨o,e,B,D,d,q⟩
def En.Kr {c0:ah (ax AV)}{ex:ah ay}(a0:En X U G Q N B h)(b0:Go X ex B h J H)(hl:c0.length=U.names.length)(hn:∃m,H.Ns G.locals m/\∀x i v,cM U x=ae .local->lI U x=ae i->c0[i]? =ae (ae v)->∃v',m x=ae v'/\aF X J H v v'):En X U G Q c0 J H:=by
 refine⟨a0.kind,a0.glob,a0.blt,a0.kinds,hl,hn,?_,a0.ir,λx c F=>?_⟩
 ·obtain⟨m,n,_⟩:=a0.ns;obtain⟨o,I,K,e,_⟩:=n;exact b0.step.dt e a0.fY
 ·obtain⟨a,E,D⟩:=a0.cells x c F;exact⟨a,b0.step.iP E,D⟩
theorem xX (b0:Inv X B I h)(a0:En X U G Q N B h)(hx:aF X B h x v)(n:au):
  aW X A [G.locals] (RL X U G Q) B I h (qY G n v) (nameA U n x ⟨F,Q,N⟩):=by
 intros _ z W J E _ K;unfold nameA at K;have Z:=a0.kinds n;cases M:cM U n with
 |none=>rw[M]at K;exact K.elim
 |some kd=>
  rw[M]at K Z;cases kd with
  | «local»=>
   dsimp only at K;cases L:lI U n with
   |none=>rw[L]at K;exact K.elim
   |some i=>
    intros i _ L;rw[L]at K;have K:aL X z [G.locals] B h (RL X U G Q) J E (.ok (N.set i (ae x))) I:=K;obtain (⟨m,hn,r⟩):=a0.ns;refine wpAny_storeName_local Z hn ?_ (by rw[a0.kind];rfl);intros _ H _ O Y;obtain (⟨o,e,f⟩):=Cz hn;obtain (⟨o',e',f'⟩):=Cz O;obtain⟨T,D⟩:=b0.frame a0.fY a0.ir Y e f e' f';refine K _ _ _ _ (.refl _) T D () (a0.Kr D (by rw[eM];exact a0.len) ⟨_,O,?_⟩);intros _ y j w _ h1 S R;by_cases q:y=n
    ·subst q;rw[L]at S;cases S;have k:i < N.length:=by
      rw[a0.len];exact(An.mp L).1
     rw[l9 k]at R;cases R;exact⟨v,by simp,hx.step D.step⟩
    ·obtain u:i≠j:=λq'=>q (JH (q' ▸ S) L);rw[jz u]at R;obtain (⟨b,V,r1⟩):=r y j w h1 S R;exact⟨b,by simp[q,V],r1.step D.step⟩
  |cell=>
   dsimp only at K
   ·unfold kn at K;obtain (⟨c,V,K⟩):=c9 K;obtain (⟨o,e2,K⟩):=eV K;cases o with
    |cell w=>
     have K:aL X z [G.locals] B h (RL X U G Q) J E (.ok N) (I.set c (.cell (ae x))):=K;obtain⟨a,e3,e4⟩:=a0.cells n c V;obtain⟨ob,l,hc,b,d,_⟩:=b0.obj c _ a e2 e3;unfold storeName;rw[a0.kind,show G.kindOf n=ae .cell from Z];refine wB (wpAny_cellOf e4 ?_);unfold cellSet;refine bO (wpAny_load l ?_);rw[d];refine wpAny_update l ?_;obtain Y:fm a h (h.update a λo=>{ o with data:=.cell (ae v) }):=dY ..;obtain he:(h.update a λo=>{ o with data:=.cell (ae v) }).get? a=ae { ob with data:=.cell (ae v) }:=iH _ l rfl;obtain⟨T,D⟩:=b0.change e2 e3 Y he (b0:=.cell (ae x)) ⟨hc,_,rfl,.some hx⟩ [];exact K _ _ _ _ (.refl _) T (D.mono λg hm=>nomatch hm) () (a0.step b0 D)
    |_=>exact K.elim
  |_=>exact K.elim
def CA (K:Ctx X k U A l G Q N B I h)(hx:aF X B h x v)(n:au):
  aW X A [G.locals] (RL X U G Q) B I h (qY G n v) (nameA U n x ⟨F,Q,N⟩):=xX K.inv K.en hx n
def qi (e:aH)(es:ah aH)(G:bH)(h:dg e=aj):pS (e :: es) G=(az,lu e G) :: pS es G:=by
 cases e <;>first |rfl |cases h
theorem Ks (f:aH->DA):∀(es:ah aH),(∀e∈es,HA X F k U e (f e))->(∀e∈es,dg e=aj)->
  ∀{A:d8} {l:ah bH} {G:bH} {Q:ah (au×ak)} {N:ah (ax AV)} {B:ah ay} {I:St} {h:aG},Ctx X k U A l G Q N B I h->∀{xs:ah AV} {V:ah aw},aT X B h xs V->
   aW X A [G.locals] (RL X U G Q) B I h (assignInOrder ((pS es G).map (·.2)) V) (jf (es.map f) xs ⟨F,Q,N⟩):=by
 intro m;induction m with
 |nil=>
  intro _ _ A l G Q N B I h K _ _ L;cases L with
  |nil=>
   exact λz W D E H=>aC (H _ _ _ _ (.refl _) K.inv (.refl ..) () K.en)
  |cons _ _=>
   exact λz W D E H=>H.elim
 |cons e es ih=>
  intro Y Z A l G Q N B I h K _ _ L;cases L with
  |nil=>
   exact λz W D E H=>H.elim
  |cons hx w=>
   intro z W D E H;rw[qi e es G (Z e (.head _))];show aA _ _ (ly _ (lu e G _)>>=λv=>assignInOrder ((pS es G).map (·.2)) _) _ _ _;refine wB (eA ?_);refine(Y e (.head _) K hx).then H λo O S u t1 J v b j N1 T=>?_;obtain K1:Ctx X k U A l G Q J O S u:=⟨K.ok,K.ar.step j,K.top,b,N1,K.code⟩;exact ih (λM R=>Y M (.tail _ R)) (λM R=>Z M (.tail _ R)) K1 (w.step j.step) o t1 D E T
def Kt:∀(l:ah (aB×(aw->dn b8))),(∀p∈l,p.1=az)->l.findIdx? (·.1)=ag:=by
 intro l;induction l with
 |nil=>
  intro _;exact rfl
 |cons p l B=>
  intro h;rw[List.findIdx?_cons,h p (.head _),B λq D=>h q (.tail _ D)];rfl
def Ku:∀(es:ah aH) (G:bH),(∀e∈es,dg e=aj)->(∀p∈pS es G,p.1=az)/\(pS es G).length=es.length:=by
 intro l;induction l with
 |nil=>
  intro G _;exact⟨λu F=>(nomatch F),rfl⟩
 |cons e es H=>
  intro G h;rw[qi e es G (h e (.head _))];obtain⟨E,D⟩:=H G λq I=>h q (.tail _ I);refine⟨λp B=>?_,by simp[D]⟩;rcases bu.mp B with rfl |B
  ·rfl
  ·exact E p B
def assign_tuple {es:ah aH}{f:aH->DA}(ha:∀e∈es,HA X F k U e (f e)):HA X F k U (.Tuple es n pos) (λv rt=>do
   let l0 <-P.opt (gb v)
   P.guard (l0.length=es.length/\es.all dg=aj)
   jf (es.map f) l0 rt):=by
 intro A l G Q N B I h K x v w z W J E L;obtain⟨m,ex,L⟩:=c9 L;obtain⟨⟨M,S⟩,L⟩:=a6 L;have S:∀e∈es,dg e=aj:=bW.mp S;obtain⟨a,O,rfl,j,r⟩:=u5 w ex;obtain⟨Y,p2⟩:=Ku es G S;show aA _ _ (tH pos>>=λy=>unpack (.ref a) (pS es G)) _ _ _;refine wB (jC ?_);unfold unpack;rw[Kt _ Y,p2];refine wB (eA ?_);have T:es.length=O.toArray.size:=by rw[cG,r.length,M]
 rw[T];refine unpackItems_tuple K.ar.handled j λH R=>?_;have V:∀b o,h.get? b=ae o->H.get? b=ae o:=λb o e=>R b o (jV (gL e)) e;have D:=Go.keeps X B V [];obtain I':=K.inv.keeps V;refine Ks f es ha S (K.step I' D) (r.step D.step) z _ J E ((jf (es.map f) m ⟨F,Q,N⟩).mono (λr Z p=>p.shift (.refl _) (D.mono λy u=>nomatch u)) L)
def Kv (n:au)(a0:fj):HA X F k U (.Name n a0) (nameA U n):=by
 intro A l G Q N B I h K x v J z W D E H;exact assign_Name (CA (F:=F) K J n z W D E H)
def dD.refl (S C:ah ay)(h:aG):dD S C h h:=⟨λu o q=>⟨o,q⟩,λu o q u=>⟨o.slots,q,λu=>rfl⟩⟩
def dD.trans {S:ah ay}(x:dD S C h H)(y:dD S C H kl):dD S C h kl:=⟨λa o q=>by obtain⟨J,D⟩:=x.there a o q;exact y.there a J D,λa o q G=>by
 obtain⟨K,D,r⟩:=x.keep a o q G;obtain⟨B,E,I⟩:=y.keep a _ D G;exact⟨B,E,λF=>(I F).trans (r F)⟩⟩
def dD.update {S:ah ay}(ha:a∈C)(q:h.get? a=ae o)(f:Obj->Obj)(hf:(f o).isFreed=az):dD S C h (h.update a f):=by
 obtain D:fm a h (h.update a f):=dY ..;refine⟨λb B e=>?_,λb B e E=>⟨B.slots,(D.2 b λp=>E (p ▸ ha)).trans e,λu=>rfl⟩⟩;by_cases p:b=a
 ·subst p;exact⟨_,iH f q hf⟩
 ·exact⟨B,(D.2 b p).trans e⟩
def dD.push (S C:ah ay)(h:aG)(o:Obj):dD S C h (h.push o):=⟨λu B e=>⟨B,be _ e⟩,λu B e u=>⟨B.slots,be _ e,λu=>rfl⟩⟩
def dD.slots {S:ah ay}(x:Heap.SlotsOnly S h H):dD S C h H:=⟨λa o e=>by obtain⟨B,q⟩:=x.2.2 a o e;exact⟨_,q⟩,λa o e u=>by
 obtain⟨B,q⟩:=x.2.2 a o e;refine⟨B,q,λD=>?_⟩;have:=x.2.1 a D;rw[q,e]at this;exact bZ Obj.slots (dp this)⟩
def Frs.addr (F:Frs X l B h)(ha:a∈jL l):X.base.get? a=ag/\a∉B/\∃o,h.get? a=ae o/\gV o:=by
 obtain⟨G,D,E⟩:=List.mem_filterMap.mp ha;obtain⟨_,L,o,q,b,n,d,f⟩:=F G D;rw[E]at q;cases q;exact⟨b,n,o,d,f⟩
def Frs.fun (F:Frs X l B h):h.FunFrames X.base l:=by
 induction l with
 |nil=>trivial
 |cons G l H=>
  obtain⟨D,L,o,q,b,n,d,I,J,f,_⟩:=F G (.head _);exact⟨D,⟨L,o,q,b,d,λV p=>by rw[f]at p;cases p⟩,H λe E=>F e (.tail _ E)⟩
def dD.go {ex:ah ay}(F:dD (jL l) C h H)(R:Frs X l B h)(a0:Go X ex br h₀ B h)(hC:∀c∈C,h₀.get? c=ag):Go X ex br h₀ B H:=by
 refine⟨⟨λa o q=>?_,a0.step.ext,λa o q K L S=>?_⟩,λa o q K f b=>?_⟩
 ·obtain⟨J,I⟩:=a0.step.there a o q;exact F.there a J I
 ·obtain⟨J,I,k⟩:=a0.step.keep a o q K L S;obtain⟨M,D,r⟩:=F.keep a J I λE=>by rw[hC a E]at q;cases q
  refine⟨_,D,k.trans ?_⟩;by_cases E:a∈jL l
  ·obtain⟨b,n,T,d,f⟩:=R.addr E;rw[I]at d;cases d;exact .inr ⟨b,(by obtain⟨Q,N,d,_⟩:=f;exact⟨Q,N,d⟩),M,rfl⟩
  ·rw[r E];exact .inl rfl
 ·obtain⟨J,I,O⟩:=a0.fr a o q K f b;obtain⟨M,D,r⟩:=F.keep a J I λE=>by rw[hC a E]at q;cases q
  exact⟨_,D,O⟩
def dD.dK (F:dD (jL l) C h H)(R:Frs X l B h)(hC:∀c∈C,∀o,h.get? c=ae o->(∃V,o.data= .fields V)/\o.cls≠ .type "code"):gU X X.bad B B h H:=⟨λu u=>id,λa o E G e k=>by
 obtain⟨M,q,r⟩:=F.keep a o e λD=>by
  obtain⟨⟨L,d⟩,n⟩:=hC a D o e;exact n (k.nf d)
 rw[r λD=>by
  obtain⟨_,_,K,d,J,I,f,_⟩:=R.addr D;rw[e]at d;cases d;exact k.nd _ _ f]at q
 exact⟨E,G,q⟩⟩
def dD.step (F:dD (jL l) C h H)(R:Frs X l B h)(hC:∀c∈C,∀o,h.get? c=ae o->(∃V,o.data= .fields V)/\o.cls≠ .type "code")(r:aF X B h x v):aF X B H x v:=r.dK (F.dK R hC)
def dD.inv (F:dD (jL l) C h H)(a0:Inv X B I h)(R:Frs X l B h)(hC:∀c∈C,∀o,h.get? c=ae o->(∃V,o.data= .fields V)/\o.cls≠ .type "code")(b0:∀c∈C,c∉B)(hB:∀c∈C,X.base.get? c=ag):Inv X B I H:=by
 refine⟨a0.len,a0.nodup,λi O a N L=>?_,λb o q Q=>?_,a0.new,a0.gd,a0.mods,?_,λb S=>by obtain⟨o,e⟩:=a0.gf b S;exact F.there b o e⟩
 ·obtain⟨o,q,b⟩:=a0.obj i O a N L;obtain K:a∈B:=cD L;obtain⟨M,D,r⟩:=F.keep a o q λG=>b0 a G K;rw[r λE=>(R.addr E).2.1 K]at D;exact⟨o,D,b.dK (F.dK R hC)⟩
 ·obtain e:=a0.base b o q Q;obtain⟨M,D,r⟩:=F.keep b o e λG=>by rw[hB b G]at q;cases q
  rw[r λE=>by rw[(R.addr E).1]at q;cases q]at D;exact D
 ·obtain⟨V,e,c⟩:=a0.tab;obtain⟨T,J⟩:=a0.gd;obtain⟨M,D,r⟩:=F.keep cJ _ e λG=>by rw[hB _ G]at J;cases J
  rw[r λE=>by rw[(R.addr E).1]at J;cases J]at D;exact⟨V,D,c⟩
def dD.dR (F:dD (jL l) C h H)(R:Frs X l B h)(hC:∀c∈C,∀o,h.get? c=ae o->(∃V,o.data= .fields V)/\o.cls≠ .type "code"):Frs X l B H:=λG E=>by
 obtain⟨D,L,o,q,b,n,d,f⟩:=R G E;obtain⟨N,I,r⟩:=F.keep L o d λJ=>by
  obtain⟨⟨V,p⟩,_⟩:=hC L J o d;obtain⟨M,K,f,_⟩:=f;rw[p]at f;cases f
 exact⟨D,L,_,q,b,n,I,f⟩
def CB {l':ah bH}{e0:bH}{e:ay}{t:ak}{oe:Obj}{V:aZ aw}{head:aw}{f0:aB}{d0:b8->aD->Prop}(g0:A.frames=ae (e0 :: l'))(h0:e0.frame=G.frame)(hf:G.frame=ae L)(R:Frs X (e0 :: l') B h)(he:h.get? e=ae oe)(hd:oe.data= .fields V)(i0:1 < V.size)(hQ:∀H c0 oT ts,dD (jL (e0 :: l')) [e] h H->h.get? c0=ag->H.get? e=ae (oe.mapFields (·.setIfInBounds 1 (.ref c0)))->H.get? c0=ae oT->oT.cls= .type "traceback"->oT.data= .fields ts->3 < ts.size->d0 () (sh z H t)):
  aA (MX X) A (do let a0 <-frameOf G;let pl <-entryPlaceOf L f0;let b0 <-EntryCells.newEntry head a0 .none (bI L) .none pl;oo (.ref e) 1 b0) d0 E (sh z h t):=by
 obtain O:e∉jL (e0 :: l'):=λj=>by
  obtain⟨_,_,o,Y,k,u,f,_⟩:=R.addr j;rw[he]at Y;cases Y;rw[hd]at f;cases f
 refine wB ?_;unfold PySem.frameOf;refine bO (wpAny_frameEnvs g0 ?_);have S:((e0 :: l').dropWhile λx=>x.frame != G.frame)=e0 :: l':=by simp[List.dropWhile,h0]
 rw[S];unfold frameObject;refine bO (bO (wpAny_readyFrames_fun R.fun λD F=>aC ?_));rw[h0,hf];refine aC ?_;refine wB (wpAny_entryPlaceOf λpl U=>?_);unfold EntryCells.newEntry newFields;refine wB (qZ ?_ (U.sizeOk5 _ _ _ _ _));obtain K:D.get? e=ae oe:=(F.2.1 e O).trans he;obtain I:=be (h:=D) { cls:=.type "traceback",dict:=ag,data:=.fields ([head,.ref L,.none,bI L,.none]++(if pl.isEmpty then Hc 6 dq else pl)).toArray } K;refine tN I hd i0 ?_;obtain W:D.objs.size≠e:=Ah (gL K);obtain J:=m9 hd (·.setIfInBounds 1 (gu D.objs.size));obtain N:=iH (tO (·.setIfInBounds 1 (gu D.objs.size))) I (oq J);obtain M:=(AB (D.push { cls:=.type "traceback",dict:=ag,data:=.fields ([head,.ref L,.none,bI L,.none]++(if pl.isEmpty then Hc 6 dq else pl)).toArray })
  (tO (·.setIfInBounds 1 (gu D.objs.size))) (AD W)).trans (cV D rfl)
 refine hQ _ D.objs.size _ _ (((dD.slots F).trans (dD.push _ _ _ _)).trans (dD.update (.head _) I _ (oq J))) ?_ N M rfl rfl ?_
 ·cases q:h.get? D.objs.size with
  |none=>rfl
  |some o=>obtain⟨l,Z⟩:=F.2.2 _ o q;exact absurd (gL Z) (dP _)
 ·simp only[cG,bK,fq,q7];exact FI 5 0 4 0 AL rfl
def mE.exc {e:ay}{k:aI}(x:mE k e h₀ h):eT k e h₀ h:=by
 obtain⟨a,b,c,o,V,E,F,D,G,T,B,H,r⟩:=x;exact⟨a,b,c,o,V,E,F,D,G,.inr ⟨T,B,H,r⟩⟩
def u7 {ex:ah ay}(F:dD (jL l) C h H)(a0:Inv X B I h)(R:Frs X l B h)(c0:Inv X br jF h₀)(b0:Go X ex br h₀ B h)(hC:∀c∈C,∀o,h.get? c=ae o->(∃V,o.data= .fields V)/\o.cls≠ .type "code")(d0:∀c∈C,c∉B)(h0:∀c∈C,h₀.get? c=ag):
  kF X ex l I br h₀ B h H:=
 ⟨F.inv a0 R hC d0 λc D=>c0.ey (h0 c D),F.go R b0 h0,F.dR R hC,λu u r=>F.step R hC r,λa m n=>by
  obtain⟨o,E,K,q,d,r⟩:=n;obtain⟨L,J,_⟩:=F.keep a o q λD=>by
   obtain⟨⟨V,p⟩,_⟩:=hC a D o q;rw[p]at d;cases d
  exact⟨_,E,K,J,d,r⟩⟩
def kF.refl {ex:ah ay}(b0:Inv X B I h)(R:Frs X l B h)(a0:Go X ex br h₀ B h):kF X ex l I br h₀ B h h:=⟨b0,a0,R,λu u r=>r,λu u n=>n⟩
def kF.trans {ex:ah ay}(x:kF X ex l I br h₀ B h H)(y:kF X ex l I br h₀ B H kl):kF X ex l I br h₀ B h kl:=⟨y.inv,y.go,y.dR,λa b r=>y.vals a b (x.vals a b r),λa m n=>y.ns a m (x.ns a m n)⟩
def kF.en {ex:ah ay}(x:kF X ex l I br h₀ B h H)(a0:En X U G Q N B h):En X U G Q N B H:=
 ⟨a0.kind,a0.glob,a0.blt,a0.kinds,a0.len,by
  obtain⟨m,n,r⟩:=a0.ns;exact⟨m,x.ns _ _ n,λy i v J F D=>by obtain⟨E,L,K⟩:=r y i v J F D;exact⟨E,L,x.vals _ _ K⟩⟩,a0.fY,a0.ir,a0.cells⟩
theorem u9 {l':ah bH}{e0:bH}{e:ay}{ex:ah ay}{k:aI}{t:ak}{c0:b8->aD->Prop}(f0:A.frames=ae (e0 :: l'))(h0:e0.frame=G.frame)(hf:G.frame=ae L)(a0:Inv X B I h)(R:Frs X (e0 :: l') B h)(d0:Inv X br jF h₀)(b0:Go X ex br h₀ B h)(x:eT k e h₀ h)(hQ:∀H,kF X ex (e0 :: l') I br h₀ B h H->mE k e h₀ H->c0 () (sh z H t)):aA (MX X) A (noteFrame (.ref e) G) c0 E (sh z h t):=by
 obtain⟨Y,j,x3,oe,V,O,K,N,J,hx⟩:=x;have M:e∉B:=a0.xN O (by rw[K];exact j);have W:oe.cls≠ .type "code":=λq=>by rw[K.symm.trans q]at j;cases j
 unfold noteFrame;simp only[hf];rcases hx with h1 |⟨T,oT,l,h1,CC,CD,hT,sd,nO,xY⟩
 ·refine bO (e6 O N h1 ?_);rw[aK (by decide)];refine CB f0 h0 hf R O N (by exact FI 5 0 2 0 J rfl) λH T oT l F S e1 e2 f d2 s2=>hQ H ?_ ?_
  ·refine u7 F a0 R d0 b0 (λc K o q=>?_) (λc K=>?_) λc K=>?_ <;>cases aJ.mp K
   ·rw[O]at q;cases q;exact⟨⟨V,N⟩,W⟩
   ·exact M
   ·exact Y
  ·refine⟨Y,j,x3,_,_,e1,(tP _ _).trans K,m9 N (·.setIfInBounds 1 (gu T)),by simpa using J,T,oT,l,by simp[show 1 < V.size from by exact FI 5 0 2 0 J rfl],?_,λq=>?_,e2,f,d2,s2⟩
   ·cases q:h₀.get? T with
    |none=>rfl
    |some o=>obtain⟨o',w⟩:=b0.step.there T o q;rw[S]at w;cases w
   ·rw[q,O]at S;cases S
 ·refine bO (e6 O N h1 ?_);rw[aN (show(gu T != dq)=aj from by simp)];have u:T∉B:=a0.xN hT (by rw[sd];rfl);obtain⟨y,hy⟩:∃y,l[3]? =ae y:=⟨l[3],wJ xY⟩;refine bO (e6 hT nO hy ?_);by_cases hq:(y == bI L)=aj
  ·rw[aN hq];exact aC (hQ h (.refl a0 R b0) ⟨Y,j,x3,oe,V,O,K,N,J,T,oT,l,h1,CC,CD,hT,sd,nO,xY⟩)
  ·rw[aK hq];refine bO (tN hT nO xY ?_);have F1:dD (jL (e0 :: l')) [e,T] h (h.update T (tO (·.setIfInBounds 3 dq))):=dD.update (by simp) hT _ (oq (m9 nO _));have hC:∀c∈[e,T],∀o,h.get? c=ae o->(∃V,o.data= .fields V)/\o.cls≠ .type "code":=λc D o q=>by
    rcases bu.mp D with rfl |D
    ·rw[O]at q;cases q;exact⟨⟨V,N⟩,W⟩
    ·cases aJ.mp D;rw[hT]at q;cases q;exact⟨⟨l,nO⟩,by rw[sd];decide⟩
   have i0:∀c∈[e,T],c∉B:=λc D=>by
    rcases bu.mp D with rfl |D
    ·exact M
    ·cases aJ.mp D;exact u
   have j0:∀c∈[e,T],h₀.get? c=ag:=λc D=>by
    rcases bu.mp D with rfl |D
    ·exact Y
    ·cases aJ.mp D;exact CC
   have Z:=u7 F1 a0 R d0 b0 hC i0 j0;have U:(h.update T (tO (·.setIfInBounds 3 dq))).get? e=ae oe:=(AB _ _ CD).trans O;refine CB f0 h0 hf Z.dR U N (by exact FI 5 0 2 0 J rfl) λH b m g0 F S e1 e2 f d2 s2=>hQ H ?_ ?_
   ·refine Z.trans (u7 F Z.inv Z.dR d0 Z.go (λc K o q=>?_) (λc K=>?_) λc K=>?_)<;>cases aJ.mp K
    ·rw[U]at q;cases q;exact⟨⟨V,N⟩,W⟩
    ·exact M
    ·exact Y
   ·refine⟨Y,j,x3,_,_,e1,(tP _ _).trans K,m9 N (·.setIfInBounds 1 (gu b)),by simpa using J,b,m,g0,by simp[show 1 < V.size from by exact FI 5 0 2 0 J rfl],?_,λq=>?_,e2,f,d2,s2⟩
    ·cases q:h₀.get? b with
     |none=>rfl
     |some o=>obtain⟨o',w⟩:=Z.go.step.there b o q;rw[S]at w;cases w
    ·rw[q,U]at S;cases S
theorem se {e:ay}{ex:ah ay}{k:aI}{t:ak}{f:ax ay}{c0:b8->aD->Prop}(a0:Inv X B I h)(R:Frs X l B h)(d0:Inv X br jF h₀)(b0:Go X ex br h₀ B h)(x:mE k e h₀ h)(hQ:∀H,kF X ex l I br h₀ B h H->mE k e h₀ H->c0 () (sh z H t)):aA (MX X) A (setFlight (.ref e) f) c0 E (sh z h t):=by
 obtain⟨u,w,x3,U⟩:=x;obtain (⟨b,V,Z,J,j,W,S⟩):=U;obtain (⟨T,oT,m,Y,M,O,K,F,D,N⟩):=S;obtain L:T∉B:=a0.xN K (by rw[F];rfl);unfold setFlight;refine bO (e6 Z j Y ?_);rw[aN (show(gu T != dq)=aj from by simp)];refine tN K D N ?_;obtain oX:=m9 D (·.setIfInBounds 3 (f.elim dq λf=>bI f));obtain F1:dD (jL l) [T] h (h.update T (tO (·.setIfInBounds 3 (f.elim dq λf=>bI f)))):=dD.update (.head _) K _ (oq oX);refine hQ _ (u7 F1 a0 R d0 b0 (λc J o q=>?_) (λc J=>?_) λc J=>?_) ⟨u,w,x3,b,V,(AB _ _ O).trans Z,J,j,W,T,_,_,Y,M,O,iH _ K (oq oX),(tP _ _).trans F,oX,by simpa using N⟩
 ·cases aJ.mp J;rw[K]at q;cases q;exact⟨⟨m,D⟩,by rw[F];decide⟩
 ·cases aJ.mp J;exact L
 ·cases aJ.mp J;exact M
def Go.nil (a0:Go X [] B h J H)(ex:ah ay):Go X ex B h J H:=a0.mono λu D=>nomatch D
def aW.value {ex:ah ay}{α c0 β b0:Type}{R:ah ay->aG->β->α->Prop}{R':ah ay->aG->b0->c0->Prop}{a0:c0->aD->Prop}{t:dn α}{m:P β}{g:β->P b0}(h1:aW X A [] R B I h t m)(hr:(m>>=g).run I (aL X z ex B h R' a0 E)){Q':α->aD->Prop}(k:∀z' J Z H t' b a,Inv X J Z H->Go X [] B h J H->R J H b a->(g b).run Z (aL X z' ex J H R' a0 E)->Q' a (sh z' H t')):aA (MX X) A t Q' E (sh z h W):=by
 refine h1 z W Q' E (m.mono (λr Z y=>?_) (show m.run I _ from hr));intro z' J H t' F D S;cases r with
 |ok b=>exact λa G=>k z' J Z H t' b a D S G ((g b).mono (λu u p=>p.shift F (S.nil _)) y)
 |err k=>exact λe x=>y z' J H t' F D (S.nil _) e x
def aW.Kw {ex:ah ay}{α c0 β b0:Type}{R:ah ay->aG->β->α->Prop}{R':ah ay->aG->b0->c0->Prop}{a0:c0->aD->Prop}{t:dn α}{m:P β}{g:β->P b0}(h1:aW X A [] R B I h t m)(hr:(m>>=g).run I (aL X z ex B h R' a0 E)){Q':α->aD->Prop}(hE:∀{kx:aI} {Z:St},aL X z ex B h R' a0 E (.err kx) Z->aL X z ex B h R' a0 E' (.err kx) Z)(k:∀z' J Z H t' b a,Zs z z'->Inv X J Z H->Go X [] B h J H->R J H b a->(g b).run Z (aL X z' ex J H R' a0 E)->Q' a (sh z' H t')):aA (MX X) A t Q' E' (sh z h W):=by
 refine h1 z W Q' E' (m.mono (λr Z y=>?_) (show m.run I _ from hr));intro z' J H t' F D S;cases r with
 |ok b=>exact λa G=>k z' J Z H t' b a F D S G ((g b).mono (λu u p=>p.shift F (S.nil _)) y)
 |err k=>exact λe x=>hE y z' J H t' F D (S.nil _) e x
def aW.Kx {ex:ah ay}{α c0 β b0:Type}{R:ah ay->aG->β->α->Prop}{R':ah ay->aG->b0->c0->Prop}{a0:c0->aD->Prop}{t:dn α}{m:P β}{g:β->P b0}(h1:aW X A ex R B I h t m)(hr:(m>>=g).run I (aL X z ex B h R' a0 E)){Q':α->aD->Prop}(hE:∀{kx:aI} {Z:St},aL X z ex B h R' a0 E (.err kx) Z->aL X z ex B h R' a0 E' (.err kx) Z)(k:∀z' J Z H t' b a,Zs z z'->Inv X J Z H->Go X ex B h J H->R J H b a->(g b).run Z (aL X z' ex J H R' a0 E)->Q' a (sh z' H t')):aA (MX X) A t Q' E' (sh z h W):=by
 refine h1 z W Q' E' (m.mono (λr Z y=>?_) (show m.run I _ from hr));intro z' J H t' F D S;cases r with
 |ok b=>exact λa G=>k z' J Z H t' b a F D S G ((g b).mono (λu u p=>p.shift F S) y)
 |err k=>exact λe x=>hE y z' J H t' F D S e x
def Ctx.next {d0:ah (ax AV)}{ex:ah ay}(K:Ctx X k U A l G Q N B I h)(c0:Inv X J Z H)(b0:Go X ex B h J H)(a0:En X U G Q d0 J H):Ctx X k U A l G Q d0 J Z H:=⟨K.ok,K.ar.step b0,K.top,c0,a0,K.code⟩
def aL.vd {ex:ah ay}{s':St}{β α:Type}{R:ah ay->aG->β->α->Prop}{a0:α->aD->Prop}(K:Ctx X k U A l G Q N B I h){r:Res β}(p:aL X z ex B h R a0 E r s'):
  aL X z ex B h R a0 (ng (MX X) A G λe s'=>cameBackBy (MX X) A G E e s') r s':=by
 intro W J H Y Z D F;obtain q:=p W J H Y Z D F;cases r with
 |ok b=>exact q
 |err kx=>
  intro e x;obtain⟨f,l',rfl,M⟩:=K.top;obtain⟨L,hL⟩:∃L,G.frame=ae L:=by
   obtain⟨_,L,_,q,_⟩:=K.ar.dR f (.head _);exact⟨L,M ▸ q⟩
  obtain R':=K.ar.dR.step F;refine u9 (jF:=I) K.ar.frames M hL D R' K.inv F x λh1 O S=>?_;show aA (MX X) A (jc (.ref e) 1>>=λv=>_) _ _ _;obtain⟨a1,a2,a3,oe,V,b1,b2,u,b4,T,oT,ts,o,_⟩:=id S;refine bO (e6 b1 u o ?_);rw[aK (by simp)];refine se (jF:=I) O.inv O.dR K.inv O.go S λm j w=>?_;exact p W J m Y Z j.inv j.go e w.exc
def Ky (a0:fj):HS X F k U (.Pass a0) (λrt=>P.pure (.next,rt.loc)):=λA l G Q N B I h K z W D E H=>wpAny_Pass (H _ _ _ _ (.refl _) K.inv (.refl ..) _ ⟨.next,K.en⟩)
def Kz (a0:fj):HS X F k U (.Break a0) (λrt=>P.pure (.brk,rt.loc)):=λA l G Q N B I h K z W D E H=>wpAny_Break (H _ _ _ _ (.refl _) K.inv (.refl ..) _ ⟨.brk,K.en⟩)
def KA (a0:fj):HS X F k U (.Continue a0) (λrt=>P.pure (.cont,rt.loc)):=λA l G Q N B I h K z W D E H=>wpAny_Continue (H _ _ _ _ (.refl _) K.inv (.refl ..) _ ⟨.cont,K.en⟩)
def KC (ha:HE X F k U e d):HS X F k U (.Return (ae e) pos) (λrt=>do
   let v0 <-d rt
   P.pure (.ret v0,rt.loc)):=by
 intro A l G Q N B I h K z W D E L;refine Hd ?_;refine(ha K).value L λV S R T Y x v J M O H=>?_;exact H _ _ _ _ (.refl _) J (.refl ..) _ ⟨.ret O,K.en.step K.inv M⟩
def KD:iN X F k U [] (λrt=>P.pure (.next,rt.loc)):=λA l G Q N B I h K z W D E H=>q8 (H _ _ _ _ (.refl _) K.inv (.refl ..) _ ⟨.next,K.en⟩)
def CE (f:dy->DS):∀(ss:ah dy),(∀s∈ss,HS X F k U s (f s))->iN X F k U ss (ew f ss):=by
 intro l;induction l with
 |nil=>
  intro _;exact KD
 |cons s ss m=>
  intro O;intro A l G Q N B I h K z W D E R;refine tQ ?_;refine(O s (.head _) K).then R λj T o h1 u p fl J w S H=>?_;obtain⟨f1,M⟩:=p;obtain⟨V,L⟩:=S;cases V with
  |next=>exact m (λY Z=>O Y (.tail _ Z)) (K.next J w L) j u D E H
  |brk=>exact H _ _ _ _ (.refl _) J (.refl ..) _ ⟨.brk,L⟩
  |cont=>exact H _ _ _ _ (.refl _) J (.refl ..) _ ⟨.cont,L⟩
  |ret b=>exact H _ _ _ _ (.refl _) J (.refl ..) _ ⟨.ret b,L⟩
def KE {t:aH}{b o:ah dy}{cb co:DS}(ht:HT X F k U t ct)(hb:iN X F k U b cb)(ho:iN X F k U o co):HS X F k U (.If t b o pos) (λrt=>do
   let c <-ct rt
   if c then cb rt else co rt):=by
 intro A l G Q N B I h K z W D E R;refine wpAny_If ?_;refine(ht K).value R λM V T Y O x v L J S H=>?_;obtain rfl:x=v:=S;obtain CG:=J.nil [G.locals];cases x with
 |true=>exact hb (K.step L J) M O D E H
 |false=>exact ho (K.step L J) M O D E H
theorem KG {t:aH}{b:ah dy}{cb:DS}(ht:HT X F k U t ct)(hb:iN X F k U b cb)(n:ak):HS X F k U (.While t b [] pos) (λrt=>iK ct cb n rt):=by
 intros _ A l G Q N B I h _ K _ z W D E _ L;refine wpAny_While ?_;refine codeAny_whileLoop (λn s=>∃z B I h t N,s=sh z h t/\Ctx X k U A l G Q N B I h/\(iK ct cb n ⟨F,Q,N⟩).run I (aL X z [G.locals] B h (RS X U G Q) D E)) ?_ n ⟨z,B,I,h,W,N,rfl,K,L⟩;intros _ n s _ Y;obtain (⟨z,B,I,h,W,N,rfl,K,L⟩):=Y;cases n with
 |zero=>exact L.elim
 |succ n=>
  intros n _ L;have L:(ct ⟨F,Q,N⟩>>=λc=>if c=aj then (cb ⟨F,Q,N⟩>>=λp=>match p.1 with
    |.next |.cont=>iK ct cb n ⟨F,Q,p.2⟩
    |.brk=>P.pure (.next,p.2)
    |.ret v=>P.pure (.ret v,p.2))else P.pure (.next,N)).run I (aL X z [G.locals] B h (RS X U G Q) D E):=L
  refine(ht K).Kw L (λp=>p.vd K) λz1 a0 b0 h1 t1 x v Z1 w G1 m R=>?_;obtain rfl:x=v:=m;obtain S:=K.step w G1;cases x with
  |true=>
   refine(hb S).Kx R (λp=>p.vd S) λj O M o Z p fl Z2 V u f H=>?_;obtain⟨f1,J⟩:=p;obtain⟨rf,T⟩:=f;cases rf with
   |next=>exact⟨n,jD n,j,O,M,o,Z,J,rfl,S.next V u T,H⟩
   |cont=>exact⟨n,jD n,j,O,M,o,Z,J,rfl,S.next V u T,H⟩
   |brk=>exact H _ _ _ _ (.refl _) V (.refl ..) _ ⟨.next,T⟩
   |ret hx=>exact H _ _ _ _ (.refl _) V (.refl ..) _ ⟨.ret hx,T⟩
  |false=>exact q8 (R _ _ _ _ (.refl _) w (.refl ..) _ ⟨.next,S.en⟩)
def xZ (h:nG e=aj)(t:aH)(a0:ak)(G:bH):ou e (ae t) a0 G=pure az:=by
 cases e <;>first |rfl |cases h
def KH (h:nG e=aj)(a0:ak)(G:bH):ou e ag a0 G=pure az:=by
 cases e <;>first |rfl |cases h
def vf (h:kq e=az)(t:aH)(G:bH):swappedStores [t] e G=pure ag:=by
 cases t with
 |Tuple=>cases e <;>first |rfl |cases h
 |List=>cases e <;>first |rfl |cases h
 |_=>rfl
def dropped {a0:Flow->aD->Prop}(h:a0 .next s):aA (aV prog w) A (dropValue e pos v) a0 E s:=by
 exact wpAny_dropValue h
def KI (ha:HE X F k U e d):HS X F k U (.Expr e pos) (λrt=>do
   P.guard (nG e=aj)
   let _ <-d rt
   P.pure (.next,rt.loc)):=by
 intro A l G Q N B I h K z W D E H;obtain⟨T,H⟩:=a6 H;have M:interactive G=az:=by unfold interactive;rw[K.en.kind];rfl
 rw[exec_Expr G e pos M (KH T _ _)];refine wB (jC (wB ?_));refine(ha K).value H λY S R V Z x v L O j J=>?_;exact dropped (J _ _ _ _ (.refl _) L (.refl ..) _ ⟨.next,K.en.step K.inv O⟩)
def KL {t:aH}{a:DA}(hc:nG e=aj)(hd:HE X F k U e d)(ha:HA X F k U t a):HS X F k U (.Assign [t] e pos) (λrt=>do
   P.guard (kq e=az/\dg t=aj)
   let v0 <-d rt
   let a0 <-a v0 rt
   P.pure (.next,a0)):=by
 intro A l G Q N B I h K z W D E H;obtain⟨⟨V,Z⟩,H⟩:=a6 H;rw[wK];refine wB (jC ?_);show aA _ _ (ou e (ae t) pos.line G>>=_) _ _ _;rw[xZ hc];refine bO (aC ?_);rw[aK (by simp)];refine wB ?_;refine(hd K).value H λz1 T w o t1 x v Y j S L=>?_;rw[vf V];refine wB (aC ?_);rw[qi t [] G Z];show aA _ _ (lu t G v>>=λy=>pure Flow.next) _ _ _;refine wB ?_;refine(ha (K.step Y j) S).then L λm u R h2 f M y b G2 O J=>?_;exact aC (J _ _ _ _ (.refl _) b (.refl ..) _ ⟨.next,O⟩)
theorem KP {x:au}{np:fj}{op:jU}(hd:HE X F k U e d):HS X F k U (.AugAssign (.Name x np) op e pos) (λrt=>do
   P.guard (op= .Add\/op= .Sub)
   let o0 <-nH U x rt
   let i0 <-dF o0
   let v0 <-d rt
   let a0 <-dF v0
   let v0 <-gc op (.int i0) (.int a0)
   let b0 <-nameA U x v0 rt
   P.pure (.next,b0)):=by
 intros _ A l G Q N B I h _ K _ z W D E _ L;obtain⟨S,L⟩:=a6 L;refine wpAny_AugAssign_Name ?_;refine(Ci (F:=F) K.ok K.inv K.en x).value L λz1 c0 e0 h1 t1 y v Z b ry J=>?_;obtain⟨i,rfl,J⟩:=jl J;refine(hd (K.step Z b)).value J λY V R o t2 y w I2 G2 T H=>?_;obtain⟨a0,rfl,H⟩:=jl H;have K2:=(K.step Z b).step I2 G2;obtain⟨ta,rfl⟩:=ry;obtain⟨tb,rfl⟩:=T;have M:∀(n:Int) (t:cK) (W:ak),(nameA U x (.int n) ⟨F,Q,N⟩>>=λN=>P.pure (FL.next,N)).run R (aL X Y [G.locals] V o (RS X U G Q) D E)->
   aA (MX X) A (qY G x (.int n t)) (λa=>D .next) E (sh Y o W):=by
  intro n t W L;refine(CA (F:=F) K2 (.int n t) x).then L λz3 f d0 h3 t3 u a m G3 N3 O=>?_;exact O _ _ _ _ (.refl _) m (.refl ..) _ ⟨.next,N3⟩
 rcases S with rfl |rfl
 ·exact PySem.P.iadd_int (M _ _ _ H)
 ·exact PySem.P.isub_int (M _ _ _ H)
def Go.field {ex:ah ay}{c:ay}{V:aZ aw}(a0:Go X ex B h J H)(e:h.get? c=ae o)(d:o.data= .fields V)(n:c∉B)(ht:c≠cJ)(hx:c∉ex):H.get? c=ae o:=by
 obtain⟨I,D,k⟩:=a0.step.keep c o e n ht λE=>absurd E hx;rw[k.exact λF K q=>by rw[d]at q;cases q]at D;exact D
def Go.seq {ex:ah ay}{c:ay}{V:aZ aw}{m:ak}(a0:Go X ex B h J H)(e:h.get? c=ae o)(d:o.data= .seq V m)(n:c∉B)(ht:c≠cJ):H.get? c=ae o:=by
 obtain⟨F,D,k⟩:=a0.step.keep c o e n ht λu=>JG d;rw[k.exact λE I q=>by rw[d]at q;cases q]at D;exact D
def Inv.gX {c:ay}(a0:Inv X B I h)(b:X.base.get? c=ag):c≠cJ:=λq=>by obtain⟨o,e⟩:=a0.gd;rw[<-q,b]at e;cases e
def bP.step {ex:ah ay}(r:bP X B h own ai it)(b0:Inv X B I h)(a0:Go X ex B h J H)(hx:∀c∈own,c∉ex):bP X J H own ai it:=by
 cases r with
 |list e D n b=>
  obtain⟨o,E,c,d⟩:=D;exact .list (a0.step.iP e) ⟨o,a0.field E d n (b0.gX b) (hx _ (.head _)),c,d⟩ (a0.step.dt E n) b
 |range D n b=>exact .range (a0.field D rfl n (b0.gX b) (hx _ (.head _))) (a0.step.dt D n) b
 |obj e=>exact .obj (a0.step.iP e)
def ya {it l:ay}{O:_}{x:aw}{a0:ax aw->aD->Prop}(ho:s.heap.get? it=ae o)(hc:o.cls= .type "list_iterator")(hd:o.data= .fields #[.ref l,.int i 0])(hl:s.heap.IsList l O)(hx:O[i]? =ae x)(hQ:∀H o',H.get? it=ae o'->o'.cls= .type "list_iterator"->o'.data= .fields #[.ref l,.int (i+1:ak) 0]->fm it s.heap H->a0 (ae x) { s with heap:=H }):
  aA (aV prog w) A (ow (.ref it) (aq "__next__")) a0 E s:=by
 obtain B:s.heap.IsListIter it l i:=⟨o,ho,hc,hd⟩;obtain⟨G,F,_,I,D⟩:=hl;refine nh (name:=aq "__next__") B.typeIs j3
  (gw j3 B.typeIs AE ?_ (AF _))
 show aA _ _ (jc (.ref it) 0>>=_) _ _ s;refine wB (e6 ho hd (x:=.ref l) rfl ?_);show aA _ _ (if (gu l == dq)=aj then _ else _) _ _ s;rw[aK (show ¬ ((gu l == dq)=aj) from jd)];show aA _ _ (jc (.ref it) 1>>=_) _ _ s;refine wB (e6 ho hd (x:=.int i 0) rfl ?_);show aA _ _ (q9 (.ref l)>>=_) _ _ s;refine bO (j4 F D ?_);simp only[eD,hx];refine bO (tN ho hd (by simp) (aC ⟨x,rfl,hQ _ _ (iH _ ho (oq (m9 hd _))) ((tP ..).trans hc) ?_ (dY ..)⟩));rw[m9 hd];simp[bI]
def vg {α:Type}{a0:α->aD->Prop}(hh:A.handled=ag)(hE:∀H e,(∀b o,s.heap.get? b=ae o->H.get? b=ae o)->s.heap.get? e=ag->(∃o,H.get? e=ae o/\o.cls= .type "StopIteration")->E (.ref e) { s with heap:=H }):
  aA (aV prog w) A (wL (.type "StopIteration") []>>=λe=>(AG e:dn α)) a0 E s:=by
 refine wB ?_;simp only[wL,wC];refine wB (qZ ?_ (by size_fits));refine wB (m:=He _ _) (nj (a:=dq) (by first |rfl |(simp only[He];rfl)) ?_);refine qZ ?_ (by size_fits);unfold raiseNew;refine wB (wpAny_handled ?_);rw[hh];refine wB (aC (tR ?_));refine hE _ _ (λb o e=>be _ (be _ e)) ?_ ⟨_,cV _ rfl,rfl⟩;cases q:s.heap.get? _ with
 |none=>rfl
 |some o=>exact absurd (gL (be _ q)) (dP _)
def yb {o:Obj}{it l:ay}{O:_}{a0:ax aw->aD->Prop}(hh:A.handled=ag)(ho:s.heap.get? it=ae o)(hc:o.cls= .type "list_iterator")(hd:o.data= .fields #[.ref l,.int i 0])(hl:s.heap.IsList l O)(hx:O[i]? =ag)(hE:∀h₁ H e o',h₁.get? it=ae o'->o'.cls= .type "list_iterator"->o'.data= .fields #[.none,.int i 0]->fm it s.heap h₁->(∀b o,h₁.get? b=ae o->H.get? b=ae o)->h₁.get? e=ag->(∃o,H.get? e=ae o/\o.cls= .type "StopIteration")->E (.ref e) { s with heap:=H }):
  aA (aV prog w) A (ow (.ref it) (aq "__next__")) a0 E s:=by
 obtain B:s.heap.IsListIter it l i:=⟨o,ho,hc,hd⟩;obtain⟨G,F,_,I,D⟩:=hl;refine nh (name:=aq "__next__") B.typeIs j3
  (gw j3 B.typeIs AE ?_ (AF _))
 show aA _ _ (jc (.ref it) 0>>=_) _ _ s;refine wB (e6 ho hd (x:=.ref l) rfl ?_);show aA _ _ (if (gu l == dq)=aj then _ else _) _ _ s;rw[aK (show ¬ ((gu l == dq)=aj) from jd)];show aA _ _ (jc (.ref it) 1>>=_) _ _ s;refine wB (e6 ho hd (x:=.int i 0) rfl ?_);show aA _ _ (q9 (.ref l)>>=_) _ _ s;refine bO (j4 F D ?_);simp only[eD,hx];refine bO (gN (bO (tN ho hd (by simp) ?_)));exact vg (show A.in1.handled=ag from hh) λH e a b c=>hE _ H e _ (iH _ ho (oq (m9 hd _))) ((tP ..).trans hc) (by rw[m9 hd];simp) (dY ..) a b c
def CI {o:Obj}{it:ay}{a0:ax aw->aD->Prop}{V:aZ aw}(hh:A.handled=ag)(ho:s.heap.get? it=ae o)(hc:o.cls= .type "list_iterator")(hd:o.data= .fields V)(h0:V[0]? =ae .none)(hE:∀H e,(∀b o,s.heap.get? b=ae o->H.get? b=ae o)->s.heap.get? e=ag->(∃o,H.get? e=ae o/\o.cls= .type "StopIteration")->E (.ref e) { s with heap:=H }):
  aA (aV prog w) A (ow (.ref it) (aq "__next__")) a0 E s:=by
 have B:s.TypeIs (.ref it) "list_iterator":=⟨_,ho,hc⟩;refine nh (name:=aq "__next__") B j3
  (gw j3 B AE ?_ (AF _))
 show aA _ _ (jc (.ref it) 0>>=_) _ _ s;refine wB (e6 ho hd (x:=.none) h0 ?_);show aA _ _ (if (dq == dq)=aj then _ else _) _ _ s;rw[aN (by rfl)];refine wB (gN ?_);exact wB (vg (show A.in1.handled=ag from hh) hE)
def KQ {it:ay}{x b0 step:Int}{a0:ax aw->aD->Prop}(c0:tw s.heap it x b0 step)(d0:0 < b0)(hQ:∀H,tw H it (x+step) (b0 - 1) step->fm it s.heap H->a0 (ae (.int x s.toks)) { s with heap:=H,toks:=s.toks+1 }):
  aA (aV prog w) A (ow (.ref it) (aq "__next__")) a0 E s:=by
 obtain B:s.TypeIs (.ref it) "range_iterator":=⟨_,c0,rfl⟩;refine nh (name:=aq "__next__") B F.slot_range_iterator_next
  (nk F.slot_range_iterator_next B F.entry_range_iterator_next (F.args_range_iterator_next_1 _) (AutoRange.range_iterator___next___range_iterator_1 it x b0 step (by lia)) ⟨c0,?_⟩)
 exact hQ _ (iH _ (iH _ c0 rfl) rfl) ((dY ..).trans (dY ..))
def KR {it:ay}{x b0 step:Int}{a0:ax aw->aD->Prop}(hh:A.handled=ag)(c0:tw s.heap it x b0 step)(d0:b0<=0)(hE:∀H e,(∀b o,s.heap.get? b=ae o->H.get? b=ae o)->s.heap.get? e=ag->(∃o,H.get? e=ae o/\o.cls= .type "StopIteration")->E (.ref e) { s with heap:=H }):
  aA (aV prog w) A (ow (.ref it) (aq "__next__")) a0 E s:=by
 obtain B:s.TypeIs (.ref it) "range_iterator":=⟨_,c0,rfl⟩;refine nh (name:=aq "__next__") B F.slot_range_iterator_next
  (gw F.slot_range_iterator_next B F.entry_range_iterator_next ?_ (F.args_range_iterator_next_1 _))
 show aA _ _ (jc (.ref it) 0>>=_) _ _ s;refine wB (e6 c0 rfl (x:=bI x) rfl ?_);show aA _ _ (jc (.ref it) 1>>=_) _ _ s;refine wB (e6 c0 rfl (x:=bI b0) rfl ?_);show aA _ _ (jc (.ref it) 2>>=_) _ _ s;refine wB (e6 c0 rfl (x:=bI step) rfl ?_);show aA _ _ (if b0<=0 then _ else _) _ _ s;rw[aN d0];refine wB (gN ?_);exact wB (vg (show A.in1.handled=ag from hh) hE)
def Dr.refl (a0 B:ah ay)(h:aG):Dr a0 B h h:=⟨λu o e=>⟨o,e⟩,λu u e u u=>e⟩
def Dr.trans (x:Dr own B h H)(y:Dr own B H kl):Dr own B h kl:=⟨λa o e=>by obtain⟨G,F⟩:=x.there a o e;exact y.there a G F,λa o e E D=>y.keep a o (x.keep a o e E D) E D⟩
def Dr.mono {a0:ah ay}(x:Dr own B h H)(hs:∀a∈own,a∈a0):Dr a0 B h H:=⟨x.there,λa o e E D=>x.keep a o e (λF=>E (hs a F)) D⟩
def Dr.keeps (a0 B:ah ay)(hk:∀b o,h.get? b=ae o->H.get? b=ae o):Dr a0 B h H:=⟨λa o e=>⟨o,hk a o e⟩,λa o e u u=>hk a o e⟩
def Dr.same {c:ay}(hc:c∈own)(hs:fm c h H)(e':H.get? c=ae o'):Dr own B h H:=⟨λa o e=>by
 by_cases q:a=c
 ·subst q;exact⟨_,e'⟩
 ·exact⟨o,(hs.2 a q).trans e⟩,λa o e D u=>(hs.2 a λq=>D (q ▸ hc)).trans e⟩
def eG.kp (a0:eG X B h own)(ok:X.ok a)(e:h.get? a=ae o)(k:Kp o):a∉own:=λD=>by
 obtain⟨_,_,r⟩:=a0 a D;rcases r with r |⟨o',ws,e',d',n⟩
 ·exact ok.2 r
 ·rw[e]at e';cases e';exact n (k.nf d')
def Dr.dK (D:Dr own B h H)(a0:eG X B h own):gU X X.bad B B h H:=⟨λu u=>id,λu u E F e k=>⟨E,F,D.keep _ _ e (a0.kp F e k) E⟩⟩
def aF.dr (D:Dr own B h H)(a0:eG X B h own)(r:aF X B h x v):aF X B H x v:=r.dK (D.dK a0)
def Inv.dr (b0:Inv X B I h)(a0:eG X B h own)(D:Dr own [] h H):Inv X B I H:=by
 have F:∀a o,a∉own->h.get? a=ae o->H.get? a=ae o:=λa o n e=>D.keep a o e n (by simp);obtain D':Dr own B h H:=⟨D.there,λa o e n u=>F a o n e⟩;refine⟨b0.len,b0.nodup,λi S a M L=>?_,λb J G T=>?_,b0.new,b0.gd,b0.mods,?_,λb E=>?_⟩
 ·obtain⟨K,N,R⟩:=b0.obj i S a M L;exact⟨K,F a K (λE=>(a0 a E).1 (cD L)) N,R.dK (D'.dK a0)⟩
 ·exact F b J (λE=>by rw[(a0 b E).2.1]at G;cases G) (b0.base b J G T)
 ·obtain⟨V,Q,c⟩:=b0.tab;obtain⟨o,e⟩:=b0.gd;exact⟨V,F _ _ (λE=>by rw[(a0 _ E).2.1]at e;cases e) Q,c⟩
 ·obtain⟨o,e⟩:=b0.gf b E;exact D.there b o e
def Go.dr {ex:ah ay}(a0:Go X ex br h₀ B h)(D:Dr own B h H)(ho:∀c∈own,h₀.get? c=ag):Go X ex br h₀ B H:=by
 have K:∀a o,h₀.get? a=ae o->a∉own:=λa o e J=>by rw[ho a J]at e;cases e
 refine⟨⟨λa o e=>?_,a0.step.ext,λa o e I L J=>?_⟩,λa o e I f b=>?_⟩
 ·obtain⟨E,F⟩:=a0.step.there a o e;exact D.there a E F
 ·obtain⟨E,F,k⟩:=a0.step.keep a o e I L J;exact⟨E,D.keep a E F (K a o e) (a0.step.dt e I),k⟩
 ·obtain⟨E,F,M⟩:=a0.fr a o e I f b;exact⟨E,D.keep a E F (K a o e) (a0.step.dt e I),M⟩
def En.dr (a0:En X U G Q N B h)(D:Dr own B h H)(b0:eG X B h own)(hL:G.locals∉own):En X U G Q N B H:=by
 refine⟨a0.kind,a0.glob,a0.blt,a0.kinds,a0.len,?_,a0.fY,a0.ir,a0.cells⟩;obtain⟨m,n,r⟩:=a0.ns;obtain⟨o,I,R,e,q⟩:=n;refine⟨m,⟨o,I,R,D.keep _ _ e hL a0.fY,q⟩,λx i v L E J=>?_⟩;obtain⟨K,F,M⟩:=r x i v L E J;exact⟨K,F,M.dr D b0⟩
def bP.gj (r:bP X B h own ai it):eG X B h own:=by
 cases r with
 |list e E n b=>obtain⟨o,G,c,d⟩:=E;intro F D;rw[aJ.mp D];exact⟨n,b,.inr ⟨o,_,G,d,by rw[c];decide⟩⟩
 |range E n b=>intro F D;rw[aJ.mp D];exact⟨n,b,.inr ⟨_,_,E,rfl,by simp⟩⟩
 |obj e=>exact λu D=>nomatch D
def bP.dr {a0:ah ay}(r:bP X B h own ai it)(D:Dr a0 B h H)(hn:∀c∈own,c∉a0):bP X B H own ai it:=by
 cases r with
 |list e E n b=>obtain⟨o,F,c,d⟩:=E;exact .list e ⟨o,D.keep _ _ F (hn _ (.head _)) n,c,d⟩ n b
 |range E n b=>exact .range (D.keep _ _ E (hn _ (.head _)) n) n b
 |obj e=>exact .obj e
set_option tactic.hygienic true in theorem draw {b0 : ax aw → aD → Prop} (r : bP X B h own ai it) (a0 : Inv X B I h) (hh : A.handled = ag) (hr : (bx ai).run I fun res Z => match res with
   |.ok (ae (x0,mK))=>∀H t' v,Inv X B Z H->Dr own B h H->bP X B H own mK it->aF X B H x0 v->b0 (ae v) (sh z H t')
   |.ok .none=>∀H e,Inv X B Z H->Dr own B h H->eG X B H own->h.get? e=ag->(∃o,H.get? e=ae o/\o.cls= .type "StopIteration")->E (.ref e) (sh z H W)
   |.err _=>dm):
  aA (MX X) A (ow it (aq "__next__")) b0 E (sh z h W):=by
 cases r with
 |list e hi n b=>
  rename_i s i a it;obtain⟨l,e1,hr⟩:=gW hr;obtain⟨O,m,hl,rl,len,_⟩:=ez a0 e1 e;obtain⟨o,eo,c,d⟩:=id hi;obtain D:eG X B h [it]:=(bP.list e hi n b).gj;cases q:l[i]? with
  |none=>
   rw[q]at hr;refine yb (s:=sh z h W) hh eo c d ⟨_,hl,rfl,m,rfl⟩ (by simp only[Hf];rw[nq]at q |-;exact TT (EL len) q) λh₁ H e' o' x1 x2 x3 x4 x5 x6 x7=>?_;obtain D1:Dr [it] [] h h₁:=Dr.same (.head _) x4 x1;obtain D2:Dr [it] [] h H:=D1.trans (Dr.keeps _ _ x5);refine hr H e' (a0.dr D D2) ⟨D2.there,λa o e h1 u=>D2.keep a o e h1 (by simp)⟩ ?_ ?_ x7
   ·intro c' hc;rw[aJ.mp hc];exact⟨n,b,.inr ⟨_,_,x5 _ _ x1,x3,by rw[x2];decide⟩⟩
   ·cases q:h.get? e' with
    |none=>rfl
    |some o=>obtain⟨o2,q2⟩:=D1.there _ _ q;rw[x6]at q2;cases q2
  |some x=>
   rw[q]at hr;obtain⟨v,ev,rv⟩:=rl.get q;refine ya (s:=sh z h W) eo c d ⟨_,hl,rfl,m,rfl⟩ (x:=v) (by simpa using ev) λH o' x1 x2 x3 x4=>?_;obtain D1:Dr [it] [] h H:=Dr.same (.head _) x4 x1;obtain D2:Dr [it] B h H:=⟨D1.there,λa o e h1 u=>D1.keep a o e h1 (by simp)⟩;exact hr H W v (a0.dr D D1) D2 (.list e ⟨o',x1,x2,x3⟩ n b) (rv.dr D2 D)
 |range hi n b=>
  rename_i it c d k;obtain D:eG X B h [it]:=(bP.range hi n b).gj;cases k with
  |zero=>
   refine KR (s:=sh z h W) hh hi (by simp) λH e' x5 x6 x7=>?_;obtain D2:Dr [it] [] h H:=Dr.keeps _ _ x5;exact hr H e' (a0.dr D D2) (Dr.keeps _ _ x5) (λc' hc=>by rw[aJ.mp hc];exact⟨n,b,.inr ⟨_,_,x5 _ _ hi,rfl,by simp⟩⟩) x6 x7
  |succ k=>
   refine KQ (s:=sh z h W) hi (by lia) λH x1 x4=>?_;obtain D1:Dr [it] [] h H:=Dr.same (.head _) x4 x1;obtain D2:Dr [it] B h H:=⟨D1.there,λa o e h1 u=>D1.keep a o e h1 (by simp)⟩;rw[show((k+1:ak):Int) - 1=(k:Int) by lia]at x1;exact hr H (W+1) _ (a0.dr D D1) D2 (.range x1 n b) (.int ..)
 |obj e=>
  rename_i i a;obtain⟨ao,e1,hr⟩:=eV hr;obtain⟨o,eo,bo⟩:=a0.obj i ao a e1 e;obtain ma:a∈B:=cD e;cases ao with
  |iter s k=>
   cases s with
   |none=>
    obtain⟨c,V,d,d0⟩:=bo;refine CI (s:=sh z h W) hh eo c d d0 λH e' x5 x6 x7=>?_;exact hr H e' (a0.keeps x5) (Dr.keeps _ _ x5) (λu hc=>nomatch hc) x6 x7
   |some s=>
    obtain⟨c,la,es,d⟩:=bo;obtain⟨l,e2,hr⟩:=gW hr;obtain⟨O,m,hl,rl,len,_⟩:=ez a0 e2 es;cases q:l[k]? with
    |none=>
     rw[q]at hr;refine yb (s:=sh z h W) hh eo c d ⟨_,hl,rfl,m,rfl⟩ (by simp only[Hf];rw[nq]at q |-;exact TT (EL len) q) λh₁ H e' o' x1 x2 x3 x4 x5 x6 x7=>?_;obtain⟨I1,G1⟩:=a0.change (b0:=.iter .none 0) e1 e x4 x1 ⟨x2,_,x3,rfl⟩ [];refine hr H e' (I1.keeps x5) ⟨λb ob eb=>?_,λb ob eb u hb=>?_⟩ (λu hc=>nomatch hc) ?_ x7
     ·obtain⟨o2,q2⟩:=G1.step.there b ob eb;exact⟨o2,x5 _ _ q2⟩
     ·exact x5 _ _ ((x4.2 b λq=>hb (q ▸ ma)).trans eb)
     ·cases q:h.get? e' with
      |none=>rfl
      |some o=>obtain⟨o2,q2⟩:=G1.step.there _ _ q;rw[x6]at q2;cases q2
    |some x=>
     rw[q]at hr;obtain⟨v,ev,rv⟩:=rl.get q;refine ya (s:=sh z h W) eo c d ⟨_,hl,rfl,m,rfl⟩ (x:=v) (by simpa using ev) λH o' x1 x2 x3 x4=>?_;obtain⟨I1,G1⟩:=a0.change (b0:=.iter (ae s) (k+1)) e1 e x4 x1 ⟨x2,la,es,x3⟩ [];exact hr H W v I1 ⟨G1.step.there,λb ob eb u hb=>(x4.2 b λq=>hb (q ▸ ma)).trans eb⟩ (.obj e) (rv.step G1.step)
  |_=>exact hr.elim
def CJ:Manifest.owners.lookup (Gu ['r','o','t','a','r','e','t','i','_','t','e','s'].reverse)=ae Manifest.sig_set_iterator:=by kernel_rfl
def vh:Slot "set_iterator" "__next__" "set_iterator.__next__":=
 .of (owner:="set_iterator") (n:="__next__") (by rw[rg,rh];kernel_rfl) (by decide +kernel) (by decide +kernel) (by decide +kernel)
  (by first |exact .inl (by decide +kernel) |exact .inr (by decide +kernel)) (by rw[rj];kernel_rfl)
def KS:AH table "set_iterator.__next__"=ae j2.«set_iterator.__next__»:=entryFor_of_tree (by kernel_rfl)
def KU (a:aw):pT "set_iterator.__next__" ⟨[a],[]⟩:=by
 unfold argsOk;rw[signature?_of (id:="set_iterator.__next__") (n:=['_','_','t','x','e','n','_','_']) (o:=['r','o','t','a','r','e','t','i','_','t','e','s']) (by kernel_rfl) CJ];kernel_rfl
def KV:AH table "set.__iter__"=ae j2.«frozenset.__iter__»:=
 Hg (id':="frozenset.__iter__") (by kernel_rfl) rfl (by decide +kernel) (by kernel_rfl)
def yc {α:Type}:∀{l:ah α} {i:ak} (h:i < l.length),(l[i] :: l.eraseIdx i).Perm l
 |x :: l,0,_=>.refl _
 |x :: l,i+1,h=>by
  obtain B:=yc (l:=l) (i:=i) (by simpa using h);rw[List.getElem_cons_succ,List.eraseIdx_cons_succ];exact(List.Perm.swap x _ _).trans (.cons x B)
def KW {α:Type}(next:ak->ak):∀(b0 k:ak) (a0:ah α) (c0:aZ α),a0.length<=b0->(AJ next b0 k a0 c0).toList.Perm (c0.toList++a0):=by
 intro n;induction n with
 |zero=>
  intro k a0 c0 h;have:a0=[]:=Hh (Hi.mp h);subst this;show c0.toList.Perm _;rw[fT]
 |succ b0 E=>
  intro k a0 c0 h;rw[show AJ next (b0+1) k a0 c0=(match a0[next k % a0.length]? with |some x=>AJ next b0 (k+1) (a0.eraseIdx (next k % a0.length)) (c0.push x) |none=>c0) from rfl];cases a0 with
  |nil=>simp
  |cons x l=>
   obtain B:next k % (x :: l).length < (x :: l).length:=Hj _ (by simp)
   rw[cy B];dsimp only;have D:((x :: l).eraseIdx (next k % (x :: l).length)).length<=b0:=by rw[Hk B];simp at h |-;exact h
   refine(E (k+1) _ _ D).trans ?_;rw[Hl,jY];refine List.Perm.append_left _ ?_;exact yc B
def KY {α:Type}(next:ak->ak)(xs:aZ α):(tz next xs).toList.Perm xs.toList:=by
 unfold pickOrder
 simpa using KW next xs.size 0 xs.toList #[] (by simp)
def KZ {b0:Source}{a0:ak->aD->Prop}(hn:n≠0)(h:∀i,i < n->∀d,a0 i { s with drawn:=d }):aA (aV prog w) A (choose b0 n) a0 E s:=λD p B =>by
 show Sem.wp _ _ (.choose b0 n .pure) _ _ _ _;rw[Sem.wp_choose];exact⟨hn,h _ (Hj _ (Nat.pos_of_ne_zero hn)) _⟩
def K4 {α:Type}:∀(n:ak) (xs:ah α) {a0:ah α->aD->Prop} {s:aD},xs.length=n->(∀ys d,ys.Perm xs->a0 ys { s with drawn:=d })->aA (aV prog w) A (drawOrder n xs) a0 E s:=by
 intro H;induction H with
 |zero=>
  intro xs a0 s h B;have:xs=[]:=Hh h;subst this;exact aC (B [] s.drawn .nil)
 |succ n J=>
  intro G;cases G with
  |nil=>
   intro a0 s h B;cases h
  |cons x l=>
   intro a0 s h B;show aA _ _ (choose .order (x :: l).length>>=_) _ _ _;refine bO (KZ (by simp) λi D d=>?_);rw[cy D];dsimp only;refine wB (J _ (by rw[Hk D];simp at h |-;exact AN ((EL h)) ((EG h))) λys F I=>aC (B _ F ?_));exact(wM _ I).trans (yc D)
def kD.K9 {xs:ah au}{es:ah (Int×aw)}(r:kD w xs es):xs=es.map strOf/\∀e∈es,uT w e:=by
 induction r with
 |nil=>exact⟨rfl,λu h=>nomatch h⟩
 |cons r D=>
  refine⟨by rw[f9,<-D.1];rfl,λe B=>?_⟩;rcases bu.mp B with rfl |B
  ·exact⟨_,_,rfl⟩
  ·exact D.2 e B
def gF.go {es:aZ (Int×aw)}{t:gr}{b0:aw}{c0:ah (Int×aw)}(c:gF X B h a es ep t b0 i c0)(f:∀a0,a0∉B->a0∉J\/h.get? a0=ag)(g:∀a0 oT V,a0∉B->X.ok a0->h.get? a0=ae oT->rS oT V->H.get? a0=ae oT):gF X J H a es ep t b0 i c0:=by
 cases c with
 |text D=>exact .text D
 |drawn D G I e F L=>exact .drawn D ((f _ G).elim id λq=>by rw[q]at e;cases e) I (g _ _ _ G I e F) F L
 |one D E=>exact .one D E
 |done D E K=>exact .done D E K
def La (a0:ak):m6 #[] a0=0:=by simp[m6,AK]
def Lb (p:ak):m6 #[p] 0=0:=by simp[m6,AK]
def Lc (p:ak):m6 #[p] (p+1)=1:=by simp[m6,AK]
set_option backward.match.sparseCases true in def CK {es : aZ (Int × aw)} {t : gr} {a0 : ak} {QQ : ax (aw × ak) → aD → Prop} (ho : h.get? a = ae o) (hd : o.data = .set es ep t) (hf : t.fits es.size = aj) (b0 : t.led = !X.w.params.followText "set-order") (hb : X.w.params.followText "set-order" = az) (hs : es.size ≤ 1) (q : QQ (match es[m6 t.place a0]?, t.place[m6 t.place a0]? with
   |some (_,x0),ae a0=>ae (x0,a0+1)
   |_,_=>ag) (sh z h W)):aA (MX X) A (wN a a0 i ep) QQ E (sh z h W):=by
 unfold setNext;refine wB (rm (s:=sh z h W) ho hd hf ?_);dsimp only;unfold setsByText;refine wB (wB (pU (aC ?_)));show aA _ _ (if X.w.params.followText "set-order"=aj then _ else _) _ _ _;rw[aK (by rw[hb];exact jd)];show aA _ _ (if (!t.plain && decide (es.size > 1))=aj then _ else _) _ _ _;rw (config:={}) [aK (by rw[cW,ft];exact λq=>absurd hs (Ag.mpr q.2))];show aA _ _ ((if (!t.led && !es.isEmpty)=aj then _ else _)>>=_) _ _ _;rw[aK (by rw[b0,hb];exact jd)];exact wB (aC (aC q))
set_option tactic.hygienic true in theorem Ld {o : Obj} {it : ay} {es : aZ (Int × aw)} {t : gr} {first : aw} {cur : ah (Int × aw)} {a0 : ax aw → aD → Prop} (hh : A.handled = ag) (hi : h.get? it = ae (qe first i a es.size ep)) (ho : h.get? a = ae o) (hd : o.data = .set es ep t) (hf : t.fits es.size = aj) (kG : es.size ≠ 0 → t.plain = az) (mG : t.led = !X.w.params.followText "set-order") (hc : gF X B h a es ep t first i cur) (yd : it ≠ a) (hQ : ∀ e rest, cur = e :: rest → ∀ H first', H.get? it = ae (qe first' (i + 1) a es.size ep) → fm it h H → gF X B h a es ep t first' (i + 1) rest → a0 (ae e.2) (sh z H W)) (hE : cur = [] → ∀ h₁ H e V, h₁.get? it = ae { cls := .type "set_iterator", data := .fields V } → fm it h h₁ → (∀ b o, h₁.get? b = ae o → H.get? b = ae o) → h₁.get? e = ag → (∃ o, H.get? e = ae o ∧ o.cls = .type "StopIteration") → E (.ref e) (sh z H W)) :
  aA (MX X) A (ow (.ref it) (aq "__next__")) a0 E (sh z h W):=by
 have hT:(sh z h W).TypeIs (.ref it) "set_iterator":=⟨_,hi,rfl⟩;refine nh (name:=aq "__next__") hT vh
  (gw vh hT KS ?_ (KU _))
 show aA _ _ (fieldsOf (.ref it)>>=_) _ _ _;refine wB (wpAny_fieldsOf hi rfl ?_);show aA _ _ (setEntries a>>=_) _ _ _;refine wB (Hm (s:=sh z h W) ho hd hf ?_);show aA _ _ (if ((es.size:Int) != (es.size:Int))=aj then _ else _) _ _ _;rw[aK (by simp)];have vi:∀{A:d8},A.handled=ag->cur=[]->∀(V:aZ aw) (h0:aG),h0.get? it=ae { cls:=.type "set_iterator",data:=.fields V }->fm it h h0->5<=V.size->
   aA (MX X) A (oo (.ref it) 2 .none>>=λu=>wL (.type "StopIteration") []>>=λe=>(AG e:dn PySem.Fin)) (λfin s'=>∃r,fin= .done (.ret r)/\a0 (ae r) s') E (sh z h0 W):=by
  intro A hh Le V h0 e0 Lf kP;refine wB (gO (s:=sh z h0 W) e0 (by exact FI 5 0 3 0 kP rfl) λh₁ e1 mL=>?_);exact vg hh λH e x1 x2 x3=>hE Le h₁ H e _ e1 (Lf.trans mL) x1 x2 x3
 cases hc with
 |text hb=>
  rename_i j;show aA _ _ (wN a ((j:Int).toNat) ((i:Int).toNat) ((ep:Int).toNat)>>=_) _ _ _;simp only[eD];refine wB ?_;unfold setNext;refine wB (rm (s:=sh z h W) ho hd hf ?_);dsimp only;unfold setsByText;refine wB (wB (pU (aC ?_)));show aA _ _ (if X.w.params.followText "set-order"=aj then _ else _) _ _ _;rw[aN hb];rw[aK (by simp)];unfold setWalk;refine wB (wB (rm (s:=sh z h W) ho hd hf ?_));dsimp only;unfold setsByText;refine wB (wB (pU (aC ?_)));show aA _ _ (if X.w.params.followText "set-order"=aj then _ else _) _ _ _;rw[aN hb];refine wB (pU (aC (aC ?_)));show aA (MX X) A.in1 (match Hn (λ(e:Int×aw)=>(e.2,j)) (tz (X.w.params.setOrder a ep) es)[i]? with
   |some (x,next)=>oo (.ref it) 0 (bI ((next:ak):Int))>>=λu=>oo (.ref it) 1 (bI ((i:Int)+1))>>=λu=>ret x
   |none=>oo (.ref it) 2 .none>>=λu=>wL (.type "StopIteration") []>>=λe=>(AG e:dn PySem.Fin)) _ _ _
  cases hq:(tz (X.w.params.setOrder a ep) es)[i]? with
  |none=>
   dsimp only[Option.map_none];refine vi (show A.in1.handled=ag from hh) ?_ _ h hi (.refl ..) (by simp);rw[pV];rw[Ho]at hq
   simpa using hq
  |some e=>
   dsimp only[tS];refine wB (gO (s:=sh z h W) hi (by simp) λh₁ e1 mL=>?_);refine wB (gO (s:=sh z h₁ W) e1 (by simp) λye e2 yf=>?_);refine aC ⟨_,rfl,hQ e ((tz (X.w.params.setOrder a ep) es).toList.drop (i+1)) ?_ ye (bI j) e2 (mL.trans yf) (.text hb)⟩;obtain⟨qj,he⟩:=Array.getElem?_eq_some_iff.mp hq;rw[oz (by simpa using qj)];simp[he]
 |drawn hb n1 n2 e ht hp=>
  rename_i T oT ps;obtain⟨sd,nT,nO⟩:=ht;refine bO (j4 (s:=sh z h W) e nO ?_);dsimp only;simp only[eD];cases hq:ps[i]? with
  |none=>
   have:(ps.map λ(p:ak)=>bI p).toArray[i]? =ag:=by simp;rw[nq]at hq;exact hq
   rw[this];dsimp only;refine wB (gO (s:=sh z h W) hi (by simp) λh₁ e1 mL=>?_);refine vi (show A.in1.handled=ag from hh) ?_ _ h₁ e1 mL (by simp);rw[nq]at hq;rw[pV.mpr hq];rfl
  |some p=>
   have:(ps.map λ(p:ak)=>bI p).toArray[i]? =ae (bI p):=by simp[hq]
   rw[this];have qj:p < es.size:=hp p (cD hq);show aA _ _ (setNextDrawn a ((p:Int).toNat) ((ep:Int).toNat)>>=_) _ _ _;simp only[eD];refine wB ?_;unfold setNextDrawn;refine bO (rm (s:=sh z h W) ho hd hf ?_);dsimp only;rw[aK (by simp)];rw[wJ qj];refine aC ?_;refine wB (gO (s:=sh z h W) hi (by simp) λh₁ e1 mL=>?_);refine aC ⟨_,rfl,hQ es[p] ((ps.drop (i+1)).filterMap λp=>es[p]?) ?_ h₁ (.ref T) e1 mL (.drawn hb n1 n2 e ⟨sd,nT,nO⟩ hp)⟩;obtain⟨yg,he⟩:=cF.mp hq;rw[oz yg,he,AM,wJ qj]
 |one hb hs=>
  show aA _ _ (wN a (((0:ak):Int).toNat) (((0:ak):Int).toNat) ((ep:Int).toNat)>>=_) _ _ _;simp only[eD];refine wB (CK ho hd hf mG hb hs ?_);have yh:t.place.size=es.size:=by simp only[SetTable.fits,cW,bU]at hf;exact hf.1
  obtain⟨el⟩:=es;obtain⟨pl,CL⟩:∃pl:ah ak,t.place=pl.toArray:=⟨t.place.toList,by simp⟩;rw[CL]at yh |-;cases el with
  |nil=>
   rw[nr.mp (show pl.length=0 from yh),La];exact vi (show A.in1.handled=ag from hh) rfl _ h hi (.refl ..) (by simp)
  |cons e l=>
   obtain hl:l=[]:=nr.mp (Hi.mp (Hq hs));subst hl;obtain⟨p,Lg⟩:=Hr.mp (show pl.length=1 from yh);subst Lg;rw[Lb];show aA _ _ (oo (.ref it) 0 (bI ((p+1:ak):Int))>>=_) _ _ _;refine wB (gO (s:=sh z h W) hi (by simp) λh₁ e1 mL=>?_);refine wB (gO (s:=sh z h₁ W) e1 (by simp) λye e2 yf=>?_);refine aC ⟨_,rfl,hQ e [] rfl ye (bI ((p+1:ak):Int)) e2 (mL.trans yf) (.done hb (by simp) ?_)⟩;rw[CL,Lc];simp
 |done hb hs hj=>
  rename_i j;show aA _ _ (wN a ((j:Int).toNat) ((i:Int).toNat) ((ep:Int).toNat)>>=_) _ _ _;simp only[eD];refine wB (CK ho hd hf mG hb hs ?_);rw[Ho.mpr hj];exact vi (show A.in1.handled=ag from hh) rfl _ h hi (.refl ..) (by simp)
def range_items (es:aZ (Int×aw)):((dz es.size).filterMap λp=>es[p]?)=es.toList:=by
 obtain⟨l⟩:=es;show((dz l.length).filterMap λp=>l.toArray[p]?)=l;have:∀n,n<=l.length->((dz n).filterMap λp=>l.toArray[p]?)=l.take n:=by
  intro n;induction n with
  |zero=>intro _;rfl
  |succ n E=>
   intro D;have B:n < l.length:=D;rw[wO,List.filterMap_append,E (by exact FI 1 0 0 0 D rfl),AP];simp[cy B]
 rw[this l.length (a4 _),j5]
theorem Lh {o:Obj}{es:aZ (Int×aw)}{t:gr}{c0:aw->aD->Prop}(ho:h.get? a=ae o)(hx:o.ExactSet)(hd:o.data= .set es ep t)(hf:t.fits es.size=aj)(h3:es.size<=3)(g0:es.size≠0->t.plain=az)(f0:∀a0,h.get? a0=ag->a0∉B/\X.ok a0)(hQ:∀H b0 d d0 e0,(∀b o,h.get? b=ae o->H.get? b=ae o)->h.get? b0=ag->H.get? b0=ae (qe d0 0 a es.size ep)->gF X B H a es ep t d0 0 e0->e0.Perm es.toList->c0 (.ref b0) (sh { z with drawn:=d } H W)):
  aA (MX X) A (f6 (.ref a)) c0 E (sh z h W):=by
 obtain V:(sh z h W).TypeIs (.ref a) "set":=⟨o,ho,hx.1⟩;refine oA V F.slot_set_iter (gw F.slot_set_iter V KV ?_ (F.args_set_iter_1 _));unfold Builtin.«frozenset.__iter__» V4 slotArgs;simp only[tT,qU,ja,↓AQ,bind_assoc,q7,AU];unfold Builtin.Frozenset.addrOf V5;refine wB (aC ?_);try dsimp only
 refine wB (aC ?_);refine wB (wB (Hm (s:=sh z h W) ho hd hf (aC ?_)));refine wB ?_;unfold setDrawn;refine wB (rm (s:=sh z h W) ho hd hf ?_);dsimp only;unfold setsByText;refine wB (wB (pU (aC (aC ?_))));have tail:∀(d0:aw) (G:aG) (d:Drawn),(∀b o,h.get? b=ae o->G.get? b=ae o)->(∃e0,e0.Perm es.toList/\∀H L,H=G.push L->gF X B H a es ep t d0 0 e0)->
   aA (MX X) A.in1 (setEpoch a>>=λe=>newFields "set_iterator" [d0,bI (0:ak),.ref a,bI es.size,bI e]>>=λv=>ret v)
    (λR Y=>∃r,R= .done (.ret r)/\(∃T' r',Y.TypeIs r T'/\tU (.type T') "__next__"=pure (ae r')/\c0 r Y)) E (sh { z with drawn:=d } G W):=by
  intro d0 G d U D
  obtain⟨e0,M,D⟩:=D;refine wB (wpAny_setEpoch_of (s:=sh { z with drawn:=d } G W) (U _ _ ho) hd hf ?_);unfold newFields;refine wB (qZ ?_ (by size_fits));refine aC ⟨_,rfl,"set_iterator",_,⟨_,cV _ rfl,rfl⟩,vh.lookup,?_⟩;refine hQ _ G.objs.size d d0 e0 (λb o e=>be _ (U _ _ e)) ?_ (cV _ rfl) (D _ _ rfl) M
  cases q:h.get? G.objs.size with
  |none=>rfl
  |some o=>exact absurd (gL (U _ _ q)) (dP _)
 show aA (MX X) A.in1 (if (!X.w.params.followText "set-order" && (!t.plain && decide (es.size > 1)))=aj then _ else _) _ _ _;by_cases J:X.w.params.followText "set-order"=aj
 ·rw[aK (by rw[J];simp)];refine wB (aC ?_);refine tail (bI (0:ak)) h z.drawn (λu u e=>e) ⟨_,KY (X.w.params.setOrder a ep) es,λH L u=>?_⟩;have:=gF.text (X:=X) (ρ:=B) (h:=H) (a:=a) (es:=es) (ep:=ep) (t:=t) (i:=0) (j:=0) J
  simpa using this
 ·rw[pQ]at J;by_cases S:es.size > 1
  ·rw[aN (by rw[J,g0 (by lia)];simp[S])];refine wB (K4 es.size (dz es.size) (by simp) λK d M=>?_);obtain O:∀p∈K,p < es.size:=λp j=>nu.mp (M.mem_iff.mp j);have N:K.length=es.size:=by rw[M.length_eq,wQ]
   refine wB (m7 ?_ (by rw[aO,N];show _<=2 ^ 24;exact FI 0 3 0 16777216 h3 rfl));refine tail _ _ d (λb o e=>be _ e) ⟨K.filterMap λp=>es[p]?,?_,λH L q=>?_⟩
   ·have:=M.filterMap λp=>es[p]?
    rwa [range_items]at this
   ·subst q;obtain⟨k,Z⟩:=f0 h.objs.size (eU h);have:=gF.drawn (X:=X) (ρ:=B) (h:=(h.push { cls:=.type "tuple",data:=.seq (K.map λ(p:ak)=>bI p).toArray }).push L) (a:=a) (es:=es) (ep:=ep) (t:=t) (i:=0) (ps:=K) J k Z (be _ (cV _ rfl)) ⟨rfl,_,rfl⟩ O
    simpa using this
  ·rw[aK (by simp[S])];refine wB (aC ?_);exact tail (bI (0:ak)) h z.drawn (λu u e=>e) ⟨_,.refl _,λH L u=>.one J (by exact(NL S))⟩
def dT.step {ex:ah ay}(r:dT X B h own ai it)(b0:Inv X B I h)(a0:Go X ex B h J H)(hx:∀c∈own,c∉ex):dT X J H own ai it:=by
 cases r with
 |simple r=>exact .simple (r.step b0 a0 hx)
 |enum N n b u r=>exact .enum (a0.field N rfl n (b0.gX b) (hx _ (.head _))) (a0.step.dt N n) b u (r.step b0 a0 λc D=>hx c (.tail _ D))
 |zip Y U Q n b j L d z Z=>
  exact .zip (a0.field Y rfl n.1 (b0.gX b.1) (hx _ (.head _))) (a0.seq U rfl n.2.1 (b0.gX b.2.1)) (a0.seq Q rfl n.2.2 (b0.gX b.2.2)) ⟨a0.step.dt Y n.1,a0.step.dt U n.2.1,a0.step.dt Q n.2.2⟩ b j L d
   (z.step b0 a0 λc D=>hx c (.tail _ (.tail _ (gM _ D)))) (Z.step b0 a0 λc D=>hx c (.tail _ (.tail _ (hW _ D))))
 |set n b O E W R f M K F S D=>
  exact .set (a0.step.dt S n) b (a0.step.dt W O) E (a0.step.uX W O E.1 (Kp.set R).nd) R f M K F (a0.field S rfl n (b0.gX b) (hx _ (.head _)))
   (D.go (λT l=>by
    cases q:h.get? T with
    |none=>exact .inr rfl
    |some o=>exact .inl (a0.step.dt q l)) λT m V A k e w=>a0.step.uX e A k.1 (Kp.seq w.2.choose_spec).nd)
theorem dT.gj (r:dT X B h own ai it):eG X B h own:=by
 cases r with
 |simple r=>exact r.gj
 |enum H n b T r=>
  intro c D;rcases bu.mp D with rfl |D
  ·exact⟨n,b,.inr ⟨_,_,H,rfl,by simp⟩⟩
  ·exact r.gj c D
 |zip G R V n b j I d K L=>
  intro c D;rcases bu.mp D with rfl |D
  ·exact⟨n.1,b.1,.inr ⟨_,_,G,rfl,by simp⟩⟩
  rcases bu.mp D with rfl |D
  ·exact⟨n.2.2,b.2.2,.inl j⟩
  rcases dX.mp D with D |D
  ·exact K.gj c D
  ·exact L.gj c D
 |set n b U J S O Q N E F M D=>intro c D;rw[aJ.mp D];exact⟨n,b,.inr ⟨_,_,M,rfl,by simp[qe]⟩⟩
def dT.dr {b0:ah ay}(r:dT X B h own ai it)(D:Dr b0 B h H)(a0:eG X B h b0)(hn:∀c∈own,c∉b0):dT X B H own ai it:=by
 cases r with
 |simple r=>exact .simple (r.dr D hn)
 |enum R n b Z r=>exact .enum (D.keep _ _ R (hn _ (.head _)) n) n b Z (r.dr D λc E=>hn c (.tail _ E))
 |zip z N k n b j J d l S=>
  exact .zip (D.keep _ _ z (hn _ (.head _)) n.1) (D.keep _ _ N (a0.kp J N (.seq rfl)) n.2.1) (D.keep _ _ k (hn _ (.tail _ (.head _))) n.2.2) n b j J d
   (l.dr D λc E=>hn c (.tail _ (.tail _ (gM _ E)))) (S.dr D λc E=>hn c (.tail _ (.tail _ (hW _ E))))
 |set n b L F Q M w K I G u E=>
  exact .set n b L F (D.keep _ _ Q (a0.kp F Q (.set M)) L) M w K I G (D.keep _ _ u (hn _ (.head _)) n)
   (E.go (λT Y=>.inl Y) λT o V U W e A=>D.keep _ _ e (by obtain⟨_,m,d⟩:=A;exact a0.kp W e (.seq d)) U)
def Inv.fresh {a0:ay}(b0:Inv X B I h)(hf:h.get? a0=ag):a0∉B/\X.ok a0:=by
 refine⟨λF=>?_,λe=>?_,λH=>?_⟩
 ·obtain⟨i,E,G⟩:=qR.mp F;have gg:i < I.length:=b0.len ▸ E;obtain⟨J,D,b⟩:=b0.obj i I[i] a0 (cy gg) (by rw[cy E,G]);rw[hf]at D;cases D
 ·obtain⟨V,D,_⟩:=b0.tab;rw[<-e,hf]at D;cases D
 ·obtain⟨o,D⟩:=b0.gf a0 H;rw[hf]at D;cases D
def yi {b0:aw->aD->Prop}(r:bP X B h own ai it)(a0:Inv X B I h)(hh:A.handled=ag)(hr:(bx ai).run I λc0 Z=>match c0 with
   |.ok (ae (x0,mK))=>∀H t' v,Inv X B Z H->Dr own B h H->bP X B H own mK it->aF X B H x0 v->b0 v (sh z H t')
   |.ok .none=>∀H e,Inv X B Z H->Dr own B h H->eG X B H own->h.get? e=ag->(∃o,H.get? e=ae o/\o.cls= .type "StopIteration")->E (.ref e) (sh z H W)
   |.err _=>dm):
  aA (MX X) A (AW it) b0 E (sh z h W):=by
 unfold Builtin.SmallTypes.nextOf;refine wB (draw (I:=I) r a0 hh ((bx ai).mono (λc0 Z y=>?_) hr));cases c0 with
 |err k=>exact y
 |ok p=>cases p with
  |none=>exact y
  |some p=>exact λH t' v a b c d=>aC (y H t' v a b c d)
def Dr.widen (D:Dr own [] h H):Dr own B h H:=⟨D.there,λa o e n u=>D.keep a o e n (by simp)⟩
theorem Li {e it:ay}{a:AI}{i:Int}{old:aw}{p0:ah aH}{c:ak}{a0:aD->Prop}{S:aw->aD->Prop}(he:oh h e it i old)(n:e∉B)(b:X.base.get? e=ag)(ne:e∉own)(r:bP X B h own a (.ref it))(b0:Inv X B I h)(hh:A.handled=ag)(hr:(bx (.enum i a)).run I λh0 Z=>match h0 with
   |.ok (ae (x0,k0))=>∀H t' v,Inv X B Z H->Dr (e :: own) B h H->dT X B H (e :: own) k0 (.ref e)->aF X B H x0 v->S v (sh z H t')
   |.ok .none=>∀H t',Inv X B Z H->Dr (e :: own) B h H->a0 (sh z H t')
   |.err _=>dm):
  aA (MX X) A (hX (.ref e)) (λr c0=>match r with
   |none=>a0 c0
   |some v=>aA (MX X) A (rn (.Tuple p0 c pos) (.ref e) v) (λg n0=>S v n0) E' c0) E (sh z h W):=by
 obtain hT:(sh z h W).TypeIs (.ref e) "enumerate":=⟨_,he,rfl⟩;unfold pyNext;refine wB (nv (nh (name:=aq "__next__") hT F.slot_enumerate_next
  (gw F.slot_enumerate_next hT F.entry_enumerate_next ?_ (F.args_enumerate_next_1 _))))
 show aA _ _ (jc (.ref e) 2>>=_) _ _ _;refine wB (e6 he rfl (x:=.ref it) rfl ?_);refine wB (yi (I:=I) r b0 (show A.in1.handled=ag from hh) ((bx a).mono ?_ (show(bx a).run I _ from hr)));intros _ h0 Z _ y;cases h0 with
 |err k=>exact y
 |ok p=>cases p with
  |none=>
   intro H x I' D O ex hx;obtain⟨o,eo,co⟩:=hx;refine wB (mc (T:="StopIteration") (b:=aj) ⟨o,eo,co⟩ oB ?_);exact aC (y H W I' (D.mono λd hm=>.tail _ hm))
  |some p=>
   obtain⟨x,k0⟩:=p;intros x k0 _ y;intros _ K J v _ m w o0 rv;obtain L:oh K e it i old:=w.keep _ _ he ne n;show aA _ _ (jc (.ref e) 3>>=_) _ _ _;refine wB (e6 L rfl (x:=bI i) rfl ?_);show aA _ _ (jc (.ref e) 4>>=_) _ _ _;refine wB (e6 L rfl (x:=.none) rfl ?_);show aA _ _ (mkInt i>>=_) _ _ _;refine wB (wpAny_mkInt ?_);show aA _ _ (oo (.ref e) 3 (bI (i+1))>>=_) _ _ (sh z K (J+1));refine wB (gO L (by simp) ?_);intros _ e0 _ T f0
   replace T:oh e0 e it (i+1) old:=T
   show aA _ _ (oo (.ref e) 4 .none>>=_) _ _ (sh z e0 (J+1));refine wB (gO T (by simp) ?_);intros _ G _ Q l0
   replace Q:oh G e it (i+1) old:=Q
   show aA _ _ (wC [.int i J,v]>>=_) _ _ (sh z G (J+1));refine wB (m7 ?_);obtain U:oh (G.push { cls:=.type "tuple",data:=.seq #[.int i J,v] }) e it (i+1) old:=be _ Q;show aA _ _ (Hs (.ref e)>>=_) _ _ (sh z (G.push { cls:=.type "tuple",data:=.seq #[.int i J,v] }) (J+1));refine wB ?_;unfold Builtin.SmallTypes.ownedTupleIsFree;refine wB (e6 U rfl (x:=.none) rfl (aC ?_));simp only[jB];refine wB (gN ?_);refine wB (e6 U rfl (x:=old) rfl ?_);refine wB (gO U (by simp) ?_);intros _ u _ M g0
   replace M:oh u e it (i+1) v:=M
   show aA _ _ (Ht (.ref e) (.ref G.objs.size)>>=_) _ _ (sh z u (J+1));refine wB ?_;unfold Builtin.SmallTypes.ownedTupleHandOut;refine wB (gO M (by simp) λu0 l i0=>?_);refine gO l (by simp) λr0 R j0=>?_
   replace R:IsEnumOut r0 e it (i+1) v G.objs.size:=R
   refine wB (hY (aC ⟨_,rfl,aC ?_⟩));refine wpAny_letOwnedTupleGo_enum R λY j m0=>?_;obtain d0:Dr [e] [] K G:=(Dr.same (.head _) f0 T).trans (Dr.same (.head _) l0 Q);obtain Dp:Dr [e] [] G (G.push { cls:=.type "tuple",data:=.seq #[.int i J,v] }):=Dr.keeps _ _ λb o e=>be _ e;obtain f:Dr [e] [] (G.push { cls:=.type "tuple",data:=.seq #[.int i J,v] }) Y:=
    (((Dr.same (.head _) g0 M).trans (Dr.same (.head _) i0 l)).trans (Dr.same (.head _) j0 R)).trans (Dr.same (.head _) m0 j)
   obtain V:Dr [e] [] K Y:=(d0.trans Dp).trans f;obtain O:eG X B K [e]:=λc hc=>by rw[aJ.mp hc];exact⟨n,b,.inr ⟨_,_,L,rfl,by simp⟩⟩
   have hT:K.get? G.objs.size=ag:=by
    cases q:K.get? G.objs.size with
    |none=>rfl
    |some o=>obtain⟨o',q'⟩:=d0.there _ _ q;exact absurd (gL q') (dP _)
   obtain⟨f1,f2⟩:=m.fresh hT;obtain s0:G.objs.size∉[e]:=λhm=>by rw[aJ.mp hm,L]at hT;cases hT
   refine y Y (J+1) (.ref G.objs.size) (m.dr O V) ((w.mono λd hm=>.tail _ hm).trans (V.widen.mono λc hc=>by rw[aJ.mp hc];exact .head _))
    (.enum j n b ne (o0.dr V.widen λc hc hm=>ne (aJ.mp hm ▸ hc))) ?_
   exact .pair f1 f2 (f.keep _ _ (cV _ rfl) s0 (by simp)) ⟨rfl,_,rfl⟩ (.int ..) (rv.dr V.widen O)
theorem Lj {o1 o2:ah ay}{a1 a2:AI}{q TI TO:ay}{v1 v2 x0 y0:aw}{Y0:ah aH}{c:ak}{a0:aD->Prop}{S:aw->aD->Prop}(hz:i6 h q TI TO .none)(hI:jx h TI v1 v2)(hO:jx h TO x0 y0)(n:q∉B/\TI∉B/\TO∉B)(b:X.base.get? q=ag/\X.base.get? TI=ag/\X.base.get? TO=ag)(j:TO∈X.bad)(u1:X.ok TI)(d:TI≠TO/\q∉o1++o2/\TO∉o1++o2/\(∀c∈o1,c∉o2)/\TI∉o1++o2)(r1:bP X B h o1 a1 v1)(r2:bP X B h o2 a2 v2)(b0:Inv X B I h)(hh:A.handled=ag)(hr:(bx (.zip a1 a2)).run I λj0 Z=>match j0 with
   |.ok (ae (Lk,mK))=>∀H t' v,Inv X B Z H->Dr (q :: TO :: (o1++o2)) B h H->dT X B H (q :: TO :: (o1++o2)) mK (.ref q)->aF X B H Lk v->S v (sh z H t')
   |.ok .none=>∀H t',Inv X B Z H->Dr (q :: TO :: (o1++o2)) B h H->a0 (sh z H t')
   |.err _=>dm):
  aA (MX X) A (hX (.ref q)) (λr A0=>match r with
   |none=>a0 A0
   |some v=>aA (MX X) A (rn (.Tuple Y0 c pos) (.ref q) v) (λt T0=>S v T0) E' A0) E (sh z h W):=by
 obtain⟨n1,n2,n3⟩:=n;obtain⟨b1,b2,b3⟩:=b;have d':=d;obtain⟨d1,d2,d3,d4,d5⟩:=d;have w1:TI∉o1:=λG=>d5 (gM _ G);have x1:TI∉o2:=λG=>d5 (hW _ G);have N0:q∉o1:=λG=>d2 (gM _ G);have P0:q∉o2:=λG=>d2 (hW _ G);have m1:TO∉o1:=λG=>d3 (gM _ G);have S0:TO∉o2:=λG=>d3 (hW _ G);have z0:q≠TO:=λe=>by rw[i6,e,hO]at hz;simp at hz
 have q1:TI≠q:=λe=>by rw[jx,e,hz]at hI;simp at hI
 have ml:∀a∈o1,a∈q :: TO :: (o1++o2):=λa G=>.tail _ (.tail _ (gM _ G));have mr:∀a∈o2,a∈q :: TO :: (o1++o2):=λa G=>.tail _ (.tail _ (hW _ G));have mz:∀a∈[q],a∈q :: TO :: (o1++o2):=λa G=>by rw[aJ.mp G];exact .head _
 have mO:∀a∈[TO],a∈q :: TO :: (o1++o2):=λa G=>by rw[aJ.mp G];exact .tail _ (.head _)
 have h0:∀{g:aG} {f0:aw},i6 g q TI TO f0->eG X B g [q]:=λe c hc=>by rw[aJ.mp hc];exact⟨n1,b1,.inr ⟨_,_,e,rfl,by simp⟩⟩
 have g0:∀{g:aG},eG X B g [TO]:=λ{g} c hc=>by rw[aJ.mp hc];exact⟨n3,b3,.inl j⟩
 have p1:∀c∈o1,c∉[q]:=λc hc G=>N0 (aJ.mp G ▸ hc);have e1:∀c∈o2,c∉[q]:=λc hc G=>P0 (aJ.mp G ▸ hc);have W0:∀c∈o1,c∉[TO]:=λc hc G=>m1 (aJ.mp G ▸ hc);have V0:∀c∈o2,c∉[TO]:=λc hc G=>S0 (aJ.mp G ▸ hc);have hT:(sh z h W).TypeIs (.ref q) "zip":=⟨_,hz,rfl⟩;unfold pyNext;refine wB (nv (nh (name:=aq "__next__") hT F.slot_zip_next
  (gw F.slot_zip_next hT F.entry_zip_next ?_ (F.args_zip_next_1 _))))
 show aA _ _ (jc (.ref q) 2>>=_) _ _ _;refine wB (e6 hz rfl (x:=.bool az) rfl ?_);show aA _ _ (jc (.ref q) 3>>=_) _ _ _;refine wB (e6 hz rfl (x:=.ref TI) rfl ?_);refine wB (j4 hI rfl ?_);show aA _ _ (Hs (.ref q)>>=_) _ _ _;refine wB ?_;unfold Builtin.SmallTypes.ownedTupleIsFree;refine wB (e6 hz rfl (x:=.none) rfl (aC ?_));simp only[jB];refine wB (gN ?_);refine wB (e6 hz rfl (x:=.ref TO) rfl ?_);refine wB (gO hz (by simp) ?_);intros _ i0 _ L n0
 replace L:i6 i0 q TI TO .ellipsis:=L
 have f:Dr [q] [] h i0:=Dr.same (.head _) n0 L;have Z0:Inv X B I i0:=b0.dr (h0 hz) f;refine wB ?_;simp only[List.zipIdx_cons,List.zipIdx_nil,pW,me];refine wB (wB (wpAny_onRaise ?_));show aA _ _ (AW v1>>=_) _ _ (sh z i0 W);refine wB (yi (I:=I) (r1.dr f.widen p1) Z0 (show A.in1.handled=ag from hh) ((bx a1).mono ?_ (show(bx a1).run I _ from hr)));intros _ j0 Z _ y;cases j0 with
 |err k=>exact y
 |ok p=>cases p with
  |none=>
   intros _ c0 e _ l0 U y1 ex hx;have w0:i6 c0 q TI TO .ellipsis:=U.keep _ _ L N0 n1;refine gO (s:=sh z c0 W) w0 (by simp) ?_;intros _ K _ R w;have Q:Dr [q] [] c0 K:=Dr.same (.head _) w R;obtain (⟨o,eo,co⟩):=hx;have K0:e≠q:=λq'=>by rw[q']at ex;rw[i6,ex]at L;cases L
   refine wB (mc (T:="StopIteration") (b:=aj) ⟨o,(w.2 e K0).trans eo,co⟩ oB ?_);refine aC (y K W (l0.dr (h0 w0) Q) ((f.widen.mono mz).trans ((U.mono ml).trans (Q.widen.mono mz))))
  |some p=>
   obtain⟨x,h1⟩:=p;intros x h1 _ y;intros _ c0 p0 v _ l0 U M0 rv;have m0:jx c0 TO x0 y0:=U.keep _ _ ((n0.2 TO z0.symm).trans hO) m1 n3;refine aC ?_;refine wB (j4 m0 rfl ?_);refine wB (Hu m0 ?_);intros _ K _ d0 w
   replace d0:jx K TO v y0:=d0
   have Q:Dr [TO] [] c0 K:=Dr.same (.head _) w d0;have g1:Inv X B Z K:=l0.dr g0 Q;refine wB (hY (aC ?_));refine wB (wB (wpAny_onRaise ?_));show aA _ _ (AW v2>>=_) _ _ (sh z K p0);have k0:bP X B K o2 a2 v2:=((r2.dr f.widen e1).dr U λc hc G=>d4 c G hc).dr Q.widen V0;have R:i6 K q TI TO .ellipsis:=(w.2 q z0).trans (U.keep _ _ L N0 n1);have U0:Dr (q :: TO :: (o1++o2)) B h K:=(f.widen.mono mz).trans ((U.mono ml).trans (Q.widen.mono mO));refine wB (yi (I:=Z) k0 g1 (show A.in1.handled=ag from hh) ((bx a2).mono ?_ (show(bx a2).run Z _ from y)));intros _ j0 i1 _ y;cases j0 with
   |err k=>exact y
   |ok p=>cases p with
    |none=>
     intros _ m e _ r0 M A1 ex hx;have o0:i6 m q TI TO .ellipsis:=M.keep _ _ R P0 n1;refine gO (s:=sh z m p0) o0 (by simp) ?_;intros _ D _ l V;have J:Dr [q] [] m D:=Dr.same (.head _) V l;obtain (⟨o,eo,co⟩):=hx;have K0:e≠q:=λq'=>by rw[q']at ex;rw[i6,ex]at R;cases R
     refine wB (mc (T:="StopIteration") (b:=aj) ⟨o,(V.2 e K0).trans eo,co⟩ oB ?_);exact aC (y D p0 (r0.dr (h0 o0) J) (U0.trans ((M.mono mr).trans (J.widen.mono mz))))
    |some p=>
     obtain⟨x',j1⟩:=p;intros x' j1 _ y;intros _ m C0 v' _ r0 M E0 s1;have s0:jx m TO v y0:=M.keep _ _ d0 S0 n3;refine aC ?_;refine wB (j4 s0 rfl ?_);refine wB (Hu s0 ?_);intros _ D _ u V
     replace u:jx D TO v v':=u
     have J:Dr [TO] [] m D:=Dr.same (.head _) V u;have B0:Inv X B i1 D:=r0.dr g0 J;have l:i6 D q TI TO .ellipsis:=(V.2 q z0).trans (M.keep _ _ R P0 n1);refine wB (hY (aC (aC ?_)));refine wB (j4 u rfl ?_);refine wB (m7 ?_);show aA _ _ (Ht (.ref q) (.ref D.objs.size)>>=_) _ _ (sh z (D.push { cls:=.type "tuple",data:=.seq #[v,v'] }) C0);refine wB ?_;unfold Builtin.SmallTypes.ownedTupleHandOut;have H0:i6 (D.push { cls:=.type "tuple",data:=.seq #[v,v'] }) q TI TO .ellipsis:=be _ l;refine wB (gO H0 (by simp) ?_);intros _ B1 _ u0 L0;refine gO u0 (by simp) λR0 e0 Q0=>?_
     replace e0:i6 R0 q TI TO (bI D.objs.size):=e0
     refine aC ⟨_,rfl,aC ?_⟩;refine wpAny_letOwnedTupleGo_zip e0 λY v0 I0=>?_;have Dp:Dr [q] [] D (D.push { cls:=.type "tuple",data:=.seq #[v,v'] }):=Dr.keeps _ _ λb o e=>be _ e;have Dq:Dr [q] [] (D.push { cls:=.type "tuple",data:=.seq #[v,v'] }) Y:=((Dr.same (.head _) L0 u0).trans (Dr.same (.head _) Q0 e0)).trans (Dr.same (.head _) I0 v0);have T:Dr [q] [] D Y:=Dp.trans Dq;have O:=h0 l;obtain⟨f1,f2⟩:=B0.fresh (eU D);have t1:D.objs.size∉[q]:=λG=>by have:=eU D;rw[aJ.mp G,l]at this;cases this
     have z1:∀c∈o1,c∉o2:=d4;have F0:bP X B Y o1 h1 v1:=((((M0.dr Q.widen W0).dr M d4).dr J.widen W0).dr T.widen p1);have O0:bP X B Y o2 j1 v2:=(E0.dr J.widen V0).dr T.widen e1;have l1:TI∉[q]:=λG=>q1 (aJ.mp G);have c1:TI∉[TO]:=λG=>d1 (aJ.mp G);have G0:jx Y TI v1 v2:=T.keep _ _ (J.keep _ _ (M.keep _ _ (Q.keep _ _ (U.keep _ _ (f.keep _ _ hI l1 (by simp)) w1 n2) c1 (by simp)) x1 n2) c1 (by simp)) l1 (by simp);have J0:jx Y TO v v':=T.keep _ _ u (λG=>z0 (aJ.mp G).symm) (by simp);refine y Y C0 (.ref D.objs.size) (B0.dr O T) (U0.trans ((M.mono mr).trans ((J.widen.mono mO).trans (T.widen.mono mz))))
      (.zip v0 G0 J0 ⟨n1,n2,n3⟩ ⟨b1,b2,b3⟩ j u1 d' F0 O0) ?_
     exact .pair f1 f2 (Dq.keep _ _ (cV _ rfl) t1 (by simp)) ⟨rfl,_,rfl⟩
      (((((rv.dr Q.widen g0).dr M k0.gj).dr J.widen g0)).dr T.widen O) ((s1.dr J.widen g0).dr T.widen O)
set_option backward.match.sparseCases true in set_option tactic.hygienic true in theorem vj {r : ay} {a0 : b8 → aD → Prop} (e : s.heap.get? r = ae o) (hc : ∀ n, o.cls = .type n → Ca n = az) (hQ : a0 () s) :
  aA (MX X) A (rn target (.ref r) v) a0 E s:=by
 have B:aA (MX X) A (do
   let (.ref r,.ref a):=((gu r,v):aw×aw) |(return:dn b8)
   let o <-load r
   match o.cls,o.data with
   |.type n,.fields V=>
    if ["enumerate","zip","dict_itemiterator","dict_reverseitemiterator","odict_iterator","itertools.zip_longest","itertools.pairwise"].contains n && V[0]? == ae (bI a)then
     jX "for.unpacks-the-owned-tuple"
     updateField r 0 .none
   |_,_=>pure ()) a0 E s:=by
  cases v with
  |ref a=>
   refine bO (wpAny_load e ?_);obtain⟨D,G,d,F⟩:=o;cases D with
   |type n=>
    cases d with
    |fields V=>
     show aA _ _ (if (["enumerate","zip","dict_itemiterator","dict_reverseitemiterator","odict_iterator","itertools.zip_longest","itertools.pairwise"].contains n && V[0]? == ae (bI a))=aj then _ else _) _ _ _;rw[aK (by rw[show(["enumerate","zip","dict_itemiterator","dict_reverseitemiterator","odict_iterator","itertools.zip_longest","itertools.pairwise"].contains n)=az from hc n rfl];simp)];exact aC hQ
    |_=>exact aC hQ
   |_=>exact aC hQ
  |_=>exact aC hQ
 cases target with
 |Tuple=>exact B
 |List=>exact B
 |_=>exact aC hQ
def Ll {n:aI}(hv:nK v=aj)(e:v= .type n):Ca n=az:=by
 subst e;unfold nK at hv;simp only[List.contains_eq_mem,bu,pO,tW,ft]at hv;rcases hv with rfl |rfl |rfl |rfl |rfl |rfl |rfl |rfl <;>rfl
set_option tactic.hygienic true in def bP.go {b0 : b8 → aD → Prop} (r : bP X B h own ai it) (a0 : Inv X B I h) (hQ : b0 () (sh z h W)) : aA (MX X) A (rn target it v) b0 E (sh z h W) := by
 cases r with
 |list e hi n b=>obtain⟨o,eo,c,d⟩:=hi;exact vj (s:=sh z h W) eo (λn e=>by rw[c]at e;cases e;rfl) hQ
 |range hi n b=>exact vj (s:=sh z h W) hi (λn e=>by cases e;rfl) hQ
 |obj e=>
  rename_i i a;obtain⟨hi,_⟩:=cF.mp e;have gg:i < I.length:=a0.len ▸ hi;obtain⟨o,eo,b⟩:=a0.obj i I[i] a (cy gg) e;exact vj (s:=sh z h W) eo (λn e=>Ll b.cls e) hQ
set_option tactic.hygienic true in theorem CM {a0 : aD → Prop} {S : aw → aD → Prop} (r : dT X B h own ai it) (b0 : Inv X B I h) (hh : A.handled = ag) (ht : fK target ai = aj) (hr : (bx ai).run I fun res Z => match res with
   |.ok (ae (x0,mK))=>∀H t' v,Inv X B Z H->Dr own B h H->dT X B H own mK it->fK target mK=aj->aF X B H x0 v->S v (sh z H t')
   |.ok .none=>∀H t',Inv X B Z H->Dr own B h H->a0 (sh z H t')
   |.err _=>dm):
  aA (MX X) A (hX it) (λr jh=>match r with
   |none=>a0 jh
   |some v=>aA (MX X) A (rn target it v) (λg Lm=>S v Lm) E' jh) E (sh z h W):=by
 cases r with
 |simple r=>
  unfold pyNext;refine wB (nv (draw (I:=I) r b0 hh ((bx ai).mono (λres Z y=>?_) hr)));cases res with
  |err k=>exact y
  |ok p=>cases p with
   |none=>
    intro H e I' D O ex hx;obtain⟨o,eo,co⟩:=hx;refine wB (mc (T:="StopIteration") (b:=aj) ⟨o,eo,co⟩ oB ?_);exact aC (y H W I' D)
   |some p=>
    obtain⟨x,mK⟩:=p;intro H t' v I' D r' rv;refine aC (r'.go I' (y H t' v I' D (.simple r') ?_ rv));cases r' <;>exact rq _
 |enum he n b ne r=>
  have yj:kq target=aj:=(AX _).symm.trans ht;cases target with
  |Tuple elts c pos=>
   refine Li (I:=I) he n b ne r b0 hh ((bx _).mono (λres Z y=>?_) hr);cases res with
   |err k=>exact y
   |ok p=>cases p with
    |none=>exact y
    |some p=>exact λH t' v i1 i2 i3 i4=>y H t' v i1 i2 i3 rfl i4
  |_=>cases yj
 |set n b na xI ho hd hf kG mG good hi hc=>
  rename_i a it o es ep t first i cur
  have O:eG X B h [it]:=λc hc=>by rw[aJ.mp hc];exact⟨n,b,.inr ⟨_,_,hi,rfl,by simp[qe]⟩⟩
  have yd:it≠a:=λq=>by rw[q,ho]at hi;cases hi;cases hd
  unfold pyNext;refine wB (nv (Ld hh hi ho hd hf kG mG hc yd (λe rest q H first' e1 hs c1=>?_) λq h₁ H e V e1 hs x1 x2 x3=>?_))
  ·subst q;obtain⟨x,tx,rfl⟩:=good e (.head _);have D1:Dr [it] [] h H:=Dr.same (.head _) hs e1;obtain I':=b0.dr O D1;have hr:∀H t' v,Inv X B I H->Dr [it] B h H->dT X B H [it] (.set (rest.map strOf)) (.ref it)->fK target (.set (rest.map strOf))=aj->aF X B H (.str x) v->S v (sh z H t'):=hr;refine aC (vj (s:=sh z H W) e1 (λn e=>by cases e;rfl) (hr H W _ I' D1.widen (.set n b na xI (D1.keep _ _ ho (λhm=>yd (aJ.mp hm).symm) (by simp)) hd hf kG mG (λe he=>good e (.tail _ he)) e1
    (c1.go (λT hT=>.inl hT) λT oT V n1 n2 e ht=>D1.keep _ _ e (by obtain⟨_,m,d⟩:=ht;exact O.kp n2 e (.seq d)) (by simp))) ?_ (.str ..)))
   exact rq _
  ·subst q;obtain⟨o',eo,co⟩:=x3;obtain D1:Dr [it] [] h h₁:=Dr.same (.head _) hs e1;have D2:Dr [it] [] h H:=D1.trans (Dr.keeps _ _ x1);have hr:∀H t',Inv X B I H->Dr [it] B h H->a0 (sh z H t'):=hr;refine wB (mc (T:="StopIteration") (b:=aj) ⟨o',eo,co⟩ oB ?_);exact aC (hr H W (b0.dr O D2) D2.widen)
 |zip hz hI hO n b j xH d r1 r2=>
  have yj:kq target=aj:=(AX _).symm.trans ht;cases target with
  |Tuple elts c pos=>
   refine Lj (I:=I) hz hI hO n b j xH d r1 r2 b0 hh ((bx _).mono (λres Z y=>?_) hr);cases res with
   |err k=>exact y
   |ok p=>cases p with
    |none=>exact y
    |some p=>exact λH t' v i1 i2 i3 i4=>y H t' v i1 i2 i3 rfl i4
  |_=>cases yj
def Cx.ok.less (x:(X.more j).ok a):X.ok a:=⟨x.1,λB=>x.2 (hW _ B)⟩
def Cx.ok.more (x:X.ok a)(e:h.get? a=ae o)(hb:∀b∈j,h.get? b=ag):(X.more j).ok a:=⟨x.1,λB=>by
 rcases dX.mp B with B |B
 ·rw[hb a B]at e;cases e
 ·exact x.2 B⟩
def gU.less:gU (X.more j) X.bad B B h h:=⟨λu u=>id,λu u E D e u=>⟨E,D.less,e⟩⟩
def gU.more (hb:∀b∈j,h.get? b=ag):gU X (j++X.bad) B B h h:=⟨λu u=>id,λu u D E e u=>⟨D,E.more e hb,e⟩⟩
def aF.less (r:aF (X.more j) B h x v):aF X B h x v:=aF.dK (X:=X.more j) (j:=X.bad) gU.less r
def aF.more (hb:∀b∈j,h.get? b=bq)(r:aF X B h x v):aF (X.more j) B h x v:=r.dK (gU.more hb)
def OB.less (b:OB (X.more j) B h ao o):OB X B h ao o:=OB.dK (X:=X.more j) (j:=X.bad) gU.less b
def OB.more (hb:∀b∈j,h.get? b=ag)(b:OB X B h ao o):OB (X.more j) B h ao o:=b.dK (gU.more hb)
def Inv.less (a0:Inv (X.more j) B I h):Inv X B I h:=
 ⟨a0.len,a0.nodup,λi G a E D=>by obtain⟨o,e,b⟩:=a0.obj i G a E D;exact⟨o,e,b.less⟩,a0.base,a0.new,a0.gd,a0.mods,a0.tab,λb F=>a0.gf b (hW _ F)⟩
def Inv.more (a0:Inv X B I h)(hk:∀a o,h.get? a=ae o->H.get? a=ae o)(hb:∀b∈j,h.get? b=ag/\∃o,H.get? b=ae o):Inv (X.more j) B I H:=by
 refine⟨a0.len,a0.nodup,λi J a F E=>?_,λb o e G=>hk _ _ (a0.base b o e G),a0.new,a0.gd,a0.mods,?_,λb D=>?_⟩
 ·obtain⟨o,e,b⟩:=a0.obj i J a F E;exact⟨o,hk _ _ e,(b.more (j:=j) λb D=>(hb b D).1).step (Go.keeps (X.more j) B hk []).step⟩
 ·obtain⟨V,e,c⟩:=a0.tab;exact⟨V,hk _ _ e,c⟩
 ·rcases dX.mp D with D |D
  ·exact(hb b D).2
  ·obtain⟨o,e⟩:=a0.gf b D;exact⟨o,hk _ _ e⟩
def KO.conv (hB:Y.base=X.base)(k:KO X a o o'):KO Y a o o':=by unfold KO at k |-;rw[hB];exact k
def Go.conv {ex:ah ay}(hB:Y.base=X.base)(a0:Go X ex B h J H):Go Y ex B h J H:=
 ⟨⟨a0.step.there,a0.step.ext,λa o e D I E=>by obtain⟨K,F,k⟩:=a0.step.keep a o e D I E;exact⟨K,F,k.conv hB⟩⟩,λa o e D f b=>a0.fr a o e D f (hB ▸ b)⟩
def Go.less {ex:ah ay}(a0:Go (X.more j) ex B h J H):Go X ex B h J H:=Go.conv (X:=X.more j) (Y:=X) rfl a0
def Go.more {ex:ah ay}(a0:Go X ex B h J H):Go (X.more j) ex B h J H:=Go.conv (X:=X) (Y:=X.more j) rfl a0
def En.less (a0:En (X.more j) U G Q N B h):En X U G Q N B h:=by
 refine⟨a0.kind,a0.glob,a0.blt,a0.kinds,a0.len,?_,a0.fY,a0.ir,a0.cells⟩;obtain⟨m,n,r⟩:=a0.ns;refine⟨m,n,λx i v H F D=>?_⟩;obtain⟨E,J,I⟩:=r x i v H F D;exact⟨E,J,I.less⟩
def En.more (a0:En X U G Q N B h)(hb:∀b∈j,h.get? b=ag):En (X.more j) U G Q N B h:=by
 refine⟨a0.kind,a0.glob,a0.blt,a0.kinds,a0.len,?_,a0.fY,a0.ir,a0.cells⟩;obtain⟨m,n,r⟩:=a0.ns;refine⟨m,n,λx i v H F D=>?_⟩;obtain⟨E,J,I⟩:=r x i v H F D;exact⟨E,J,I.more hb⟩
def mF.less {f:FL}{g:Flow}(r:mF (X.more j) B h f g):mF X B h f g:=by
 cases r with
 |next=>exact .next
 |brk=>exact .brk
 |cont=>exact .cont
 |ret D=>exact .ret D.less
def Ar.more (a:Ar X n u A l B h):Ar (X.more j) n u A l B h:=⟨a.handled,a.depth,a.units,a.frames,a.dR⟩
def cn.more (C:cn X):cn (X.more j):=by
 obtain⟨lim,L,E,K,O,H,G,M,D,N,I,J,r⟩:=C;have f:∀{x:AV} {v:aw},SV X x v->SV (X.more j) x v:=λ{x v} s B h=>by
  obtain F:∀a,(({}:aG).get? a)=ag:=λa=>by simp[Heap.get?]
  exact(s B {}).dK ⟨λu u=>id,λa o u u e u=>gh ((F a).symm.trans e)⟩
 refine⟨lim,L,E,K,O,H,G,M,D,N,I,J,λx v e=>?_⟩;rcases r x v e with ⟨v',e',s⟩ |⟨e0,v',e',s⟩
 ·exact .inl ⟨v',e',f s⟩
 ·exact .inr ⟨e0,v',e',f s⟩
def CN (hn:iL e=aj)(G:bH)(x:aw):foldedSetIterable e G x=pure x:=by
 unfold foldedSetIterable;cases e <;>first |rfl |(cases hn)
def aW.CO {ex:ah ay}{α e0 β d0:Type}{R:ah ay->aG->β->α->Prop}{R':ah ay->aG->d0->e0->Prop}{a0:e0->aD->Prop}{t:dn α}{m:P β}{g:β->P d0}(h1:aW (X.more j) A ex R B I h t m)(c0:Zs dE z)(b0:Go X ex br h₀ B h)(hr:(m>>=g).run I (aL X dE ex br h₀ R' a0 E)){Q':α->aD->Prop}(hE:∀{kx:aI} {Z:St},aL X dE ex br h₀ R' a0 E (.err kx) Z->aL X dE ex br h₀ R' a0 E' (.err kx) Z)(k:∀z' J Z H t' b a,Zs dE z'->Inv (X.more j) J Z H->Go X ex B h J H->Go X ex br h₀ J H->R J H b a->(g b).run Z (aL X dE ex br h₀ R' a0 E)->Q' a (sh z' H t')):aA (MX X) A t Q' E' (sh z h W):=by
 refine h1 z W Q' E' (m.mono (λr Z y=>?_) (show m.run I _ from hr));intro z' J H t' F D S;obtain S':Go X ex B h J H:=Go.less S;cases r with
 |ok b=>exact λa G=>k z' J Z H t' b a (c0.trans F) D S' (b0.trans S') G y
 |err k=>exact λe x=>hE y z' J H t' (c0.trans F) D.less (b0.trans S') e (x.oW b0.step.there)
def CP {γ:Type}{g:ah AV->P γ}{p:Res γ->St->Prop}(hr:(lst i>>=g).run I p)(hg:∀l,(g l).run I p->(g l).run I (rV p)):(lst i>>=g).run I (rV p):=by
 obtain⟨l,e,hr⟩:=gW hr;have:=hg l hr;show(P.load i>>=λo=>(match o with |.list l=>P.pure l |_=>P.fail)>>=g).run I (rV p);rw[P.run_bind,P.run_load e];exact this
def yk:∀(ai:AI) {I:St} {p:Res (ax (AV×AI))->St->Prop},(bx ai).run I p->(bx ai).run I (rV p):=by
 intro ai;induction ai with
 |list J i=>
  intro I p B;cases J with
  |none=>exact B
  |some s=>
   exact CP B λl D=>by
    cases q:l[i]? with
    |none=>simp only[q]at D |-;exact D
    |some v=>simp only[q]at D |-;exact D
 |set F=>
  intro I p B;cases F with
  |nil=>exact B
  |cons=>exact B
 |range c n s=>
  intro I p B;cases n with
  |zero=>exact B
  |succ=>exact B
 |zip a b E G=>
  intros a b _ E G;intros _ I p _ B;obtain H:=E (show(bx a).run I _ from B);refine(bx a).mono ?_ H;intros _ r Z _ y;cases r with
  |err k=>exact y.elim
  |ok r=>cases r with
   |none=>exact y
   |some x=>
    intros x _ y;obtain L:=G (show(bx b).run Z _ from y);refine(bx b).mono (λr Z y=>?_) L;cases r with
    |err k=>exact y.elim
    |ok r=>cases r with
     |none=>exact y
     |some x=>exact y
 |enum n a K=>
  intros n a _ K;intros _ I p _ B;obtain H:=K (show(bx a).run I _ from B);refine(bx a).mono (λr Z y=>?_) H;cases r with
  |err k=>exact y.elim
  |ok r=>cases r with
   |none=>exact y
   |some x=>exact y
 |obj i=>
  intro I p B;obtain⟨o,e,B⟩:=eV B;show(P.load i>>=_).run I (rV p);rw[P.run_bind,P.run_load e];cases o with
  |iter s k=>cases s with
   |none=>exact B
   |some s=>
    refine CP B λl D=>?_;cases q:l[k]? with
    |none=>rw[q]at D;exact D
    |some v=>rw[q]at D;exact D
  |_=>exact B.elim
theorem Lp {t i:aH}{b:ah dy}{cb:DS}(hi:HI X F k U i ci)(ht:∀j,HA (X.more j) F k U t ca)(hb:∀j,iN (X.more j) F k U b cb)(n:ak):HS X F k U (.For t i b [] pos) (λrt=>do
   P.guard (iL i=aj)
   let m0 <-ci rt
   P.guard (fK t m0=aj)
   forA cb ca n m0 rt):=by
 intros _ A l G Q N T I Y _ K _ V W S E _ hr;obtain⟨hm,hr⟩:=a6 hr;refine wpAny_For ?_ (CN hm G);refine hi K V W _ E ((ci ⟨F,Q,N⟩).mono ?_ (show(ci ⟨F,Q,N⟩).run I _ from hr));intros _ d0 Z _ y;cases d0 with
 |err kx=>exact λz' J H t' R M O e x=>y z' J H t' R M (O.nil _) e x
 |ok u=>
  intros u _ y;intros _ z1 l0 h1 t1 j f0 it _ Z1 I1 G1 r1 ho r0;obtain⟨h0,v0⟩:=a6 (show(P.guard (fK t u=aj)>>=λd=>forA cb ca n u ⟨F,Q,N⟩).run Z (aL X V [G.locals] T Y (RS X U G Q) S E) from y);have n0:∃o,Y.get? G.locals=ae o:=by obtain⟨m,⟨o,es,ep,e,_⟩,_⟩:=K.en.ns;exact⟨o,e⟩
  have e0:G.locals∉f0:=λhm=>by obtain⟨o,e⟩:=n0;rw[ho _ hm]at e;cases e
  have N1:En (X.more j) U G Q N l0 h1:=by
   have L:=K.en.more (j:=j) r0;refine⟨L.kind,L.glob,L.blt,L.kinds,L.len,?_,?_,L.ir,λx c e1=>?_⟩
   ·obtain⟨m,n,r⟩:=L.ns;refine⟨m,G1.ns n L.fY (K.en.xO K.inv),λx i v e1 e2 e3=>?_⟩;obtain⟨v',e4,r4⟩:=r x i v e1 e2 e3;exact⟨v',e4,r4.step (Go.more G1).step⟩
   ·obtain⟨o,e⟩:=n0;exact G1.step.dt e L.fY
   ·obtain⟨a,e3,e4⟩:=L.cells x c e1;exact⟨a,G1.step.iP e3,e4⟩
  refine codeAny_forLoop_any (λn s=>∃z B I h t2 N u,s=sh z h t2/\Zs V z/\Inv (X.more j) B I h/\Go X [G.locals] T Y B h/\En (X.more j) U G Q N B h/\dT (X.more j) B h f0 u it/\fK t u=aj/\
   (forA cb ca n u ⟨F,Q,N⟩).run I (aL X V [G.locals] T Y (RS X U G Q) S E)) ?_ n ⟨z1,l0,Z,h1,t1,N,u,rfl,Z1,I1,G1.nil _,N1,r1,h0,v0⟩
  intros _ n s _ o0;obtain (⟨z,B,I,h,t2,N,u,rfl,R,M,O,L,r,h0,hr⟩):=o0;cases n with
  |zero=>exact hr.elim
  |succ n=>
   intros n _ hr;refine CM (X:=X.more j) (target:=t) (I:=I) (z:=z) (W:=t2) r M K.ar.handled h0 ((bx u).mono ?_ (yk u (show(bx u).run I _ from hr)));intros _ d0 Z _ y;cases d0 with
   |err k=>exact y
   |ok p=>cases p with
    |none=>
     intro H t' I' D;refine q8 ?_;exact y z B H t' R I'.less (O.dr D ho) .next ⟨.next,(L.dr D r.gj e0).less⟩
    |some p=>
     obtain⟨x,g0⟩:=p;intros x g0 _ y;intro H t' v I' D r' b0 rv;have G':=O.dr D ho;obtain N':=L.dr D r.gj e0;obtain K':Ctx (X.more j) k U A l G Q N B Z H:=⟨K.ok.more,(K.ar.step G').more,K.top,I',N',K.code⟩;refine(ht j K' rv).CO R G' y (λp=>p.vd K) λz2 u0 p0 h2 t2 j0 d Z2 I2 G2 k0 N2 s0=>?_;obtain K2:Ctx (X.more j) k U A l G Q j0 u0 p0 h2:=⟨K.ok.more,(K.ar.step k0).more,K.top,I2,N2,K.code⟩;have hx:∀c∈f0,c∉[G.locals]:=λc hc hm=>e0 (aJ.mp hm ▸ hc);obtain r2:=r'.step I' (Go.more G2) hx;refine(hb j K2).CO Z2 k0 s0 (λp=>p.vd K) λz3 w i0 h3 t3 p fl Z3 I3 G3 a0 rp f=>?_;obtain⟨f1,c0⟩:=p;obtain⟨rf,N3⟩:=rp;have r3:=r2.step I2 (Go.more G3) hx;cases rf with
     |next=>exact⟨n,jD n,z3,w,i0,h3,t3,c0,g0,rfl,Z3,I3,a0,N3,r3,b0,f⟩
     |cont=>exact⟨n,jD n,z3,w,i0,h3,t3,c0,g0,rfl,Z3,I3,a0,N3,r3,b0,f⟩
     |brk=>exact f z3 w h3 t3 Z3 I3.less a0 _ ⟨.next,N3.less⟩
     |ret hx=>exact f z3 w h3 t3 Z3 I3.less a0 _ ⟨.ret hx.less,N3.less⟩
def Lq {γ:Type}{g:AI->P γ}{p:Res γ->St->Prop}(hr:(rM i>>=g).run I p):(∃l,I[i]? =ae (.list l)/\(g (.list (ae i) 0)).run I p)\/∃s k,I[i]? =ae (.iter s k)/\(g (.obj i)).run I p:=by
 obtain⟨B,e,hr⟩:=eV (i:=i) (g:=λo=>(match o with
  |.list _=>P.pure (AI.list (ae i) 0)
  |.iter _ _=>P.pure (AI.obj i)
  |_=>P.fail:P AI)>>=g) hr
 cases B with
 |list l=>exact .inl ⟨l,e,hr⟩
 |iter s k=>exact .inr ⟨s,k,e,hr⟩
 |_=>exact hr.elim
def vk {s:ax ak}(a0:Inv X B I h)(e:I[i]? =ae (.iter s k))(ea:B[i]? =ae a):(sh z h W).TypeIs (.ref a) "list_iterator":=by
 obtain⟨o,E,D⟩:=a0.obj i _ a e ea;cases s with
 |none=>exact⟨o,E,D.1⟩
 |some s=>exact⟨o,E,D.1⟩
def CQ {Q':aw->aD->Prop}{γ:Type}{g:AI->P γ}{p:Res γ->St->Prop}(a0:Inv X B I h)(e:B[i]? =ae a)(hr:(rM i>>=g).run I p)(k:∀H own ai it,(∀b o,h.get? b=ae o->H.get? b=ae o)->bP X B H own ai it->(∀c∈own,h.get? c=ag)->(g ai).run I p->Q' it (sh z H W)):aA (MX X) A (f6 (.ref a)) Q' E (sh z h W):=by
 rcases Lq hr with ⟨l,e1,hr⟩ |⟨s,kk,e1,hr⟩
 ·obtain⟨O,n,J,K,len,_⟩:=ez a0 e1 e;refine AY (s:=sh z h W) ⟨_,J,rfl,n,rfl⟩ ?_;refine k _ [h.objs.size] _ _ (λb o e=>be _ e) (.list e ⟨_,cV _ rfl,rfl,rfl⟩ (λG=>dP _ (a0.lt G)) (a0.ey (eU h))) (λc F=>?_) hr;rw[aJ.mp F];exact eU h
 ·obtain D:=vk (z:=z) (W:=W) a0 e1 e;refine oA D j6 (gw j6 D ru ?_ (rz _));exact aC ⟨_,rfl,"list_iterator",_,D,j3.lookup,k h [] _ _ (λu u e=>e) (.obj e) (λu F=>nomatch F) hr⟩
def P.CR {β:Type}{m:P β}{p:Res β->St->Prop}(h:m.run I p):(m>>=P.pure).run I p:=by
 refine m.mono (λr Z y=>?_) h;cases r <;>exact y
set_option tactic.hygienic true in def Lr {b0 : aw → aD → Prop} (a0 : Inv X B I h) (hx : aF X B h x v) (hr : (jG x).run I (rU X z B h b0 E)) : aA (MX X) A (f6 v) b0 E (sh z h W) := by
 cases x with
 |ref i=>
  obtain⟨e⟩:=hx;exact CQ a0 e (P.CR hr) λH own ai it hk r ho hr=>hr z B H W [] own it (.refl _) (a0.keeps hk) (Go.keeps X B hk []) (.simple r) ho (λu hb=>nomatch hb)
 |cL l=>
  obtain⟨⟨n1,n2,e,c,d,r⟩⟩:=hx;rename_i a o es ep t;obtain⟨xs,hp,r,hf,h3,kG,mG⟩:=r;obtain⟨rfl,good⟩:=r.K9;refine Lh (X:=X) (B:=B) e c d hf h3 kG (λT hT=>a0.fresh hT) λH it dr first cur hk hn hi hc hq=>?_
  have hr:∀l',l'.Perm l->rU X z B h b0 E (.ok (.set l')) I:=hr;obtain I':=a0.keeps hk;refine hr (cur.map strOf) ((hq.map strOf).trans hp) _ B H W [] [it] (.ref it) ⟨rfl,rfl⟩ I' (Go.keeps X B hk []) ?_ (λc hc=>by rw[aJ.mp hc];exact hn) (λu hb=>nomatch hb);exact .set (a0.fresh hn).1 (a0.ey hn) n1 n2 (hk _ _ e) d hf kG mG (λe he=>good e (hq.mem_iff.mp he)) hi hc
 |_=>exact hr.elim
def Ls (ha:HE X F k U e d):HI X F k U e (λrt=>do
   let v0 <-d rt
   jG v0):=by
 intro A l G Q N B I h K z W O E hr;refine ha K z W _ E ((d ⟨F,Q,N⟩).mono (λu Z y=>?_) (show(d ⟨F,Q,N⟩).run I _ from hr));intro z' J H t' M D L;cases u with
 |err kx=>exact λe x=>y z' J H t' M D L e x
 |ok x=>
  intro v rx;refine Lr D rx ((jG x).mono (λr a0 p=>?_) y);cases r with
  |ok ai=>exact λV R b T j w it f m Y r2 ho hb=>p V R b T j w it (M.trans f) m (L.trans Y) r2 (λc hc=>by
    cases q:h.get? c with
    |none=>rfl
    |some o=>obtain⟨o',S⟩:=L.step.there c o q;rw[ho c hc]at S;cases S) (λc hc=>by
    cases q:h.get? c with
    |none=>rfl
    |some o=>obtain⟨o',S⟩:=L.step.there c o q;rw[hb c hc]at S;cases S)
  |err kx=>exact λV R b T f m Y e x=>p V R b T (M.trans f) m (L.trans Y) e (x.oW L.step.there)
def cq.step {ex:ah ay}(S:Step X ex B h J H):∀{xs:ah (au×AV)} {V:ah (au×aw)},cq X B h xs V->cq X J H xs V:=by
 intro xs V r;induction r with
 |nil=>exact .nil
 |cons E _ D=>exact .cons (E.step S) D
def cq.names:∀{xs:ah (au×AV)} {V:ah (au×aw)},cq X B h xs V->V.map (·.1)=xs.map (·.1):=by
 intro xs V r;induction r with
 |nil=>rfl
 |cons E _ D=>rw[f9,f9,D]
def Ar.in1 {u':ak}(a:Ar X k u A l B h)(hu:u'+1<=u):Ar X k u' A.in1 l B h:=
 ⟨a.handled,a.depth,by have:=a.units;show A.units+1+u'<=9800;lia,a.frames,a.dR⟩
def Ar.less {k' u':ak}(a:Ar X k u A l B h)(hk:k'<=k)(hu:u'<=u):Ar X k' u' A l B h:=
 ⟨a.handled,by have:=a.depth;lia,by have:=a.units;lia,a.frames,a.dR⟩
def CS:∀(ks:ah m5) (g:aH->DE) (pos:fj),(∀w∈ks,HE X F k U (nL w) (g (nL w)))->ks.all kwOk=aj->
  ∀{A:d8} {l:ah bH} {G:bH} {Q:ah (au×ak)} {N:ah (ax AV)} {B:ah ay} {I:St} {h:aG},Ctx X k U A l G Q N B I h->
   aW X A [] (λB h kv V=>cq X B h kv (((mh pos (mn ks G)).filterMap (·.1)).zip V)) B I h (evalAll ((mh pos (mn ks G)).map (·.2))) (fV (ks.map (oS g)) ⟨F,Q,N⟩):=by
 intro ks;induction ks with
 |nil=>
  intro g pos _ _ A l G Q N B I h K z W D E H;exact aC (H _ _ _ _ (.refl _) K.inv (.refl ..) _ .nil)
 |cons T ks ih=>
  obtain⟨nm,v,p⟩:=T;intro g pos O R A l G Q N B I h K z W D E H;cases nm with
  |none=>exact absurd (show az=aj from R) jd
  |some n=>
   have Lu:ks.all kwOk=aj:=R;refine wpAny_evalAll_cons ?_;refine wB ?_;refine(O _ (.head _) K).then H λz1 j m h1 t1 x v u o Z M=>?_;refine wB (jC (aC ?_));refine(ih g pos (λw b=>O w (.tail _ b)) Lu (K.step u o)).then M λz2 f Y h2 t2 xs V I2 S L J=>?_;exact J _ _ _ _ (.refl _) I2 (.refl ..) _ (.cons (Z.step S.step) L)
def yl:∀(ks:ah m5) (pos:fj) (G:bH),ks.all kwOk=aj->(mh pos (mn ks G)).all (·.1.isSome)=aj/\(mh pos (mn ks G)).any (·.1.isNone)=az
 | [],_,_,_=>⟨rfl,rfl⟩
 |⟨ag,v,p⟩ :: ks,pos,G,ho=>absurd (show az=aj from ho) jd
 |⟨ae n,v,p⟩ :: ks,pos,G,ho=>by
  obtain⟨a,b⟩:=yl ks pos G ho;obtain e:mh pos (mn (⟨ae n,v,p⟩ :: ks) G)=(ae n,eval v G>>=λv=>tH pos>>=λu=>pure v) :: mh pos (mn ks G):=rfl;rw[e,AZ,pK,a,b];exact⟨rfl,rfl⟩
def plain_any:∀(T:ah aH) (pos:fj) (G:bH),T.all dg=aj->(lA pos (jA T G)).any (·.1)=az:=by
 intro l;induction l with
 |nil=>
  intro _ _ _;exact rfl
 |cons e T D=>
  intro pos G B;rw[AZ,cW]at B;rw[kJ B.1];show(az || (lA pos (jA T G)).any (·.1))=az;rw[D pos G B.2];rfl
def ym {f:aw}{e0:ah aw}{Pk:aG->Prop}{T:ah aH}{ks:ah m5}{g:aH->DE}{b0:aw->aD->Prop}{β:Type}{R':ah ay->aG->β->aw->Prop}{a0:ah AV->ah (au×AV)->P β}(K:Ctx X k U A l G Q N B I h)(ha:∀e∈T,HE X F k U e (g e))(hw:∀w∈ks,HE X F k U (nL w) (g (nL w)))(d0:lL T ks=aj)(hk:∀H,Pk H->∃kp,(kp=tX\/kp=pX\/kp=tY)/\oD (MX X) H (oE f) kp)(hr:(dG (T.map g) ⟨F,Q,N⟩>>=λV=>fV (ks.map (oS g)) ⟨F,Q,N⟩>>=λkv=>a0 V kv).run I (aL X z [] B h R' b0 E))(cont:∀z' J Z H t' V vals kv c0,Inv X J Z H->Go X [] B h J H->aT X J H V vals->cq X J H kv c0->(a0 V kv).run Z (aL X z' [] J H R' b0 E)->Pk H/\aA (MX X) A (call f (e0++vals) c0) b0 E (sh z' H t')):
  aA (MX X) A (callWith pos f e0 (lA pos (jA T G)) (mh pos (mn ks G))) b0 E (sh z h W):=by
 unfold lL at d0;rw[cW]at d0;obtain⟨w1,w2⟩:=yl ks pos G d0.2;refine wR (P:=Pk) (by rw[plain_any T pos G d0.1,w2];rfl) hk ?_;have S:aA (MX X) A (spliced (lA pos (jA T G))) (λV R=>aA (MX X) A (evalAll ((mh pos (mn ks G)).map (·.2)))
   (λkv D=>Pk D.heap/\aA (MX X) A (call f (e0++V) (((mh pos (mn ks G)).filterMap (·.1)).zip kv)) b0 E D) E R) E (sh z h W):=by
  obtain hp:∀e∈T,dg e=aj:=bW.mp d0.1;refine(xS T g pos ha (λe hm hf=>by rw[hp e hm]at hf;cases hf) K).then hr λz1 h0 i0 h1 t1 xs V I1 G1 b f0=>?_;refine(CS ks g pos hw d0.2 (K.step I1 G1)).then f0 λu O L o j kv c0 I2 Y m M=>?_;exact cont u O L o j xs V kv _ I2 (G1.trans Y) (b.step Y.step) m M
 cases T with
 |nil=>
  refine evalArgs_kw2_nil w1 ?_;refine(CS ks g pos hw d0.2 K).then (show(fV (ks.map (oS g)) ⟨F,Q,N⟩>>=λkv=>a0 [] kv).run I _ from hr) λu O L o j kv c0 I2 Y m M=>?_;exact cont u O L o j [] [] kv _ I2 Y .nil m M
 |cons e g0=>
  have he:dg e=aj:=by have:=d0.1;rw[AZ,cW]at this;exact this.1
  exact evalArgs_kw2 w1 S (kJ he)
def fX.step {ex:ah ay}{l:ah (au×ak)}{cl:ah (au×ay)}(S:Step X ex B h J H)(r:fX B l cl):fX J l cl:=r.mono λu u=>S.iP
def Lv (f:au×l6->ah (au×ay)->dn (tZ (ah (au×ay))))(hf:∀name kind c0,f (name,kind) c0=if kind == .cell then (do let a0 <-alloc { cls:=.type "cell",data:=.cell ag };pure (.yield ((name,a0) :: c0)))else pure (.yield c0)):
  ∀(names:ah (au×l6)) (e0:ah (au×ak)) (d0:ah (au×ay)) {B:ah ay} {I:St} {h:aG} {z:aD} {W:ak} {b0:ah (au×ay)->aD->Prop},Inv X B I h->fX B e0 d0->
   (kr names e0).run I (λr Z=>match r with
    |.ok Lw=>∀J H c0,Inv X J Z H->Go X [] B h J H->fX J Lw c0->(∀b o,h.get? b=ae o->H.get? b=ae o)->b0 c0 (sh z H W)
    |.err _=>eN)->aA (MX X) A (forIn names d0 f) b0 E (sh z h W):=by
 intro l;induction l with
 |nil=>
  intro e0 d0 B I h z W b0 D K F;rw[me];exact aC (F B h d0 D (.refl ..) K λu u e=>e)
 |cons M r R=>
  obtain⟨n,T⟩:=M;intro e0 d0 B I h z W b0 D K F;rw[pW,hf];unfold kr at F;by_cases O:(T == oF)=aj
  ·rw[aN O]at F |-;refine wB (wB (t9 (aC ?_)));obtain G:=Go.alloc X [] B h { cls:=.type "cell",data:=.cell ag };obtain I':=D.alloc (ao:=.cell ag) (o:={ cls:=.type "cell",data:=.cell ag }) ⟨rfl,ag,rfl,.none⟩ rfl;refine R ((n,I.length) :: e0) _ I' (.cons (by rw[<-D.len];simp) (K.step G.step)) (P.mono _ (λr Z y=>?_) (show(kr r ((n,I.length) :: e0)).run (I++[.cell ag]) _ from F));cases r with
   |err k=>trivial
   |ok Q=>exact λJ H c0 U S L N=>y J H c0 U (G.trans S) L λb o e=>N b o (be _ e)
  ·rw[aK O]at F |-;exact wB (aC (R e0 d0 D K F))
def CT (f:au×aw->PUnit->dn (tZ PUnit))(hf:∀n v u,f (n,v) u=(do qY G n v;pure (.yield ⟨⟩))):
  ∀(binds:ah (au×AV)) (vb:ah (au×aw)) (N:ah (ax AV)) {B:ah ay} {I:St} {h:aG},Inv X B I h->En X U G Q N B h->cq X B h binds vb->
   aW X A [G.locals] (λB h N c=>En X U G Q N B h) B I h (forIn vb A2 f) (qb U binds ⟨F,Q,N⟩)
 |_,_,N,B,I,h,J,D,.nil=>λz W H E L=>by rw[me];exact aC (L _ _ _ _ (.refl _) J (.refl ..) _ D)
 |_,_,N,B,I,h,J,D,.cons (n:=n) (x:=x) (v:=v) hx hs=>λz W H E L=>by
  rw[pW,hf];refine wB (wB ?_);refine(xX (F:=F) J D hx n).then L λR Z Y j S K w O T V M=>?_;refine aC ?_;exact CT f hf _ _ K O V (hs.step T.step) R S H E M
theorem vl {b0:bN}{e0:ay}{i0:ah (au×ay)}{f0:ah (au×ak)}{g0:ah (au×AV)}{vb:ah (au×aw)}{k0:au}{j0:ax ay}{code:aw}{c0:ax bH}{d0:ay}(hk:b0.kind= .function)(hg:e0=iG)(hb:(match c0 with |some o0=>o0.builtins |none=>d0)=qO)(a0:Inv X B I h)(rb:cq X B h g0 vb)(rc:fX B f0 i0):
  aW X A [] (λJ H rt G=>rt.F=F/\En X b0 G rt.cel rt.loc J H/\h.get? G.locals=ag/\∃h0,G=newEnv b0 G.locals e0 h0 k0 j0 code c0 d0) B I h
   (newFunctionEnv b0 e0 i0 vb k0 j0 code c0 d0) (cP F b0 f0 g0):=by
 intro z W L E hr;obtain hr:(kr b0.names f0>>=λQ=>qb b0 g0 ⟨F,Q,b0.names.map λa=>ag⟩>>=λN=>P.pure (⟨F,Q,N⟩:RT)).run I _:=hr;unfold newFunctionEnv;refine wB (t9 ?_);generalize u:({ cls:=.type (if c0.isSome=aj then "dict" else "frame"),data:=.dict #[] }:Obj)=fo;have b:=Go.push X [] B h fo;obtain I0:=a0.push fo;have eL:(h.push fo).get? h.objs.size=ae fo:=cV _ (by subst u;rfl);obtain Y:h.objs.size∉B:=λhm=>dP _ (a0.lt hm);refine wB (Lv _ (λr0 l h0=>by cases n0:l == oF <;>simp[n0]) b0.names f0 i0 I0 (rc.step b.step) ((kr b0.names f0).mono (λr Z y=>?_) (show(kr b0.names f0).run I _ from hr)));cases r with
 |err k=>trivial
 |ok Q=>
  intro V h1 h0 I1 w f p0;obtain m:h1.get? h.objs.size=ae fo:=p0 _ _ eL;obtain R:h.objs.size∉V:=w.step.dt eL Y;have O:∀G:bH,G=newEnv b0 h.objs.size e0 h0 k0 j0 code c0 d0->aA (MX X) A (forIn vb A2 (λ(x:au×aw) (_:PUnit)=>do qY G x.1 x.2;pure (nx A2))>>=λa=>pure G) L E (sh z h1 W):=by
   intro G M;have D:En X b0 G Q (b0.names.map λa=>ag) V h1:=by
    obtain m0:∀x,G.kindOf x=cM b0 x:=λx=>by subst M;cases c0 <;>rfl
    refine⟨by subst M;cases c0 <;>exact hk,by subst M;cases c0 <;>exact hg,by subst M;cases c0 <;>exact hb,λx=>?_,by simp,⟨λa=>ag,?_,λx i v a a j=>?_⟩,by subst M;cases c0 <;>exact R,by subst M;cases c0 <;>exact a0.ey (eU h),λx c e=>?_⟩
    ·rw[m0];unfold uR;cases cM b0 x with
     |none=>trivial
     |some kd=>cases kd <;>simp
    ·have T:G.locals=h.objs.size:=by subst M;cases c0 <;>rfl
     rw[T];exact⟨fo,#[],_,m,by subst u;rfl,λe M=>by simp at M,λx=>by simp[jw,wU]⟩
    ·rw[dA]at j;cases q:b0.names[i]? with
     |none=>rw[q]at j;cases j
     |some y=>rw[q]at j;cases j
    ·have l0:G.cells=h0:=by subst M;cases c0 <;>rfl
     rw[l0];exact f.get e
   have T:G.locals=h.objs.size:=by subst M;cases c0 <;>rfl
   refine wB ?_;refine CT (X:=X) (F:=F) _ (λa a a=>rfl) g0 vb _ I1 D (rb.step (b.trans w).step) z W _ E ((qb b0 g0 _).mono (λr s0 y2=>?_) (show(qb b0 g0 ⟨F,Q,b0.names.map λa=>ag⟩).run Z _ from y));intro z2 S h2 t2 Z2 I2 G2;have U:Go X [] B h S h2:=by
    have K:=((b.trans w).nil [G.locals]).trans G2;exact⟨K.step.drop (by rw[T];exact eU h),K.fr⟩
   cases r with
   |err k=>exact λe x=>y2 z2 S h2 t2 Z2 I2 U e (x.oW (b.trans w).step.there)
   |ok N=>
    intro _ N2;refine aC (y2 z2 S h2 t2 Z2 I2 U G ⟨rfl,N2,by rw[T];exact eU h,h0,?_⟩);rw[T];exact M
  cases c0 with
  |none=>exact O _ rfl
  |some o=>exact O _ rfl
def lookup_isSome_iff:∀(l:ah (au×aw)) (n:au),(l.lookup n).isSome=aj↔n∈l.map (·.1):=by
 intro l;induction l with
 |nil=>
  intro n;simp
 |cons B l E=>
  obtain⟨k,v⟩:=B;intro n;rw[gv,f9,bu];cases D:n == k with
  |true=>simp[bU.mp D]
  |false=>rw[E n];simp[oi.mp D]
def Lx {names:ah au}{f:au×aw->(ah (au×aw)×ah (au×aw))->dn (tZ (ah (au×aw)×ah (au×aw)))}(hf:∀(x:au×aw) (u:ah (au×aw)×ah (au×aw)),names.contains x.1=aj->(u.1.lookup x.1).isSome=az->f x u=pure (.yield (u.1++[(x.1,x.2)],u.2))):
  ∀(kvs slots ex:ah (au×aw)) {a0:(ah (au×aw)×ah (au×aw))->aD->Prop},(∀x∈kvs,x.1∈names)->((slots++kvs).map (·.1)).Nodup->a0 (slots++kvs,ex) s->aA M A (forIn kvs (slots,ex) f) a0 E s:=by
 intro l;induction l with
 |nil=>
  intro slots ex a0 _ _ h;rw[me];simp at h;exact aC h
 |cons B r H=>
  obtain⟨n,v⟩:=B;intro slots ex a0 D nd h;rw[pW,hf (n,v) (slots,ex) (by simpa using D (n,v) (.head _)) ?_]
  ·refine wB (aC ?_);exact H (slots++[(n,v)]) ex (λx F=>D x (.tail _ F)) (by simpa using nd) (by simpa using h)
  ·rw[<-pQ,lookup_isSome_iff];intro G;rw[dH,tE]at nd;exact nd.2.2 n G n (by simp) rfl
def Ly {α:Type}{f:au×aw->α->dn (tZ α)}{u:α}:∀(l:ah (au×aw)) {a0:α->aD->Prop},(∀x∈l,f x u=pure (.yield u))->a0 u s->aA M A (forIn l u f) a0 E s:=by
 intro l;induction l with
 |nil=>
  intro a0 _ h;rw[me];exact aC h
 |cons x l D=>
  intro a0 B h;rw[pW,B x (.head _)];exact wB (aC (D (λy F=>B y (.tail _ F)) h))
def Lz:∀(S:ah (au×aw)),(S.map (·.1)).Nodup->∀(a0:ah (au×aw)),(∀x∈S,a0.lookup x.1=ae x.2)->((S.map (·.1)).filterMap λn=>(a0.lookup n).map λx=>(n,x))=S:=by
 intro l;induction l with
 |nil=>
  intro _ _ _;exact rfl
 |cons B S E=>
  obtain⟨n,v⟩:=B;intro nd a0 h;rw[f9,AM,h (n,v) (.head _)];simp only[tS];rw[E (pN.mp nd).2 a0 λx D=>h x (.tail _ D)]
def LC:∀(S:ah (au×aw)),(S.map (·.1)).Nodup->∀x∈S,S.lookup x.1=ae x.2:=by
 intro S;induction S with
 |nil=>intro _ x B;cases B
 |cons p S E=>
  obtain⟨n,v⟩:=p;intro nd x B;rw[f9,pN]at nd;rw[gv];rcases bu.mp B with rfl |B
  ·simp
  ·have D:(x.1 == n)=az:=by
    rw[oi];intro q;apply nd.1;show n∈_;rw[<-q];exact Hv (f:=(·.1)) B
   rw[D];exact E nd.2 x B
def LD {α β:Type}:∀(l:ah α) (m:ah β),l.zip m=(l.take m.length).zip m:=by
 intro E;induction E with
 |nil=>
  intro m;simp
 |cons a l D=>
  intro B;cases B with
  |nil=>
   simp
  |cons b m=>
   simp[D m]
theorem LF {c0:ah aw}{b0:ah (au×aw)->aD->Prop}(h1:fd.params.posonlyargs=[])(h2:fd.params.vararg=ag)(h3:fd.params.kwonlyargs=[])(h4:fd.params.kwarg=ag)(nd:(fd.params.args.map (·.arg)).Nodup)(hn:c0.length<=(fd.params.args.map (·.arg)).length)(hk:(fd.params.args.map (·.arg)).drop c0.length=kvs.map (·.1))(hd:fd.defaults= .none\/∃a0 ot O n,fd.defaults= .ref a0/\s.heap.get? a0=ae ot/\ot.data= .seq O n)(hq:b0 (((fd.params.args.map (·.arg)).take c0.length).zip c0++kvs) s):aA M A (wV fd ⟨c0,kvs⟩) b0 E s:=by
 unfold bindArgs;simp only[h1,h2,h3,h4,ua,mo];generalize W:fd.params.args.map (·.arg)=ns at nd hn hk hq |-;have B:((ns.take c0.length).zip c0++kvs).map (·.1)=ns:=by
  rw[dH,<-hk];have:((ns.take c0.length).zip c0).map (·.1)=ns.take c0.length:=by
   rw[<-List.unzip_fst,List.unzip_zip_left];rw[er];exact ML
  rw[this,Hw]
 rw[LD ns c0];generalize R:(ns.take c0.length).zip c0=S0 at B hq |-;refine wB (Lx (names:=ns) (λx u V S=>?_) kvs S0 [] (λx J=>?_) (by rw[B];exact nd) ?_)
 ·rw[aN (by rw[V];rfl),aK (by rw[S];simp)]
 ·have:x.1∈kvs.map (·.1):=Hv J;rw[<-hk]at this;exact wW this
 have H:∀n∈ns,((S0++kvs).lookup n).isNone=az:=λn D=>by
  rw[<-B,<-lookup_isSome_iff]at D;cases q:(S0++kvs).lookup n with
  |none=>rw[q]at D;cases D
  |some v=>rfl
 have K:∀(dl:ah aw),aA M A (forIn ((ns.drop (ns.length - dl.length)).zip dl) (S0++kvs) λx u=>if (rA x.1 u).isNone=aj then pure (nx (u++[(x.1,x.2)]))else pure (nx u))
   (λu L=>u=S0++kvs/\L=s) E s:=λdl=>by
  refine Ly _ (λx J=>?_) ⟨rfl,rfl⟩;rw[aK];rw[H x.1 (wW (rB J).1)];simp
 have F:b0 (List.filterMap (λn=>Hn (λx=>(n,x)) (rA n (S0++kvs))) (ns++[])) s:=by
  rw[fT];have:=Lz (S0++kvs) (by rw[B];exact nd) (S0++kvs) (LC _ (by rw[B];exact nd));rw[B]at this;rw[this];exact hq
 have seq:∀{I:ax (aZ aw)->aD->Prop},(∀o,I o s)->aA M A (q9 fd.defaults) I E s:=λ{I} G=>by
  rcases hd with hd |⟨a0,ot,O,n,hd,ho,yn⟩
  ·rw[hd];exact aC (G _)
  ·rw[hd];exact j4 ho yn (G _)
 refine bO (seq λo=>?_);rw[aK (by rw[cW,ft];lia)];rw[aK (by
  rw[wX];intro q;rw[List.isEmpty_eq_false_iff_exists_mem]at q;obtain⟨n,D⟩:=q;obtain⟨U,N⟩:=A3.mp D;rw[H n (Hx U)]at N;cases N)]
 refine bO (eB (K _) (λu L q=>?_) λw w q=>q);obtain⟨rfl,rfl⟩:=q;rw[me];refine bO (aC ?_);rw[aK (by simp)];exact aC F
def Go.CU {ex:ah ay}(b0:Go X fJ br h₀ B h)(a0:Go X ex B h J H)(hx:∀a∈ex,h₀.get? a=ag\/a∈fJ):Go X fJ br h₀ J H:=by
 have F:=(b0.mono (a0:=ex++fJ) λu E=>hW _ E).trans (a0.mono (a0:=ex++fJ) λu E=>gM _ E);refine⟨⟨F.step.there,F.step.ext,λa o e I K E=>F.step.keep a o e I K λD=>?_⟩,F.fr⟩;rcases dX.mp D with D |D
 ·rcases hx a D with q |q
  ·rw[q]at e;cases e
  ·exact E q
 ·exact E D
def aW.inner {ex:ah ay}{α e0 β d0:Type}{R:ah ay->aG->β->α->Prop}{R':ah ay->aG->d0->e0->Prop}{a0:e0->aD->Prop}{t:dn α}{m:P β}{g:β->P d0}(h1:aW X A ex R B I h t m)(b0:Zs dE z)(c0:Go X fJ br h₀ B h)(hx:∀a∈ex,h₀.get? a=ag\/a∈fJ)(hr:(m>>=g).run I (aL X dE fJ br h₀ R' a0 E)){Q':α->aD->Prop}(hE:∀{kx:aI} {Z:St},aL X dE fJ br h₀ R' a0 E (.err kx) Z->∀z' J H t',Zs dE z'->Inv X J Z H->Go X fJ br h₀ J H->Go X ex B h J H->∀e,eT kx e h₀ H->E' (.ref e) (sh z' H t'))(k:∀z' J Z H t' b a,Zs dE z'->Inv X J Z H->Go X ex B h J H->Go X fJ br h₀ J H->R J H b a->(g b).run Z (aL X dE fJ br h₀ R' a0 E)->Q' a (sh z' H t')):aA (MX X) A t Q' E' (sh z h W):=by
 refine h1 z W Q' E' (m.mono (λr Z y=>?_) (show m.run I _ from hr));intro z' J H t' F D S;obtain S':=c0.CU S hx;cases r with
 |ok b=>exact λa G=>k z' J Z H t' b a (b0.trans F) D S S' G y
 |err k=>exact λe x=>hE y z' J H t' (b0.trans F) D S' S e (x.oW c0.step.there)
def aL.same {ex:ah ay}{kx:aI}{b0 c0:Type}{R':ah ay->aG->c0->b0->Prop}{a0:b0->aD->Prop}(y:aL X dE fJ br h₀ R' a0 E (.err kx) Z):∀z' J H t',Zs dE z'->Inv X J Z H->Go X fJ br h₀ J H->Go X ex B h J H->∀e,eT kx e h₀ H->E (.ref e) (sh z' H t'):=λz' J H t' D I G u e x=>y z' J H t' D I G e x
def LG {z':aD}{f:FL}{fl:Flow}{b0:aw->aD->Prop}(r:mF X B h f fl)(hr:(eQ f).run I (aL X dE fJ br h₀ (RV X) b0 E))(c0:Zs dE z')(d0:Inv X B I h)(a0:Go X fJ br h₀ B h)(t:ak):b0 (Flow.value fl) (sh z' h t):=by
 cases r with
 |next=>exact hr _ _ _ _ c0 d0 a0 _ .none
 |brk=>exact hr.elim
 |cont=>exact hr.elim
 |ret D=>exact hr _ _ _ _ c0 d0 a0 _ D
def yo {ex:ah ay}{kx:aI}{e:ay}{t:ak}{b0:b8->aD->Prop}(e0:A.frames=ae (G :: l))(hf:G.frame=ae L)(c0:Inv X B I h)(R:Frs X (G :: l) B h)(d0:Inv X br jF h₀)(a0:Go X ex br h₀ B h)(x:eT kx e h₀ h)(hQ:∀H,Inv X B I H->Go X ex br h₀ B H->eT kx e h₀ H->b0 () (sh z H t)):aA (MX X) A (leaving G (.ref e)) b0 E (sh z h t):=by
 unfold leaving;refine wB (u9 e0 rfl hf c0 R d0 a0 x λN D J=>?_);exact se D.inv D.dR d0 D.go J λM F K=>hQ M F.inv F.go K.exc
theorem yp {binds:ah (au×AV)}(ra:aT X B h T V)(rk:cq X B h kw kvs)(hb:fW fd.params T kw=ae binds)(hd:fd.defaults= .none\/∃a0 ot O n,fd.defaults= .ref a0/\h.get? a0=ae ot/\ot.data= .seq O n):
  ∃vb,cq X B h binds vb/\∀{M:mZ} {A:d8} {z:aD} {t:ak} {E:aw->aD->Prop} {b0:ah (au×aw)->aD->Prop},b0 vb (sh z h t)->aA M A (wV fd ⟨V,kvs⟩) b0 E (sh z h t):=by
 unfold fW BZ at hb;dsimp only at hb;split at hb
 ·rename_i hc;simp only[cW,ub,wY,ft,bU]at hc;obtain⟨⟨⟨⟨⟨⟨c1,c2⟩,c3⟩,c4⟩,c5⟩,c6⟩,c7⟩:=hc;have e0:fd.params.args.map argName=fd.params.args.map (·.arg):=Hy λa u=>by cases a;rfl
  rw[e0]at c5 c6 c7 hb;cases hb;refine⟨((fd.params.args.map (·.arg)).take V.length).zip V++kvs,?_,λhQ=>LF c1 c2 c3 c4 c5 (by rw[ra.length];exact c6) (by rw[ra.length,rk.names];exact c7) hd hQ⟩;rw[ra.length];generalize (fd.params.args.map (·.arg)).take T.length=ns;clear c7 c6 c5 e0;induction ra generalizing ns with
  |nil=>simpa using rk
  |cons hx hs ih=>cases ns with
   |nil=>simpa using rk
   |cons n ns=>exact .cons hx (ih ns)
 ·cases hb
def Ar.deeper (a:Ar X (k+1) u A l B h)(he:Frs X [G] B h)(u':ak)(hu:u'+3<=u):Ar X k u' (A.deeper G) (G :: l) B h:=
 ⟨a.handled,by have:=a.depth;show A.depth+1+2 * k<=980;lia,by have:=a.units;show A.units+3+u'<=9800;lia,by show A.frames.map (G :: ·)=_;rw[a.frames];rfl,λe D=>by
  rcases bu.mp D with rfl |D
  ·exact he _ (.head _)
  ·exact a.dR e D⟩
theorem CV {i0:ah dy}{d:DS}{f0:ah (au×AV)}{vb:ah (au×aw)}{d0:aG}{e0:St}{c0:ah ay}{g0:aD}{k0:ak}{b0:aw->aD->Prop}(C:cn X)(ar:Ar X (k+1) (20 * k+44) A l B h)(a0:Inv X B I h)(ho:h.get? a=ae o)(hd:o.data= .func fd)(v0:fd.body= .stmts i0)(n0:fd.scope=U)(hk:U.kind= .function)(hg:U.isGenerator=az)(r0:U.isCoroutine=az)(y0:fd.globals=iG)(u0:fd.closure=[])(o0:fd.builtins=qO)(p0:h.CodeRec fd.code fd.qualname)(s0:cM U mB=ae .cell->fd.code= .ref rR)(l0:Inv X c0 e0 d0)(h0:Go X [] B h c0 d0)(rb:cq X c0 d0 f0 vb)(hb:iN X F k U i0 d)(m0:Zs z g0)(j0:∀{A':d8} {E':aw->aD->Prop} {Q':ah (au×aw)->aD->Prop},Q' vb (sh g0 d0 k0)->aA (MX X) A' (wV fd ⟨V,kvs⟩) Q' E' (sh z h W))(hr:(cP F U [] f0>>=λrt=>d rt>>=λx=>eQ x.1).run e0 (aL X z [] B h (RV X) b0 E)):aA (MX X) A (call (.ref a) V kvs) b0 E (sh z h W):=by
 subst n0;refine uc (Hz (by have:=ar.depth;show A.depth < 1000;lia) ho hd r0 hg v0 p0 ?_);refine j0 ?_;rw[u0];refine(vl (F:=F) (c0:=ag) hk y0 o0 l0 rb .nil).inner m0 h0 (λv L=>nomatch L) hr (λy=>y.same) ?_;intros _ z2 S w h2 t2 rt G _ Z2 I2 G2 O re R;obtain⟨hF,K,T,f,he⟩:=re;refine⟨I2.lim C,codeAny_func ?_⟩;obtain⟨F',Q,N⟩:=rt;intros F' Q N _ R hF K;cases hF;have w0:h.get? G.locals=ag:=by
  cases q:h.get? G.locals with
  |none=>rfl
  |some o=>obtain⟨o',q'⟩:=h0.step.there _ _ q;rw[T]at q';cases q'
 have M:G.frame=ae G.locals:=by rw[he];rfl
 have x0:G.scope.kind≠ .module:=by rw[K.kind];decide
 obtain Fe:Frs X [G] S h2:=λe L=>by
  rw[aJ.mp L];obtain (⟨m,⟨o,es,ep,e1,e2,e3,_⟩,_⟩):=K.ns;exact⟨x0,G.locals,o,M,K.ir,K.fY,e1,es,ep,e2,e3⟩
 have D:=(ar.step O).deeper Fe (20 * k+40) (by exact gP _);obtain K2:Ctx X k fd.scope (A.deeper G) (G :: l) G Q N S w h2:=⟨C,D,⟨G,l,rfl,rfl⟩,I2,K,λq=>by rw[he];exact s0 q⟩;refine(hb K2).inner Z2 O (λb L=>by rw[aJ.mp L];exact .inl w0) R (λy z' J H t' Z I' G' j e x=>?_) λz3 A0 z0 h3 t3 p fl Z3 I3 G3 u rp Y=>?_
 ·refine yo D.frames M I' (D.dR.step j) a0 G' x λh4 I4 G4 x4=>?_;exact y z' J h4 t' Z I4 G4 e x4
 ·have:=LG rp.1 Y Z3 I3 u t3;cases fl <;>exact this
def LH {pa:fh}{b0:ah dy}(C:cn X)(ar:Ar X (k+1) (20 * k+44) A l B h)(a0:Inv X B I h)(hf:FnAt h a (ae (pa,b0,U)))(ra:aT X B h T V)(rk:cq X B h kw kvs)(hb:iN X F k U b0 (ew (cS U 20) b0)):
  aW X A [] (RV X) B I h (call (.ref a) V kvs) (B2 F pa b0 U T kw):=by
 intro z W Q E K;obtain⟨o,m,f,j,Y,Z,w,R,L,H,N,G,M,S⟩:=hf;simp only[tS,A4,wZ]at Y;obtain⟨rfl,J,rfl⟩:=Y;obtain⟨O,u,K⟩:=c9 K;obtain⟨vb,b,D⟩:=yp ra rk u M;exact CV C ar a0 f j J.symm rfl Z w R L H N G S a0 (.refl ..) b hb (.refl z) D K
def CW (h:fb U=aj):U.kind= .function/\U.isGenerator=az/\U.isCoroutine=az/\∀x∈U.names,x.2= .local->U.names.lookup x.1=ae .local:=by
 unfold fb at h;simp only[cW,wX,ft,bW,pP,qS,bU]at h;obtain⟨⟨⟨⟨E,B⟩,G⟩,H⟩,_⟩:=h;exact⟨E,B,G,λx D F=>(H x D).resolve_left λq=>q F⟩
def yq (h:fb U=aj)(q:cM U mB=ae .cell):dm:=by
 unfold fb at h;rw[cW]at h;obtain B:=h.2;rw[show U.names.lookup mB=ae .cell from q]at B;exact absurd B (by decide)
def LK {pa:fh}{cs:ah (au×ak)}(a0:Inv X B I h)(hi:I[i]? =ae (.lam pa e U cs))(ha:B[i]? =ae a):
  ∃c0 b0 cl pm c d0,h.get? a=ae (wu c0 b0 pa e U cl pm c d0)/\fX B cs cl/\h.CodeRec (.ref c) b0:=by
 obtain⟨o,F,c0,b0,cl,pm,c,d0,rfl,D,E⟩:=a0.obj i _ a hi ha;refine⟨c0,b0,cl,pm,c,d0,F,D,?_⟩;obtain⟨⟨H,J,e,c,d,G⟩⟩:=E;exact⟨_,_,_,_,rfl,e,d,G⟩
theorem LL (C:cn X)(ar:Ar X (k+1) (20 * k+44) A l B h)(a0:Inv X B I h)(hi:B[i]? =ae a)(ra:aT X B h T V)(rk:cq X B h kw kvs)(hb:∀U e,HE X F k U e (cE U 40 e)):
  aW X A [] (RV X) B I h (call (.ref a) V kvs) (B3 F i T kw):=by
 intros _ z W K E _ L;obtain (⟨ao,f,L⟩):=eV L;cases ao with
 |lam pa e U cs=>
  intros pa e U cs _ f L;obtain⟨b,L⟩:=a6 L;obtain⟨hk,hg,g0,_⟩:=CW b;obtain (⟨k0,eb,L⟩):=c9 L;obtain (⟨Y,c0,cl,pm,c,n0,ho,rc,f0⟩):=LK a0 f hi;obtain⟨vb,rb,R⟩:=yp (fd:=kla_fn Y c0 pa e U cl pm (.ref c) n0) ra rk eb (.inl rfl);refine uc (kla_callFunE (by have:=ar.depth;show A.depth < 1000;lia) ho rfl g0 hg rfl f0 ?_);refine R ?_;refine(vl (F:=F) (c0:=ag) hk rfl rfl a0 rb rc).inner (.refl _) (.refl ..) (λd j=>nomatch j) L (λy=>y.same) ?_;intros _ z2 e0 b0 h2 t2 rt G _ Z2 I2 G2 w re d0;obtain⟨hF,S,p0,l0,he⟩:=re;refine⟨I2.lim C,kla_codeExpr ?_⟩;obtain⟨F',Q,N⟩:=rt;intros F' Q N _ d0 hF S
  replace hF:F'=F:=hF
  subst F';have u:G.frame=ae G.locals:=by rw[he];rfl
  have m0:G.scope.kind≠ .module:=by rw[S.kind];decide
  obtain Fe:Frs X [G] e0 h2:=λe j=>by
   rw[aJ.mp j];obtain (⟨m,⟨o,es,ep,e1,e2,e3,_⟩,_⟩):=S.ns;exact⟨m0,G.locals,o,u,S.ir,S.fY,e1,es,ep,e2,e3⟩
  have O:=(ar.step w).deeper Fe (20 * k+40) (by exact gP _);obtain K2:Ctx X k U (A.deeper G) (G :: l) G Q N e0 b0 h2:=⟨C,O,⟨G,l,rfl,rfl⟩,I2,S,λq=>(yq b q).elim⟩;have M:(cE U 40 e ⟨F,Q,N⟩>>=P.pure).run b0 (aL X z [] B h (RV X) K E):=by
   rw[P.run_bind];refine(cE U 40 e ⟨F,Q,N⟩).mono (λr Z y=>?_) d0;cases r <;>exact y
  refine(hb U e K2).inner Z2 w (λd j=>nomatch j) M (λy z' J H t' D I' G' i0 e x=>?_) λz3 h0 o0 h3 t3 x v Z3 I3 G3 j0 rx M=>?_
  ·refine yo O.frames u I' (O.dR.step i0) a0 G' x λh4 I4 G4 x4=>?_;exact y z' J h4 t' D I4 G4 e x4
  ·exact M z3 h0 h3 t3 Z3 I3 j0 v rx
 |_=>exact L.elim
def Inv.lN (a0:Inv X B I h)(C:cn X):X.K.In h:=λa o e=>a0.base a o (C.lN a o e) λq=>by rw[q,C.B9]at e;cases e
def CX (C:ay)(a0:ah aw)(kw:ah (au×aw)):(oG "type.__call__" ⟨.ref C :: a0,kw⟩).weight=1:=by rfl
def LQ (C:ay)(a0:ah aw)(kw:ah (au×aw)):(oG "type.__call__" ⟨.ref C :: a0,kw⟩).cUnits=1:=by rfl
def LR (C:ay)(a0:ah aw)(kw:ah (au×aw)):(oG "type.__call__" ⟨.ref C :: a0,kw⟩).envs=[]:=by rfl
def Ar.make (a:Ar X (k+1) u A l B h)(C:ay)(a0:ah aw)(kw:ah (au×aw))(he:Frs X [G] B h)(u':ak)(hu:u'+4<=u):
  Ar X k u' ((A.under (.builtin "type.__call__" ⟨.ref C :: a0,kw⟩)).deeper G) (G :: l) B h:=by
 refine⟨a.handled,?_,?_,?_,λe D=>?_⟩
 ·have:=a.depth;show A.depth+(oG "type.__call__" ⟨.ref C :: a0,kw⟩).weight+1+2 * k<=980;rw[CX];lia
 ·have:=a.units;show A.units+(oG "type.__call__" ⟨.ref C :: a0,kw⟩).cUnits+3+u'<=9800;rw[LQ];lia
 ·show(pushEnvs (oG "type.__call__" ⟨.ref C :: a0,kw⟩).envs A.frames).map (G :: ·)=_;rw[LR,a.frames];rfl
 ·rcases bu.mp D with rfl |D
  ·exact he _ (.head _)
  ·exact a.dR e D
def LU {b0:ah ay}{c0:aG}(a0:En X U G Q N b0 c0)(d0:G.frame=ae G.locals):Frs X [G] b0 c0:=λe F=>by
 rw[aJ.mp F];obtain⟨m,⟨o,H,I,E,D,B,_⟩,_⟩:=a0.ns;exact⟨by rw[a0.kind];decide,G.locals,o,d0,a0.ir,a0.fY,E,H,I,D,B⟩
def P.gY {β γ δ:Type}(m:P β)(f:β->P γ)(g:γ->P δ){p:Res δ->St->Prop}:((m>>=f)>>=g).run I p=(m>>=λb=>f b>>=g).run I p:=by
 show m.run I _=m.run I _
 congr 1
 try (funext r Z;cases r <;>rfl)
theorem LV (C:cn X)(ar:Ar X (k+1) (20 * k+44) A l B h)(a0:Inv X B I h)(ra:aT X B h T V)(rk:cq X B h kw kvs)(hb:∀U ss,iN X F k U ss (ew (cS U 20) ss)):
  aW X A [] (RV X) B I h (call (.ref X.gT) V kvs) (qc F T kw):=by
 intros _ z W D E _ K;have hK:=a0.lN C;obtain (⟨fI,v0,j,u⟩):=C.iM.init;have K:(lM F nJ (.ref (I.length+1) :: T) kw>>=λr=>match r with |.none=>P.pure (AV.ref (I.length+1)) |_=>P.fail).run ((I++[.bc []])++[.inst I.length]) (aL X z [] B h (RV X) D E):=by
  have e:(I++[AO.bc []]).length=I.length+1:=by simp
  have qk:=K;unfold qc at qk;rw[<-e];exact qk
 refine uc (make_core (makes_of hK C.iM.makes) (looks_findIn hK j) (λself=>bind_fn hK self u) (.inl rfl) ?_);obtain b1:OB X B h (.bc []) j7:=⟨rfl,#[],_,rfl,λe he=>by simp at he,cZ _,λx=>by simp[jw,wU];exact .none⟩;obtain I1:=a0.alloc b1 rfl;obtain G1:=Go.alloc X [] B h j7;obtain b2:OB X (B++[h.objs.size]) (h.push j7) (.inst I.length) (pG X.gT h.objs.size):=⟨h.objs.size,by rw[<-a0.len];simp,rfl⟩;have I2:=I1.alloc b2 rfl;obtain G2:=Go.alloc X [] (B++[h.objs.size]) (h.push j7) (pG X.gT h.objs.size);have L:=G1.trans G2;obtain j0:(h.push j7).objs.size=h.objs.size+1:=j8 ..;rw[j0]at I2 L;have hx:((B++[h.objs.size])++[h.objs.size+1])[I.length+1]? =ae (h.objs.size+1):=by rw[<-a0.len];simp
 obtain f:aF X ((B++[h.objs.size])++[h.objs.size+1]) ((h.push j7).push (pG X.gT h.objs.size)) (.ref (I.length+1)) (.ref (h.objs.size+1)):=.ref hx;obtain z0:aT X ((B++[h.objs.size])++[h.objs.size+1]) ((h.push j7).push (pG X.gT h.objs.size)) (.ref (I.length+1) :: T) (.ref (h.objs.size+1) :: V):=.cons f (ra.step L.step);obtain p0:=rk.step L.step;generalize E0:(h.push j7).push (pG X.gT h.objs.size)=h2 at *;generalize B0:(B++[h.objs.size])++[h.objs.size+1]=CY at *;generalize C0:(I++[AO.bc []])++[AO.inst I.length]=bF at *;have hf:=C.fns nJ fI v0 (by decide) h2 I2.base;unfold lM at K;cases R:defOf nJ with
 |none=>rw[R]at K;exact K.elim
 |some d=>
  obtain⟨pa,S,U⟩:=d;rw[R]at K hf;obtain⟨o,fd,ho,hd,hs,hk,hg,k0,w0,m0,g0,h0,x0,l0⟩:=hf;simp only[tS,A4,wZ]at hs;obtain⟨rfl,s0,rfl⟩:=hs;have K:((P.opt (fW fd.params (.ref (I.length+1) :: T) kw)>>=λM=>cP F fd.scope [] M>>=λrt=>ew (cS fd.scope 20) S rt>>=λx=>eQ x.1)>>=λr=>match r with |.none=>P.pure (AV.ref (I.length+1)) |_=>P.fail).run bF (aL X z [] B h (RV X) D E):=K;rw[P.gY]at K;obtain⟨M,eb,K⟩:=c9 K;rw[P.gY]at K;obtain⟨vb,rb,m⟩:=yp z0 p0 eb x0;refine Hz (by
   have:=ar.depth;show A.depth+(oG "type.__call__" ⟨.ref X.gT :: V,kvs⟩).weight < 1000;rw[CX];lia) ho hd k0 hg s0.symm h0 ?_
  refine m ?_;rw[m0];refine(vl (F:=F) (c0:=ag) hk w0 g0 I2 rb .nil).inner (.refl z) L (λv hm=>nomatch hm) K (λy=>y.same) λz3 n0 i0 h3 t3 rt G Z3 I3 G3 e0 re d0=>?_;obtain⟨hF,N3,y0,r0,he⟩:=re;refine⟨I3.lim C,codeAny_func ?_⟩;obtain⟨F',Q,N⟩:=rt
  replace hF:F'=F:=hF
  subst F';have c0:G.frame=ae G.locals:=by rw[he];rfl
  have Y:=(ar.step e0).make X.gT V kvs (LU N3 c0) (20 * k+40) (by exact a4 _);obtain K3:Ctx X k fd.scope ((A.under (.builtin "type.__call__" ⟨.ref X.gT :: V,kvs⟩)).deeper G) (G :: l) G Q N n0 i0 h3:=⟨C,Y,⟨G,l,rfl,rfl⟩,I3,N3,λq=>by rw[he];exact l0 q⟩;have u0:h.get? G.locals=ag:=by
   cases q:h.get? G.locals with
   |none=>rfl
   |some o=>obtain⟨o',q'⟩:=L.step.there _ _ q;rw[y0]at q';cases q'
  rw[P.gY]at d0;refine(hb fd.scope S K3).inner Z3 e0 (λb hm=>by rw[aJ.mp hm];exact .inl u0) d0 (λy z' J H t' Z I' G' o0 e x=>?_) λz4 w F0 h4 t4 p fl Z4 I4 G4 b0 rp O=>?_
  ·refine yo Y.frames c0 I' (Y.dR.step o0) a0 G' x λh4 I4 G4 x4=>?_;exact y z' J h4 t' Z I4 G4 e x4
  ·have f0:w[I.length+1]? =ae (h.objs.size+1):=G4.step.iP (G3.step.iP hx);obtain⟨f1,A0⟩:=p;obtain⟨rf,_⟩:=rp;cases rf with
   |next=>exact⟨rfl,O z4 w h4 t4 Z4 I4 b0 _ (.ref f0)⟩
   |brk=>exact O.elim
   |cont=>exact O.elim
   | @ret x _ hv=>cases x with
    |none=>cases hv;exact⟨rfl,O z4 w h4 t4 Z4 I4 b0 _ (.ref f0)⟩
    |_=>exact O.elim
def LW:Cb (defOf jJ)=aj:=by decide +kernel
theorem LX {va ka:Arg}{b0:ah (au×aw)->aD->Prop}(h1:fd.params.posonlyargs=[])(h2:fd.params.args=[])(h3:fd.params.kwonlyargs=[])(h4:fd.params.vararg=ae va)(h5:fd.params.kwarg=ae ka)(hd:fd.defaults= .none\/∃a0 ot O n,fd.defaults= .ref a0/\s.heap.get? a0=ae ot/\ot.data= .seq O n)(hq:b0 [(va.arg,.ref s.heap.objs.size),(ka.arg,.ref (s.heap.objs.size+1))] { s with heap:=(s.heap.push { cls:=.type "tuple",data:=.seq #[v] }).push j7 }):aA M A (wV fd ⟨[v],[]⟩) b0 E s:=by
 unfold bindArgs;simp only[h1,h2,h3,h4,h5,ua,mo,me];refine wB (aC ?_);have seq:∀{D:ax (aZ aw)->aD->Prop},(∀o,D o s)->aA M A (q9 fd.defaults) D E s:=λ{D} B=>by
  rcases hd with hd |⟨a0,ot,O,n,hd,ho,yn⟩
  ·rw[hd];exact aC (B _)
  ·rw[hd];exact j4 ho yn (B _)
 refine wB (seq λo=>?_);simp only[q7,fq,Option.isNone_some,w6,ja,jb,Nat.zero_sub,A5,HB,tT,qU,List.drop_nil,List.zip_nil_left,me,mq];refine wB (aC (wB (aC ?_)));simp only[tT,qU,ja,jb,HC,mo];refine bO (m7 ?_ (by show 1<=2 ^ 24;decide));rw[aK (by simp)];refine wB (t9 ?_);refine wB (aC (aC ?_));have F:(s.heap.push { cls:=.type "tuple",data:=.seq #[v] }).objs.size=s.heap.objs.size+1:=j8 ..;simp only[rC,mo,F];exact hq
def CZ:Obj.IsDictOf (mD X) j7 []:=⟨#[],_,⟨rfl,rfl,rfl⟩,rfl,λe B=>by simp at B,.nil,.nil⟩
set_option tactic.hygienic true in theorem LY (C : cn X) (ar : Ar X (k + 1) (20 * k + 44) A l B h) (a0 : Inv X B I h) (hf : FnAt h a (defOf jJ)) (ra : aT X B h T V) (rk : cq X B h kw kvs) (hb : ∀ U ss, iN X F k U ss (ew (cS U 20) ss)) :
  aW X A [] (RV X) B I h (call (.ref a) V kvs) (oU F T kw):=by
 intros _ z W Q E _ hr;unfold oU at hr;have vm:=LW;cases vn:defOf jJ with
 |none=>rw[vn]at hr;exact hr.elim
 |some d=>
  obtain⟨pa,body,U⟩:=d;rw[vn]at hr hf vm;obtain⟨o,fd,ho,hd,hs,hk,hg,LZ,L2,L4,L5,yr,L6,L7⟩:=hf;simp only[tS,A4,wZ]at hs;obtain⟨rfl,nQ,rfl⟩:=hs;cases ra with
  |nil=>exact hr.elim
  |cons hx hs=>
   cases hs with
   |cons _ _=>cases rk <;>exact hr.elim
   |nil=>
    cases rk with
    |cons _ _=>exact hr.elim
    |nil=>
     rename_i x v;unfold Cb at vm;simp only[cW,ub,bU,jZ]at vm;obtain⟨⟨⟨⟨⟨s1,s2⟩,s3⟩,va,s4,C2⟩,ka,s5,C3⟩,s6⟩:=vm;have hr:(cP F fd.scope [] [(aq "args",.one x),(aq "kwargs",.ref I.length)]>>=λrt=>ew (cS fd.scope 20) body rt>>=λx=>eQ x.1).run (I++[.dict []]) (aL X z [] B h (RV X) Q E):=hr;have ea:∀a:Arg,argName a=a.arg:=λa=>by cases a;rfl
     rw[ea]at C2 C3;have G1:=Go.push X [] B h { cls:=.type "tuple",data:=.seq #[v] };have I1:=a0.push { cls:=.type "tuple",data:=.seq #[v] };obtain⟨n1,n2,e1,t1⟩:=xR a0 _ [v] rfl;have G2:=Go.alloc X [] B (h.push { cls:=.type "tuple",data:=.seq #[v] }) j7;have I2:=I1.alloc (ao:=.dict []) (o:=j7) ⟨[],CZ,.nil,by simp⟩ rfl;have kP:(h.push { cls:=.type "tuple",data:=.seq #[v] }).objs.size=h.objs.size+1:=j8 ..;rw[kP]at G2 I2;have L8:aF X B (h.push { cls:=.type "tuple",data:=.seq #[v] }) (.one x) (.ref h.objs.size):=⟨⟨n1,n2,e1,t1⟩,hx.step G1.step⟩;have rd:(B++[h.objs.size+1])[I.length]? =ae (h.objs.size+1):=by rw[<-a0.len];simp
     refine CV C ar a0 ho hd nQ.symm rfl hk hg LZ L2 L4 L5 yr L7 I2 (G1.trans G2) (f0:=[(aq "args",.one x),(aq "kwargs",.ref I.length)])
      (vb:=[(va.arg,.ref h.objs.size),(ka.arg,.ref (h.objs.size+1))]) ?_ (hb _ _) (.refl z) (λ{A' E' Q'} L9=>LX (s:=sh z h W) s1 s2 s3 s4 s5 L6 L9) hr
     rw[C2,C3];exact .cons (L8.step G2.step) (.cons (.ref rd) .nil)
def Ma (X:Cx)(k:ak):HF X (FN 0) k:=λu u u u u u u u u u u u u u u u B=>B.elim
set_option tactic.hygienic true in def Mb (hE : ∀ U e, HE X F k U e (cE U 40 e)) (hS : ∀ U ss, iN X F k U ss (ew (cS U 20) ss)) : HF X (B4 F) (k + 1) := by
 intro A l B I h C ar D fv f T V kw kvs rf ra rk;have ql:Ar X (k+1) (20 * k+44) A l B h:=ar.less (a4 _) (by lia);cases fv with
 |ref i=>obtain⟨e⟩:=rf;exact LL C ql D e ra rk hE
 |fn n=>
  obtain⟨e⟩:=rf;rename_i a;show aW X A [] (RV X) B I h _ (if n == gE then qc F T kw else if n == jJ then oU F T kw else lM F n T kw);by_cases h1:(n == gE)=aj
  ·rw[aN h1];rw[bU.mp h1,C.cls]at e;cases e;exact LV C ql D ra rk hS
  ·rw[aK h1];have hf:=C.fns n a e (λq=>h1 (bU.mpr q)) h D.base;by_cases h2:(n == jJ)=aj
   ·rw[aN h2];rw[bU.mp h2]at hf;exact LY C ql D hf ra rk hS
   ·rw[aK h2];unfold lM;cases vn:defOf n with
    |none=>exact aW.fail
    |some d=>
     obtain⟨pa,body,U⟩:=d;rw[vn]at hf;exact LH C ql D hf ra rk (hS _ _)
 |_=>exact aW.fail
def Mc {es:aZ wt}{b0:au}{a0:b8->aD->Prop}(ho:s.heap.get? a=ae o)(hd:o.data= .dict es ep)(hk:qN es)(hQ:∀H o' mM yt,H.get? a=ae o'->o'.cls=o.cls->o'.data= .dict mM yt->qN mM->(mM.size=es.size\/(jw es b0=ag/\mM.size=es.size+1))->(∀x,jw mM x=if x=b0 then ae v else jw es x)->fm a s.heap H->
   a0 () { s with heap:=H,toks:=s.toks+1 }):aA M A (nsSet a b0 v) a0 E s:=λG p u=>by
 simp only[nsSet,strHash,Sem.wp_bind',Sem.wp_cmd_ask,Sem.wp_pure',Sem.wp_cmd_mkText];rw[Sem.wp_loadPart_of M G _ p { s with toks:=s.toks+1 } (o:=o) _ ho];have D:es.any (·.refKey)=az:=by
  rw[Array.any_eq_false'];intro e F;obtain⟨n,t,h⟩:=hk e F;simp[HD,h]
 simp only[hd,aRefKeyMayBeTheName_eq,aRefKeyMayBeTheNameByArray,D,w6,ja,jb,Sem.wp_cmd_updatePart];refine⟨by rw[ho];rfl,?_⟩;obtain⟨c,d,I,J⟩:=o;subst hd;cases B:es.findIdx? (·.key.isStr b0)with
 |some i=>
  refine hQ _ _ _ ep (iH _ ho (by simp only[rD,rE,B];rfl)) (by simp only[rD,rE,B]) (by simp only[rD,rE,B];rfl) (hk.modify _ _) (.inl (by simp)) (λx=>?_) (dY ..);exact findBy_modify (λn v=>v.isStr n) Value.isStr_inj es b0 x v i B
 |none=>
  refine hQ _ _ _ (ep+1) (iH _ ho (by simp only[rD,rE,B];rfl)) (by simp only[rD,rE,B]) (by simp only[rD,rE,B];rfl) (hk.push _ _ _ _) (.inr ⟨?_,by simp⟩) (λx=>?_) (dY ..)
  ·unfold nsFind wU;rw[A6,Array.find?_eq_none];rw[Array.findIdx?_eq_none_iff]at B;intro e F;have:=B e F
   simpa using this
  ·exact findBy_push (λn v=>v.isStr n) es b0 x _ _ v (λy=>by
    show(b0 == y)=decide (y=b0);by_cases h:y=b0
    ·subst h;simp
    ·have: ¬ b0=y:=λe=>h e.symm;simp[h,this]) B
theorem yu {d:ak}{l:ah (au×AV)}(a0:Inv X B I h)(hi:I[i]? =ae (.inst d))(hd:I[d]? =ae (.bc l))(ha:B[i]? =ae a):
  ∃da od es n,B[d]? =ae da/\InstAt h a (pG X.gT da) X.gT (ae od)/\h.get? da=ae od/\od.cls= .type "dict"/\od.data= .dict es n/\qN es/\es.size<=l.length/\∀x,jK X B h (l.lookup x) (jw es x):=by
 obtain⟨o,F,da,E,rfl⟩:=a0.obj i _ a hi ha;obtain⟨od,D,c,es,n,G,k,z,r⟩:=a0.obj d _ da hd E;exact⟨da,od,es,n,E,⟨F,rfl,rfl,D⟩,D,c,G,k,z,r⟩
def C4 {od:Obj}{es:aZ wt}(hd:od.data= .dict es n)(hk:qN es)(a0:au):lookIn a0 od=ae (jw es a0):=by
 unfold lookIn jw wU;rw[hd];dsimp only;have B:es.toList.any (·.refKey)=az:=by
  rw[HG];intro e D;obtain⟨n,t,h⟩:=hk e (by simpa using D);simp[HD,h]
 rw[B];have e:es.find? (λe=>e.key.isStr a0)=es.toList.find? (λe=>e.key.isStr a0):=by cases es;simp
 rw[e];cases es.toList.find? (λe=>e.key.isStr a0)<;>rfl
def C5 {γ:Type}{g:ak×ah (au×AV)->P γ}{p:Res γ->St->Prop}(hr:(uE i>>=g).run I p):∃d l,I[i]? =ae (.inst d)/\I[d]? =ae (.bc l)/\(g (d,l)).run I p:=by
 obtain⟨E,D,hr⟩:=eV (g:=λo=>(match o with
  |.inst d=>do
   match <-P.load d with
   |.bc l=>P.pure (d,l)
   |_=>P.fail
  |_=>P.fail)>>=g) hr
 cases E with
 |inst d=>
  obtain⟨ad,B,hr⟩:=eV (g:=λo=>(match o with
   |.bc l=>P.pure (d,l)
   |_=>P.fail)>>=g) hr
  cases ad with
  |bc l=>exact⟨d,l,D,B,hr⟩
  |_=>exact hr.elim
 |_=>exact hr.elim
def Md (hx:aF X B h x v)(hh:xA x=aj):handedIn v=aj:=by
 cases x with
 |none=>cases hx;rfl
 |bool b=>cases hx;rfl
 |int i=>obtain⟨t,rfl⟩:=hx;rfl
 |str i=>obtain⟨t,rfl⟩:=hx;rfl
 |ty n=>cases hx;rfl
 |bi n=>cases hh
 |_=>cases hx;rfl
theorem Me (C:cn X)(a0:Inv X B I h)(hx:aF X B h x v)(n:au):aW X A [] (RV X) B I h (getAttr v n aj) (mA x n):=by
 intros _ z W Q E _ D;obtain⟨O,D⟩:=a6 D;obtain (⟨i,q,D⟩):=iw D;subst q;obtain⟨e⟩:=hx;obtain (⟨d,l,N,H,D⟩):=C5 D;obtain (⟨w,K,D⟩):=c9 D;obtain⟨M,D⟩:=a6 D;obtain⟨T,Y,S,m,_,L,U,c,R,G,_,r⟩:=yu a0 N H e;have q:=r n;rw[K]at q;obtain⟨V,J,F⟩:=q;exact get_value (s:=sh z h W) (a0.lN C) L C.iM.ga (findObj_own C.iM.hasDict (C.iM.attrs n O).1 rfl (by rw[C4 R G,J])) (Md F M) (D _ _ _ _ (.refl _) a0 (.refl ..) _ F)
theorem Mf (l:ah (au×AV))(k:au)(v:AV):∀x,(putField l k v).lookup x=if x=k then ae v else l.lookup x:=by
 intro x;have h1:∀l:ah (au×AV),(l.map λp=>if p.1 == k then (p.1,v)else p).lookup x=(l.lookup x).map λw=>if x=k then v else w:=by
  intro l;induction l with
  |nil=>rfl
  |cons p l ih=>
   obtain⟨y,w⟩:=p;have e:(if (y == k)=aj then (y,v)else (y,w))=(y,if y=k then v else w):=by
    by_cases hy:y=k
    ·subst hy;simp
    ·simp[hy]
   simp only[f9];rw[e,gv,gv];cases hb:x == y with
   |true=>rw[bU.mp hb];rfl
   |false=>exact ih
 have h2:∀l:ah (au×AV),(l.lookup k).isSome=l.any λp=>p.1 == k:=by
  intro l;induction l with
  |nil=>rfl
  |cons p l ih=>
   obtain⟨y,w⟩:=p;rw[gv,pK];cases hb:k == y with
   |true=>simp[bU.mp hb]
   |false=>rw[ih,show(y == k)=az from by rw[oi]at hb |-;exact λq=>hb q.symm];rfl
 have h3:∀l:ah (au×AV),(l.lookup k).isSome=az->(l++[(k,v)]).lookup x=if x=k then ae v else l.lookup x:=by
  intro l;induction l with
  |nil=>
   intro _;simp only[mo,gv,List.lookup_nil];cases hb:x == k with
   |true=>simp[bU.mp hb]
   |false=>simp[oi.mp hb]
  |cons p l ih=>
   obtain⟨y,w⟩:=p;intro hn;rw[gv]at hn;rw[rC,gv,gv];cases hb:k == y with
   |true=>rw[hb]at hn;cases hn
   |false=>
    rw[hb]at hn;cases hx:x == y with
    |true=>
     obtain vo:=bU.mp hx;subst vo;have: ¬ x=k:=λq=>by rw[q]at hb;simp at hb
     simp[this]
    |false=>exact ih hn
 unfold putField;split
 ·rename_i ha;rw[h1];rw[<-h2]at ha;by_cases hx:x=k
  ·subst hx;cases q:l.lookup x with
   |none=>rw[q]at ha;cases ha
   |some w=>simp
  ·cases q:l.lookup x <;>simp[hx]
 ·rename_i ha;rw[<-h2,pQ]at ha;exact h3 l ha
def Mg (l:ah (au×AV))(k:au)(v:AV):l.length<=(putField l k v).length/\(l.lookup k=ag->(putField l k v).length=l.length+1):=by
 unfold putField;split
 ·rename_i ha;refine⟨by simp,λhn=>?_⟩;exfalso
  induction l with
  |nil=>cases ha
  |cons p l ih=>
   obtain⟨y,w⟩:=p;rw[gv]at hn;rw[pK]at ha;cases hb:k == y with
   |true=>rw[hb]at hn;cases hn
   |false=>
    rw[hb]at hn;rw[show(y == k)=az from by rw[oi]at hb |-;exact λq=>hb q.symm]at ha;exact ih ha hn
 ·exact⟨by simp,λu=>by simp⟩
theorem Mh {u:aw}(C:cn X)(a0:Inv X B I h)(hx:aF X B h x v)(hy:aF X B h y u)(n:au):aW X A [] (λg g g g=>eN) B I h (setAttr v n u) (p6 x n y):=by
 intros _ z W Q E _ F;obtain⟨hn,F⟩:=a6 F;obtain (⟨i,q,F⟩):=iw F;subst q;obtain⟨e⟩:=hx;obtain (⟨d,l,e1,V,F⟩):=C5 F;obtain⟨D,F⟩:=a6 F;obtain D:l.length<=64:=D;obtain⟨da,od,es,m,N,T,ed,c,dd,hk,K,r⟩:=yu a0 e1 V e;obtain F:aL X z [] B h (λb b b b=>eN) Q E (.ok ()) (I.set d (.bc (putField l n y))):=F;refine set_plain (s:=sh z h W) (a0.lN C) T C.iM.sa ?_;refine osa_open (s:=sh z h (W+1)) (a0.lN C) T C.iM.over (C.iM.attrs n hn).2 λb=>?_;obtain⟨cd,hc,M⟩:=any_some C.iM.hasDict;refine wB (aC (wB (wB (wpAny_loadPart T.at_ (bO ((looks_clsIn (a0.lN C) hc).here ?_))))));rw[M];refine aC (a:=ae da) (bO (aC (bO ?_)));refine Mc (s:=sh z h (W+1)) ed dd hk λH o' O R Y f2 Z f4 U j f7=>?_;refine wB (wpAny_lookBehind Y (by rw[Z];exact pastItsLine_dict (by rw[fG];exact(U).elim (λL=>TT (EL L) (CF 0 0 0 64 0 16777217 K D rfl)) (λL=>CF 0 1 0 64 0 16777217 (CH 0 1 0 0 (EL L.2) K) D rfl))) ?_);obtain S:jw es n=ag->l.lookup n=ag:=λq=>by
  have:=r n;rw[q]at this;cases o:l.lookup n with
  |none=>rfl
  |some w=>rw[o]at this;obtain⟨_,q,_⟩:=this;exact gh q
 obtain⟨k,G⟩:=a0.change (b0:=.bc (putField l n y)) V N f7 Y (by
  refine⟨f2.trans c,O,R,Z,f4,?_,λw=>?_⟩
  ·obtain⟨f,p2⟩:=Mg l n y;rcases U with q |⟨q,q'⟩
   ·exact TT (EL q) (TT K f)
   ·have:=p2 (S q);exact CF 0 1 1 0 0 0 (CH 0 1 0 0 (EL q') K) (EG this) rfl
  ·rw[Mf,j];by_cases J:w=n
   ·rw[aN J,aN J];exact .some hy
   ·rw[aK J,aK J];exact r w) []
 exact aC (F _ _ _ _ (.refl _) k G () trivial)
def Mi {x a:au}(hd:HE X F k U (.Name x p) d):HE X F k U (.Attribute (.Name x p) a pos) (λrt=>do
   let v0 <-d rt
   mA v0 a):=by
 intro A l G Q N B I h K z W D E L;refine Attribute_name ?_;refine(hd K).then L λM T S V R y v J Y O H=>?_;exact Me K.ok J O a M R D E H
def Mj {o:aH}{a:au}(hd:HE X F k U o d):HA X F k U (.Attribute o a pos) (λv rt=>do
   let ov <-d rt
   p6 ov a v
   P.pure rt.loc):=by
 intro A l G Q N B I h K x v Z z W D E R;show aA _ _ (ly [v] (eval o G)>>=_) _ _ _;refine wB (eA ?_);refine(hd K).value R λm V u w t1 y ov L M Y J=>?_;refine wB (jC (wB (eA ?_)));refine(Mh K.ok L Y (Z.step M.step) a).value J λf j T h2 b c c O S c H=>?_;refine wpAny_release ?_;exact H _ _ _ _ (.refl _) O (.refl ..) () ((K.step L M).step O S).en
theorem Mk {l:ay}{k:Int}{t:cK}{a0:b8->aD->Prop}(hl:IsL s.heap l O n)(h0:0<=k)(b0:k < 2 ^ 63)(hn:k < O.size)(hQ:∀H n',IsL H l (O.setIfInBounds k.toNat v) n'->fm l s.heap H->a0 () { s with heap:=H }):
  aA (aV prog w) A (setItem (.ref l) (.int k t) v) a0 E s:=by
 obtain qm:=hl.isList;unfold setItem;try with_reducible refine eA ?_
 first |refine wB (aC ?_) |skip
 refine wB (wpAny_sequenceKey qm.typeIs (by decide) ?_);refine wB (nh (name:=aq "__setitem__") qm.typeIs HH
  (gw HH qm.typeIs entry_list_setitem ?_ (args_list_setitem _ _ _)))
 show aA _ _ (V6 (.int k t)>>=_) _ _ s;refine wB (wpAny_listSubscript_int (fitsIndex_of h0 b0) ?_);clear b0;obtain (⟨j,rfl⟩):=Ap h0;have B:j < O.size:=by lia
 obtain qn:O[j]? =ae O[j]:=wJ B;show aA _ _ ((seqItemAt l j>>=λr=>pure (r.map (j,·)))>>=_) _ _ s;refine wB (wB (wpAny_seqItemAt hl rfl (aC ?_)));rw[qn];show aA _ _ (setSeqItemAt l j v>>=_) _ _ s;refine wB (wpAny_setSeqItemAt hl rfl ?_);first
  |exact wB (aC (aC ⟨.none,rfl,aC (hQ _ _ (hl.update (·.setIfInBounds j v)) (dY ..))⟩))
  |exact aC ⟨.none,rfl,aC (hQ _ _ (hl.update (·.setIfInBounds j v)) (dY ..))⟩
def Ml (l:ah ((au ⊕ Int)×AV))(k:au ⊕ Int)(v:AV):(putD l k v).length<=l.length+1:=by
 unfold putD;split <;>simp
theorem Mm {u:AV}{w t:aw}(a0:Inv X B I h)(hx:aF X B h x v)(hy:aF X B h y w)(hu:aF X B h u t):aW X A [] (λg g g g=>eN) B I h (setItem v w t) (oP x y u):=by
 intros _ z W Q E _ D;obtain (⟨i,q,D⟩):=iw D;subst q;obtain⟨e⟩:=hx;obtain⟨V,L,D⟩:=eV D;cases V with
 |list l=>
  obtain⟨j,q,D⟩:=jl D;subst q;obtain⟨_,rfl⟩:=hy;obtain⟨F,D⟩:=a6 D;obtain D:aL X z [] B h (λa a a a=>eN) Q E (.ok ()) (I.set i (.list (l.set j.toNat u))):=D;obtain⟨O,n,b,U,len,K⟩:=ez a0 L e;refine Mk (s:=sh z h W) b F.1 (by lia) (by rw[cG,len];exact(G9 F.1).1 F.2.1) λH o J N=>?_;rw[List.setIfInBounds_toArray]at J;obtain⟨M,G⟩:=a0.change (b0:=.list (l.set j.toNat u)) L e N J ⟨_,o,rfl,U.set hu j.toNat,by rw[eM];exact K⟩ [];exact D _ _ _ _ (.refl _) M G () trivial
 |dict l=>
  obtain⟨k,Y,D⟩:=c9 D;obtain⟨F,D⟩:=a6 D;obtain D:aL X z [] B h (λa a a a=>eN) Q E (.ok ()) (I.set i (.dict (putD l k u))):=D;obtain⟨T,d,r,c⟩:=xU a0 L e;refine wpAny_setItem_pairs (knd:=mD X) (s:=sh z h W) (r9 hy Y).1 d (λH Z N=>?_) (by rw[r.length,fG];exact FI 0 64 0 16777216 F rfl);obtain⟨f,R,S⟩:=tF.mp Z;obtain⟨M,G⟩:=a0.change (b0:=.dict (putD l k u)) L e N R ⟨_,S,r.put k hu,by have:=Ml l k u;exact CF 0 1 0 64 0 100 this F rfl⟩ [];exact D _ _ _ _ (.refl _) M G () trivial
 |_=>exact D.elim
def Mn {o i:aH}{b:DE}(hd:HE X F k U o d)(hb:HE X F k U i b):HA X F k U (.Subscript o i pos) (λv rt=>do
   let ov <-d rt
   let iv <-b rt
   oP ov iv v
   P.pure rt.loc):=by
 intro A l G Q N B I h K x v hx z W D E Z;show aA _ _ (ly [v] (eval o G)>>=_) _ _ _;refine wB (eA ?_);refine(hd K).value Z λz1 u b0 h1 t1 y ov f T m O=>?_;refine wB (eA ?_);obtain S:=K.step f T;refine(hb S).value O λz2 a0 j h2 t2 y2 iv V J M L=>?_;refine wB (jC (wB (eA ?_)));refine(Mm V (m.step J.step) M ((hx.step T.step).step J.step)).value L λz3 Y w h3 t3 a a R G3 a H=>?_;refine wpAny_release ?_;exact H _ _ _ _ (.refl _) R (.refl ..) () ((S.step V J).step R G3).en
def yv {c:n6}{a0:aw->aD->Prop}(hc:oR c=ae y)(kk:ak)(b0:fj)(hq:∀v t',SV X y v->a0 v (sh z h t')):aA (MX X) A (eval (.Constant c kk b0) G) a0 E (sh z h W):=by
 cases c with
 |none=>cases hc;exact GK (hq _ _ λu u=>.none)
 |bool b=>cases hc;exact GL (hq _ _ λu u=>.bool b)
 |int i=>cases hc;exact GN (hq _ _ λu u=>.int i _)
 |str x=>cases hc;exact GO (hq _ _ λu u=>.str x _)
 |_=>exact gh hc
theorem Mo {ck cv:n6}{k1 k2:ak}{p1 p2:fj}:HE X F k U (.Dict [ae (.Constant ck k1 p1)] [.Constant cv k2 p2] pos) (λc=>do
   let kv <-P.opt (oR ck)
   let vv <-P.opt (oR cv)
   let k <-P.opt (gC kv)
   let i0 <-P.alloc (.dict [(k,vv)])
   P.pure (.ref i0)):=by
 intros _ A l G Q N B I h _ K _ z W D E _ J;obtain (⟨kv,Z,J⟩):=c9 J;obtain (⟨vv,w,J⟩):=c9 J;obtain (⟨M,e3,J⟩):=c9 J;have J:aL X z [] B h (RV X) D E (.ok (.ref I.length)) (I++[.dict [(M,vv)]]):=J;refine wpAny_Dict_pairs (knd:=mD X) (pairs:=[(eval (.Constant ck k1 p1) G,do let x <-eval (.Constant cv k2 p2) G;tH pos;pure x)]) rfl (by simp) (by simp) ?_;refine evalPairs_cons ?_;refine yv (X:=X) (h:=h.push { cls:=.type "dict",data:=.dict #[] }) Z k1 p1 λV t1 r1=>?_;refine wB (yv (X:=X) (h:=h.push { cls:=.type "dict",data:=.dict #[] }) w k2 p2 λL t2 Y=>wB (jC (aC ?_)));refine evalPairs_nil ⟨[(M,L)],⟨(r9 (r1 B h) e3).1,rfl,trivial⟩,tF.mpr ⟨_,cV _ rfl,CZ⟩,λH u j=>?_⟩;obtain⟨o',R,T⟩:=tF.mp u;have oY:∀b o,h.get? b=ae o->H.get? b=ae o:=λb o e=>(j.2 b (jV (gL e))).trans (be _ e);have O:h.get? h.objs.size=ag:=eU h;have S:Step X [] B h (B++[h.objs.size]) H:=⟨λa o e=>⟨o,oY a o e⟩,⟨[h.objs.size],rfl,λa m=>by rw[aJ.mp m];exact O⟩,λa o e v v v=>⟨o,oY a o e,.refl ..⟩⟩;refine J z (B++[h.objs.size]) H _ (.refl _) (K.inv.snoc S.dK (λv=>id) oY (K.inv.fresh O).1 (K.inv.ey O) R ⟨_,T,.cons (Y _ _) .nil,iY rfl⟩) ⟨S,λa o e v f v=>⟨o,oY a o e,f⟩⟩ _ (.ref ?_);rw[<-K.inv.len];simp
set_option tactic.hygienic true in def Mp {β : Type} {a : β} {a0 : β → aD → Prop} (h : ∀ a, a0 a s) : aA M A (pure a) a0 E s := aC (h a)
def Mq (v:aw):MeetsIn prog w (j2.«enumerate.__new__» ⟨[.type "enumerate",v],[]⟩) (λA R s=>aA (aV prog w) A.in1 (f6 v) (λit s'=>R (.ok (.ret (.ref s'.heap.objs.size)))
  { s' with heap:=s'.heap.push { cls:=.type "enumerate",data:=.fields #[.none,.bool az,it,bI 0,.none,.none] } }) (λe s'=>R (.error e) s') s):=
 .of_wp λA R s h=>by
  have B:=sub_enumerate;obtain⟨D,g,d,W,os⟩:=s;have step:∀{Q':aw->aD->Prop},(∀it s',R (.ok (.ret (.ref s'.heap.objs.size))) { s' with heap:=s'.heap.push { cls:=.type "enumerate",data:=.fields #[.none,.bool az,it,bI 0,.none,.none] } }->Q' it s')->
   aA (aV prog w) A.in1 (f6 v) Q' (λe s'=>R (.error e) s') ⟨D,g,d,W,os⟩:=λE=>eB h E λu u q=>q
  wp_walk
  refine wpAny_stack_any λI=>Mp λc=>?_;cases c
  ·wp_walk using step
   intro it s' q
   wp_walk
   exact⟨_,rfl,q⟩
  ·wp_walk using step
   intro it s' q
   wp_walk
   exact⟨_,rfl,q⟩
def Mr (v1 v2:aw):MeetsIn prog w (j2.«zip.__new__» ⟨[.type "zip",v1,v2],[]⟩) (λA R s=>aA (aV prog w) A.in1 (f6 v1) (λi1 s1=>aA (aV prog w) A.in1 (f6 v2) (λi2 s2=>
   R (.ok (.ret (.ref (s2.heap.objs.size+2)))) { s2 with heap:=((s2.heap.push { cls:=.type "tuple",data:=.seq #[i1,i2] }).push { cls:=.type "tuple",data:=.seq #[.none,.none] }).push { cls:=.type "zip",data:=.fields #[.none,.bool az,.bool az,.ref s2.heap.objs.size,.ref (s2.heap.objs.size+1)] } }) (λe s'=>R (.error e) s') s1) (λe s'=>R (.error e) s') s):=
 .of_wp λA R s h=>by
  have E:=sub_zip;obtain⟨B,g,d,W,os⟩:=s;have step:∀{Q':aw->aD->Prop},(∀i1 s1,aA (aV prog w) A.in1 (f6 v2) (λi2 s2=>
   R (.ok (.ret (.ref (s2.heap.objs.size+2)))) { s2 with heap:=((s2.heap.push { cls:=.type "tuple",data:=.seq #[i1,i2] }).push { cls:=.type "tuple",data:=.seq #[.none,.none] }).push { cls:=.type "zip",data:=.fields #[.none,.bool az,.bool az,.ref s2.heap.objs.size,.ref (s2.heap.objs.size+1)] } }) (λe s'=>R (.error e) s') s1->Q' i1 s1)->
   aA (aV prog w) A.in1 (f6 v1) Q' (λe s'=>R (.error e) s') ⟨B,g,d,W,os⟩:=λD=>eB h D λu u q=>q
  wp_walk using step
  intro i1 s1 q;obtain⟨B,g,d,W,os⟩:=s1;have step:∀{Q':aw->aD->Prop},(∀i2 s2,R (.ok (.ret (.ref (s2.heap.objs.size+2)))) { s2 with heap:=((s2.heap.push { cls:=.type "tuple",data:=.seq #[i1,i2] }).push { cls:=.type "tuple",data:=.seq #[.none,.none] }).push { cls:=.type "zip",data:=.fields #[.none,.bool az,.bool az,.ref s2.heap.objs.size,.ref (s2.heap.objs.size+1)] } }->Q' i2 s2)->
   aA (aV prog w) A.in1 (f6 v2) Q' (λe s'=>R (.error e) s') ⟨B,g,d,W,os⟩:=λD=>eB q D λu u q=>q
  wp_walk using step
  intro i2 s2 q;obtain⟨B,g,d,W,os⟩:=s2
  wp_walk
  refine⟨_,rfl,?_⟩;have F:((B.push { cls:=.type "tuple",data:=.seq #[i1,i2] })).objs.size=B.objs.size+1:=j8 ..;have G:((B.push { cls:=.type "tuple",data:=.seq #[i1,i2] }).push { cls:=.type "tuple",data:=.seq #[.none,.none] }).objs.size=B.objs.size+2:=by rw[j8,F]
  dsimp only at q;rw[<-G,<-F]at q;exact q
def Ms {a0:aw->aD->Prop}(h:aA (aV prog w) A.in1.in1 (f6 v) (λit s'=>a0 (.ref s'.heap.objs.size) { s' with heap:=s'.heap.push { cls:=.type "enumerate",data:=.fields #[.none,.bool az,it,bI 0,.none,.none] } }) E s):
  aA (aV prog w) A (call (.type "enumerate") [v]) a0 E s:=
 HJ F.called_enumerate (by decide) (F.typeCall_enumerate_1 _) (F.newCall_enumerate_1 _) (λobj=>F.args_object_init_2 obj _) F.entry_enumerate_new (Mq v)
  (eB h (λit s' q=>⟨⟨_,cV _ rfl,rfl⟩,q⟩) λu u q=>q)
def Mt {v1 v2:aw}{a0:aw->aD->Prop}(h:aA (aV prog w) A.in1.in1 (f6 v1) (λi1 s1=>aA (aV prog w) A.in1.in1 (f6 v2) (λi2 s2=>
   a0 (.ref (s2.heap.objs.size+2)) { s2 with heap:=((s2.heap.push { cls:=.type "tuple",data:=.seq #[i1,i2] }).push { cls:=.type "tuple",data:=.seq #[.none,.none] }).push { cls:=.type "zip",data:=.fields #[.none,.bool az,.bool az,.ref s2.heap.objs.size,.ref (s2.heap.objs.size+1)] } }) E s1) E s):
  aA (aV prog w) A (call (.type "zip") [v1,v2]) a0 E s:=
 HJ F.called_zip (by decide) (F.typeCall_zip_2 _ _) (F.newCall_zip_2 _ _) (λobj=>F.args_object_init_3 obj _ _) F.entry_zip_new (Mr v1 v2)
  (eB h (λi1 s1 q=>eB q (λi2 s2 q=>⟨by
   have:=cV ((s2.heap.push { cls:=.type "tuple",data:=.seq #[i1,i2] }).push { cls:=.type "tuple",data:=.seq #[.none,.none] }) (o:={ cls:=.type "zip",data:=.fields #[.none,.bool az,.bool az,.ref s2.heap.objs.size,.ref (s2.heap.objs.size+1)] }) rfl;rw[j8,j8]at this;exact⟨_,this,rfl⟩,q⟩) λu u q=>q) λu u q=>q)
theorem Mu {r:ay}{a c:Int}{t u v:cK}{a0:aw->aD->Prop}(hr:wz s.heap r a b c t u v)(hs:(fH a && fH b && fH c && fH (-c) && fH (a - c) && fH (j9 a b c))=aj)(h:a0 (.ref s.heap.objs.size) { s with heap:=s.heap.push { cls:=.type "range_iterator",data:=.fields #[bI (a+(j9 a b c - 1) * c),bI (j9 a b c),bI (-c)] } }):
  aA (aV prog w) A (call (.builtin "range.__reversed__") [.ref r]) a0 E s:=by
 have B:s.TypeIs (.ref r) "range":=⟨_,hr,rfl⟩;refine gw F.slot_range_reversed B F.entry_range_reversed ?_ (F.args_range_reversed_1 _);obtain⟨D,g,d,W,os⟩:=s;unfold Builtin.«range.__reversed__» V7
 wp_walk using AutoSeq1.wpAny_loadPart' hr
 simp only[hs,qU,ja,jb,jB]
 wp_walk
 exact⟨_,rfl,h⟩
theorem Mv {r:ay}{a c:Int}{t u v:cK}{a0:aw->aD->Prop}(hr:wz s.heap r a b c t u v)(hs:(fH a && fH b && fH c && fH (-c) && fH (a - c) && fH (j9 a b c))=aj)(h:a0 (.ref s.heap.objs.size) { s with heap:=s.heap.push { cls:=.type "range_iterator",data:=.fields #[bI (a+(j9 a b c - 1) * c),bI (j9 a b c),bI (-c)] } }):
  j' (aV prog w) A (.call (.builtin "reversed.__new__") ⟨[.type "reversed",.ref r],[]⟩) (rF a0 E) s:=by
 have B:s.TypeIs (.ref r) "range":=⟨_,hr,rfl⟩;refine ud ?_;show aA _ A.in1 (do ue "reversed.__new__" ⟨[.type "reversed",.ref r],[]⟩;again (.builtin "reversed.__new__" ⟨[.type "reversed",.ref r],[]⟩)) _ _ s;refine wB (nj (F.newCall_reversed_1 _) (aC ⟨oH F.plain_reversed_new _,kb F.entry_reversed_new ?_⟩));rw[mu F.plain_reversed_new _];unfold Builtin.«reversed.__new__»;refine wB (nj (newClass_reversed _) ?_);try dsimp only
 refine wB (nj (a:=()) (by first |rfl |kernel_rfl) ?_);refine wB (nj (a:=()) (by first |rfl |kernel_rfl) ?_);try dsimp only
 refine wB (rG B F.slot_range_reversed.lookup ?_);try dsimp only
 refine wB (nj (F.slot_range_reversed.bind _) ?_);try dsimp only
 first
 |rw[aK (show ¬ ((uf "range.__reversed__" == dq)=aj) from jd)]
 |(show aA _ _ (if (uf "range.__reversed__" == dq)=aj then _ else _) _ _ _;rw[aK (show ¬ ((uf "range.__reversed__" == dq)=aj) from jd)])
 refine wB (gN ?_);refine wB (m:=runValue (.call (.builtin "range.__reversed__") ⟨[.ref r],[]⟩)) (show aA _ _ (call (.builtin "range.__reversed__") [.ref r]) _ _ _ from Mu hr hs ?_);first
 |exact aC h
 |exact wB (aC (aC h))
def Mw:lC (.type "range_iterator") (.type "reversed")=pure az:=by rw[rj];kernel_rfl
def Mx {r:ay}{a c:Int}{t u v:cK}{a0:aw->aD->Prop}(hr:wz s.heap r a b c t u v)(hs:(fH a && fH b && fH c && fH (-c) && fH (a - c) && fH (j9 a b c))=aj)(h:a0 (.ref s.heap.objs.size) { s with heap:=s.heap.push { cls:=.type "range_iterator",data:=.fields #[bI (a+(j9 a b c - 1) * c),bI (j9 a b c),bI (-c)] } }):
  aA (aV prog w) A (call (.type "reversed") [.ref r]) a0 E s:=by
 refine callType_other (U:="range_iterator") (Q₁:=λobj B=>obj= .ref s.heap.objs.size/\B={ s with heap:=s.heap.push { cls:=.type "range_iterator",data:=.fields #[bI (a+(j9 a b c - 1) * c),bI (j9 a b c),bI (-c)] } }) (by decide +kernel) F.create_reversed ⟨_,_,F.mro_reversed⟩ F.made_reversed Mw (F.typeCall_reversed_1 _) (Mv hr hs ⟨rfl,rfl⟩) ?_;rintro obj B ⟨rfl,rfl⟩;exact⟨⟨_,cV _ rfl,rfl⟩,h⟩
def yw {c:Int}(hb: -4096 < b/\b < 4096)(hc:c=1/\k=b.toNat\/c= -1/\k=(-b).toNat):j9 0 b c=k:=by
 unfold Builtin.Range.rangeSize;rcases hc with ⟨rfl,rfl⟩ |⟨rfl,rfl⟩
 ·simp only[show(1:Int) > 0 by decide,jB,HK];split <;>lia
 ·simp only[show ¬ ((-1:Int) > 0) by decide,jb];simp only[HL,HK];split <;>lia
def fits_of {i:Int}(h: -(2 ^ 63)<=i/\i < 2 ^ 63):fH i=aj:=by
 unfold Builtin.Range.rangeFitsLong;rw[cW,ft,ft];exact h
def My {c:Int}(hb: -4096 < b/\b < 4096)(hc:c=1/\k=b.toNat\/c= -1/\k=(-b).toNat):V8 0 b c=aj:=by
 unfold Builtin.Range.small;rw[yw hb hc];have D:(k:Int)<=4096:=by rcases hc with ⟨rfl,rfl⟩ |⟨rfl,rfl⟩<;>lia
 have B:(if c > 0 then fH (b+(c - 1))else fH (b+(c+1)))=aj:=by
  split <;>exact fits_of (by rcases hc with ⟨rfl,rfl⟩ |⟨rfl,rfl⟩<;>lia)
 rw[fits_of (i:=0) (by lia),fits_of (i:=b) (by lia),fits_of (i:=c) (by rcases hc with ⟨rfl,rfl⟩ |⟨rfl,rfl⟩<;>lia),fits_of (i:=(k:Int)) (by lia),B,rq];rfl
def lP.step {ex:ah ay}{a:AS}(r:lP X B h a v)(b0:Inv X B I h)(a0:Go X ex B h J H):lP X J H a v:=by
 cases r with
 |val r=>exact .val (r.step a0.step)
 |range n D E F K=>exact .range (a0.step.dt E n) D (a0.step.uX E n (b0.gX D) (λu u q=>nomatch q)) F K
def Mz (hd:HE X F k U e d):HR X F k U e (λrt=>do
   let v0 <-d rt
   P.pure (.val v0)):=by
 intro A l G Q N B I h K z W D E L;exact(hd K).then L λT R O S V x v J Y M H=>H _ _ _ _ (.refl _) J (.refl ..) _ (.val M)
def vp {f:au}{v:AV}{a0:aw->aD->Prop}(K:Ctx X k U A l G Q N B I h)(hk:cM U f=ae .globalImplicit)(hg:p9 f=ae v)(hn:(f == aq "__debug__" || f == aq "__classdict__")=az)(hQ:∀val z' J H t',Zs z z'->Inv X J I H->Go X [] B h J H->aF X J H v val->a0 val (sh z' H t')):aA (MX X) A (eval (.Name f p) G) a0 E (sh z h W):=by
 refine Cj (F:=λu u u=>P.fail) K.ok K.inv K.en f p z W a0 E ?_;unfold nH;rw[aK (by rw[hn];simp),hk];dsimp only;rw[hg];exact λz' J H t' Z D F val r=>hQ val z' J H t' Z D F r
def sf (M:mZ)(h:aG)(n:aI):oD M h (oE (.type n)) pX:=A7 rfl
def C6 (M:mZ)(h:aG)(n:aI):oD M h (oE (.builtin n)) pX:=A7 rfl
def vq {l:ah AV}:∀{ns:ah Int},intsOf l=ae ns->l=ns.map .int:=by
 induction l with
 |nil=>exact λe=>dp e ▸ rfl
 |cons x l D=>cases x with
  |int i=>
   intro ns e;obtain⟨E,B,rfl⟩:=jZ.mp e;rw[D B];rfl
  |_=>exact λe=>gh e
def MA {l:ah AV}{p:Res AS->St->Prop}(h:(lK l).run I p):
  (∃b,l=[.int b]/\(-4096 < b/\b < 4096)/\p (.ok (.range 0 b.toNat 1)) I)\/(∃b,l=[.int 0,.int b,.int (-1)]/\(-4096 < b/\b < 4096)/\p (.ok (.range 0 (-b).toNat (-1))) I):=by
 obtain⟨ns,e,h⟩:=c9 h;rw[vq e];cases ns with
 |nil=>exact h.elim
 |cons b r=>cases r with
  |nil=>obtain⟨g,h⟩:=a6 h;exact .inl ⟨_,rfl,g,h⟩
  |cons c r=>cases r with
   |nil=>exact h.elim
   |cons d r=>cases r with
    |nil=>obtain⟨g,H⟩:=a6 h;obtain⟨rfl,rfl,g⟩:=g;exact .inr ⟨_,rfl,g,H⟩
    |cons _ _=>exact h.elim
theorem src_range {T:ah aH}{g:aH->DE}(hk:cM U (aq "range")=ae .globalImplicit)(ha:∀e∈T,HE X F k U e (g e)):HR X F k U (.Call (.Name (aq "range") p) T [] q) (λrt=>do
   P.guard (lL T []=aj)
   let l0 <-dG (T.map g) rt
   lK l0):=by
 intros _ A l G Q N B I h _ K _ z W D E _ hr;obtain⟨o,hr⟩:=a6 hr;refine ug ?_;refine vp (v:=.ty "range") K hk (by kernel_rfl) (by decide +kernel) ?_;intros _ val z1 f0 h1 t1 _ Z1 I1 G1 rv;cases rv
 ·obtain K1:=K.step I1 G1;refine ym (R':=lP X) (a0:=λV kv=>match kv with | []=>lK V |_=>P.fail) (Pk:=λw=>eN) (e0:=[]) K1 ha (λw hw=>nomatch hw) o (λH w=>⟨_,.inr (.inl rfl),sf _ _ _⟩) ?_ ?_
  ·refine P.mono _ (λr Z y=>y.shift Z1 G1) (show(dG (T.map g) ⟨F,Q,N⟩>>=λV=>fV [] ⟨F,Q,N⟩>>=λkv=>match kv with | []=>lK V |_=>P.fail).run I (aL X z [] B h (lP X) D E) from ?_);exact hr
  ·intros _ j b0 a0 O t2 V e0 kv f _ I2 G2 Y rk J;refine⟨trivial,?_⟩;have R:∀(b c:Int) (t u v:cK) (kk:ak) (S:ak),-4096 < b/\b < 4096->(c=1/\kk=b.toNat\/c= -1/\kk=(-b).toNat)->aL X j [] b0 O (lP X) D E (.ok (.range 0 kk c)) a0->
     D (.ref O.objs.size) (sh j (O.push { cls:=.type "range",data:=.fields #[.int 0 t,.int b u,.int c v] }) S):=by
    intro b c t u v kk S m hc hp;refine hp _ _ _ _ (.refl _) (I2.push _) (Go.push ..) _ (.range (λhm=>dP _ (I2.lt hm)) (I2.ey (eU O)) (cV _ rfl) m hc)
   cases rk with
   |cons _ _=>exact J.elim
   |nil=>
   rcases MA J with ⟨b,rfl,hg,J⟩ |⟨b,rfl,m,J⟩
   ·cases Y with |cons M L=>
    cases L;obtain⟨tb,rfl⟩:=M;exact call_range_1 (s:=sh j O t2) (R b 1 _ _ _ _ _ hg (.inl ⟨rfl,rfl⟩) J)
   ·cases Y with |cons M L=>
    cases L with |cons c0 L=>
    cases L with |cons d0 L=>
    cases L;obtain⟨ta,rfl⟩:=M;obtain⟨tb,rfl⟩:=c0;obtain⟨tc,rfl⟩:=d0;exact call_range_3 (s:=sh j O t2) (by decide) (R b (-1) _ _ _ _ _ m (.inr ⟨rfl,rfl⟩) J) (.inl (GU (by lia)))
def aW.sg {a0:aw->aD->Prop}{α β:Type}{R:ah ay->aG->β->α->Prop}{t:dn α}{m:P β}{g:β->P AI}(h1:aW X A [] R B I h t m)(b0:Zs dE z)(c0:Go X [] br h₀ B h)(hr:(m>>=g).run I (rU X dE br h₀ a0 E)){Q':α->aD->Prop}(k:∀z' J Z H t' b a,Zs dE z'->Inv X J Z H->Go X [] B h J H->Go X [] br h₀ J H->R J H b a->(g b).run Z (rU X dE br h₀ a0 E)->Q' a (sh z' H t')):aA (MX X) A t Q' E (sh z h W):=by
 refine h1 z W Q' E (m.mono (λr Z y=>?_) (show m.run I _ from hr));intro z' J H t' F D S;obtain S':=c0.trans S;cases r with
 |ok b=>exact λa G=>k z' J Z H t' b a (b0.trans F) D S S' G y
 |err k=>exact λe x=>y z' J H t' (b0.trans F) D S' e (x.oW c0.step.there)
def bP.ref (r:bP X B h own ai it):∃a,it= .ref a:=by cases r <;>exact⟨_,rfl⟩
def bP.conv (hB:Y.base=X.base)(r:bP X B h own ai it):bP Y B h own ai it:=by
 cases r with
 |list e D n b=>exact .list e D n (hB ▸ b)
 |range D n b=>exact .range D n (hB ▸ b)
 |obj e=>exact .obj e
def bP.ext (r:bP X B h own ai it)(hk:∀b o,h.get? b=ae o->H.get? b=ae o):bP X B H own ai it:=by
 cases r with
 |list e D n b=>obtain⟨o,E,c,d⟩:=D;exact .list e ⟨o,hk _ _ E,c,d⟩ n b
 |range D n b=>exact .range (hk _ _ D) n b
 |obj e=>exact .obj e
def bP.there (r:bP X B h own ai it):∀c∈own,∃o,h.get? c=ae o:=by
 cases r with
 |list e E n b=>intro c D;rw[aJ.mp D];obtain⟨o,F,_⟩:=E;exact⟨o,F⟩
 |range E n b=>intro c D;rw[aJ.mp D];exact⟨_,E⟩
 |obj e=>exact λu D=>nomatch D
def vt {as:AS}{g:AI->P AI}{p:Res AI->St->Prop}{Q':aw->aD->Prop}(r:lP X B h as v)(a0:Inv X B I h)(hr:(eP as>>=g).run I p)(k:∀H own ai it,(∀b o,h.get? b=ae o->H.get? b=ae o)->bP X B H own ai it->(∀c∈own,h.get? c=ag)->(g ai).run I p->Q' it (sh z H W)):aA (MX X) A (f6 v) Q' E (sh z h W):=by
 cases r with
 |range n L F G D=>
  refine wpAny_pyIter_range (s:=sh z h W) F (My G D) ?_;rw[yw G D];refine k _ [h.objs.size] _ _ (λb o e=>be _ e) (.range (cV _ rfl) (λJ=>dP _ (a0.lt J)) (a0.ey (eU h))) (λc D=>?_) hr;rw[aJ.mp D];exact eU h
 |val K=>
  obtain⟨i,q,hr⟩:=iw (g:=λi=>rM i>>=g) hr;subst q;obtain⟨e⟩:=K;exact CQ a0 e hr k
def Go.fresh {c:ay}(a0:Go X [] br h₀ B h)(hc:h.get? c=ag):h₀.get? c=ag:=by
 cases q:h₀.get? c with
 |none=>rfl
 |some o=>obtain⟨E,D⟩:=a0.step.there c o q;rw[hc]at D;cases D
def MB {a:aH}{d:DR}(hk:cM U (aq "enumerate")=ae .globalImplicit)(ha:HR X F k U a d):HI X F k U (.Call (.Name (aq "enumerate") p) [a] [] q) (λrt=>do
   P.guard (dg a=aj)
   let x0 <-d rt
   let i0 <-eP x0
   P.pure (.enum 0 i0)):=by
 intro A l G Q N B I h K z W D E j;obtain⟨R,j⟩:=a6 j;refine ug ?_;refine vp (v:=.ty "enumerate") K hk (by kernel_rfl) (by decide +kernel) λval z1 b0 h1 t1 Z1 I1 G1 rv=>?_;cases rv
 ·obtain K1:=K.step I1 G1;refine wR (P:=λx=>eN) (by rw[kJ R];rfl) (λH x=>⟨_,.inr (.inl rfl),sf _ _ _⟩) ?_;show aA _ _ (A8 _ aj (lA q (jA [a] G)) []) _ _ _;rw[kJ R];refine A9 (w7 ?_);refine(ha K1).sg Z1 G1 j λz2 T a0 h2 t2 as v Z2 V G2 L ra f=>?_;refine Ba ⟨trivial,?_⟩;show aA _ _ (call (.type "enumerate") [v]) _ _ _;refine Ms ?_;refine vt ra V f λJ m ai it O w ho u=>?_;obtain⟨Y,rfl⟩:=w.ref;obtain S:∀b o,h2.get? b=ae o->(J.push { cls:=.type "enumerate",data:=.fields #[.none,.bool az,.ref Y,bI 0,.none,.none] }).get? b=ae o:=λb o e=>be _ (O _ _ e);have M:h2.get? J.objs.size=ag:=by
   cases q:h2.get? J.objs.size with
   |none=>rfl
   |some o=>exact absurd (gL (O _ _ q)) (dP _)
  obtain he:oh (J.push { cls:=.type "enumerate",data:=.fields #[.none,.bool az,.ref Y,bI 0,.none,.none] }) J.objs.size Y 0 .none:=cV _ rfl;refine HM (s:=sh z2 _ t2) he ?_;obtain⟨f1,f2⟩:=V.fresh M;refine u z2 T _ t2 [] (J.objs.size :: m) (.ref J.objs.size) Z2 (V.keeps S) (L.trans (Go.keeps X T S [])) (.enum he f1 (V.ey M) (λhm=>?_) (w.ext λb o e=>be _ e)) (λc Z=>?_) (λx hb=>nomatch hb)
  ·obtain⟨o,e⟩:=w.there _ hm;rw[eU]at e;cases e
  ·rcases bu.mp Z with rfl |Z
   ·exact L.fresh M
   ·exact L.fresh (ho c Z)
set_option tactic.hygienic true in def MC {a : aH} {d : DR} (hk : cM U (aq "reversed") = ae .globalImplicit) (ha : HR X F k U a d) : HI X F k U (.Call (.Name (aq "reversed") p) [a] [] q) (fun rt => do
   P.guard (dg a=aj)
   let x0 <-d rt
   qa x0):=by
 intro A l G Q N B I h K z W D E hr;obtain⟨kG,hr⟩:=a6 hr;refine ug ?_;refine vp (v:=.ty "reversed") K hk (by kernel_rfl) (by decide +kernel) λval z1 Wo h1 t1 Z1 I1 G1 rv=>?_;cases rv
 ·obtain K1:=K.step I1 G1;refine wR (P:=λw=>eN) (by rw[kJ kG];rfl) (λH w=>⟨_,.inr (.inl rfl),sf _ _ _⟩) ?_;show aA _ _ (A8 _ aj (lA q (jA [a] G)) []) _ _ _;rw[kJ kG];refine A9 (w7 ?_);refine(ha K1).sg Z1 G1 hr λz2 CY bF h2 t2 as v Z2 I2 G2 C7 ra C8=>?_;refine Ba ⟨trivial,?_⟩;show aA _ _ (call (.type "reversed") [v]) _ _ _;cases ra with
  |val _=>exact C8.elim
  |range n bb MD hb hc=>
   rename_i r b c t u v kk;obtain⟨hg,ME⟩:=a6 C8;obtain⟨_,rfl⟩:=hg;have C9:(kk:Int)<=4096:=by rcases hc with ⟨_,rfl⟩ |⟨q,_⟩<;>lia
   obtain kP:=yw hb hc;refine Mx (s:=sh z2 h2 t2) MD (by
    rw[kP,fits_of (i:=0) (by lia),fits_of (i:=b) (by lia),fits_of (i:=1) (by lia),fits_of (i:=-1) (by lia),fits_of (i:=0 - 1) (by lia),fits_of (i:=(kk:Int)) (by lia)];rfl) ?_
   rw[kP,show(0:Int)+((kk:Int) - 1) * 1=(kk:Int) - 1 by lia];obtain hi:tw (h2.push { cls:=.type "range_iterator",data:=.fields #[bI ((kk:Int) - 1),bI kk,bI (-1)] }) h2.objs.size ((kk:Int) - 1) kk (-1):=cV _ rfl;refine HN (s:=sh z2 _ t2) hi ?_;obtain hn:h2.get? h2.objs.size=ag:=eU h2;refine ME z2 CY _ t2 [] [h2.objs.size] _ Z2 (I2.push _) (C7.trans (Go.push ..)) (.simple (.range hi (I2.fresh hn).1 (I2.ey hn))) (λc hc=>?_) (λw hb=>nomatch hb);rw[aJ.mp hc];exact C7.fresh hn
def MF {d:DR}(ha:HR X F k U e d):HI X F k U e (λrt=>do
   let v0 <-d rt
   eP v0):=by
 intro A l G Q N B I h K z W D E V;refine(ha K).sg (.refl _) (.refl ..) V λY J j h2 T as v f S G2 L w O=>?_;refine vt w S (P.CR O) λb R ai Z H u o M=>?_;exact M Y J b T [] R Z f (S.keeps H) (L.trans (Go.keeps X J H [])) (.simple u) (λc hc=>L.fresh (o c hc)) (λx m=>nomatch m)
theorem MG {a b:aH}{d e:DR}(hk:cM U (aq "zip")=ae .globalImplicit)(ha:HR X F k U a d)(hb:HR X F k U b e):HI X F k U (.Call (.Name (aq "zip") p) [a,b] [] q) (λrt=>do
   P.guard (dg a=aj/\dg b=aj)
   let x0 <-d rt
   let y0 <-e rt
   let i0 <-eP x0
   let a0 <-eP y0
   P.pure (.zip i0 a0)):=by
 intros _ A l G Q N B I h _ K _ z W D E _ hr;obtain⟨⟨c0,f⟩,hr⟩:=a6 hr;refine ug ?_;refine vp (v:=.ty "zip") K hk (by kernel_rfl) (by decide +kernel) ?_;intros _ val z1 s0 h1 t1 _ Z1 I1 G1 rv;cases rv
 ·obtain K1:=K.step I1 G1;refine wR (P:=λx=>eN) (by rw[kJ c0,kJ f];rfl) (λH x=>⟨_,.inr (.inl rfl),sf _ _ _⟩) ?_;show aA _ _ (A8 _ aj (lA q (jA [a,b] G)) []) _ _ _;rw[kJ c0,kJ f];refine A9 (w7 ?_);refine(ha K1).sg Z1 G1 hr ?_;intros _ z2 u0 r0 h2 t2 as v1 _ Z2 I2 G2 l0 ra p0;refine w7 ?_;refine(hb (K1.step I2 G2)).sg Z2 l0 p0 ?_;intros _ z3 M j0 h3 t3 bs v2 _ Z3 I3 G3 u rb m0;refine Ba ⟨trivial,?_⟩;show aA _ _ (call (.type "zip") [v1,v2]) _ _ _;obtain h0:=ra.step I2 G3;refine Mt ?_;refine vt h0 I3 m0 ?_;intros _ h4 o1 a1 i1 _ V r1 o0 n0;obtain I4:=I3.keeps V;obtain g0:=rb.step I3 (Go.keeps X M V []);refine vt g0 I4 n0 ?_;intros _ L o2 a2 i2 _ T r2 w k0;have Y:=I4.keeps T;generalize d0:({ cls:=.type "tuple",data:=.seq #[i1,i2] }:Obj)=T1;generalize m:({ cls:=.type "tuple",data:=.seq #[.none,.none] }:Obj)=T2;generalize b0:({ cls:=.type "zip",data:=.fields #[.none,.bool az,.bool az,.ref L.objs.size,.ref (L.objs.size+1)] }:Obj)=T3;obtain s1:(L.push T1).objs.size=L.objs.size+1:=j8 ..;have s2:((L.push T1).push T2).objs.size=L.objs.size+2:=by rw[j8,s1]
  obtain g1:(((L.push T1).push T2).push T3).get? L.objs.size=ae T1:=be _ (be _ (cV _ (by rw[<-d0];rfl)));have g2:(((L.push T1).push T2).push T3).get? (L.objs.size+1)=ae T2:=by
   have:=be T3 (cV (L.push T1) (o:=T2) (by rw[<-m];rfl))
   rwa [s1]at this
  have g3:(((L.push T1).push T2).push T3).get? (L.objs.size+2)=ae T3:=by
   have:=cV ((L.push T1).push T2) (o:=T3) (by rw[<-b0];rfl)
   rwa [s2]at this
  have S:∀b o,L.get? b=ae o->(((L.push T1).push T2).push T3).get? b=ae o:=λb o e=>be _ (be _ (be _ e));have J:∀n,L.get? (L.objs.size+n)=ag:=λn=>by
   cases q:L.get? (L.objs.size+n)with
   |none=>rfl
   |some o=>exact absurd (gL q) (oa.mpr (tn _ _))
  have hz:i6 (((L.push T1).push T2).push T3) (L.objs.size+2) L.objs.size (L.objs.size+1) .none:=by rw[<-b0]at g3 |-;exact g3
  have hI:jx (((L.push T1).push T2).push T3) L.objs.size i1 i2:=by rw[<-d0]at g1 |-;exact g1
  have hO:jx (((L.push T1).push T2).push T3) (L.objs.size+1) .none .none:=by rw[<-m]at g2 |-;exact g2
  refine HO (s:=sh z3 _ t3) hz ?_;obtain old:∀c∈o1,∃o,L.get? c=ae o:=λc R=>by obtain⟨o,e⟩:=r1.there c R;exact⟨o,T _ _ e⟩
  obtain e0:∀c∈o2,∃o,L.get? c=ae o:=r2.there;have Z:∀n,L.objs.size+n∉o1++o2:=λn O=>by
   rcases dX.mp O with O |O
   ·obtain⟨o,e⟩:=old _ O;rw[J]at e;cases e
   ·obtain⟨o,e⟩:=e0 _ O;rw[J]at e;cases e
  have f0:=Y.fresh (J 0);obtain f1:=Y.fresh (J 1);obtain f2:=Y.fresh (J 2);obtain IX:Inv (X.more [L.objs.size+1]) M j0 (((L.push T1).push T2).push T3):=Y.more S (λb hb=>by rw[aJ.mp hb];exact⟨J 1,_,g2⟩);have G5:Go X [] B h M L:=(u.trans (Go.keeps X M V [])).trans (Go.keeps X M T []);obtain G6:Go X [] B h M (((L.push T1).push T2).push T3):=G5.trans (Go.keeps X M S []);refine k0 z3 M _ t3 [L.objs.size+1] ((L.objs.size+2) :: (L.objs.size+1) :: (o1++o2)) (.ref (L.objs.size+2)) Z3 IX G6
   (.zip hz hI hO ⟨f2.1,f0.1,f1.1⟩ ⟨Y.ey (J 2),Y.ey (J 0),Y.ey (J 1)⟩ (gM _ (.head _)) ⟨f0.2.1,λO=>by
     rcases dX.mp O with O |O
     ·exact absurd (aJ.mp O) (jV (jD _))
     ·exact f0.2.2 O⟩ ⟨jV (jD _),Z 2,Z 1,λc R O=>?_,Z 0⟩
    (bP.conv (X:=X) (Y:=X.more [L.objs.size+1]) rfl ((r1.ext T).ext S)) (bP.conv (X:=X) (Y:=X.more [L.objs.size+1]) rfl (r2.ext S))) (λc R=>?_) (λb hb=>by rw[aJ.mp hb];exact G5.fresh (J 1))
  ·obtain⟨o,e⟩:=r1.there c R;rw[w c O]at e;cases e
  ·rcases bu.mp R with rfl |R
   ·exact G5.fresh (J 2)
   rcases bu.mp R with rfl |R
   ·exact G5.fresh (J 1)
   rcases dX.mp R with R |R
   ·exact u.fresh (o0 c R)
   ·exact(u.trans (Go.keeps X M V [])).fresh (w c R)
theorem gF.more {es:aZ (Int×aw)}{t:gr}{a0:aw}{b0:ah (Int×aw)}(hb:∀b∈j,h.get? b=ag)(c:gF X B h a es ep t a0 i b0):gF (X.more j) B h a es ep t a0 i b0:=by
 cases c with
 |text hb=>exact .text hb
 |drawn E G J e H I=>exact .drawn E G (J.more e hb) e H I
 |one hb D=>exact .one hb D
 |done hb D F=>exact .done hb D F
theorem dT.more (hb:∀b∈j,h.get? b=ag)(r:dT X B h own ai it):dT (X.more j) B h own ai it:=by
 cases r with
 |simple r=>exact .simple (bP.conv (X:=X) (Y:=X.more j) rfl r)
 |enum M n b S r=>exact .enum M n b S (bP.conv (X:=X) (Y:=X.more j) rfl r)
 |zip K I W n b T F d N O=>exact .zip K I W n b (hW _ T) (F.more I hb) d (bP.conv (X:=X) (Y:=X.more j) rfl N) (bP.conv (X:=X) (Y:=X.more j) rfl O)
 |set n b U G J L R H D E Q V=>exact .set n b U (G.more J hb) J L R H D E Q (V.more hb)
def Dc {C:ay}(hs:fm C h H)(e:h.get? C=ae o)(f:gV o):gU X X.bad B B h H:=⟨λu u=>id,λa J E I D k=>⟨E,I,by
 refine(hs.2 a λq=>?_).trans D;subst q;rw[e]at D;cases D;obtain⟨G,F,d,_⟩:=f;exact k.nd G F d⟩⟩
def aF.sameBut {C:ay}(hs:fm C h H)(e:h.get? C=ae o)(f:gV o)(r:aF X B h x v):aF X B H x v:=r.dK (Dc hs e f)
def Inv.sameBut {C:ay}(a0:Inv X B I h)(hs:fm C h H)(e:h.get? C=ae o)(f:gV o)(hC:C∉B)(hB:X.base.get? C=ag)(hb:C∉X.bad):Inv X B I H:=by
 refine⟨a0.len,a0.nodup,λi N a G F=>?_,λb M D Q=>?_,a0.new,a0.gd,a0.mods,?_,λb E=>?_⟩
 ·obtain⟨O,J,L⟩:=a0.obj i N a G F;exact⟨O,(hs.2 a λq=>hC (q ▸ cD F)).trans J,L.dK (Dc hs e f)⟩
 ·exact(hs.2 b λq=>by rw[q,hB]at D;cases D).trans (a0.base b M D Q)
 ·obtain⟨V,K,c⟩:=a0.tab;exact⟨V,(hs.2 _ λq=>a0.gX hB q.symm).trans K,c⟩
 ·obtain⟨o,e⟩:=a0.gf b E;exact⟨o,(hs.2 b λq=>hb (q ▸ E)).trans e⟩
def Go.sameBut {ex:ah ay}{C:ay}(a0:Go X ex br h₀ B h)(hs:fm C h H)(hC:h₀.get? C=ag):Go X ex br h₀ B H:=by
 have F:∀a o,h₀.get? a=ae o->a≠C:=λa o e q=>by rw[q,hC]at e;cases e
 refine⟨⟨λa o e=>?_,a0.step.ext,λa o e I L J=>?_⟩,λa o e I f b=>?_⟩
 ·obtain⟨E,D⟩:=a0.step.there a o e;exact⟨E,(hs.2 a (F a o e)).trans D⟩
 ·obtain⟨E,D,k⟩:=a0.step.keep a o e I L J;exact⟨E,(hs.2 a (F a o e)).trans D,k⟩
 ·obtain⟨E,D,K⟩:=a0.fr a o e I f b;exact⟨E,(hs.2 a (F a o e)).trans D,K⟩
def Dd (e:B[i]? =ae a):(B++[D])[i]? =ae a:=by rw[lz (cF.mp e).1];exact e
def yx (hD:D∈j):gU (X.more j) X.bad B (B++[D]) h h:=⟨λu u=>Dd,λa o G F e u=>⟨λE=>by
 rcases dX.mp E with E |E
 ·exact G E
 ·rw[aJ.mp E]at F;exact F.2 (gM _ hD),F.less,e⟩⟩
def aF.adopt (hD:D∈j)(r:aF (X.more j) B h x v):aF X (B++[D]) h x v:=aF.dK (X:=X.more j) (j:=X.bad) (yx hD) r
def OB.adopt (hD:D∈j)(b:OB (X.more j) B h ao o):OB X (B++[D]) h ao o:=OB.dK (X:=X.more j) (j:=X.bad) (yx hD) b
def Inv.adopt (hD:D∈j)(a0:Inv (X.more j) B I h)(e:h.get? D=ae o)(b:OB (X.more j) B h ao o)(hn:D∉B)(hB:X.base.get? D=ag):Inv X (B++[D]) (I++[ao]) h:=
 a0.snoc (yx hD) (λu E=>hW _ E) (λu u e=>e) hn hB e (b.adopt hD)
def Go.adopt {ex:ah ay}(a0:Go X ex br h₀ B h)(hD:h₀.get? D=ag):Go X ex br h₀ (B++[D]) h:=by
 obtain⟨H,rfl,F⟩:=a0.step.ext;refine⟨⟨a0.step.there,⟨H++[D],jY ..,λa E=>?_⟩,a0.step.keep⟩,a0.fr⟩;rcases dX.mp E with E |E
 ·exact F a E
 ·rw[aJ.mp E];exact hD
def MH (b0:En X U G Q N B h):∀(names:ah (au×l6)) (d0 cs:ah (au×ak)) (c0:ah (au×ay)) (f:au×l6->ah (au×ay)->dn (tZ (ah (au×ay)))),
  (∀n kd c,f (n,kd) c=if kd == .free then (do let a0 <-w8 G n;pure (.yield ((n,a0) :: c)))else pure (.yield c))->fX B d0 c0->fL ⟨F,Q,N⟩ names d0=ae cs->∃cl,fX B cs cl/\forIn names c0 f=pure cl:=by
 intro l;induction l with
 |nil=>
  intro d0 cs c0 f E D e;cases e;exact⟨c0,D,by rw[me]⟩
 |cons I r M=>
  obtain⟨n,kd⟩:=I;intro d0 cs c0 f E D e;have e:(if (kd == kc)=aj then (match Q.lookup n with |some c=>fL ⟨F,Q,N⟩ r ((n,c) :: d0) |none=>ag)else fL ⟨F,Q,N⟩ r d0)=ae cs:=e;rw[pW,E];by_cases L:(kd == kc)=aj
  ·rw[aN L]at e |-;cases K:Q.lookup n with
   |none=>rw[K]at e;cases e
   |some c=>
    rw[K]at e;obtain⟨a,R,O⟩:=b0.cells n c K;obtain⟨cl,H,J⟩:=M ((n,c) :: d0) cs ((n,a) :: c0) f E (.cons R D) e;refine⟨cl,H,?_⟩;rw[show w8 G n=pure a from by unfold cellOf;rw[O]]
    simpa using J
  ·rw[aK L]at e |-;obtain⟨cl,H,J⟩:=M d0 cs c0 f E D e;exact⟨cl,H,by simpa using J⟩
def De {cs:ah (au×ak)}(a0:En X U G Q N B h)(e:fL ⟨F,Q,N⟩ aP.names []=ae cs):∃cl,fX B cs cl/\closureFor aP G=pure cl:=by
 obtain⟨cl,E,H⟩:=MH a0 (F:=F) aP.names [] cs [] (λx c=>match x with |(n,D)=>if D == .free then (do let a <-w8 G n;pure (.yield ((n,a) :: c)))else pure (.yield c)) (λn D c=>rfl) .nil e;refine⟨cl,E,?_⟩;unfold closureFor;obtain I:(forIn aP.names ([]:ah (au×ay)) λx r=>match x with |(n,D)=>if (D == kc)=aj then do let a <-w8 G n;pure (nx ((n,a) :: r))else pure (nx r))=pure cl:=H;simp only[bind_pure];exact I
theorem MI (G:bH)(x:au):(relabel aP G).names.lookup x=(aP.names.lookup x).map λk=>if (k == kc && G.scope.kind == .function && G.kindOf x == ae .cell)=aj then .cell else k:=by
 show(aP.names.map λ(n,k)=>if (k == kc && G.scope.kind == .function && G.kindOf n == ae .cell)=aj then (n,oF)else (n,k)).lookup x=_;induction aP.names with
 |nil=>rfl
 |cons p r B=>
  obtain⟨n,k⟩:=p;simp only[f9];have e:(if (k == kc && G.scope.kind == .function && G.kindOf n == ae .cell)=aj then (n,oF)else (n,k))=(n,if (k == kc && G.scope.kind == .function && G.kindOf n == ae .cell)=aj then oF else k):=by split <;>rfl
  rw[e,gv,gv];cases D:x == n with
  |true=>rw[bU.mp D];rfl
  |false=>exact B
def En.relabel {b0:bH}(a0:En X aP b0 Q N B h)(hs:b0.scope=aP):En X aP { b0 with scope:=PySem.relabel aP G } Q N B h:=by
 refine⟨?_,a0.glob,a0.blt,λx=>?_,a0.len,a0.ns,a0.fY,a0.ir,a0.cells⟩
 ·have:=a0.kind;rw[hs]at this;exact this
 ·show uR (cM aP x) ((PySem.relabel aP G).names.lookup x);rw[MI];unfold cM;cases aP.names.lookup x with
  |none=>trivial
  |some D=>
   cases D with
   |free=>
    show uR (ae .free) (ae (if (kc == kc && G.scope.kind == HP && G.kindOf x == ae oF)=aj then oF else kc));generalize (kc == kc && G.scope.kind == HP && G.kindOf x == ae oF)=c;cases c
    ·exact .inr rfl
    ·exact .inl rfl
   |_=>first |rfl |trivial
theorem MJ {s:aD}{g0:aH}{c0:bN}{i0:aw}(a0:ak->aD->Prop)(turn:∀n s,a0 n s->aA (aV prog w) A (hX it) (λr b0=>match r with
   |none=>R (.ok .next) b0
   |some v0=>aA (aV prog w) A (rn target it v0) (λg b0=>aA (aV prog w) A (lu target G v0) (λg h0=>
     aA (aV prog w) A (forIn ifs aj λc r=>if r=aj then do let ok <-tu c G (eval c G);pure (nx ok)else pure (nx r)) (λok d0=>
      if ok=aj then aA (aV prog w) A (eval elt G) (λx e0=>
       aA (aV prog w) A (call (.builtin "list.append") [i0,x]) (λg f0=>∃m,m < n/\a0 m f0) (ng (aV prog w) A G λe s'=>R (.error e) s') e0) (ng (aV prog w) A G λe s'=>R (.error e) s') d0
      else ∃m,m < n/\a0 m d0) (ng (aV prog w) A G λe s'=>R (.error e) s') h0) (ng (aV prog w) A G λe s'=>R (.error e) s') b0) (ng (aV prog w) A G λe s'=>R (.error e) s') b0) (ng (aV prog w) A G λe s'=>R (.error e) s') s)(n:ak)(h:a0 n s):j' (aV prog w) A (.compLoop (.ListComp elt [⟨target,g0,ifs,0⟩] c0 pos) 0 it i0 G) R s:=by
 refine codeAny_loop rfl a0 (λn s K=>?_) n h;show aA _ A ((compTurn (.ListComp elt [⟨target,g0,ifs,0⟩] c0 pos) 0 it i0 G).onRaise (λx=>do noteFrame x G;theTreesLotGoes x)) _ _ s;refine wpAny_noted ?_;rw[compTurn_list];refine wB (jC (wB (eB (turn n s K) (λr b0 B=>?_) λu u H=>H)));cases r with
 |none=>exact aC B
 |some v=>
  refine wB (eB B (λu b0 B=>?_) λu u H=>H);refine wB (eB B (λu h0 J=>wB (eB J (λok d0 D=>?_) λu u H=>H)) λu u H=>H);cases ok with
  |false=>exact aC ⟨rfl,D⟩
  |true=>
   exact wB (wB (eB D (λx e0 F=>wB (eB F (λu f0 E=>aC (aC ⟨rfl,E⟩)) λu u H=>H)) λu u H=>H))
def Df {l:ay}{x:aw}{a0:aw->aD->Prop}(hl:IsL s.heap l O n)(b0:O.size<=Bb)(hQ:∀H n',IsL H l (O.push x) n'->fm l s.heap H->a0 .none { s with heap:=H }):
  aA (aV prog w) A (call (.builtin "list.append") [.ref l,x]) a0 E s:=
 nk F.slot_list_append ⟨_,hl,rfl⟩ F.entry_list_append (F.args_list_append_2 _ _) (PySem.list_append l O n x b0) ⟨hl,hQ _ _ (hl.update (·.push x)) (dY ..)⟩
def MK (ct:aH->DT):∀(ifs:ah aH),(∀c∈ifs,HT X F k U c (ct c))->∀(b:aB) {A:d8} {l:ah bH} {G:bH} {Q:ah (au×ak)} {N:ah (ax AV)} {B:ah ay} {I:St} {h:aG},Ctx X k U A l G Q N B I h->
  aW X A [] (RB X) B I h (forIn ifs b λc r=>if r=aj then do let ok <-tu c G (eval c G);pure (nx ok)else pure (nx r)) ((ifs.map ct).foldlM (λb t=>if b then t ⟨F,Q,N⟩else P.pure az) b):=by
 intro Z;induction Z with
 |nil=>
  intro _ b A l G Q N B I h K;intro z W D E H;rw[me];exact aC (H _ _ _ _ (.refl _) K.inv (.refl ..) _ rfl)
 |cons c ifs R=>
  intro O b A l G Q N B I h K;intro z W D E H;rw[pW];have H:((if b=aj then ct c ⟨F,Q,N⟩else P.pure az)>>=λb=>(ifs.map ct).foldlM (λb t=>if b then t ⟨F,Q,N⟩else P.pure az) b).run I (aL X z [] B h (RB X) D E):=H;cases b with
  |false=>
   rw[aK (by simp)]at H |-;refine wB (aC ?_);exact R (λL J=>O L (.tail _ J)) az K z W D E H
  |true=>
   rw[aN rfl]at H |-;refine wB (wB ?_);refine(O c (.head _) K).then H λY T w o j x v V u S M=>?_;obtain rfl:x=v:=S;refine aC ?_;exact R (λL J=>O L (.tail _ J)) x (K.step V u) Y j D E M
def MM {f0:bH}{z':aD}{t':ak}{ex:ah ay}{d0:aw->aD->Prop}{h0:ax (aw->dn b8)}{l0:aw}{kx:aI}{e:ay}{β α:Type}{R':ah ay->aG->β->α->Prop}{Qf:α->aD->Prop}(K:Ctx X k U A l G Q N B I h)(g0:f0.frame=G.frame)(hC:h.get? f0.locals=ag)(i0:f0.locals∉J)(j0:f0.locals∉X.bad)(p:aL X z ex B h R' Qf E (.err kx) Z)(c0:Zs z z')(a0:Inv X J Z H)(b0:Go X [] B h J H)(hn:H.Ns f0.locals m)(x:eT kx e h H):ng (MX X) A f0 (λe s'=>w9 (MX X) A E h0 d0 l0 f0.locals (.error e) s') (.ref e) (sh z' H t'):=by
 obtain⟨e0,l',rfl,O⟩:=K.top;obtain⟨L,hL⟩:∃L,G.frame=ae L:=by
  obtain⟨_,L,_,q,_⟩:=K.ar.dR e0 (.head _);exact⟨L,O ▸ q⟩
 refine u9 (jF:=I) K.ar.frames (O.trans g0.symm) (g0.trans hL) a0 (K.ar.dR.step b0) K.inv b0 x λY M x1=>?_;have k0:∃m,(sh z' Y t').heap.Ns f0.locals m/\∀F,fm f0.locals (sh z' Y t').heap F->∀D:bH,D.locals=f0.locals->aA (MX X) A (PySem.passOn "comprehension.variables-let-go" (.ref e) D:dn aw) (λv v=>dm) E { sh z' Y t' with heap:=F }:=by
  refine⟨m,M.ns _ _ hn,λF W D v=>?_⟩;obtain⟨oC,f,b,eC,dC,kC,_⟩:=M.ns _ _ hn;have fC:gV oC:=⟨f,b,dC,kC⟩;have hB:X.base.get? f0.locals=ag:=K.inv.ey hC;have I2:Inv X J Z F:=M.inv.sameBut W eC fC i0 hB j0;have G2:Go X [] B h J F:=M.go.sameBut W hC;have u:∀{a:ay} {S:Obj} {V:aZ aw},Y.get? a=ae S->S.data= .fields V->F.get? a=ae S:=λ{a S V} w da=>by
   refine(W.2 a λq=>?_).trans w;rw[q,eC]at w;cases w;rw[dC]at da;cases da
  have F2:Frs X (e0 :: l') J F:=λen R=>by
   obtain⟨q1,L,o,q2,q3,q4,q5,q6⟩:=M.dR en R;refine⟨q1,L,o,q2,q3,q4,(W.2 L λq=>?_).trans q5,q6⟩;obtain⟨_,L',o',r2,_,_,r5,_⟩:=K.ar.dR en R;rw[q2]at r2;cases r2;rw[q,hC]at r5;cases r5
  obtain⟨a1,a2,a3,oe,V,b1,b2,j,b4,T,oT,ts,c1,c2,c3,c4,c5,c6,c7⟩:=id x1;have x2:mE kx e h F:=⟨a1,a2,a3,oe,V,u b1 j,b2,j,b4,T,oT,ts,c1,c2,c3,u c4 c6,c5,c6,c7⟩;unfold PySem.passOn;refine bO (e6 (u b1 j) j c1 ?_);rw[aK (by simp)];refine bO (se (z:=z') (t:=t') (jF:=I) I2 F2 K.inv G2 x2 λh3 W3 x3=>?_);exact tR (p z' J h3 t' c0 W3.inv (W3.go.nil _) e x3.exc)
 cases h0 <;>exact k0
def aW.qo {ex:ah ay}{α e0 β d0:Type}{R:ah ay->aG->β->α->Prop}{R':ah ay->aG->d0->e0->Prop}{a0:e0->aD->Prop}{t:dn α}{m:P β}{g:β->P d0}(h1:aW (X.more j) A ex R B I h t m)(b0:Zs dE z)(c0:Go X [] br h₀ B h)(hx:∀a∈ex,h₀.get? a=ag)(hr:(m>>=g).run I (aL X dE fJ br h₀ R' a0 E)){Q':α->aD->Prop}(hE:∀{kx:aI} {Z:St},aL X dE fJ br h₀ R' a0 E (.err kx) Z->∀z' J H t',Zs dE z'->Inv (X.more j) J Z H->Go X [] br h₀ J H->Go X ex B h J H->∀e,eT kx e h₀ H->E' (.ref e) (sh z' H t'))(k:∀z' J Z H t' b a,Zs dE z'->Inv (X.more j) J Z H->Go X ex B h J H->Go X [] br h₀ J H->R J H b a->(g b).run Z (aL X dE fJ br h₀ R' a0 E)->Q' a (sh z' H t')):aA (MX X) A t Q' E' (sh z h W):=by
 refine h1 z W Q' E' (m.mono (λr Z y=>?_) (show m.run I _ from hr));intro z' J H t' F D S;obtain G:Go X ex B h J H:=Go.less S;obtain S':=c0.CU G λa L=>.inl (hx a L);cases r with
 |ok b=>exact λa K=>k z' J Z H t' b a (b0.trans F) D G S' K y
 |err k=>exact λe x=>hE y z' J H t' (b0.trans F) D S' G e (x.oW c0.step.there)
set_option maxRecDepth 100000 in
def Dg:Slot "set_iterator" "__iter__" "set_iterator.__iter__":=
 .of (owner:="set_iterator") (n:="__iter__") (by rw[rg,rh];kernel_rfl) (by decide +kernel) (by decide +kernel) (by decide +kernel)
  (by first |exact .inl (by decide +kernel) |exact .inr (by decide +kernel)) (by rw[rj];kernel_rfl)
set_option maxRecDepth 100000 in
def MN (a:aw):pT "set_iterator.__iter__" ⟨[a],[]⟩:=by
 unfold argsOk;rw[signature?_of (id:="set_iterator.__iter__") (n:=['_','_','r','e','t','i','_','_']) (o:=['r','o','t','a','r','e','t','i','_','t','e','s']) (by kernel_rfl) CJ];kernel_rfl
set_option maxRecDepth 100000 in
def MO:AH table "set_iterator.__iter__"=ae j2.«dict_keyiterator.__iter__»:=
 Hg (id':="dict_keyiterator.__iter__") (by kernel_rfl) (by first |rfl |decide +kernel |(unfold String.splitOn;simp +decide [String.splitOnAux])) (by decide +kernel) (by kernel_rfl)
set_option tactic.hygienic true in theorem dT.self {b0 : aw → aD → Prop} (r : dT X B h own ai it) (a0 : Inv X B I h) (MP : ∀ i, ai = .obj i → ∃ s k, I[i]? = ae (.iter s k)) (hQ : b0 it (sh z h W)) : aA (MX X) A (f6 it) b0 E (sh z h W) := by
 cases r with
 |simple r=>
  cases r with
  |list e hi n b=>exact wpAny_pyIter_listiter (s:=sh z h W) hi hQ
  |range hi n b=>exact HN (s:=sh z h W) hi hQ
  |obj e=>
   rename_i i a;obtain⟨s,k,e1⟩:=MP i rfl;obtain⟨o,eo,bo⟩:=a0.obj i _ a e1 e;have hc:o.cls= .type "list_iterator":=by cases s with
    |none=>exact bo.1
    |some s=>exact bo.1
   obtain hT:(sh z h W).TypeIs (.ref a) "list_iterator":=⟨_,eo,hc⟩;refine oA hT j6 (gw j6 hT ru ?_ (rz _));exact aC ⟨_,rfl,"list_iterator",_,hT,j3.lookup,hQ⟩
 |enum he n b ne r=>exact HM (s:=sh z h W) he hQ
 |zip hz hI hO n b j xH d r1 r2=>exact HO (s:=sh z h W) hz hQ
 |set n b na xI ho hd hf kG mG good hi hc=>
  obtain hT:(sh z h W).TypeIs (.ref _) "set_iterator":=⟨_,hi,rfl⟩;refine oA hT Dg (gw Dg hT MO ?_ (MN _));exact aC ⟨_,rfl,"set_iterator",_,hT,vh.lookup,hQ⟩
def Dh {l:ah bH}{t d0:aH}{E0:fj}{ce:DE}{ct:aH->DT}{p0:ax (aw->dn b8)}{a0:aw->aD->Prop}{ex:ah ay}{cs:ah (au×ak)}{K0 O0:Type}{R':ah ay->aG->K0->O0->Prop}{Qf:O0->aD->Prop}{g:AV->P K0}(K:Ctx X k U A l G Q N B I h)(hi:HI X F k U d0 ci)(ht:∀j,HA (X.more j) F k aP t ca)(he:∀j,HE (X.more j) F k aP elt ce)(A0:∀j,∀c∈ifs,HT (X.more j) F k aP c (ct c))(hm:iL d0=aj)(w0:fb aP=aj)(g1:fL ⟨F,Q,N⟩ aP.names []=ae cs)(hr:(ci ⟨F,Q,N⟩>>=λai=>P.guard (fK t ai=aj)>>=λ_=>cP F aP cs []>>=λr2=>cw ce (ifs.map ct) ca n ai r2 []>>=λl=>cz l>>=g).run I (aL X z ex B h R' Qf E))(l1:∀z' J Z H t' i D C m,Zs z z'->Inv X J Z H->Go X [] B h J H->J[i]? =ae D->H.Ns C m->h.get? C=ag->C∉J->C∉X.bad->(g (.ref i)).run Z (aL X z ex B h R' Qf E)->w9 (MX X) A E p0 a0 (.ref D) C (.ok .next) (sh z' H t')):
  aA (MX X) A (comprehension (.ListComp elt [⟨t,d0,ifs,0⟩] aP pos) aP G E0 (wD []) az (eval d0 G) p0) a0 E (sh z h W):=by
 revert X h B I A F U aP k W n E z pos G Q N elt ci ca ifs l t d0 E0 ce ct p0 a0 ex cs K0 O0 R' Qf g K hi ht he A0 hm w0 g1 hr l1;intros _ X h B I A F U aP k W n E z pos G Q N elt ci ca ifs l t;intros _ d0 E0 ce ct p0 a0 ex cs;intros _ K0 O0;intros _ R' Qf g _ K hi ht he A0 hm w0 g1 hr l1;obtain⟨C1,_,_,L0⟩:=CW w0;obtain (⟨cl,R1,m1⟩):=De K.en g1;refine wpAny_comprehension_free (gs:=[]) (g:=⟨t,d0,ifs,0⟩) rfl (λx=>CN hm G x) m1 C1 L0 ?_;refine hi K z W _ E ((ci ⟨F,Q,N⟩).mono ?_ (show(ci ⟨F,Q,N⟩).run I _ from hr));intros _ e1 E1 _ y;cases e1 with
 |err kx=>exact λz' J H t' S M R e x=>y z' J H t' S M (R.nil _) e x
 |ok ai=>
  intros ai _ y;intros ai _ y;intros _ z1 r0 h1 t1 j v0 it _ Z1 I1 G1 r1 ho d2;obtain⟨W1,y⟩:=a6 (show(P.guard (fK t ai=aj)>>=λ_=>cP F aP cs []>>=λr2=>cw ce (ifs.map ct) ca n ai r2 []>>=λl=>cz l>>=g).run E1 (aL X z ex B h R' Qf E) from y);refine oj ?_ (by show 0<=2 ^ 24;decide);generalize b1:({ cls:=.type "list",data:=.seq ([]:ah aw).toArray }:Obj)=Lo;have f:h1.get? h1.objs.size=ag:=eU h1;have Z0:(h1.push Lo).get? h1.objs.size=ae Lo:=cV _ (by rw[<-b1];rfl);have p1:∀b o,h1.get? b=ae o->(h1.push Lo).get? b=ae o:=λb o e=>be _ e;generalize b2:h1.objs.size=D at *;generalize c2:h1.push Lo=h2 at *;have G2:Go X [] B h r0 h2:=G1.trans (Go.keeps X r0 p1 []);have X1:∀b∈[D],h1.get? b=ag:=λb hb=>by rw[aJ.mp hb];exact f
  have I2:Inv ((X.more j).more [D]) r0 E1 h2:=I1.more p1 λb hb=>by rw[aJ.mp hb];exact⟨f,_,Z0⟩
  have r2:dT ((X.more j).more [D]) r0 h2 v0 ai it:=(r1.more X1).dr (Dr.keeps [] r0 p1) (λ_ hc=>nomatch hc) (λ_ _ hc=>nomatch hc);have R0:h.get? D=ag:=G1.fresh f;have I0:D∉r0:=(I1.fresh f).1;have eX:(X.more j).more [D]=X.more ([D]++j):=rfl;rw[eX]at I2 r2;generalize K1:[D]++j=bb at *;have S0:D∈bb:=by rw[<-K1];exact .head _
  have i0:D∉v0:=λhm=>by
   obtain⟨_,_,q⟩:=r1.gj D hm;rcases q with q |⟨o,V,q,_⟩
   ·obtain⟨o,e⟩:=I1.gf D q;rw[f]at e;cases e
   ·rw[f]at q;cases q
  refine(vl (F:=F) (X:=X.more bb) (g0:=[]) (vb:=[]) (c0:=ae G) C1 K.en.glob K.en.blt I2 .nil (R1.step G2.step)).qo Z1 G2 (λ_ hm=>nomatch hm) y (λp z' J H t' S M R _ e x=>p z' J H t' S M.less (R.nil _) e x) ?_;intros _ z3 Q0 Y0 h3 t3 rt T _ Z3 I3 G3 T1 re s0;obtain⟨hF,N3,f1,U1,w1⟩:=re;obtain⟨F',Y,m0⟩:=rt;intros F' Y m0 _ s0 hF N3
  replace hF:F'=F:=hF
  subst F';intros Y m0 _ s0 N3;have N0:T.scope=aP:=by rw[w1];rfl
  have n0:T.frame=G.frame:=by rw[w1];rfl
  have N4:En (X.more bb) aP { T with scope:=PySem.relabel aP G } Y m0 Q0 h3:=N3.relabel N0;have M0:h.get? T.locals=ag:=G2.fresh f1;have u1:T.locals∉X.bad:=λhm=>by obtain⟨o,e⟩:=K.inv.gf _ hm;rw[M0]at e;cases e
  have k0:T.locals∉v0:=λhm=>by
   obtain⟨_,_,q⟩:=r2.gj _ hm;rcases q with q |⟨o,V,q,_⟩
   ·obtain⟨o,e⟩:=I2.gf _ q;rw[f1]at e;cases e
   ·rw[f1]at q;cases q
  have hx:∀c∈v0,c∉[T.locals]:=λc hc hm=>k0 (aJ.mp hm ▸ hc);have r3:dT (X.more bb) Q0 h3 v0 ai it:=r2.step I2 (Go.more G3) (λ_ _ hm=>nomatch hm);have H1:h3.get? D=ae Lo:=G3.seq Z0 (by rw[<-b1]) I0 (I1.fresh f).2.1;have o1:D∉Q0:=G3.step.dt Z0 I0;have T0:j' (MX X) A (.compLoop (.ListComp elt [⟨t,d0,ifs,0⟩] aP pos) 0 it (.ref D) { T with scope:=PySem.relabel aP G }) (w9 (MX X) A E p0 a0 (.ref D) T.locals) (sh z3 h3 t3):=by
   refine MJ (λn s=>∃z' J Z H t' b0 g0 u O n',s=sh z' H t'/\Zs z z'/\Inv (X.more bb) J Z H/\Go X [] B h J H/\En (X.more bb) aP { T with scope:=PySem.relabel aP G } Y b0 J H/\dT (X.more bb) J H v0 g0 it/\fK t g0=aj/\D∉J/\
    H.get? D=ae { cls:=.type "list",data:=.seq (l8 O) n' }/\aT (X.more bb) J H u O/\u.length<=4097/\(cw ce (ifs.map ct) ca n g0 ⟨F,Y,b0⟩ u>>=λl=>cz l>>=g).run Z (aL X z ex B h R' Qf E)) ?_ n
    ⟨z3,Q0,Y0,h3,t3,m0,ai,[],[],0,rfl,Z3,I3,T1,N4,r3,W1,o1,by rw[H1,<-b1],.nil,by simp,s0⟩
   intros _ n s _ hh;obtain (⟨z',J,Z,H,t',b0,g0,u,O,n',rfl,Z',I',G',N',r',y1,f0,gD,U0,D1,o0⟩):=hh;have err:∀{kx:aI} {w:St},aL X z ex B h R' Qf E (.err kx) w->∀{z5:aD} {c0:ah ay} {h5:aG} {t5:ak},Zs z z5->Inv (X.more bb) c0 w h5->Go X [] B h c0 h5->(∃o,h5.get? T.locals=ae o/\gV o)/\T.locals∉c0->∀e,eT kx e h h5->
     ng (MX X) A { T with scope:=PySem.relabel aP G } (λe s'=>w9 (MX X) A E p0 a0 (.ref D) T.locals (.error e) s') (.ref e) (sh z5 h5 t5):=by
    intros _ kx w _ p _ z5 c0 h5 t5 _ Z5 I5 G5 N5 _ e _ x;obtain⟨⟨o,eo,es,ep,d,ks⟩,a2⟩:=N5;exact MM (f0:={ T with scope:=PySem.relabel aP G }) (m:=λx=>jw es x) K n0 M0 a2 u1 p Z5 I5.less G5 ⟨o,es,ep,eo,d,ks,λ_=>rfl⟩ x
   have d1:∀{W0:ah (ax AV)} {c0 j0:ah ay} {h5 h6:aG} {s1:ah ay},En (X.more bb) aP { T with scope:=PySem.relabel aP G } Y W0 c0 h5->Go X s1 c0 h5 j0 h6->(∃o,h6.get? T.locals=ae o/\gV o)/\T.locals∉j0:=by
    intro W0 c0 j0 h5 h6 s1 L R;obtain (⟨m,⟨o,es,ep,e,d,ks,_⟩,_⟩):=L.ns;exact⟨R.fr _ o e L.fY ⟨es,ep,d,ks⟩ L.ir,R.step.dt e L.fY⟩
   cases n with
   |zero=>exact o0.elim
   |succ n=>
    intros n _ o0;intros n _ o0;have o0:(bx g0>>=λo=>(match o with
      |Option.none=>P.pure u
      |some (v,jH)=>ca v ⟨F,Y,b0⟩>>=λN=>(ifs.map ct).foldlM (λb t=>if b then t ⟨F,Y,N⟩else P.pure az) aj>>=λok=>if ok then (P.guard (u.length<=4096)>>=λ_=>ce ⟨F,Y,N⟩>>=λx=>cw ce (ifs.map ct) ca n jH ⟨F,Y,N⟩ (u++[x]))else cw ce (ifs.map ct) ca n jH ⟨F,Y,N⟩ u)>>=λl=>cz l>>=g).run Z (aL X z ex B h R' Qf E):=by
     rw[<-P.gY];exact o0
    refine CM (X:=X.more bb) (target:=t) (I:=Z) (z:=z') (W:=t') r' I' K.ar.handled y1 ((bx g0).mono ?_ (yk g0 (show(bx g0).run Z _ from o0)));intros _ e1 w _ y5;cases e1 with
    |err kx=>exact y5
    |ok o=>cases o with
     |none=>
      intros _ h5 t5 _ I5 D5;have y5:(cz u>>=g).run w (aL X z ex B h R' Qf E):=y5;have G5:Go X [] B h J h5:=G'.dr D5 ho;have H0:h5.get? D=ae { cls:=.type "list",data:=.seq (l8 O) n' }:=D5.keep _ _ gD i0 f0;have l0:=aT.jk (λr=>r.dr D5 r'.gj) U0;have N5:=N'.dr D5 r'.gj k0;obtain⟨hl,y6⟩:=a6 (show(P.guard (u.length<=4096)>>=λ_=>(P.alloc (.list u)>>=λi=>P.pure (.ref i))>>=g).run w (aL X z ex B h R' Qf E) from by
       rw[<-P.gY];exact y5)
      have y6:(g (.ref w.length)).run (w++[.list u]) (aL X z ex B h R' Qf E):=y6;have hB:X.base.get? D=ag:=K.inv.ey R0;have I6:Inv X (J++[D]) (w++[.list u]) h5:=I5.adopt S0 H0 ⟨O,n',rfl,l0,by exact FI 0 4096 0 10000 hl rfl⟩ f0 hB;have G6:Go X [] B h (J++[D]) h5:=G5.adopt R0;obtain (⟨m,x1,_⟩):=N5.ns;have j1:T.locals≠D:=λq=>by
       obtain (⟨o,es,ep,e,d,_⟩):=x1;have e':h5.get? T.locals=ae o:=e;rw[q,H0]at e';cases e';cases d
      refine l1 z' (J++[D]) (w++[.list u]) h5 t5 w.length D T.locals m Z' I6 G6 (by rw[<-I5.len];simp) x1 M0 (λhm=>?_) u1 y6;rcases dX.mp hm with hm |hm
      ·exact N5.fY hm
      ·exact j1 (aJ.mp hm)
     |some q=>
      intros q _ y5;obtain⟨xv,u0⟩:=q;intros xv u0 _ y5;intros xv u0 _ y5;intros _ h5 t5 v _ I5 D5 r5 V0 rv;have y5:((ca xv ⟨F,Y,b0⟩>>=λN=>(ifs.map ct).foldlM (λb t=>if b then t ⟨F,Y,N⟩else P.pure az) aj>>=λok=>if ok then (P.guard (u.length<=4096)>>=λ_=>ce ⟨F,Y,N⟩>>=λx=>cw ce (ifs.map ct) ca n u0 ⟨F,Y,N⟩ (u++[x]))else cw ce (ifs.map ct) ca n u0 ⟨F,Y,N⟩ u)>>=λl=>cz l>>=g).run w (aL X z ex B h R' Qf E):=y5;rw[P.gY]at y5;have G5:Go X [] B h J h5:=G'.dr D5 ho;have H0:h5.get? D=ae { cls:=.type "list",data:=.seq (l8 O) n' }:=D5.keep _ _ gD i0 f0;have l0:=aT.jk (λr=>r.dr D5 r'.gj) U0;have N5:=N'.dr D5 r'.gj k0;have K5:Ctx (X.more bb) k aP A l { T with scope:=PySem.relabel aP G } Y b0 J w h5:=⟨K.ok.more,(K.ar.step G5).more,by obtain (⟨e0,l',q1,q2⟩):=K.top;exact⟨e0,l',q1,q2.trans n0.symm⟩,I5,N5,λq=>(yq w0 q).elim⟩;have Y1:∀a∈[T.locals],h.get? a=ag:=λa hm=>by rw[aJ.mp hm];exact M0
      refine(ht bb K5 rv).qo Z' G5 Y1 y5 (λp z6 j0 h6 t6 Z6 I6 G6 Gx e x=>err p Z6 I6 G6 (d1 N5 Gx) e x) ?_;intros _ z6 j0 O1 h6 t6 x0 u6 _ Z6 I6 P0 G6 N6 y6;have K6:Ctx (X.more bb) k aP A l { T with scope:=PySem.relabel aP G } Y x0 j0 O1 h6:=⟨K.ok.more,(K.ar.step G6).more,K5.top,I6,N6,λq=>(yq w0 q).elim⟩;have r6:=r5.step I5 (Go.more P0) hx;have B1:=P0.seq H0 rfl f0 (I1.fresh f).2.1;have z0:D∉j0:=P0.step.dt H0 f0;have n1:=l0.step (Go.more P0).step;rw[P.gY]at y6;refine(MK ct ifs (A0 bb) aj K6).qo Z6 G6 (λ_ hm=>nomatch hm) y6 (λp z7 c1 h7 t7 Z7 I7 G7 Gx e x=>err p Z7 I7 G7 (d1 N6 Gx) e x) ?_;intros _ z7 c1 J1 h7 t7 ok N1 _ Z7 I7 J0 G7 M1 y7;obtain rfl:ok=N1:=M1;have K7:=K6.step I7 (Go.more J0);have r7:=r6.step I6 (Go.more J0) (λ_ _ hm=>nomatch hm);have a1:=J0.seq B1 rfl z0 (I1.fresh f).2.1;have h0:D∉c1:=J0.step.dt B1 z0;have B0:=n1.step (Go.more J0).step;cases ok with
      |false=>exact⟨n,jD n,z7,c1,J1,h7,t7,x0,u0,u,O,n',rfl,Z7,I7,G7,K7.en,r7,V0,h0,a1,B0,D1,y7⟩
      |true=>
       rw[aN rfl];rw[aN rfl,P.gY]at y7;obtain⟨A1,y7⟩:=a6 y7;rw[P.gY]at y7;refine(he bb K7).qo Z7 G7 (λ_ hm=>nomatch hm) y7 (λp z8 F0 h8 t8 Z8 I8 G8 Gx e x=>err p Z8 I8 G8 (d1 K7.en Gx) e x) ?_;intros _ z8 F0 F1 h8 t8 xe ve _ Z8 I8 C0 G8 re y8;have K8:=K7.step I8 (Go.more C0);have r8:=r7.step I7 (Go.more C0) (λ_ _ hm=>nomatch hm);have v1:=C0.seq a1 rfl h0 (I1.fresh f).2.1;have G0:D∉F0:=C0.step.dt a1 h0;have y0:=B0.step (Go.more C0).step;refine Df (s:=sh z8 h8 t8) v1 (by rw[cG,y0.length,fG];exact FI 0 4096 0 16777216 A1 rfl) ?_;intros _ h9 n9 _ i1 P1;rw[List.push_toArray]at i1;have OD:eG (X.more bb) F0 h8 [D]:=λc hc=>by
        rw[aJ.mp hc];exact⟨G0,K.inv.ey R0,.inl (gM _ S0)⟩
       have D9:Dr [D] [] h8 h9:=Dr.same (.head _) P1 i1;have j1:T.locals∉[D]:=λhm=>by
        obtain (⟨m,⟨o,es,ep,e,d,_⟩,_⟩):=K8.en.ns;have e':h8.get? T.locals=ae o:=e;rw[aJ.mp hm,v1]at e';cases e';cases d
       have S1:Go X [] B h F0 h9:=G8.dr D9.widen (λc hc=>by rw[aJ.mp hc];exact R0);exact⟨n,jD n,z8,F0,F1,h9,t8,x0,u0,u++[xe],O++[ve],n9,rfl,Z8,I8.dr OD D9,S1,K8.en.dr D9.widen OD j1,r8.dr D9.widen OD (λc hc hm=>i0 (aJ.mp hm ▸ hc)),V0,G0,i1,
        (y0.append (.cons re .nil)).jk (λr=>r.dr D9.widen OD),by simp;exact A1,y8⟩
  refine codeAny_compStart_list T0 ?_;refine dT.self (X:=X.more bb) (I:=Y0) r3 I3 ?_ T0;intros _ i _ hi;subst hi;cases n with
  |zero=>exact s0.elim
  |succ n=>
   intros n _ hr y s0;have L1:(bx (.obj i)).run Y0 _:=s0;obtain⟨o,e,Q1⟩:=eV L1;cases o with
   |iter s kk=>exact⟨s,kk,e⟩
   |_=>exact Q1.elim
def Di {t a0:aH}{ce:DE}{ct:aH->DT}(hi:HI X F k U a0 ci)(ht:∀j,HA (X.more j) F k aP t ca)(he:∀j,HE (X.more j) F k aP elt ce)(c0:∀j,∀c∈ifs,HT (X.more j) F k aP c (ct c)):
  HE X F k U (.ListComp elt [⟨t,a0,ifs,0⟩] aP pos) (λrt=>do
   P.guard (iL a0=aj)
   P.guard (fb aP=aj)
   let cs <-P.opt (fL rt aP.names [])
   let b0 <-ci rt
   P.guard (fK t b0=aj)
   let r2 <-cP rt.F aP cs []
   let l0 <-cw ce (ifs.map ct) ca n b0 r2 []
   cz l0):=by
 intro A l G Q N B I h K z W L E M;obtain⟨hm,M⟩:=a6 M;obtain⟨T,M⟩:=a6 M;obtain⟨cs,V,M⟩:=c9 M;rw[eval_ListComp];have qk:(ci ⟨F,Q,N⟩>>=λb=>P.guard (fK t b=aj)>>=λv=>cP F aP cs []>>=λr2=>cw ce (ifs.map ct) ca n b r2 []>>=λl=>cz l>>=P.pure).run I (aL X z [] B h (RV X) L E):=by
  obtain e:∀l,(cz l>>=P.pure)=cz l:=λl=>by
   show(⟨_,_⟩:P AV)=_
   congr 1
   try (funext I p;show(cz l).run I _=(cz l).run I p;congr 1;funext r Z;cases r <;>rfl)
  simp only[e];exact M
 refine Dh (p0:=ag) (g:=P.pure) K hi ht he c0 hm T V qk λf J Z H t' i D C m Z' I' G' hD S O R Y u=>?_;refine⟨m,S,λh2 w=>?_⟩;obtain⟨o,es,ep,e,d,ks,_⟩:=S;exact u f J h2 t' Z' (I'.sameBut w e ⟨es,ep,d,ks⟩ R (K.inv.ey O) Y) (G'.sameBut w O) _ (.ref hD)
def MQ {N:ah (ax AV)}{t:aH}{a:DA}(hd:HE X F k U e d)(ha:HA X F k U t a)(K:Ctx X k U A l G Q N B I h)(a0:ou e (ae t) pos.line G=pure az)(hq:kq e=az)(hp:dg t=aj):
  aW X A [G.locals] (RS X U G Q) B I h (exec (.Assign [t] e pos) G) (d ⟨F,Q,N⟩>>=λv=>a v ⟨F,Q,N⟩>>=λN=>P.pure (.next,N)):=by
 intro z W D E R;rw[wK];refine wB (jC ?_);show aA _ _ (ou e (ae t) pos.line G>>=_) _ _ _;rw[a0];refine bO (aC ?_);rw[aK (by simp)];refine wB ?_;refine(hd K).value R λo j Z w m x v O S Y J=>?_;rw[vf hq];refine wB (aC ?_);rw[qi t [] G hp];show aA _ _ (lu t G v>>=λy=>pure Flow.next) _ _ _;refine wB ?_;refine(ha (K.step O S) Y).then J λf T V h2 b L y u G2 M H=>?_;exact aC (H _ _ _ _ (.refl _) u (.refl ..) _ ⟨.next,M⟩)
def MS {c0:ah Comprehension}{a0:fj}(t:aH)(b0:ak)(G:bH):∃b,ou (.ListComp elt c0 aP a0) (ae t) b0 G=pure b/\(b=aj->∃y py,t= .Name y py):=by
 cases t with
 |Name y py=>exact⟨_,rfl,λu=>⟨y,py,rfl⟩⟩
 |_=>exact⟨az,rfl,λq=>by cases q⟩
theorem MT {t a0 c0:aH}{b0:fj}{ce:DE}{ct:aH->DT}{a:DA}(hi:HI X F k U a0 ci)(ht:∀j,HA (X.more j) F k aP t ca)(he:∀j,HE (X.more j) F k aP elt ce)(d0:∀j,∀c∈ifs,HT (X.more j) F k aP c (ct c))(ha:HA X F k U c0 a):
  HS X F k U (.Assign [c0] (.ListComp elt [⟨t,a0,ifs,0⟩] aP b0) pos) (λrt=>do
   P.guard (kq (.ListComp elt [⟨t,a0,ifs,0⟩] aP b0)=az/\dg c0=aj)
   let v0 <-(do
    P.guard (iL a0=aj)
    P.guard (fb aP=aj)
    let cs <-P.opt (fL rt aP.names [])
    let e0 <-ci rt
    P.guard (fK t e0=aj)
    let r2 <-cP rt.F aP cs []
    let l0 <-cw ce (ifs.map ct) ca n e0 r2 []
    cz l0)
   let f0 <-a v0 rt
   P.pure (.next,f0)):=by
 intros _ A l G Q N B I h _ K _ z W L E _ M;obtain⟨⟨hq,hp⟩,M⟩:=a6 M;obtain⟨b,hb,u0⟩:=MS (elt:=elt) (c0:=[⟨t,a0,ifs,0⟩]) (aP:=aP) (a0:=b0) c0 pos.line G;cases b with
 |false=>
  exact MQ (d:=λrt=>do
    P.guard (iL a0=aj)
    P.guard (fb aP=aj)
    let cs <-P.opt (fL rt aP.names [])
    let O <-ci rt
    P.guard (fK t O=aj)
    let r2 <-cP rt.F aP cs []
    let l <-cw ce (ifs.map ct) ca n O r2 []
    cz l) (Di hi ht he d0) ha K hb hq hp z W L E M
 |true=>
  obtain (⟨y,py,rfl⟩):=u0 rfl;rw[exec_Assign_Name_used _ _ _ _ hb];refine wB (jC (wB ?_));have M:((P.guard (iL a0=aj)>>=λp=>P.guard (fb aP=aj)>>=λp=>P.opt (fL ⟨F,Q,N⟩ aP.names [])>>=λcs=>ci ⟨F,Q,N⟩>>=λO=>P.guard (fK t O=aj)>>=λp=>cP F aP cs []>>=λr2=>cw ce (ifs.map ct) ca n O r2 []>>=λl=>cz l)>>=λv=>a v ⟨F,Q,N⟩>>=λN=>P.pure (FL.next,N)).run I (aL X z [G.locals] B h (RS X U G Q) L E):=M;rw[P.gY]at M;obtain⟨hm,M⟩:=a6 M;rw[P.gY]at M;obtain⟨g0,M⟩:=a6 M;rw[P.gY]at M;obtain (⟨cs,m0,M⟩):=c9 M;have qk:(ci ⟨F,Q,N⟩>>=λO=>P.guard (fK t O=aj)>>=λp=>cP F aP cs []>>=λr2=>cw ce (ifs.map ct) ca n O r2 []>>=λl=>cz l>>=λv=>a v ⟨F,Q,N⟩>>=λN=>P.pure (FL.next,N)).run I (aL X z [G.locals] B h (RS X U G Q) L E):=by
   rw[P.gY]at M;refine(ci ⟨F,Q,N⟩).mono (λr Z y=>?_) (show(ci ⟨F,Q,N⟩).run I _ from M);cases r with
   |err kx=>exact y
   |ok O=>
    have y:((P.guard (fK t O=aj)>>=λp=>cP F aP cs []>>=λr2=>cw ce (ifs.map ct) ca n O r2 []>>=λl=>cz l)>>=λv=>a v ⟨F,Q,N⟩>>=λN=>P.pure (FL.next,N)).run Z (aL X z [G.locals] B h (RS X U G Q) L E):=y;rw[P.gY]at y;refine(P.guard (fK t O=aj)).mono (λr Z y=>?_) (show(P.guard (fK t O=aj)).run Z _ from y);cases r with
    |err kx=>exact y
    |ok _=>
     have y:((cP F aP cs []>>=λr2=>cw ce (ifs.map ct) ca n O r2 []>>=λl=>cz l)>>=λv=>a v ⟨F,Q,N⟩>>=λN=>P.pure (FL.next,N)).run Z (aL X z [G.locals] B h (RS X U G Q) L E):=y;rw[P.gY]at y;refine(cP F aP cs []).mono (λr Z y=>?_) (show(cP F aP cs []).run Z _ from y);cases r with
     |err kx=>exact y
     |ok r2=>
      have y:((cw ce (ifs.map ct) ca n O r2 []>>=λl=>cz l)>>=λv=>a v ⟨F,Q,N⟩>>=λN=>P.pure (FL.next,N)).run Z (aL X z [G.locals] B h (RS X U G Q) L E):=y;rw[P.gY]at y;exact y
  show aA _ A (do let _ <-comprehension (.ListComp elt [⟨t,a0,ifs,0⟩] aP b0) aP G _ (wD []) az (eval a0 G) (ae (lu (.Name y py) G))) _ _ _;refine wB (eB (Dh (p0:=ae (lu (.Name y py) G)) (a0:=λp s'=>L .next s') (g:=λv=>a v ⟨F,Q,N⟩>>=λN=>P.pure (FL.next,N)) K hi ht he d0 hm g0 m0 qk ?_) (λp s' q=>aC (aC q)) λp p q=>q);intros _ z' J Z H t' i D C m _ Z' I' G' hD o0 R T j0 r0;show aA (MX X) A (lu (.Name y py) G (.ref D)) _ E (sh z' H t');obtain K':=K.step I' G';refine(ha K' (.ref hD)).inner Z' (G'.nil [G.locals]) (λa hm=>.inr hm) r0 (λy=>y.same) ?_;intros _ z3 u x0 h3 t3 w0 y0 _ Z3 I3 G3 n0 S k0;obtain (⟨o,f,ep,e,d,ks,p0⟩):=o0;have Y:C∉[G.locals]:=λV=>by
   obtain (⟨m2,⟨o2,_,_,e2,_⟩,_⟩):=K.en.ns;rw[<-aJ.mp V,R]at e2;cases e2
  obtain (⟨o',e',ko⟩):=G3.step.keep C o e T (K.inv.gX (K.inv.ey R)) (λV=>absurd V Y);have d':o'.data= .dict f ep:=ko.data.trans d;refine⟨m,⟨o',f,ep,e',d',ks,p0⟩,?_⟩;intros _ h4 _ w;obtain s0:C∉u:=G3.step.dt e T;obtain I4:=I3.sameBut w e' ⟨f,ep,d',ks⟩ s0 (K.inv.ey R) j0;obtain G4:=n0.sameBut w R;refine k0 z3 u h4 t3 Z3 I4 G4 .next ⟨.next,?_⟩;refine⟨S.kind,S.glob,S.blt,S.kinds,S.len,?_,S.fY,S.ir,S.cells⟩;obtain (⟨m3,⟨o3,i0,h0,e3,r3⟩,q3⟩):=S.ns;exact⟨m3,⟨o3,i0,h0,(w.2 _ λq=>Y (by rw[q];exact .head _)).trans e3,r3⟩,λx i v e1 e2 e4=>by obtain⟨v',a1,a2⟩:=q3 x i v e1 e2 e4;exact⟨v',a1,a2.sameBut w e' ⟨f,ep,d',ks⟩⟩⟩
theorem yy {x:au}{v:AV}{b0:aw->aD->Prop}(C:cn X)(c0:Inv X B I h)(a0:En X U G Q N B h)(hk:cM U x=ae .globalImplicit)(hg:p9 x=ae v)(hn:(x == aq "__debug__" || x == aq "__classdict__")=az)(hQ:∀v',SV X v v'->b0 v' (sh z h W)):
  aA (MX X) A (eval (.Name x p) G) b0 E (sh z h W):=by
 rw[HQ]at hn;have oY:=a0.kinds x;rw[hk]at oY;refine wpAny_Name ?_ hn.1;obtain⟨H,J,D,F,r⟩:=C.gl;have q:aA (MX X) A (loadGlobal G x) b0 E (sh z h W):=by
  rcases r x v hg with ⟨v',e,sv⟩ |⟨e0,v',e,sv⟩
  ·exact PySem.Calls.loadGlobal_global (by rw[a0.glob];exact c0.ns D (by decide)) e (hQ _ sv)
  ·exact PySem.Calls.loadGlobal_builtin (by rw[a0.glob];exact c0.ns D (by decide)) e0 (by rw[a0.blt];exact c0.ns F (by decide)) e (hQ _ sv)
 rw[loadName_read a0.kind oY];exact q
theorem MU {x:au}{v:AV}{rt:RT}{p:Res (ah (ax AV))->St->Prop}(hr:(nameA U x v rt).run I p):(nameA U x v rt).run I (λr Z=>match r with |.ok b0=>p (.ok b0) Z |.err _=>dm):=by
 unfold nameA at hr |-;cases B:cM U x with
 |none=>rw[B]at hr;exact hr.elim
 |some F=>
  rw[B]at hr;cases F with
  | «local»=>
   dsimp only at hr |-;cases D:lI U x with
   |none=>rw[D]at hr;exact hr.elim
   |some i=>rw[D]at hr;exact hr
  |cell=>
   dsimp only at hr |-;unfold kn at hr |-;obtain⟨c,G,hr⟩:=c9 hr;obtain⟨o,E,hr⟩:=eV hr;rw[G];show(P.load c>>=_).run I _;rw[P.run_bind,P.run_load E];cases o with
   |cell w=>exact hr
   |_=>exact hr.elim
  |_=>exact hr.elim
def Dj {c0:b8->aD->Prop}(b0:Inv X B I h)(a0:En X U G Q N B h)(hx:aF X B h x v)(n:au){β:Type}{g:ah (ax AV)->P β}{p:Res β->St->Prop}(hr:(nameA U n x ⟨F,Q,N⟩>>=g).run I p)(hQ:∀z' J Z H t' d0,Zs z z'->Inv X J Z H->Go X [G.locals] B h J H->En X U G Q d0 J H->(g d0).run Z p->c0 () (sh z' H t')):aA (MX X) A (qY G n v) c0 E (sh z h W):=by
 refine xX (F:=F) b0 a0 hx n z W c0 E ((nameA U n x ⟨F,Q,N⟩).mono (λr Z y=>?_) (MU (show(nameA U n x ⟨F,Q,N⟩).run I _ from hr)));cases r with
 |ok d0=>exact λz' J H t' D K M u L=>hQ z' J Z H t' d0 D K M L y
 |err _=>exact y.elim
def Dk:lC (.type "AttributeError") (.type "AttributeError")=pure aj:=oJ (by decide +kernel)
def Dl:lC (.type "AttributeError") (.type "BaseException")=pure aj:=oJ (by decide +kernel)
def MV:lC (.type "TypeError") (.type "BaseException")=pure aj:=oJ (by decide +kernel)
def MW:lC (.type "TypeError") (.type "TypeError")=pure aj:=oJ (by decide +kernel)
def MY:lC (.type "TypeError") (.type "AttributeError")=pure az:=oJ (by decide +kernel)
def MZ:lC (.type "AttributeError") (.type "TypeError")=pure az:=oJ (by decide +kernel)
def Dm:lC (.type ((HU "AttributeError").elim "type" λx=>x.metatype)) (.type "tuple")=pure az:=oJ (by decide +kernel)
def M4:lC (.type ((HU "TypeError").elim "type" λx=>x.metatype)) (.type "tuple")=pure az:=oJ (by decide +kernel)
def Dn {n:au}(h:uJ e=ae n):∃p,e= .Name n p:=by
 cases e with
 |Name m p=>exact⟨p,bZ (Expr.Name · p) (dp h)⟩
 |_=>exact gh h
def M6 {c:n6}(h:constOf e=ae c):∃k p,e= .Constant c k p:=by
 cases e with
 |Constant d k p=>exact⟨k,p,bZ (Expr.Constant · k p) (dp h)⟩
 |_=>exact gh h
def M7 {es:ah aH}(h:uK e=ae es):∃k p,e= .Tuple es k p:=by
 cases e with
 |Tuple d k p=>exact⟨k,p,bZ (Expr.Tuple · k p) (dp h)⟩
 |_=>exact gh h
def M8 (h:BV e=aj):∃p,e= .List [] p:=by
 cases e with
 |List B p=>exact⟨p,bZ (Expr.List · p) (ub.mp h)⟩
 |_=>exact Ay h
def yz {l:ah aH}{n:au}{ns:ah au}(h:namesOf l=ae (n :: ns)):∃p r,l= .Name n p :: r/\namesOf r=ae ns:=by
 cases l with
 |nil=>cases h
 |cons e l=>
  obtain⟨m,F,h⟩:=qT.mp h;obtain⟨H,D,B⟩:=jZ.mp h;obtain⟨p,q⟩:=Dn F;obtain⟨E,G⟩:=List.cons.inj B;rw[q,E];exact⟨p,l,rfl,D.trans (bZ ae G)⟩
def Ds {l:ah aH}(h:namesOf l=ae []):l=[]:=by
 cases l with
 |nil=>rfl
 |cons e l=>
  obtain⟨m,E,h⟩:=qT.mp h;obtain⟨F,D,B⟩:=jZ.mp h;cases B
theorem M9 {c:aH}{f:aI->aB}(h:takes c=ae f):(∃p,c= .Name (aq "AttributeError") p/\f=λk=>k == "AttributeError")\/
  ∃p1 p2 kk tp,c= .Tuple [.Name (aq "TypeError") p1,.Name (aq "AttributeError") p2] kk tp/\f=λk=>k == "TypeError" || k == "AttributeError":=by
 unfold takes at h;cases F:uK c with
 |none=>
  rw[F]at h;obtain⟨E,h⟩:=tI.mp h;obtain⟨p,q⟩:=Dn E;exact .inl ⟨p,q,(dp h).symm⟩
 |some J=>
  rw[F]at h;obtain⟨E,h⟩:=tI.mp h;obtain⟨p1,r,H,D⟩:=yz E;obtain⟨p2,I,G,B⟩:=yz D;obtain⟨kk,tp,q⟩:=M7 F;rw[H,G,Ds B]at q;exact .inr ⟨p1,p2,kk,tp,q,(dp h).symm⟩
def yA {α:Type}{l:ah α}{x:α}(h:l.head? =ae x)(h1:l.length=1):l=[x]:=by
 obtain⟨y,rfl⟩:=Hr.mp h1;cases h;rfl
theorem Na {hb:ah dy}{e0:Flow->aD->Prop}(d0:Zs dE z)(b0:Inv X B I h)(a0:En X U G Q N B h)(c0:Go X [G.locals] br h₀ B h)(hr:(rQ U hb ⟨F,Q,N⟩).run I (aL X dE [G.locals] br h₀ (RS X U G Q) e0 E)):aA (MX X) A (execs hb G) e0 E' (sh z h W):=by
 obtain⟨s,J,D⟩:=c9 hr;clear hr;obtain⟨w,hr⟩:=a6 D;clear D;rw[yA J w];cases s with
 |Pass p=>
  refine tQ (wpAny_Pass (q8 ?_));exact hr _ _ _ _ d0 b0 c0 _ ⟨.next,a0⟩
 |Assign ts e b=>
  obtain⟨xs,q,D⟩:=c9 hr;clear hr;obtain⟨x,S,H⟩:=c9 D;clear D;obtain⟨k,D⟩:=a6 H;clear H;rw[yA S k]at q;obtain⟨L,r,J,R⟩:=yz q;rw[Ds R]at J;subst J;obtain⟨c,q,H⟩:=c9 D;clear D;obtain⟨kk,O,J⟩:=M6 q;subst J;obtain⟨v,f,hr⟩:=c9 H;clear H;refine tQ ?_;rw[wK];refine wB (jC ?_);show aA _ _ (ou (.Constant c kk O) (ae (.Name x L)) b.line G>>=_) _ _ _;rw[xZ rfl];refine bO (aC ?_);rw[aK (by simp)];refine wB (yv (X:=X) (h:=h) f kk O λval l j=>?_);rw[vf rfl];refine wB (aC ?_);rw[qi (.Name x L) [] G rfl];show aA _ _ (lu (.Name x L) G val>>=λy=>pure Flow.next) _ _ _;refine wB (assign_Name ?_);refine Dj (F:=F) b0 a0 (j B h) x hr λz1 V o m l M T Y K u D=>?_;exact aC (q8 (D _ _ _ _ (d0.trans T) Y (c0.trans K) _ ⟨.next,u⟩))
 |Return e q=>
  obtain⟨J,q,D⟩:=c9 hr;clear hr;subst q;obtain⟨q,hr⟩:=a6 D;clear D;obtain⟨p,q⟩:=M8 q;subst q;obtain⟨_,hr⟩:=a6 (show(P.guard (([]:ah AV).length<=4096)>>=λy=>P.alloc (.list [])>>=λi=>P.pure (FL.ret (.ref i),N)).run I _ from hr);have hr:aL X dE [G.locals] br h₀ (RS X U G Q) e0 E (.ok (.ret (.ref I.length),N)) (I++[.list []]):=hr;refine tQ (Hd (List_ ?_));refine As ?_;refine oj ?_ (cZ _);obtain K:=Go.alloc X [G.locals] B h { cls:=.type "list",data:=.seq ([]:ah aw).toArray };obtain CG:=Go.alloc X [] B h { cls:=.type "list",data:=.seq ([]:ah aw).toArray };refine hr _ _ _ _ d0 (b0.alloc (ao:=.list []) ⟨[],0,rfl,.nil,by simp⟩ rfl) (c0.trans K) _ ⟨.ret (.ref ?_),a0.step b0 CG⟩;rw[<-b0.len];simp
 |_=>exact hr.elim
def Nb {hb:ah dy}{rt:RT}{p:Res (FL×ah (ax AV))->St->Prop}(hr:(rQ U hb rt).run I p):∃Nc Nd,hb=Nc :: Nd:=by
 obtain⟨s,B,hr⟩:=c9 hr;exact⟨s,[],yA B (a6 hr).1⟩
theorem Nf {k:ak}{x:au}{np ap hp:fj}{c:aH}{hb o:ah dy}{dS:DS}(hd:HE X F k U e d)(ho:iN X F k U o dS):
  HS X F k U (.Try [.Assign [.Name x np] e ap] [.ExceptHandler (ae c) ag hb hp] o [] pos) (λrt=>do
   P.guard (nG e=aj/\kq e=az/\BW U c=aj)
   P.uB (d rt) (λv=>do
     let i0 <-nameA U x v rt
     dS { rt with loc:=i0 })
    λk=>match takes c with
     |some f0=>if f0 k then rQ U hb rt else P.fail
     |Option.none=>P.fail):=by
 intros _ A l G Q N B I h _ K _ z W D E _ hr;obtain⟨⟨g1,g2,Y⟩,hr⟩:=a6 hr;refine wpAny_Try_except ?_;refine tQ ?_;rw[wK];refine wB (jC ?_);show aA _ _ (ou e (ae (.Name x np)) ap.line G>>=_) _ _ _;rw[xZ g1];refine bO (aC ?_);rw[aK (by simp)];refine wB ?_;refine hd K z W _ _ ((d ⟨F,Q,N⟩).mono ?_ (show(d ⟨F,Q,N⟩).run I _ from hr));intros _ r b _ y;intros _ z1 H h1 t1 _ Z1 I1 G1;have N1:=K.en.step K.inv G1;cases r with
 |ok v=>
  intro val rv;rw[vf g2];refine wB (aC ?_);rw[qi (.Name x np) [] G rfl];show aA _ _ (lu (.Name x np) G val>>=λa=>pure Flow.next) _ _ _;refine wB (assign_Name ?_);refine Dj (F:=F) I1 N1 rv x (show(nameA U x v ⟨F,Q,N⟩>>=λa0=>dS ⟨F,Q,a0⟩).run b _ from y) ?_;intro z2 r0 p0;intros _ h2 _ t2 d0 Z2 I2 G2 N2 o0;refine aC (q8 ?_);have h0:=(G1.nil [G.locals]).trans G2;exact ho (K.next I2 h0 N2) z2 t2 D E ((dS ⟨F,Q,d0⟩).mono (λa a p=>p.shift (Z1.trans Z2) h0) o0)
 |err R=>
  intros R _ y;intros _ ea _ xa;obtain (⟨e0,l',rfl,g0⟩):=K.top;obtain⟨L,hL⟩:∃L,G.frame=ae L:=by
   obtain⟨_,L,_,q,_⟩:=K.ar.dR e0 (.head _);exact⟨L,g0 ▸ q⟩
  obtain R1:=K.ar.dR.step G1;refine u9 (jF:=I) K.ar.frames g0 hL I1 R1 K.inv (G1.nil [G.locals]) xa ?_;intros _ h2 _ W2 x2;refine se (jF:=I) W2.inv W2.dR K.inv W2.go x2 ?_;intros _ w _ M x3;have N3:=(M.en (W2.en N1))
  change ((match takes c with
     |some f=>if f R then rQ U hb ⟨F,Q,N⟩else P.fail
     |Option.none=>P.fail):P _).run b _ at y
  cases ht:takes c with
  |none=>rw[ht]at y;exact y.elim
  |some f=>
   intros f _ ht;rw[ht]at y;dsimp only at y;cases j:f R with
   |false=>rw[j]at y;exact y.elim
   |true=>
    rw[j,aN rfl]at y;obtain (⟨Z,J,rfl⟩):=Nb y;have b0:∀(O:aG),Inv X H b O->Go X [G.locals] B h H O->Frs X (e0 :: l') H O->En X U G Q N H O->mE R ea h O->∀(A':d8) (E':aw->aD->Prop) (t4:ak),
      aA (MX X) A' (setFlight (.ref ea) ag) (λa c0=>aA (MX X) A' (execs (Z :: J) G) D E' c0) E' (sh z1 O t4):=by
     intro O I4 G4 R4 N4 m A' E' t4;refine se (jF:=I) I4 R4 K.inv G4 m λh5 W5 x5=>?_;exact Na (F:=F) Z1 W5.inv (W5.en N4) W5.go y
    have u:∀(O:aG) (t4:ak),mE R ea h O->(sh z1 O t4).TypeIs (.ref ea) R:=λO t4 m=>by
     obtain⟨_,_,_,oe,_,q1,q2,_⟩:=m;exact⟨oe,q1,q2⟩
    rcases M9 ht with ⟨p,rfl,rfl⟩ |⟨p1,p2,kk,tp,rfl,rfl⟩
    ·dsimp only at j;rw[bU]at j;subst j;have Y:cM U (aq "AttributeError")=ae .globalImplicit:=bU.mp (bW.mp Y _ (.head _));refine wpAny_handleBy_builtin (X:="AttributeError") (T:="AttributeError") (b:=aj) Dl Dm Dk ?_;refine yy (v:=.ty "AttributeError") K.ok M.inv N3 Y (by kernel_rfl) (by decide +kernel) λv' sv=>?_;cases sv H w
     ·refine⟨rfl,u _ _ x3,?_⟩;rw[aN rfl];exact b0 w M.inv M.go M.dR N3 x3 _ _ _
    ·dsimp only at j;have Y:cM U (aq "TypeError")=ae .globalImplicit/\cM U (aq "AttributeError")=ae .globalImplicit:=⟨bU.mp (bW.mp Y _ (.head _)),bU.mp (bW.mp Y _ (.tail _ (.head _)))⟩;have S:∀{b1 b2:aB},lC (.type R) (.type "TypeError")=pure b1->lC (.type R) (.type "AttributeError")=pure b2->(b1 || b2)=aj->
       aA (MX X) A (handleBy (.ref ea) G [.ExceptHandler (ae (.Tuple [.Name (aq "TypeError") p1,.Name (aq "AttributeError") p2] kk tp)) ag (Z :: J) hp]) D E (sh z1 w t1):=by
      intros _ b1 b2 _ s1 s2 hb;refine wpAny_handleBy_tup2 (T1:="TypeError") (T2:="AttributeError") MV M4 Dl Dm s1 s2 ?_;refine Tuple_ (Au ?_ rfl);refine yy (v:=.ty "TypeError") K.ok M.inv N3 Y.1 (by kernel_rfl) (by decide +kernel) λv1 l0=>?_;cases l0 H w;refine Au ?_ rfl;refine yy (v:=.ty "AttributeError") K.ok M.inv N3 Y.2 (by kernel_rfl) (by decide +kernel) λv2 n0=>?_;cases n0 H w;refine As ?_;refine m7 ?_ (by show 2<=2 ^ 24;decide);obtain I4:=M.inv.push { cls:=.type "tuple",data:=.seq [lB "TypeError",.type "AttributeError"].toArray };have G4:=Go.push X [] H w { cls:=.type "tuple",data:=.seq [lB "TypeError",.type "AttributeError"].toArray };have m:mE R ea h (w.push { cls:=.type "tuple",data:=.seq [lB "TypeError",.type "AttributeError"].toArray }):=by
       obtain⟨a1,a2,a3,k0⟩:=x3;obtain (⟨oe,V,j0⟩):=k0;obtain (⟨b1,b2,b3,b4,m0⟩):=j0;obtain (⟨T,oT,ts,c1,c2,c3,c4,c5⟩):=m0;exact⟨a1,a2,a3,oe,V,be _ b1,b2,b3,b4,T,oT,ts,c1,c2,c3,be _ c4,c5⟩
      refine⟨_,rfl,IsTup.new _ _,u _ _ m,?_⟩;rw[aN hb];exact b0 _ I4 (M.go.trans (G4.nil _)) (M.dR.step G4) (N3.step M.inv G4) m _ _ _
     rw[pP,bU,bU]at j;rcases j with rfl |rfl
     ·exact S MW MY rfl
     ·exact S MZ Dk rfl
theorem Ng {h0 b0:au}{e0:fh}{i0:aH}{d0:bN}{c P:ay}{c0:ak}{g0:ah (au×ay)}{a0:aw->aD->Prop}(j0:closureFor d0 G=pure g0)(l0:G.globals=iG)(hg:s.heap.Ns iG mg)(f0:G.code= .ref c)(C:CodeHd s.heap c P)(hP:s.heap.get? P=ae (jW #[]))(k0:iG≠P)(hb:s.heap.BuiltinsAt mg P)(h:∀c' xG H W pm oc V t ps,HV P s.heap H->s.heap.objs.size<=c'->H.get? c'=ae oc->oc.cls= .type "code"->oc.data= .fields V->V[1]? =ae (.str b0 t)->H.get? P=ae (jW ps)->
   a0 (.ref H.objs.size) { s with heap:=H.push (wu h0 b0 e0 i0 d0 g0 pm c' xG),toks:=W }):
  aA M A (makeFunction h0 b0 e0 (.expr i0) d0 G [] [] [] pos c0) a0 E s:=by
 rw[makeFunction_eq];simp only[HW,HC,tT,jB,pure_bind];obtain⟨bm,ob,X,L,_,K,Y,J,B,F⟩:=hb;have U:∀(c':ay) (H:aG),H.CodeRec (.ref c') b0->(∃I,s.heap.objs.size<=I/\H.IsCode c' I #[]/\H.TableAt c' I #[])->∃oc V t,H.get? c'=ae oc/\oc.cls= .type "code"/\oc.data= .fields V/\V[1]? =ae (.str b0 t):=by
  intros _ c' H _ l k;obtain (⟨c2,o2,Z,t2,e2,g2,d2,T⟩):=l;obtain (⟨I,_,_,f,_⟩):=k;obtain (⟨o3,n0,g3,c3,d3,_⟩):=f;cases e2;rw[g2]at g3;cases g3;exact⟨o2,Z,t2,g2,c3,d2,T⟩
 unfold makeTail;rw[j0,l0];refine wB (aC ?_);obtain tr:TriplesOk (#[]:aZ aw).toList:=trivial;cases g0 with
 |nil=>
  simp only[tT,jB];refine wB (aC ?_);refine wB (HX f0 (C.code hP tr) (C.tab hP) rfl ?_);intros _ c' H _ W S N u m D R O;obtain⟨oc,V,t,z,T,w,j⟩:=U c' H D O;have si:=hg.extBut S k0;refine wB (HY si X L (S _ _ K Y) J B F ?_);refine wB (wpAny_nsGet si ?_);exact wB (aC (qZ (h c' .none H W _ oc V t _ S N z T w j R.2) (by size_fits)))
 |cons q r=>
  intros q r _ j0 h;simp only[List.isEmpty_cons,ja,jb];refine wB (wpAny_newTextTuple ?_);refine wB (HX f0 ((C.keeps λb o e=>be _ e).code (be _ hP) tr) ((C.keeps λb o e=>be _ e).tab (be _ hP)) rfl ?_);intros _ c' H _ W S N u m D R O;have Nh:∃I,s.heap.objs.size<=I/\H.IsCode c' I #[]/\H.TableAt c' I #[]:=by
   obtain (⟨I,a1,a2⟩):=O;exact⟨I,dW (by rw[j8];exact gP _) a1,a2⟩
  obtain⟨oc,V,t,z,T,w,j⟩:=U c' H D Nh;obtain si:=(hg.push _).extBut S k0;obtain qn:HV P s.heap H:=λb o m0 e=>S b o m0 (be _ e);obtain Ni:s.heap.objs.size<=c':=dW (by rw[j8];exact gP _) N;refine wB (HY si X L (qn _ _ K Y) J B F ?_);refine wB (wpAny_nsGet si ?_);exact wB (aC (qZ (h c' _ H W _ oc V t _ qn Ni z T w j R.2) (by size_fits)))
theorem Inv.lam {o:Obj}{V:aZ aw}(a0:Inv X B I h)(hk:∀b o,b≠cJ->h.get? b=ae o->H.get? b=ae o)(ht:H.get? cJ=ae (jW V))(hl:jg ao=aj)(b:OB X B H ao o)(hf:o.isFreed=az):
  Inv X (B++[H.objs.size]) (I++[ao]) (H.push o)/\Go X [] B h (B++[H.objs.size]) (H.push o):=by
 have D:h.get? H.objs.size=ag:=by
  cases q:h.get? H.objs.size with
  |none=>rfl
  |some E=>
   by_cases e:H.objs.size=cJ
   ·rw[<-e]at ht;exact absurd (gL ht) (dP _)
   ·exact absurd (gL (hk _ _ e q)) (dP _)
 have G:Go X [] B h (B++[H.objs.size]) (H.push o):=by
  refine⟨⟨λa E e=>?_,⟨[H.objs.size],rfl,λa F=>by rw[aJ.mp F];exact D⟩,λa E e u L u=>⟨E,be _ (hk a E L e),.refl ..⟩⟩,λa E e u f u=>?_⟩
  ·by_cases q:a=cJ
   ·subst q;exact⟨_,be _ ht⟩
   ·exact⟨E,be _ (hk a E q e)⟩
  ·have L:a≠cJ:=λq=>by
    subst q;obtain⟨U,Z,_⟩:=a0.tab;rw[Z]at e;cases e;obtain⟨_,_,q,_⟩:=f;cases q
   exact⟨E,be _ (hk a E L e),f⟩
 obtain N:H.objs.size∉B:=λF=>by
  obtain⟨i,J,A⟩:=qR.mp F;have gg:i < I.length:=a0.len ▸ J;obtain⟨Q,O,_⟩:=a0.obj i I[i] _ (cy gg) (by rw[cy J,A]);rw[D]at O;cases O
 refine⟨⟨by simp[a0.len],?_,λi S a M K=>?_,λR Q e L=>be _ (hk _ _ L (a0.base R Q e L)),λa F=>?_,a0.gd,a0.mods,⟨V,be _ ht,.inr ⟨ao,by simp,hl⟩⟩,λb T=>?_⟩,G⟩
 ·refine tE.mpr ⟨a0.nodup,by simp,λa Y b T e=>?_⟩;rw[aJ.mp T]at e;exact N (e ▸ Y)
 ·by_cases J:i < I.length
  ·rw[lz J]at M;rw[lz (by rw[a0.len];exact J)]at K;obtain⟨Q,O,R⟩:=a0.obj i S a M K;exact⟨Q,be _ (hk _ _ (λq=>a0.Cf (q ▸ cD K)) O),R.step G.step⟩
  ·have gg:i=I.length:=by
    have:=(cF.mp M).1;simp at this;exact AN (FI 1 1 0 0 this rfl) ((NL J))
   subst gg;simp at M;rw[<-a0.len]at K;simp at K;subst M K;exact⟨o,cV _ hf,b.step (Go.alloc X [] B H o).step⟩
 ·rcases dX.mp F with F |F
  ·exact a0.new a F
  ·rw[aJ.mp F];exact a0.ey D
 ·obtain⟨E,W⟩:=a0.gf b T;exact G.step.there b E W
theorem Nj {T:fh}{a0:aH}:HE X F k U (.Lambda T a0 aP pos) (λrt=>do
   P.guard (BY T=aj/\cM U mB=ae .cell)
   let b0 <-P.get
   P.guard (b0.all (λo=>!jg o)=aj)
   let cs <-P.opt (fL rt aP.names [])
   let i0 <-P.alloc (.lam T a0 aP cs)
   P.pure (.ref i0)):=by
 intros _ A l G Q N B I h _ K _ z W J E _ M;obtain⟨⟨g1,g2⟩,M⟩:=a6 M;obtain⟨g3,M⟩:=a6 (show(P.guard (I.all (λo=>!jg o)=aj)>>=_).run I _ from M);obtain (⟨cs,f,M⟩):=c9 M;have M:aL X z [] B h (RV X) J E (.ok (.ref I.length)) (I++[.lam T a0 aP cs]):=M;have j:defaultsOf T G=([],[]):=by
  obtain⟨_,_,_,_,e,_,g⟩:=T;cases e with
  |nil=>cases g with
   |nil=>rfl
   |cons=>cases g1
  |cons=>cases g1
 obtain (⟨cl,rc,c0⟩):=De K.en f;obtain (⟨V,et,R⟩):=K.inv.tab;have R:V= #[]:=by
  rcases R with q |⟨ao,m,q⟩
  ·exact q
  ·have:=bW.mp g3 ao m;rw[q]at this;cases this
 subst R;obtain (⟨mg,mb,n1,n2,_⟩):=K.ok.gl;obtain (⟨bm,ob,b1,b2,b3,b4,b5,b6⟩):=K.ok.bt mg n1;obtain (⟨oc,vc,u,tf,S,tg,d0,text,tt,c1,cr⟩):=K.ok.cd;refine kla_eval j (Ng (s:=sh z h W) c0 K.en.glob (K.inv.ns n1 (by decide)) (K.code g2) ⟨oc,vc,u,tf,S,tg,d0,text,tt,K.inv.base _ _ c1 (by decide),cr⟩ et (by decide) ⟨bm,ob,b1,b2,b3,b4,K.inv.base _ _ b5 b4,b6⟩ λZ e0 H g0 pm h0 j0 t' ps hx L q1 q2 q3 q4 f0=>?_);have hk:∀b o,b≠cJ->h.get? b=ae o->H.get? b=ae o:=λb o hb e=>hx b o hb e;have L:h.objs.size<=Z:=L;have O:h.get? Z=ag:=Bc L;have w:X.ok Z:=⟨λq=>(by rw[q]at O;rw[O]at et;cases et),λhb=>by obtain⟨o,e⟩:=K.inv.gf _ hb;rw[O]at e;cases e⟩;have Y:Z∉B:=λm=>dP _ (gQ (K.inv.lt m) L);obtain⟨I',D⟩:=K.inv.lam hk f0 (ao:=.lam T a0 aP cs) rfl (o:=wu "<lambda>" (G.qual++"<lambda>") T a0 aP cl pm Z e0) ⟨_,_,_,_,_,_,rfl,rc,⟨⟨Y,w,q1,q2,q3,q4⟩⟩⟩ rfl;refine M _ _ _ _ (.refl _) I' D _ (.ref ?_);rw[<-K.inv.len];simp
def eT.Nk {e:ay}{k:aI}(x:HZ h H e k)(ho:nK (.type k)=az)(hf:k≠"frame"):eT k e h H:=by
 obtain⟨E,t,D,F,B⟩:=x.there;exact⟨x.new,ho,hf,E,_,D,F,B,by simp,.inl rfl⟩
def Nl:tU (.type "list_iterator") "__len__"=pure ag:=by rw[rg,rh];kernel_rfl
def Nm {a0:aw->aD->Prop}(hT:s.TypeIs (.ref a) "list_iterator")(hh:A.handled=ag)(h:∀H W e,HZ s.heap H e "TypeError"->E (.ref e) { s with heap:=H,toks:=W }):
  aA (aV prog w) A (call (.builtin "len") [.ref a]) a0 E s:=by
 refine Calls.call_function_entry kind_len plain_len entry_len (args_len1 _) ?_;unfold Builtin.«len»;refine wB (m:=oneArg "len" _) (aC ?_);refine wB (m:=ow (.ref a) (aq "__len__")) (wpAny_callSpecial?_none (name:=aq "__len__") hT Nl ?_);dsimp only;refine wB (gN ?_);refine wB (wpAny_typeNameOf' hT (by decide) ?_);exact wpAny_raiseErrorMade plainExc_TypeError hh h (by show _<=2 ^ 24;decide +kernel)
def Nn {a0:aw->aD->Prop}(h:aA (aV prog w) A.in1 (f6 v) a0 E s):aA (aV prog w) A (call (.builtin "iter") [v]) a0 E s:=by
 refine call_function_tree (by decide +kernel) (by decide +kernel) kdk_entry_iter (kdk_args_iter _) ?_;unfold Builtin.«iter»;refine wB (m:=someArgs "iter" 1 2 _) (nj (a:=[v]) (by first |rfl |kernel_rfl!) ?_);show aA _ _ (f6 v>>=_) _ _ _;exact wB (eB h (λD B q=>aC q) λu u q=>q)
def Np:Slot "object" "__init__" "object.__init__":=
 .of (owner:="object") (n:="__init__") (by rw[rg,rh];kernel_rfl) (by decide +kernel) (by decide +kernel) (by decide +kernel)
  (by first |exact .inl (by decide +kernel) |exact .inr (by decide +kernel)) (by rw[rj];kernel_rfl)
def mro_object:mroOf (.type "object")=pure [.type "object"]:=by rw[mroOf_type];kernel_rfl
def Nq:tU (.type "object") "__new__"=pure (ae (.builtin "object.__new__")):=by rw[rg,rh];kernel_rfl
def Dt:TypeCalled "object" "object.__new__" "object.__init__":=
 ⟨by decide +kernel,by decide +kernel,⟨_,_,mro_object⟩,madeBy_type mro_object Nq (by decide +kernel),by decide +kernel,by rw[rj];kernel_rfl,Np⟩
def Nr:checkTypeCall "object" ⟨[],[]⟩=pure ():=by kernel_rfl
def Nt:ue "object.__new__" ⟨[.type "object"],[]⟩=pure ():=by kernel_rfl
def Nu:MeetsIn prog w (j2.«object.__new__» ⟨[.type "object"],[]⟩) (λA R s=>R (.ok (.ret (.ref s.heap.objs.size))) { s with heap:=s.heap.push { cls:=.type "object",data:=.plain } }):=
 .of_wp λA R s h=>by
  obtain B:=Dt.made;obtain⟨D,g,d,W,os⟩:=s;unfold Builtin.«object.__new__»
  wp_walk
  exact⟨_,rfl,h⟩
def Nv {a0:aw->aD->Prop}(h:a0 (.ref s.heap.objs.size) { s with heap:=s.heap.push { cls:=.type "object",data:=.plain } }):aA (aV prog w) A (call (.type "object") []) a0 E s:=
 callType_meetsIn (Q₁:=λobj B=>obj= .ref s.heap.objs.size/\B={ s with heap:=s.heap.push { cls:=.type "object",data:=.plain } }) Dt Nr Nt F.entry_object_new F.entry_object_init Nu ⟨rfl,rfl⟩
  (by
   rintro obj B ⟨rfl,rfl⟩;have D:xb { s with heap:=s.heap.push { cls:=.type "object",data:=.plain } } (.ref s.heap.objs.size) "object":=⟨_,cV _ rfl,rfl⟩;exact⟨D,F.args_object_init_1 _,λu R s=>R (.ok (.ret .none)) s,Meets.of_wp λprog w A R s G=>aC ⟨_,rfl,G⟩,rfl,h⟩)
def Inv.place {o:Obj}(a0:Inv X B I h)(hk:∀b o,h.get? b=ae o->H.get? b=ae o)(hD:h.get? D=ag)(e:H.get? D=ae o)(b:OB X B h ao o):Inv X (B++[D]) (I++[ao]) H/\Go X [] B h (B++[D]) H:=by
 obtain E:∀b∈[D],h.get? b=ag:=λb E=>by rw[aJ.mp E];exact hD
 refine⟨(a0.more (j:=[D]) hk λb F=>⟨E b F,?_⟩).adopt (.head _) e ((b.more E).step (Go.keeps (X.more [D]) B hk []).step) (a0.fresh hD).1 (a0.ey hD),(Go.keeps X B hk []).adopt hD⟩;rw[aJ.mp F];exact⟨_,e⟩
def sj (a0:Inv X B I h)(D:ay):(B++[D])[I.length]? =ae D:=by rw[<-a0.len];simp
def nR {γ:Type}{p:Res γ->St->Prop}{β:Type}{b:β}{g:β->P γ}(hr:(P.pure b>>=g).run I p):(g b).run I p:=hr
def jm {γ:Type}{p:Res γ->St->Prop}{g:AV->P γ}(ra:aT X B h T V)(hr:(one T>>=g).run I p):∃x v,V=[v]/\aF X B h x v/\(g x).run I p:=by
 cases ra with
 |nil=>exact hr.elim
 |cons D E=>
  obtain⟨q,hr⟩:=a6 (g:=λu=>P.pure _>>=g) hr;cases E with
  |nil=>exact⟨_,_,rfl,D,hr⟩
  |cons _ _=>cases q
def yB {γ:Type}{p:Res γ->St->Prop}{g:b8->P γ}(ra:aT X B h T V)(hr:(rO T>>=g).run I p):V=[]/\(g ()).run I p:=by
 obtain⟨q,hr⟩:=a6 hr;cases ra with
 |nil=>exact⟨rfl,hr⟩
 |cons _ _=>cases q
def gZ {γ:Type}{p:Res γ->St->Prop}{g:b8->P γ}(rk:cq X B h kw kvs)(hr:(noKw kw>>=g).run I p):kvs=[]/\(g ()).run I p:=by
 obtain⟨q,hr⟩:=a6 hr;cases rk with
 |nil=>exact⟨rfl,hr⟩
 |cons _ _=>cases q
def vu {n:au}{γ:Type}{p:Res γ->St->Prop}{g:AV×ah (au×AV)->P γ}(rk:cq X B h kw kvs)(hr:(p7 n kw>>=g).run I p):
  ∃x v l ks,kvs=(n,v) :: ks/\aF X B h x v/\cq X B h l ks/\(g (x,l)).run I p:=by
 cases rk with
 |nil=>exact hr.elim
 |cons E F=>
  obtain⟨q,D⟩:=a6 (g:=λu=>P.pure _>>=g) hr;clear hr;cases q;exact⟨_,_,_,_,rfl,E,F,D⟩
def Du {γ:Type}{p:Res γ->St->Prop}{g:aB->P γ}(rk:cq X B h kw kvs)(hr:(uH kw>>=g).run I p):
  ∃b,kvs=(if b then [(aq "reverse",.bool aj)]else [])/\(g b).run I p:=by
 cases rk with
 |nil=>exact⟨az,rfl,hr⟩
 |cons D E=>
  obtain⟨x,v,l,F,q,D,E,hr⟩:=vu (g:=λq=>BS q.1>>=λu=>noKw q.2>>=λu=>P.pure aj>>=g) (.cons D E) hr;rw[q];cases x with
  |bool b=>cases b with
   |true=>
    obtain⟨rfl,hr⟩:=gZ E hr;cases D;exact⟨aj,rfl,hr⟩
   |false=>exact hr.elim
  |_=>exact hr.elim
def Dv {γ:Type}{p:Res γ->St->Prop}{g:b8->P γ}(hr:(isCallable x>>=g).run I p):∃m,x= .ref m/\(g ()).run I p:=by
 obtain⟨m,q,hr⟩:=iw (g:=λi=>P.load i>>=λo=>(match o with
  |.lam .. =>P.pure ()
  |_=>P.fail)>>=g) hr
 obtain⟨o,_,hr⟩:=eV hr;cases o with
 |lam _ _ _ _=>exact⟨m,q,hr⟩
 |_=>exact hr.elim
def Nw {b:BI}(e:p8 x=ae b):x=Jt b:=by
 cases x with
 |bi n=>
  unfold p8 at e;dsimp only at e;by_cases B:n="len"
  ·rw[aN B]at e;cases e;rw[B];rfl
  rw[aK B]at e;by_cases B:n="iter"
  ·rw[aN B]at e;cases e;rw[B];rfl
  rw[aK B]at e;by_cases B:n="sum"
  ·rw[aN B]at e;cases e;rw[B];rfl
  rw[aK B]at e;by_cases B:n="sorted"
  ·rw[aN B]at e;cases e;rw[B];rfl
  rw[aK B]at e;by_cases B:n="min"
  ·rw[aN B]at e;cases e;rw[B];rfl
  rw[aK B]at e;obtain⟨B,e⟩:=tI.mp e;cases e;rw[B];rfl
 |ty n=>
  unfold p8 at e;dsimp only at e;by_cases B:n="object"
  ·rw[aN B]at e;cases e;rw[B];rfl
  rw[aK B]at e;by_cases B:n="list"
  ·rw[aN B]at e;cases e;rw[B];rfl
  rw[aK B]at e;by_cases B:n="set"
  ·rw[aN B]at e;cases e;rw[B];rfl
  rw[aK B]at e;obtain⟨B,e⟩:=tI.mp e;cases e;rw[B];rfl
 |_=>exact gh e
def Nx (a0:Inv X B I h)(hh:A.handled=ag)(ra:aT X B h T V)(rk:cq X B h kw kvs):aW X A [] (RV X) B I h (call (.builtin "len") V kvs) (jI F T kw .len):=by
 intro z W Q E D;obtain⟨x,v,rfl,J,D⟩:=jm ra D;obtain⟨rfl,D⟩:=gZ rk D;cases G:gb x with
 |some l=>
  rw[G]at D;obtain⟨a,O,rfl,⟨o,e,c,n,d⟩,r⟩:=u5 J G;obtain L:=Ki G;refine len_tuple (s:=sh z h W) (items:=O.toArray) ⟨o,e,c,n,d⟩ (by rw[cG,r.length];lia) ?_;rw[cG,r.length];exact D _ _ _ _ (.refl _) a0 (.refl ..) _ (.int ..)
 |none=>
  rw[G]at D;obtain⟨j,q,D⟩:=iw D;subst q;obtain⟨e⟩:=J;obtain⟨o,i,D⟩:=eV D;cases o with
  |list l=>
   obtain⟨K,n,q,r,len,L⟩:=ez a0 i e;refine Calls.call_len_list (s:=sh z h W) (items:=K.toArray) q.isList (by rw[cG];lia) ?_;rw[cG,len];exact D _ _ _ _ (.refl _) a0 (.refl ..) _ (.int ..)
  |iter s k=>
   refine Nm (s:=sh z h W) (vk a0 i e) hh λH M N x=>?_;exact D _ _ _ _ (.refl _) (a0.keeps x.keeps) (Go.keeps X B x.keeps []) _ (eT.Nk x (by rfl) (by decide))
  |_=>exact D.elim
def Ny (a0:Inv X B I h)(ra:aT X B h T V)(rk:cq X B h kw kvs):aW X A [] (RV X) B I h (call (.builtin "iter") V kvs) (jI F T kw .iter):=by
 intro z W Q E D;obtain⟨x,v,rfl,K,D⟩:=jm ra D;obtain⟨rfl,D⟩:=gZ rk D;obtain⟨i,q,D⟩:=iw D;subst q;obtain⟨e⟩:=K;refine Nn ?_;obtain⟨J,H,D⟩:=eV D;cases J with
 |list l=>
  obtain⟨O,n,L,M,len,_⟩:=ez a0 H e;refine AY (s:=sh z h W) ⟨_,L,rfl,n,rfl⟩ ?_;have D:aL X z [] B h (RV X) Q E (.ok (.ref I.length)) (I++[.iter (ae i) 0]):=D;exact D _ _ _ _ (.refl _) (a0.alloc (ao:=.iter (ae i) 0) ⟨rfl,_,e,rfl⟩ rfl) (Go.alloc ..) _ (.ref (sj a0 _))
 |iter s kk=>
  have G:=vk (z:=z) (W:=W) a0 H e;refine oA G j6 (gw j6 G ru ?_ (rz _));obtain D:aL X z [] B h (RV X) Q E (.ok (.ref i)) I:=D;exact aC ⟨_,rfl,"list_iterator",_,G,j3.lookup,D _ _ _ _ (.refl _) a0 (.refl ..) _ (.ref e)⟩
 |_=>exact D.elim
def Nz (a0:Inv X B I h)(ra:aT X B h T V)(rk:cq X B h kw kvs):aW X A [] (RV X) B I h (call (.type "object") V kvs) (jI F T kw .object):=by
 intro z W Q E D;obtain⟨rfl,D⟩:=yB ra D;obtain⟨rfl,D⟩:=gZ rk D;have D:aL X z [] B h (RV X) Q E (.ok (.ref I.length)) (I++[.obj]):=D;exact Nv (s:=sh z h W) (D _ _ _ _ (.refl _) (a0.alloc (ao:=.obj) ⟨rfl,rfl⟩ rfl) (Go.alloc ..) _ (.ref (sj a0 _)))
def ints_of {ns:ah Int}:∀{V:ah aw},aT X B h (ns.map .int) V->og V ns:=by
 induction ns with
 |nil=>intro V r;cases r;exact .nil
 |cons i ns F=>
  intro V r;cases r with |cons D E=>
  obtain⟨t,rfl⟩:=D;exact .cons _ _ (F E)
theorem NC (a0:Inv X B I h)(hh:A.handled=ag)(ra:aT X B h T V)(rk:cq X B h kw kvs):aW X A [] (RV X) B I h (call (.builtin "sum") V kvs) (jI F T kw .sum):=by
 intros _ z W Q E _ D;obtain (⟨x,v,rfl,S,D⟩):=jm ra D;obtain⟨rfl,D⟩:=gZ rk D;obtain (⟨i,q,D⟩):=iw D;subst q;obtain⟨e⟩:=S;obtain (⟨l,U,D⟩):=gW D;obtain⟨ns,R,D⟩:=c9 D;obtain⟨O,n,Y,N,len,_⟩:=ez a0 U e;have M:=ints_of (vq R ▸ N);obtain⟨J,G⟩:=(show AllInts O.toArray from M.allInts).items;refine sum_intListG (s:=sh z h W) hh (xs:=J) (by rw[<-G];exact Y.isList) λH j k K=>?_;have Z:preSum (numAt J) J.size=ns.sum:=by
  have L:=nums_intItems J;rw[<-G]at L;rw[preSum_eq,gy (by simp),<-L,<-M.numsOf]
 rw[Z];exact D _ _ _ _ (.refl _) (a0.keeps K) (Go.keeps X B K []) _ (.int ..)
def ND (a0:Inv X B I h)(ra:aT X B h T V)(rk:cq X B h kw kvs):aW X A [] (RV X) B I h (call (.type "type") V kvs) (jI F T kw .type):=by
 intro z W Q E D;obtain⟨x,v,rfl,G,D⟩:=jm ra D;obtain⟨rfl,D⟩:=gZ rk D;cases x with
 |int i=>obtain⟨t,rfl⟩:=G;exact call_type_of (Tx:="int") rfl (by decide) (D _ _ _ _ (.refl _) a0 (.refl ..) _ (.ty "int"))
 |str i=>obtain⟨t,rfl⟩:=G;exact call_type_of (Tx:="str") rfl (by decide) (D _ _ _ _ (.refl _) a0 (.refl ..) _ (.ty "str"))
 |_=>exact D.elim
def NH {α:Type}(xs:aZ α)(p:ak)(x:α):1<=(SetTable.insertAt xs p x).size:=by
 unfold SetTable.insertAt;simp;exact CF 0 0 1 0 1 0 ZZ AL rfl
def jM.laid {L:aB}{t:gr}(h:jM L t)(es:aZ (Int×aw))(hs:Int)(x:aw):jM L (layNew t es hs x).2.1:=by
 obtain B:∀(t:gr) (n:ak),t.led=L->1<=n->jM L (t.standIn n):=λt n F H=>⟨rfl,by show 7<=4 * n+4;lia,F⟩;unfold layNew;cases t.freeSlot hs with
 |none=>exact B t _ h.led (by exact FI 0 0 1 1 ZZ rfl)
 |some p=>
  obtain⟨D,G⟩:=p;have E:jM L (t.put D).1:=by
   refine⟨?_,h.mask,h.led⟩;show(if H3 t.dummies D=aj then _ else t.dummies)= #[];rw[h.xJ];rw[aK (by simp[H3])]
  dsimp only;unfold SetTable.orStandIn;split
  ·exact E
  ·exact B _ _ E.led (NH ..)
def jM.Dw {L:aB}{t:gr}(h:jM L t)(hf:t.fits n=aj)(hn:n<=3):t.tooFull=az:=by
 unfold SetTable.fits at hf;rw[cW,bU]at hf;unfold SetTable.tooFull SetTable.fill;rw[h.xJ,hf.1];have:=h.mask;simp
 lia
theorem add_str {L:aB}{es:aZ (Int×aw)}{t:gr}{k:au}{W:cK}{a0:aB->aD->Prop}(ho:s.heap.get? a=ae o)(hex:o.ExactSet)(hd:o.data= .set es ep t)(Dx:ElemsOf (PySem.strKind prog w) es.toList)(hf:t.fits es.size=aj)(NI:∀e∈es.toList,lr k e.2=az)(kP:es.size<=2)(hT:jM L t)(h:∀H o' mM yt t',fm a s.heap H->H.get? a=ae o'->o'.ExactSet->o'.data= .set mM yt t'->mM.toList.Perm (es.toList++[(lq w k,.str k W)])->t'.fits mM.size=aj->jM L t'->t'.plain=az->a0 aj { s with heap:=H }):
  aA (aV prog w) A (setAddHashed a (.str k W) (lq w k)) a0 E s:=by
 have NJ:(PySem.strKind prog w).is k (.str k W)=aj:=by show lr k (.str k W)=aj;simp[lr]
 obtain Dy:(qV k W).scannable=aj:=rfl;have hb:es.size < scanBound:=by unfold scanBound;exact FI 0 2 1 4096 kP rfl
 unfold setAddHashed setAddHashedIn;refine eA (bO (rm ho hd hf ?_));dsimp only;rw[byScan_of Dy hb Dx];simp only[↓AQ];unfold setAddByScan;refine wB ?_;refine wB (gN ?_);refine wB (wpAny_setScan_of (knd:=PySem.strKind prog w) (k:=k) NJ ho hd hf Dx ?_);obtain hr:List.findIdx? (λe=>(PySem.strKind prog w).is k e.2) es.toList=ag:=List.findIdx?_eq_none_iff.mpr λe he=>NI e he;rw[hr];dsimp only;have NK:∀(b:aB) {jh:aD} {Q':b8->aD->Prop},Q' () jh->aA (aV prog w) A (match b with |true=>jX "set.scan.the-table-gave-way" |false=>pure ()) Q' E jh:=
  λb jh Q' hq=>by cases b <;>first |exact aC hq |exact gN hq
 obtain sk:=layNew_perm t es (lq w k) (.str k W);obtain qp:=layNew_fits t es (lq w k) (.str k W);obtain oZ:=hT.laid es (lq w k) (.str k W);generalize Wp:layNew t es (lq w k) (.str k W)=Ln at sk qp oZ |-;obtain⟨iQ,t1,NM,gave⟩:=Ln;dsimp only at sk qp oZ |-;rw[Hl]at sk;have yC:iQ.size=es.size+1:=by rw[<-Bd,sk.length_eq,bK,Bd];rfl
 obtain NN:=oZ.Dw qp (by exact CF 0 1 0 2 0 3 (EL yC) kP rfl);refine wB (NK _ ?_);have fin:∀t2:gr,t2.fits iQ.size=aj->jM L t2->t2.plain=az->t2.tooFull=az->aA (aV prog w) A (do
    storeSet a iQ t2
    if (!NM && t2.tooFull)=aj then do
      (match (Be t2 iQ (Bf iQ.size)).2.2 with |true=>jX "set.scan.the-table-gave-way" |false=>pure ())
      storeSet a (Be t2 iQ (Bf iQ.size)).1 (Be t2 iQ (Bf iQ.size)).2.1
      pure (ae aj)
     else pure (ae aj)) (λr s'=>r=ae aj/\a0 aj s') E s:=by
  intro t2 f2 l2 p2 n2;refine wB (wpAny_storeSet_of ho hd ?_ (fits_of_scanBound (by unfold scanBound;exact CF 0 1 0 2 1 4096 (EL yC) kP rfl)));rw[n2,w6,aK (by simp)];refine aC ⟨rfl,?_⟩;obtain hg:(s.heap.update a (H4 iQ t2)).get? a=ae { o with data:=.set iQ (ep+1) t2 }:=by
   have:=iH (H4 iQ t2) ho (by rw[putSet_of iQ t2 hd];rfl);rw[putSet_of iQ t2 hd]at this;exact this
  exact h _ _ _ _ _ (dY ..) hg hex rfl sk f2 l2 p2
 have Wq:t1.plain=aj\/t1.plain=az:=by cases t1.plain <;>simp
 obtain off:jM L { t1 with plain:=az }:=⟨oZ.xJ,oZ.mask,oZ.led⟩;split
 ·refine wB ?_;rw[hashByValue_scannable 8 Dy];refine aC ?_;refine eB (fin { t1 with plain:=az } (H5 qp) off rfl (off.Dw (H5 qp) (by exact CF 0 1 0 2 0 3 (EL yC) kP rfl))) (λr s' q=>?_) λu u q=>q;obtain⟨rfl,q⟩:=q;exact aC q
 ·rename_i hp;refine bO (aC ?_);simp only[↓AQ];refine eB (fin t1 qp oZ (by simpa using hp) NN) (λr s' q=>?_) λu u q=>q;obtain⟨rfl,q⟩:=q;exact aC q
def NQ:∀{es:ah (Int×aw)},(∀e∈es,uT w e)->kD w (es.map strOf) es:=by
 intro l;induction l with
 |nil=>
  intro _;exact .nil
 |cons e es D=>
  intro h;obtain⟨x,t,rfl⟩:=h e (.head _);exact .cons (D λe B=>h e (.tail _ B))
def kH.keep {xs:ah au}(x:kH w h S xs)(hk:∀o,h.get? S=ae o->H.get? S=ae o):kH w H S xs:=by
 obtain⟨o,B,D,t,a,b⟩:=x;exact⟨o,B,D,t,hk o a,b⟩
theorem NR {a0 l:ay}{xs:ah au}(hh:A.handled=ag)(f0:l≠a0)(b0:S≠a0)(e0:S≠l)(c0:∀(i:ak) (v:aw),O[i]? =ae v->∃x t,xs[i]? =ae x/\v= .str x t)(d0:O.size=xs.length)(l0:xs.Nodup)(h3:xs.length<=3)(hR:∀H W,(∀b o,b≠S->b≠a0->s.heap.get? b=ae o->H.get? b=ae o)->kH w H S xs->R (.ok (.ret .none)) { s with heap:=H,toks:=W }):
  ∀(k i:ak) (h:aG) (W:ak),xs.length - i=k->i<=xs.length->(∀b o,b≠S->b≠a0->s.heap.get? b=ae o->h.get? b=ae o)->h.IsListIter a0 l i->h.IsList l O->kH w h S (xs.take i)->
   j' (aV prog w) A (.builtin "set.update.loop" ⟨[.ref S,.ref a0],[]⟩) R { s with heap:=h,toks:=W }:=by
 have B:=Walks.list (prog:=prog) (w:=w) (A:=A.in1) hh a0 l f0 O;have n0:S∉[a0,l]:=by simp[b0,e0]
 intros _ k;induction k with
 |zero=>
  intros _ i h W _ Y hi J Q hl z;have U:i=xs.length:=Ai hi (H6 Y);refine kb F.entry_set_update_loop ?_;rw[mu F.plain_set_update_loop _];show aA _ A.in1 (hX (.ref a0)>>=_) _ _ _;refine wB (B.done _ _ _ ⟨by rw[d0,<-U];exact Q,hl⟩ λH m K=>?_);show aA _ A.in1 (ret dq) _ _ _;refine aC (hR _ _ (λb o Z f e=>K b o (by simpa using f) (J b o Z f e)) ?_);rw[U,j5]at z;exact z.keep λo e=>K S o (by simpa using b0) e
 |succ k ih=>
  intros k _ ih;intros _ i h W _ Y hi J Q hl z;have G:i < xs.length:=H7 (by rw[Y];exact Bg k);refine kb F.entry_set_update_loop ?_;rw[mu F.plain_set_update_loop _];show aA _ A.in1 (hX (.ref a0)>>=_) _ _ _;refine wB (B.item i _ _ _ (by rw[d0];exact G) ⟨Q,hl⟩ ?_);intros _ v H m _ hP M K;obtain (⟨x,t,hx,rfl⟩):=c0 i v hP;have vw:=z.keep λo e=>K S o (by simpa using b0) e;show aA _ A.in1 (ly [qV x t] (setAdd S (.str x t))>>=_) _ _ _;refine wB (eA ?_);unfold setAdd;refine eA ?_;refine wB ((PySem.strKind prog w).pyHash (k:=x) (by show lr x (.str x t)=aj;simp[lr]) ?_);obtain (⟨o,es,ep,tb,ho,g0,hd,E,D,hf,hT,m0⟩):=vw;have h0:es.size=i:=by
   have:=D.length_eq;simp at this
   lia
  have T:xs[i]=x:=by
   rw[cy G]at hx;exact dp hx
  have X:x∉xs.take i:=by
   intro hm;obtain⟨j,hj,ej⟩:=qR.mp hm;rw[List.getElem_take]at ej;have yD:j < i:=by simp at hj;exact TT hj ML
   exact absurd ((wG l0).mp (ej.trans T.symm)) (by exact NE (yD))
  refine add_str (s:={ s with heap:=H,toks:=_ }) (L:=!w.params.followText "set-order") ho g0 hd ?_ hf ?_ (by exact TT (EL h0) (CF 1 0 0 3 0 2 G h3 rfl)) hT λf o2 k0 j0 t2 N g2 x2 d2 p2 f2 l2 i0=>?_
  ·intros _ e _ L;obtain (⟨y,u,rfl⟩):=E e L;exact⟨⟨y,by show lr y (.str y u)=aj;simp[lr],rfl⟩,rfl⟩
  ·intros _ e _ L;cases hq:lr x e.2 with
   |false=>rfl
   |true=>
    obtain (⟨y,u,rfl⟩):=E e L;obtain⟨t',e'⟩:=GG hq;cases e';exact absurd (D.mem_iff.mp (mv.mpr ⟨_,L,rfl⟩)) X
  ·refine aC ⟨oH F.plain_set_update_loop _,ih (i+1) f _ (bZ Nat.pred Y) G (λb ob Z V e=>(N.2 b Z).trans (K b ob (by simpa using V) (J b ob Z V e))) (M.1.at λo e=>(N.2 a0 b0.symm).trans e) (M.2.at λo e=>(N.2 l e0.symm).trans e) ⟨o2,k0,j0,t2,g2,x2,d2,?_,?_,f2,l2,λa=>i0⟩⟩
   ·intros _ e _ L;rcases dX.mp (p2.mem_iff.mp L)with L |L
    ·exact E e L
    ·rw[aJ.mp L];exact⟨x,t,rfl⟩
   ·rw[H8 G,T];refine(p2.map strOf).trans ?_;rw[dH];exact D.append (.refl _)
theorem NS {a0:aw->aD->Prop}(a:aw)(h:a0 (.ref s.heap.objs.size) { s with heap:=s.heap.push { cls:=.type "set",dict:=ag,data:=.set #[] 0 (.fresh 0 0 (!w.params.followText "set-order")) } }):
  j' (aV prog w) A (.call (.builtin "set.__new__") ⟨[.type "set",a],[]⟩) (rF a0 E) s:=by
 refine ud ?_;show aA _ A.in1 (do ue "set.__new__" ⟨[.type "set",a],[]⟩;again (.builtin "set.__new__" ⟨[.type "set",a],[]⟩)) _ _ s;refine wB (nj (F.newCall_set_1 a) (aC ⟨oH F.plain_set_new _,kb F.entry_set_new ?_⟩));rw[mu F.plain_set_new _];unfold Builtin.«set.__new__» H9;have B:=sub_set_self;obtain⟨D,g,d,W,os⟩:=s;dsimp only
 wp_walk
 refine pU (aC ?_);dsimp only;simp only[newObj];refine wB (t9 (aC ?_));exact aC h
def NW:ue "set.__new__" ⟨[.type "set"],[]⟩=pure ():=by kernel_rfl
def NX {a0:aw->aD->Prop}(h:a0 (.ref s.heap.objs.size) { s with heap:=s.heap.push { cls:=.type "set",dict:=ag,data:=.set #[] 0 (.fresh 0 0 (!w.params.followText "set-order")) } }):
  j' (aV prog w) A (.call (.builtin "set.__new__") ⟨[.type "set"],[]⟩) (rF a0 E) s:=by
 refine ud ?_;show aA _ A.in1 (do ue "set.__new__" ⟨[.type "set"],[]⟩;again (.builtin "set.__new__" ⟨[.type "set"],[]⟩)) _ _ s;refine wB (nj NW (aC ⟨oH F.plain_set_new _,kb F.entry_set_new ?_⟩));rw[mu F.plain_set_new _];unfold Builtin.«set.__new__» H9;have B:=sub_set_self;obtain⟨D,g,d,W,os⟩:=s;dsimp only
 wp_walk
 refine pU (aC ?_);dsimp only;simp only[newObj];refine wB (t9 (aC ?_));exact aC h
def Dz:kH w (h.push { cls:=.type "set",dict:=ag,data:=.set #[] 0 (.fresh 0 0 (!w.params.followText "set-order")) }) h.objs.size []:=
 ⟨_,#[],0,_,cV _ rfl,⟨rfl,rfl,rfl⟩,rfl,λe B=>by simp at B,by simp,by rfl,⟨rfl,by show 7<=7;decide,rfl⟩,λq=>absurd rfl q⟩
set_option maxHeartbeats 3200000 in
theorem NY {l:ay}{xs:ah au}{a0:aw->aD->Prop}(hh:A.handled=ag)(hl:s.heap.IsList l O)(b0:∀(i:ak) (v:aw),O[i]? =ae v->∃x t,xs[i]? =ae x/\v= .str x t)(c0:O.size=xs.length)(d0:xs.Nodup)(h3:xs.length<=3)(h:∀(H:aG) (W:ak),kH w H s.heap.objs.size xs->(∀b o,s.heap.get? b=ae o->H.get? b=ae o)->a0 (.ref s.heap.objs.size) { s with heap:=H,toks:=W }):
  aA (aV prog w) A (call (.type "set") [.ref l]) a0 E s:=by
 obtain⟨c,tl,i0⟩:=F.called_set.mro;have f:=F.called_set.made;have e0:=F.called_set.sub;refine uc (ud ?_);show aA _ _ (callAny (.type "set") _) _ _ _;refine aC ⟨Ia _ (by decide +kernel),kb F.entry_type_call ?_⟩;rw[Ib (Ic "set" [.ref l] []) rfl];have h1:=F.called_set.notType;have h2:=F.called_set.canCreate;have j0:=F.typeCall_set_1 (.ref l);repeat (any_goals (first |assumption |wp_step))
 generalize N:Ie 0 0 (!w.params.followText "set-order")=fr;refine xc (NS (.ref l) (E:=E) (a0:=λobj I=>obj= .ref s.heap.objs.size/\I={ s with heap:=s.heap.push { cls:=.type "set",dict:=ag,data:=.set #[] 0 fr } }) ⟨rfl,by rw[N]⟩) λr I j=>?_;cases r with
 |error e=>exact j
 |ok fl=>
  cases fl with
  |ret obj=>
   obtain⟨rfl,rfl⟩:=j;have hS:(s.heap.push { cls:=.type "set",dict:=ag,data:=.set #[] 0 fr }).get? s.heap.objs.size=ae { cls:=.type "set",dict:=ag,data:=.set #[] 0 fr }:=cV _ rfl;have hT:xb { s with heap:=s.heap.push { cls:=.type "set",dict:=ag,data:=.set #[] 0 fr } } (.ref s.heap.objs.size) "set":=⟨_,hS,rfl⟩;have m:kH w (s.heap.push { cls:=.type "set",dict:=ag,data:=.set #[] 0 fr }) s.heap.objs.size []:=by rw[<-N];exact Dz
   have D:fr=Ie 0 0 fr.led:=by rw[<-N];rfl
   generalize fr.led=led at D;subst D;have l0:=F.called_set.init.lookup;have m0:=F.called_set.init.bind (.ref s.heap.objs.size);repeat (any_goals (first |assumption |wp_step))
   refine xc (Ig (R:=rF (λr J=>r= .none/\∃H W,J={ s with heap:=H,toks:=W }/\
     kH w H s.heap.objs.size xs/\(∀b o,s.heap.get? b=ae o->H.get? b=ae o)) E) F.called_set.init.plain F.entry_set_init (check_set_init_1 hT ?_)) λY J B=>?_
   ·obtain⟨ol,V,R,nl,U⟩:=hl;obtain⟨g0,L,z,G⟩:=ol;simp only at R U;subst R;subst U;have NZ:(s.heap.push { cls:=.type "set",dict:=ag,data:=.set #[] 0 (.fresh 0 0 led) }).get? l=ae { cls:=.type "list",dict:=L,data:=.seq O nl,slots:=G }:=be _ V;have f0:=F.sub_list_set;have h0:=F.sub_list_frozenset;have k0:(lB "list" == lB "dict")=az:=by decide
    have S:(s.heap.push { cls:=.type "set",dict:=ag,data:=.set #[] 0 (.fresh 0 0 led) }).IsList l O:=⟨_,NZ,rfl,nl,rfl⟩;unfold Builtin.«set.__init__» noKeywords V9;generalize u:f6=PI
    wp_walk
    subst u;refine AY S ?_;refine bO (wpAny_runValue ?_);have X:l < s.heap.objs.size:=gL V;have Z:A.in1.in1.handled=ag:=by simp[hh]
    have hz:(s.heap.push { cls:=.type "set",dict:=ag,data:=.set #[] 0 (.fresh 0 0 led) }).objs.size=s.heap.objs.size+1:=j8 ..;have T:l≠(s.heap.push { cls:=.type "set",dict:=ag,data:=.set #[] 0 (.fresh 0 0 led) }).objs.size:=by
     rw[hz];exact jV (Bh X)
    refine NR (s:={ s with heap:=(s.heap.push { cls:=.type "set",dict:=ag,data:=.set #[] 0 (.fresh 0 0 led) }).push { cls:=.type "list_iterator",data:=.fields #[.ref l,.int 0 0] } }) Z T (by rw[hz];exact jV (jD _)) (Ah X) b0 c0 d0 h3 (λH W hk K=>?_) xs.length 0 _ s.toks (by lia) (cZ _) (λb o y y e=>e)
     ⟨_,cV _ rfl,rfl,rfl⟩ (S.push _) (by rw[uh];exact m.keep λo e=>be _ e)
    show aA _ _ _ _ _ _;refine aC ?_;show aA _ _ (ret dq) _ _ _;refine aC ⟨rfl,H,W,rfl,K,λb o e=>?_⟩;have hb:=gL e;exact hk b o (jV hb) (by rw[hz];exact jV (Bh hb)) (be _ (be _ e))
   ·cases Y with
    |error e=>exact B
    |ok M=>
     cases M with
     |ret r=>
      obtain⟨rfl,H,W,rfl,K,k⟩:=B;repeat (any_goals (first |assumption |wp_step))
      exact h _ _ K k
     |_=>exact B.elim
  |_=>exact j.elim
set_option maxHeartbeats 1000000 in
set_option maxRecDepth 100000 in
theorem N7 {a0:aw->aD->Prop}(h:a0 (.ref s.heap.objs.size) { s with heap:=s.heap.push { cls:=.type "set",dict:=ag,data:=.set #[] 0 (.fresh 0 0 (!w.params.followText "set-order")) } }):
  aA (aV prog w) A (call (.type "set") []) a0 E s:=by
 obtain⟨c,Y,N⟩:=F.called_set.mro;have L:=F.called_set.made;have M:=F.called_set.sub;refine uc (ud ?_);show aA _ _ (callAny (.type "set") _) _ _ _;refine aC ⟨Ia _ (by decide +kernel),kb F.entry_type_call ?_⟩;rw[Ib (Ic "set" [] []) rfl];have W:=F.called_set.notType;have X:=F.called_set.canCreate;have V:=F.typeCall_set_0;repeat (any_goals (first |assumption |wp_step))
 generalize I:(!w.params.followText "set-order")=led at h;refine xc (NX (E:=E) (a0:=λobj D=>obj= .ref s.heap.objs.size/\D={ s with heap:=s.heap.push { cls:=.type "set",dict:=ag,data:=.set #[] 0 (.fresh 0 0 led) } }) ⟨rfl,by rw[I]⟩) λr D K=>?_;cases r with
 |error e=>exact K
 |ok R=>
  cases R with
  |ret obj=>
   obtain⟨rfl,rfl⟩:=K;have T:(s.heap.push { cls:=.type "set",dict:=ag,data:=.set #[] 0 (.fresh 0 0 led) }).get? s.heap.objs.size=ae { cls:=.type "set",dict:=ag,data:=.set #[] 0 (.fresh 0 0 led) }:=cV _ rfl;have U:xb { s with heap:=s.heap.push { cls:=.type "set",dict:=ag,data:=.set #[] 0 (.fresh 0 0 led) } } (.ref s.heap.objs.size) "set":=⟨_,T,rfl⟩;have O:=F.called_set.init.lookup;have S:=F.called_set.init.bind (.ref s.heap.objs.size);repeat (any_goals (first |assumption |wp_step))
   refine xc (Ig (R:=rF (λr G=>r= .none/\a0 (.ref s.heap.objs.size) G) E) F.called_set.init.plain F.entry_set_init (check_set_init U ?_)) λJ G B=>?_
   ·unfold Builtin.«set.__init__» noKeywords
    wp_walk
    exact⟨rfl,h⟩
   ·cases J with
    |error e=>exact B
    |ok H=>
     cases H with
     |ret r=>
      obtain⟨rfl,Z⟩:=B;repeat (any_goals (first |assumption |wp_step))
     |_=>exact B.elim
  |_=>exact K.elim
def kH.rel {xs:ah au}(a0:Inv X B I h)(hS:h.get? S=ag)(h3:xs.length<=3)(x:kH X.w H S xs):aF X B H (.cL xs) (.ref S):=by
 obtain⟨o,G,J,t,a,b,c,d,e,f,g,i⟩:=x;obtain⟨E,F⟩:=a0.fresh hS;have D:=e.length_eq;simp at D;exact⟨⟨E,F,a,b,c,⟨_,e,NQ d,f,by exact TT (EL D) h3,i,g.led⟩⟩⟩
def sm {l:ah AV}:∀{xs:ah au},strsOf l=ae xs->l=xs.map .str:=by
 induction l with
 |nil=>exact λe=>dp e ▸ rfl
 |cons x l D=>cases x with
  |str i=>
   intro ns e;obtain⟨E,B,rfl⟩:=jZ.mp e;rw[D B];rfl
  |_=>exact λe=>gh e
def N8 (a0:Inv X B I h)(hh:A.handled=ag)(ra:aT X B h T V)(rk:cq X B h kw kvs):aW X A [] (RV X) B I h (call (.type "set") V kvs) (jI F T kw .set):=by
 intro z W Q E D;obtain⟨rfl,D⟩:=gZ rk D;cases ra with
 |nil=>
  have D:aL X z [] B h (RV X) Q E (.ok (.cL [])) I:=D;exact N7 (s:=sh z h W) (D _ _ _ _ (.refl _) (a0.push _) (Go.push ..) _ (Dz.rel a0 (eU h) (by simp)))
 |cons Y Z=>
  obtain⟨x,v,q,o,D⟩:=jm (.cons Y Z) D;rw[q];obtain⟨i,q,D⟩:=iw D;subst q;obtain⟨e⟩:=o;obtain⟨l,U,D⟩:=gW D;obtain⟨G,u,D⟩:=c9 D;obtain⟨⟨J,R⟩,D⟩:=a6 D;have D:aL X z [] B h (RV X) Q E (.ok (.cL G)) I:=D;obtain⟨O,n,f,K,len,_⟩:=ez a0 U e;rw[sm u]at K len;refine NY (s:=sh z h W) (O:=O.toArray) (xs:=G) hh f.isList (λj v N=>?_) (by rw[cG,len,aO]) J R λH k b M=>?_
  ·have L:j < G.length:=by
    rw[<-aO (f:=AV.str),<-len];exact(cF.mp (show O[j]? =ae v by simpa using N)).1
   obtain⟨w,S,t,q⟩:=K.get (i:=j) (x:=.str G[j]) (by rw[dA,cy L];rfl);rw[show O[j]? =ae v by simpa using N]at S;exact⟨_,t,cy L,(dp S).trans q⟩
  ·exact D _ _ _ _ (.refl _) (a0.keeps M) (Go.keeps X B M []) _ (b.rel a0 (eU h) R)
def Inv.DB {b0:AO}(a0:Inv X B I h)(hi:I[i]? =ae ao)(ha:B[i]? =ae a)(hk:∀b o,b≠a->h.get? b=ae o->H.get? b=ae o)(he:H.get? a=ae o')(hf:o'.isFreed=az)(b:OB X B h b0 o')(ex:ah ay)(hq:jg ao=aj->jg b0=aj:=by intro q0;cases q0):
  Inv X B (I.set i b0) H/\Go X ex B h B H:=by
 obtain⟨o,G,_⟩:=a0.obj i ao a hi ha;obtain g:=iH (λu=>o') G hf;obtain D:=dY h a (λu=>o');obtain⟨E,J⟩:=a0.change hi ha D g b ex hq;obtain kk:∀b o,(h.update a (λu=>o')).get? b=ae o->H.get? b=ae o:=λb F e=>by
  by_cases q:b=a
  ·subst q;rw[g]at e;cases e;exact he
  ·exact hk b F q ((D.2 b q).symm.trans e)
 exact⟨E.keeps kk,J.trans (Go.keeps X B kk ex)⟩
def next_item {it l:ay}{x:aw}{a0:ax aw->aD->Prop}(ho:s.heap.get? it=ae o)(hc:o.cls= .type "list_iterator")(hd:o.data= .fields #[.ref l,.int i 0])(hl:s.heap.IsList l O)(hx:O[i]? =ae x)(hQ:∀H o',H.get? it=ae o'->o'.cls= .type "list_iterator"->o'.data= .fields #[.ref l,.int (i+1:ak) 0]->fm it s.heap H->a0 (ae x) { s with heap:=H }):
  aA (aV prog w) A (hX (.ref it)) a0 E s:=by
 unfold pyNext;refine wB (nv (ya ho hc hd hl hx λH o' a b c d=>?_));exact aC (hQ H o' a b c d)
def next_end {o:Obj}{it l:ay}{a0:ax aw->aD->Prop}(hh:A.handled=ag)(ho:s.heap.get? it=ae o)(hc:o.cls= .type "list_iterator")(hd:o.data= .fields #[.ref l,.int i 0])(hl:s.heap.IsList l O)(hx:O[i]? =ag)(hQ:∀H o',H.get? it=ae o'->o'.cls= .type "list_iterator"->o'.data= .fields #[.none,.int i 0]->(∀b o,b≠it->s.heap.get? b=ae o->H.get? b=ae o)->a0 ag { s with heap:=H }):
  aA (aV prog w) A (hX (.ref it)) a0 E s:=by
 unfold pyNext;refine wB (nv (yb hh ho hc hd hl hx λB H e o' a b c d k u hx=>?_));obtain⟨J,I,G⟩:=hx;refine wB (mc (T:="StopIteration") (b:=aj) ⟨J,I,G⟩ oB ?_);exact aC (hQ H o' (k _ _ a) b c λD L K F=>k _ _ ((d.2 D K).trans F))
def N9 {o:Obj}{it:ay}{a0:ax aw->aD->Prop}{V:aZ aw}(hh:A.handled=ag)(ho:s.heap.get? it=ae o)(hc:o.cls= .type "list_iterator")(hd:o.data= .fields V)(h0:V[0]? =ae .none)(hQ:∀H,(∀b o,s.heap.get? b=ae o->H.get? b=ae o)->a0 ag { s with heap:=H }):
  aA (aV prog w) A (hX (.ref it)) a0 E s:=by
 unfold pyNext;refine wB (nv (CI hh ho hc hd h0 λH e k u B=>?_));obtain⟨D,G,F⟩:=B;refine wB (mc (T:="StopIteration") (b:=aj) ⟨D,G,F⟩ oB ?_);exact aC (hQ H k)
theorem Oa {a0 l:ay}{O:ah aw}(hh:A.handled=ag)(d0:l≠a0)(c0:S≠a0)(e0:S≠l)(hn:O.length<=10000):
  ∀(r k:ak) (h:aG) (b0:ah aw) (c:ak) (oI:Obj),O.length - k=r->k<=O.length->b0.length<=k->h.get? a0=ae oI->oI.cls= .type "list_iterator"->oI.data= .fields #[.ref l,.int k 0]->h.IsList l O.toArray->
   h.get? S=ae { cls:=.type "list",data:=.seq b0.toArray c }->
   (∀H c' so,(∀b o,b≠S->b≠a0->h.get? b=ae o->H.get? b=ae o)->H.get? a0=ae so->so.cls= .type "list_iterator"->so.data= .fields #[.none,.int O.length 0]->H.get? S=ae { cls:=.type "list",data:=.seq (b0++O.drop k).toArray c' }->R (.ok (.ret .none)) { s with heap:=H })->
   j' (aV prog w) A (.builtin "list.extend.loop" ⟨[.ref S,.ref a0,.none],[]⟩) R { s with heap:=h }:=by
 intro r;induction r with
 |zero=>
  intro k h b0 c oI E j G Y Z Q J V T;have D:k=O.length:=Ai j (H6 E);refine kb F.entry_extend_loop ?_;rw[mu F.plain_extend_loop _];show aA _ A.in1 (hX (.ref a0)>>=_) _ _ _;refine wB (next_end (s:={ s with heap:=h }) (show A.in1.handled=ag from hh) Y Z Q J (by simp;exact(EG D)) λH M a b c' d=>?_);refine aC (T H c M (λb o K X e=>d b o X e) a b (by rw[c',D]) ?_);rw[d S _ c0 V,D,Ih,fT]
 |succ r ih=>
  intro k h b0 c oI E j G Y Z Q J V T;have B:k < O.length:=H7 (by rw[E];exact Bg _);refine kb F.entry_extend_loop ?_;rw[mu F.plain_extend_loop _];show aA _ A.in1 (hX (.ref a0)>>=_) _ _ _;refine wB (next_item (s:={ s with heap:=h }) Y Z Q J (x:=O[k]) (by simp[B]) λH M a b c' d=>?_);obtain vw:H.get? S=ae { cls:=.type "list",data:=.seq b0.toArray c }:=(d.2 S c0).trans V;show aA _ A.in1 (mw S (·.push O[k])>>=_) _ _ _;refine wB (mx vw rfl ?_ (by rw[cG];show _<=2 ^ 24;exact TT G (CF 1 0 0 10000 0 16777216 B hn rfl)) (by rw[Ii,cG];show _<=2 ^ 24+1;exact CF 1 0 0 10000 1 16777217 (CH 0 0 1 0 G B) hn rfl));obtain W:=dY H S (bQ (·.push O[k]));obtain g:=iH (bQ (·.push O[k])) vw rfl;obtain⟨L,N⟩:∃L,bQ (·.push O[k]) { cls:=.type "list",data:=.seq b0.toArray c }={ cls:=.type "list",data:=.seq (b0++[O[k]]).toArray L }:=by
   refine⟨if (b0.toArray.push O[k]).size == b0.toArray.size then c else c+1,?_⟩;simp[bQ]
  rw[N]at g;refine aC ⟨oH F.plain_extend_loop _,ih (k+1) _ (b0++[O[k]]) L M (bZ Nat.pred E) (by exact B) (by simp;exact G) ((W.2 a0 c0.symm).trans a) b c' ?_ g λX c3 o2 e1 e2 e3 m z=>?_⟩
  ·obtain⟨f,q1,q2⟩:=J;exact⟨f,(W.2 l e0.symm).trans ((d.2 l d0).trans q1),q2⟩
  ·refine T X c3 o2 (λU o3 K u e=>e1 U o3 K u ((W.2 U K).trans ((d.2 U u).trans e))) e2 e3 m ?_;rw[z,jY,oz B];rfl
theorem DC {a0:aw->aD->Prop}{it:ay}(ho:s.heap.get? it=ae o)(hc:o.cls= .type "list_iterator")(h:j' (aV prog w) A.in1 (.builtin "list.extend.loop" ⟨[.ref s.heap.objs.size,.ref it,.none],[]⟩) (rF (λr b0=>r= .none/\a0 (.ref s.heap.objs.size) b0) E)
   { s with heap:=(s.heap.push { cls:=.type "list",data:=.seq #[] }).update s.heap.objs.size (bQ (λc=>(#[]:aZ aw))) }):
  aA (aV prog w) A (call (.type "list") [.ref it]) a0 E s:=by
 have I:it≠s.heap.objs.size:=λe=>dP _ (e ▸ gL ho);refine callType_codes (Q₁:=λobj B=>obj= .ref s.heap.objs.size/\B={ s with heap:=s.heap.push { cls:=.type "list",data:=.seq #[] } }) F.called_list (F.typeCall_list_1 _) F.entry_list_init
  (code_list_new _ ⟨rfl,rfl⟩) λobj B H=>?_
 obtain⟨rfl,rfl⟩:=H;have J:(s.heap.push { cls:=.type "list",data:=.seq #[] }).get? s.heap.objs.size=ae { cls:=.type "list",data:=.seq #[] }:=cV _ rfl;refine⟨⟨_,J,rfl⟩,F.args_list_init_2 _ _,?_⟩;show aA _ A.in1.in1 (do let old <-GH (.ref s.heap.objs.size);tB (.ref s.heap.objs.size) (λu=>#[]);letGo old.toList.reverse;Ij (.ref s.heap.objs.size) (.ref it) .none) _ _ _;refine wB ?_;unfold Builtin.List.listItems;refine wB (j4 J rfl (aC ?_));show aA _ A.in1.in1 (mw s.heap.objs.size (λu=>#[])>>=λu=>letGo (#[]:aZ aw).toList.reverse>>=λu=>Ij (.ref s.heap.objs.size) (.ref it) .none) _ _ _;refine wB (mx J rfl ?_);refine wB (hY ?_);have D:xb { s with heap:=(s.heap.push { cls:=.type "list",data:=.seq #[] }).update s.heap.objs.size (bQ (λu=>(#[]:aZ aw))) } (.ref it) "list_iterator":=
  ⟨o,((dY ..).2 it I).trans (be _ ho),hc⟩
 unfold Builtin.List.listExtendWith;refine bO (wpAny_typeOf D ?_);have K:Ik (.ref s.heap.objs.size) (.ref it)=az:=by simp[Ik,I.symm]
 rw[aK (by rw[K];decide)];refine wB (oA D j6 (gw j6 D ru ?_ (rz _)));refine aC ⟨_,rfl,"list_iterator",_,D,j3.lookup,?_⟩;refine bO (eA ?_);unfold Builtin.List.listLengthHint;refine bO (rG D F.nolen_li ?_);show aA _ A.in1.in1 (specialOf (gu it) (aq "__length_hint__")>>=_) _ _ _;refine bO (rG D F.hint_li ?_)
 (generalize G:("list_iterator.__length_hint__":aI)=DD;(fail_if_success (clear G DD));wp_delta;rw[show splitId DD=ae ("list_iterator","__length_hint__") from by subst G;decide +kernel];subst G)
 refine bO (mc (b:=aj) D (by rw[rj];kernel_rfl) ?_);refine aC ?_;rw[aK (by decide)];exact aC ⟨oH F.plain_extend_loop _,h⟩
set_option tactic.hygienic true in theorem Ob (a0 : Inv X B I h) (hh : A.handled = ag) (ra : aT X B h T V) (rk : cq X B h kw kvs) : aW X A [] (RV X) B I h (call (.type "list") V kvs) (jI F T kw .list) := by
 intro z W Q E hr;intros z W Q E _ hr;obtain (⟨x,v,rfl,hx,hr⟩):=jm ra hr;obtain⟨rfl,hr⟩:=gZ rk hr;obtain (⟨i,q,hr⟩):=iw hr;subst q;obtain⟨e⟩:=hx;rename_i a;obtain⟨ao,e1,hr⟩:=eV hr;obtain⟨o,eo,bo⟩:=a0.obj i ao a e1 e;have mN:h.get? h.objs.size=ag:=eU h;have gS:((h.push { cls:=.type "list",data:=.seq #[] }).update h.objs.size (bQ (λu=>(#[]:aZ aw)))).get? h.objs.size=ae { cls:=.type "list",data:=.seq #[] }:=
  iH (bQ (λu=>(#[]:aZ aw))) (cV _ rfl) rfl
 obtain sb:=dY (h.push { cls:=.type "list",data:=.seq #[] }) h.objs.size (bQ (λu=>(#[]:aZ aw)));have kp:∀b o,h.get? b=ae o->((h.push { cls:=.type "list",data:=.seq #[] }).update h.objs.size (bQ (λu=>(#[]:aZ aw)))).get? b=ae o:=λb o e=>by
  refine(sb.2 b λq=>?_).trans (be _ e);rw[q,mN]at e;cases e
 cases ao with
 |list l=>
  obtain⟨O,n,hl,rl,len,hlen⟩:=ez a0 e1 e;obtain⟨hg,hr⟩:=a6 hr;have hr:aL X z [] B h (RV X) Q E (.ok (.ref I.length)) (I++[.list l]):=hr;refine call_list_seq (s:=sh z h W) a (.inl rfl) hl rfl rfl (λH c' hk g=>?_) (by rw[cG];show _<=2 ^ 24;exact CF 0 0 0 4096 0 16777216 (EL len) hg rfl);obtain⟨I1,G1⟩:=a0.place hk mN g (ao:=.list l) ⟨O,c',rfl,rl,hlen⟩;exact hr _ _ _ _ (.refl _) I1 G1 _ (.ref (sj a0 _))
 |iter s k=>
  cases s with
  |none=>
   obtain⟨c,V,d,d0⟩:=bo;obtain⟨hg,hr⟩:=a6 hr;have hr:aL X z [] B h (RV X) Q E (.ok (.ref I.length)) (I++[.list []]):=hr;refine DC (s:=sh z h W) eo c ?_;refine kb PySem.F.entry_extend_loop ?_;rw[mu PySem.F.plain_extend_loop _];show aA _ A.in1.in1 (hX (.ref a)>>=_) _ _ _;refine bO (N9 (s:=sh z _ W) (show A.in1.in1.handled=ag from hh) (kp _ _ eo) c d d0 λH hk=>?_);intros H _ hk;obtain⟨I1,G1⟩:=a0.place (λb o e=>hk _ _ (kp _ _ e)) mN (hk _ _ gS) (ao:=.list []) ⟨[],0,rfl,.nil,by simp⟩;exact aC ⟨rfl,hr _ _ _ _ (.refl _) I1 G1 _ (.ref (sj a0 _))⟩
  |some s=>
   obtain⟨c,la,es,d⟩:=bo;obtain⟨l,e2,hr⟩:=gW hr;obtain⟨⟨Oc,DF⟩,hr⟩:=a6 hr;obtain⟨hg,hr⟩:=a6 (show(P.guard ((l.drop k).length<=4096)>>=λu=>P.alloc (.list (l.drop k))>>=λi=>P.pure (AV.ref i)).run (I.set i (.iter .none 0)) (aL X z [] B h (RV X) Q E) from hr);have hr:aL X z [] B h (RV X) Q E (.ok (.ref (I.set i (.iter .none 0)).length)) (I.set i (.iter .none 0)++[.list (l.drop k)]):=hr;obtain⟨O,m,hl,rl,len,_⟩:=ez a0 e2 es;obtain yE:la≠a:=λq=>by
    obtain⟨ol,q1,_,n,q2⟩:=hl.isList;rw[q,eo]at q1;cases q1;rw[d]at q2;cases q2
   obtain Od:h.objs.size≠a:=λq=>by rw[<-q,mN]at eo;cases eo
   obtain Oe:h.objs.size≠la:=λq=>by
    obtain⟨ol,q1,_⟩:=hl.isList;rw[<-q,mN]at q1;cases q1
   refine DC (s:=sh z h W) eo c ?_;refine Oa (s:=sh z h W) (O:=O) (show A.in1.handled=ag from hh) yE Od Oe (by exact CF 0 0 0 4096 0 10000 (EL len) DF rfl) (O.length - k) k _ [] 0 o rfl (by exact TT Oc (EG len)) (cZ _) (kp _ _ eo) c d (by
    obtain⟨ol,q1,q2⟩:=hl.isList;exact⟨ol,kp _ _ q1,q2⟩) gS λH c' so hk g1 g2 g3 g4=>?_
   refine⟨rfl,?_⟩;obtain b1:OB X B h (.list (l.drop k)) { cls:=.type "list",data:=.seq (O.drop k).toArray c' }:=⟨O.drop k,c',rfl,rl.drop k,by simp;exact CF 0 4096 10000 0 0 0 DF AL rfl⟩;obtain I1:=a0.alloc b1 rfl;obtain G1:=Go.alloc X [] B h { cls:=.type "list",data:=.seq (O.drop k).toArray c' };have ei:(I++[AO.list (l.drop k)])[i]? =ae (.iter (ae s) k):=by
    rw[lz (cF.mp e1).1];exact e1
   obtain ea:(B++[h.objs.size])[i]? =ae a:=Dd e;obtain fo:so.isFreed=az:=oq g3;obtain C9:∀b ob,b≠a->(h.push { cls:=.type "list",data:=.seq (O.drop k).toArray c' }).get? b=ae ob->H.get? b=ae ob:=by
    intro b ob hb eb;intros b ob _ hb eb;by_cases q:b=h.objs.size
    ·subst q;rw[cV _ rfl]at eb;cases eb
     simpa using g4
    ·refine hk b ob q hb (kp b ob ?_);exact(Bi _ _ _ q).symm.trans eb
   obtain⟨I2,G2⟩:=I1.DB (b0:=.iter .none 0) ei ea C9 g1 fo ⟨g2,_,g3,rfl⟩ [];obtain qj:i < I.length:=(cF.mp e1).1;rw[List.set_append_left _ _ qj]at I2;exact hr _ _ _ _ (.refl _) I2 (G1.trans G2) _ (.ref (by rw[eM,<-a0.len];simp))
 |_=>exact hr.elim
theorem eT.DH {k:aI}{e:ay}(x:eT k e h₀ h)(hk:∀a o V,h.get? a=ae o->o.data= .fields V->H.get? a=ae o):eT k e h₀ H:=by
 obtain⟨a,b,J,D⟩:=x;obtain (⟨o,V,F,I,E,G,B⟩):=D;refine⟨a,b,J,o,V,hk _ _ _ F E,I,E,G,?_⟩;rcases B with B |⟨T,oT,ts,d1,d2,d3,d4,d5,d6,d7⟩
 ·exact .inl B
 ·exact .inr ⟨T,oT,ts,d1,d2,d3,hk _ _ _ d4 d6,d5,d6,d7⟩
def Of {b0:ax aw->aD->Prop}(r:bP X B h own ai it)(a0:Inv X B I h)(hh:A.handled=ag)(hr:(bx ai).run I λc0 Z=>match c0 with
   |.ok (ae (x0,d0))=>∀H t' v,Inv X B Z H->Dr own B h H->bP X B H own d0 it->aF X B H x0 v->b0 (ae v) (sh z H t')
   |.ok .none=>∀H t',Inv X B Z H->Dr own B h H->b0 ag (sh z H t')
   |.err _=>dm):aA (MX X) A (hX it) b0 E (sh z h W):=by
 unfold pyNext;refine wB (nv (draw (I:=I) r a0 hh ((bx ai).mono (λc0 Z y=>?_) hr)));cases c0 with
 |err k=>exact y
 |ok p=>cases p with
  |none=>
   intro H e F D O ex M;obtain⟨o,L,K⟩:=M;refine wB (mc (T:="StopIteration") (b:=aj) ⟨o,L,K⟩ oB ?_);exact aC (y H W F D)
  |some p=>
   obtain⟨x,d0⟩:=p;intro H t' v F D G J;exact aC (y H t' v F D G J)
def Og (a0:Inv (X.more [S]) B I h)(hS:S∉B)(hB:X.base.get? S=ag):eG (X.more [S]) B h [S]:=λc D=>by
 rw[aJ.mp D];exact⟨hS,hB,.inl (by show S∈[S]++X.bad;simp)⟩
def DJ {g:aB}(l:ah aw)(kw:ah (au×aw)):(oG (lp g) ⟨l,kw⟩).quiet=aj:=by
 cases g
 ·exact oH PySem.F.plain_min_loop _
 ·exact oH PySem.F.plain_max_loop _
def Oh {n:Int}{t tb:cK}{a0:aw->aD->Prop}(h:a0 (.bool (decide (n < b))) s):aA (aV prog w) A (tJ .Lt (.int n t) (.int b tb)) a0 E s:=
 CmpOf.ints_lt (P:=λj w=>if j=0 then w= .int n t else w= .int b tb) (λj=>if j=0 then n else b) (λj w B=>by by_cases D:j=0 <;>simp[D]at B |- <;>exact⟨_,B⟩) 0 1 _ _ _ _ _ (by simp) (by simp) (by simpa using h)
def Oi {n:Int}{t tb:cK}{a0:aw->aD->Prop}(h:a0 (.bool (decide (b < n))) s):aA (aV prog w) A (tJ .Gt (.int n t) (.int b tb)) a0 E s:=
 CmpOf.ints_gt (P:=λj w=>if j=0 then w= .int n t else w= .int b tb) (λj=>if j=0 then n else b) (λj w B=>by by_cases D:j=0 <;>simp[D]at B |- <;>exact⟨_,B⟩) 0 1 _ _ _ _ _ (by simp) (by simp) (by simpa using h)
set_option maxHeartbeats 1000000 in
theorem Oj {g:aB}{d:aw}{q:ay}{old:ax (aw×Int×cK)}{c:ak}(gS:s.heap.get? S=ae (bC "list" (qf old) c))(h:aA (aV prog w) A.in1 (hX it) (λo s1=>∃c,s1.heap.get? S=ae (bC "list" (qf old) c)/\match o with
   |none=>old.elim (∀t,R (.ok (.ret d)) { s1 with toks:=t }) λp=>R (.ok (.ret p.1)) (upd s1 S #[])
   |some x0=>aA (aV prog w) A.in1 (call (.ref q) [x0]) (λy s2=>∃n t c,y= .int n t/\s2.heap.get? S=ae (bC "list" (qf old) c)/\
     j' (aV prog w) A (.builtin (lp g) ⟨[it,.ref q,.ref S],[(aq "default",d)]⟩) R (if rW g n old then upd s2 S #[x0,.int n t]else s2))
    (λe s2=>∃c,s2.heap.get? S=ae (bC "list" (qf old) c)/\R (.error e) (upd s2 S #[])) s1) (λ_ _=>dm) s):
  j' (aV prog w) A (.builtin (lp g) ⟨[it,.ref q,.ref S],[(aq "default",d)]⟩) R s:=by
 obtain E:=DJ (g:=g) [it,.ref q,.ref S] [(aq "default",d)];have D:(qf old).size<=Bb:=by rw[fG];cases old <;>exact iY rfl
 cases g
 ·refine kb PySem.F.entry_min_loop ?_;rw[show A.under (.builtin (lp az) ⟨[it,.ref q,.ref S],[(aq "default",d)]⟩)=A.in1 from mu PySem.F.plain_min_loop _];show aA _ A.in1 (q9 (.ref S)>>=_) _ _ _;refine wB (j4 gS rfl ?_);show aA _ A.in1 (tryCatch (hX it) _>>=_) _ _ _;refine wB (rH (eB h (λo s1 h=>?_) λu u q=>q.elim));obtain⟨J,H,h⟩:=h;cases o with
  |none=>
   cases old with
   |none=>exact wB (gN (aC (h _)))
   |some p=>
    show aA _ A.in1 (mw S (λu=>#[])>>=_) _ _ _;exact wB (mx H rfl (hz:=D) (wB (hY (aC h))))
  |some x=>
   show aA _ A.in1 (tryCatch (ly [x] (call (.ref q) [x])) _>>=_) _ _ _;refine wB (rH (eA (eB h (λy s2 h=>?_) λe s2 h=>?_)))
   ·obtain⟨n,t,G,rfl,B,h⟩:=h;cases old with
    |none=>
     show aA _ A.in1 (mw S (λu=>#[x,.int n t])>>=_) _ _ _;exact wB (mx B rfl (hz:=D) (aC ⟨E,h⟩))
    |some p=>
     obtain⟨I,b,F⟩:=p;show aA _ A.in1 (tryCatch (ly [x,.int n t] (tJ .Lt (.int n t) (.int b F)>>=_)) _>>=_) _ _ _;refine wB (rH (eA (wB (Oh ?_))));refine wB (eA (qM (wB (hY (aC ?_)))));rw[show rW az n (ae (I,b,F))=decide (n < b) from rfl]at h;generalize decide (n < b)=y at h |-;cases y with
     |true=>
      rw[aN rfl]at h;show aA _ A.in1 (mw S (λu=>#[x,.int n t])>>=_) _ _ _;exact wB (mx B rfl (hz:=D) (wB (hY (aC ⟨E,h⟩))))
     |false=>
      rw[aK jd]at h;exact wB (hY (aC ⟨E,h⟩))
   ·obtain⟨G,B,h⟩:=h;show aA _ A.in1 (mw S (λu=>#[])>>=_) _ _ _;exact wB (mx B rfl (hz:=D) (wB (hY (tR h))))
 ·refine kb PySem.F.entry_max_loop ?_;rw[show A.under (.builtin (lp aj) ⟨[it,.ref q,.ref S],[(aq "default",d)]⟩)=A.in1 from mu PySem.F.plain_max_loop _];show aA _ A.in1 (q9 (.ref S)>>=_) _ _ _;refine wB (j4 gS rfl ?_);show aA _ A.in1 (tryCatch (hX it) _>>=_) _ _ _;refine wB (rH (eB h (λo s1 h=>?_) λu u q=>q.elim));obtain⟨J,H,h⟩:=h;cases o with
  |none=>
   cases old with
   |none=>exact wB (gN (aC (h _)))
   |some p=>
    show aA _ A.in1 (mw S (λu=>#[])>>=_) _ _ _;exact wB (mx H rfl (hz:=D) (wB (hY (aC h))))
  |some x=>
   show aA _ A.in1 (tryCatch (ly [x] (call (.ref q) [x])) _>>=_) _ _ _;refine wB (rH (eA (eB h (λy s2 h=>?_) λe s2 h=>?_)))
   ·obtain⟨n,t,G,rfl,B,h⟩:=h;cases old with
    |none=>
     show aA _ A.in1 (mw S (λu=>#[x,.int n t])>>=_) _ _ _;exact wB (mx B rfl (hz:=D) (aC ⟨E,h⟩))
    |some p=>
     obtain⟨I,b,F⟩:=p;show aA _ A.in1 (tryCatch (ly [x,.int n t] (tJ .Gt (.int n t) (.int b F)>>=_)) _>>=_) _ _ _;refine wB (rH (eA (wB (Oi ?_))));refine wB (eA (qM (wB (hY (aC ?_)))));rw[show rW aj n (ae (I,b,F))=decide (b < n) from rfl]at h;generalize decide (b < n)=y at h |-;cases y with
     |true=>
      rw[aN rfl]at h;show aA _ A.in1 (mw S (λu=>#[x,.int n t])>>=_) _ _ _;exact wB (mx B rfl (hz:=D) (wB (hY (aC ⟨E,h⟩))))
     |false=>
      rw[aK jd]at h;exact wB (hY (aC ⟨E,h⟩))
   ·obtain⟨G,B,h⟩:=h;show aA _ A.in1 (mw S (λu=>#[])>>=_) _ _ _;exact wB (mx B rfl (hz:=D) (wB (hY (tR h))))
def Ol (a v d:aw):pT "min" ⟨[a],[(aq "default",d),(aq "key",v)]⟩:=by unfold argsOk;kernel_rfl
def Om (a v d:aw):pT "max" ⟨[a],[(aq "default",d),(aq "key",v)]⟩:=by unfold argsOk;kernel_rfl
def Oo {g:aB}{n:Int}{t:cK}{old:ax (Int×AV)}{ov:ax (aw×Int×cK)}(rx:aF X B h x v)(ro:qg X B h old ov):
  qg X B h (ae (uG g n x old)) (if rW g n ov then ae (v,n,t)else ov):=by
 cases old with
 |none=>rw[show ov=ag from ro];exact⟨v,t,rfl,rx⟩
 |some p=>
  obtain⟨w,u,rfl,D⟩:=ro;show qg X B h (ae (if (if g then decide (p.1 < n)else decide (n < p.1))then (n,x)else p)) (if (if g then decide (p.1 < n)else decide (n < p.1))then _ else _);generalize (if g then decide (p.1 < n)else decide (n < p.1))=b;cases b with
  |true=>exact⟨v,t,rfl,rx⟩
  |false=>exact⟨w,u,rfl,D⟩
theorem Oq {X:Cx}{k0:St}{a0:aw->aD->Prop}{kk dd:AV}{q:ay}{d:aw}{g:aB}(C:cn X)(hF:∀X,cn X->HF X F k)(I0:Inv X B k0 h)(ar:Ar X k (20 * k+36) A l B h)(d0:∀v s,a0 v s->R (.ok (.ret v)) s)(r0:∀e s,E e s->R (.error e) s)(e0:h.get? S=ag)(rk:aF X B h kk (.ref q))(rd:aF X B h dd d)(n:ak):
  ∀(ai:AI) (z1:aD) (b0:ah ay) (c0:St) (h1:aG) (t1:ak) (old:ax (Int×AV)) (ov:ax (aw×Int×cK)) (c:ak),Zs z z1->Inv (X.more [S]) b0 c0 h1->Go X [] B h b0 h1->bP (X.more [S]) b0 h1 [] ai (.ref a)->S∉b0->
   h1.get? S=ae (bC "list" (qf ov) c)->qg (X.more [S]) b0 h1 old ov->(oQ F kk dd g n ai old).run c0 (aL X z [] B h (RV X) a0 E)->
   j' (MX X) A (.builtin (lp g) ⟨[.ref a,.ref q,.ref S],[(aq "default",d)]⟩) R (sh z1 h1 t1):=by
 obtain f0:X.base.get? S=ag:=I0.ey e0;induction n with
 |zero=>exact λb b b b b b b b b b b b b b b b hr=>hr.elim
 |succ n ih=>
  intro ai z1 b0 c0 h1 t1 old ov c Z1 I1 G1 r1 hS gS ro hr;have D:∀{M:ah ay} {T:St} {L:aG} {xs:aZ aw} {c:ak} (ys:aZ aw),Inv (X.more [S]) M T L->Go X [] B h M L->S∉M->L.get? S=ae (bC "list" xs c)->
    Inv (X.more [S]) M T (L.update S (bQ λb=>ys))/\Go X [] B h M (L.update S (bQ λb=>ys))/\Dr [S] M L (L.update S (bQ λb=>ys))/\eG (X.more [S]) M L [S]:=@λM T L xs c ys f G5 o0 g5=>by
   obtain sb:=dY L S (bQ λb=>ys);obtain g:=iH (bQ λb=>ys) g5 rfl;obtain O:=Og f o0 f0;obtain D:Dr [S] [] L (L.update S (bQ λb=>ys)):=Dr.same (.head _) sb g;exact⟨f.dr O D,G5.dr D.widen λc hc=>by rw[aJ.mp hc];exact e0,D.widen,O⟩
  refine Oj gS (eB (Of (X:=X.more [S]) (I:=c0) (z:=z1) (W:=t1) (E:=λb b=>dm) (b0:=λo s'=>∃J Z H t',s'=sh z1 H t'/\Inv (X.more [S]) b0 Z H/\Dr [] b0 h1 H/\match o with
   |none=>aL X z [] B h (RV X) a0 E (.ok (old.elim dd (·.2))) Z
   |some vx=>J=b0/\∃x Y,bP (X.more [S]) b0 H [] Y (.ref a)/\aF (X.more [S]) b0 H x vx/\(F kk [x] []>>=λr=>dF r>>=λi=>oQ F kk dd g n Y (ae (uG g i x old))).run Z (aL X z [] B h (RV X) a0 E)) r1 I1 (show A.in1.handled=ag from ar.handled)
    ((bx ai).mono (λl0 T y5=>?_) (yk ai (show(bx ai).run c0 _ from hr)))) (λo s1 x=>?_) λb b q=>q)
  ·cases l0 with
   |err kx=>exact y5
   |ok o=>cases o with
    |none=>exact λH t' I' D'=>⟨b0,T,H,t',rfl,I',D',y5⟩
    |some p=>exact λH t' v I' D' r' rv=>⟨b0,T,H,t',rfl,I',D',rfl,p.1,p.2,r',rv,y5⟩
  ·obtain⟨_,T,L,t5,rfl,f,D5,y⟩:=x;obtain G5:Go X [] B h b0 L:=G1.dr D5 λc hc=>nomatch hc;obtain U:=D5.keep _ _ gS pO hS;refine⟨c,U,?_⟩;cases o with
   |none=>
    obtain⟨I6,G6,D6,O6⟩:=D #[] f G5 hS U;cases old with
    |none=>
     rw[show ov=ag from ro];exact λt=>d0 _ _ (y z1 b0 L t Z1 f.less G5 _ (rd.step G5.step))
    |some p=>
     obtain⟨v,t,q,rv⟩:=ro;rw[q];exact d0 _ _ (y z1 b0 _ t5 Z1 I6.less G6 _ ((rv.dr D5 r1.gj).dr D6 O6).less)
   |some vx=>
    obtain⟨_,x,Y,r5,rx,y⟩:=y;have i0:qg (X.more [S]) b0 L old ov:=by
     cases old with
     |none=>exact ro
     |some p=>exact ro.imp λb q=>q.imp λb q=>⟨q.1,q.2.dr D5 r1.gj⟩
    obtain n0:aF (X.more [S]) b0 L kk (.ref q):=(rk.more (j:=[S]) (λb hb=>by rw[aJ.mp hb];exact e0)).step (Go.more G5).step;obtain j0:Ar (X.more [S]) k (20 * k+30) A.in1 l b0 L:=((ar.step G5).in1 (by exact RR 31 36 rfl)).more;refine(hF (X.more [S]) C.more C.more j0 f n0 (.cons rx .nil) .nil).qo Z1 G5 (λb hm=>nomatch hm) y (λp z' J H t' K I G Gx e x=>?_) λz6 g0 h0 h6 t6 r vr Z6 I6 W G6 rr m=>?_
    ·obtain N:=Gx.seq U rfl hS (f.gX f0);obtain j:=Gx.step.dt U hS;obtain⟨I7,G7,D7,O7⟩:=D #[] I G j N;refine⟨c,N,r0 _ _ (p z' J _ t' K I7.less G7 e (x.DH λa o V ea da=>((dY H S (bQ λb=>(#[]:aZ aw))).2 a λq=>?_).trans ea))⟩;rw[q,N]at ea;cases ea;cases da
    ·obtain⟨i,q,m⟩:=jl m;subst q;obtain⟨t2,rfl⟩:=rr;obtain j:=W.step.dt U hS;obtain N:=W.seq U rfl hS (f.gX f0);have m0:qg (X.more [S]) g0 h6 old ov:=by
      cases old with
      |none=>exact i0
      |some p=>exact i0.imp λb q=>q.imp λb q=>⟨q.1,q.2.step (Go.more W).step⟩
     obtain p0:=rx.step (Go.more W).step;obtain r6:=r5.step f (Go.more W) (λb hc=>nomatch hc);refine⟨i,t2,c,rfl,N,?_⟩;obtain rb:=Oo (g:=g) (n:=i) (t:=t2) p0 m0;cases hb:rW g i ov with
     |false=>
      rw[hb]at rb;exact ih Y z6 g0 h0 h6 t6 _ ov c Z6 I6 G6 r6 j N rb m
     |true=>
      rw[hb]at rb;obtain⟨I7,G7,D7,O7⟩:=D #[vx,.int i t2] I6 G6 j N;obtain⟨c2,qr⟩:∃c2,(h6.update S (bQ λb=>#[vx,.int i t2])).get? S=ae (bC "list" #[vx,.int i t2] c2):=⟨_,ny N λb=>#[vx,.int i t2]⟩;obtain⟨w,u,q1,q2⟩:=rb;exact ih Y z6 g0 h0 _ t6 (ae (uG g i x old)) (ae (vx,i,t2)) c2 Z6 I7 G7 (r6.dr D7 (λb hc=>nomatch hc)) j qr ⟨w,u,q1,q2.dr D7 O7⟩ m
set_option tactic.hygienic true in theorem Ot {X : Cx} (C : cn X) (hF : ∀ X, cn X → HF X F k) (a0 : Inv X B I h) (ar : Ar X k (20 * k + 38) A l B h) (ra : aT X B h T V) (rk : cq X B h kw kvs) (g : aB) :
  aW X A [] (RV X) B I h (call (.builtin (JB g)) V kvs) (jI F T kw (.best g)):=by
 intro z W Q E hr;intros z W Q E _ hr;obtain (⟨x,v,rfl,hx,hr⟩):=jm ra hr;obtain (⟨dd,d,l1,ks,rfl,rd,rk,hr⟩):=vu rk hr;obtain (⟨kk,kv,l2,Wr,rfl,Ou,rk,hr⟩):=vu rk hr;obtain⟨rfl,hr⟩:=gZ rk hr;obtain (⟨i,q,hr⟩):=iw hr;subst q;obtain⟨e⟩:=hx;rename_i a;obtain (⟨m,q,hr⟩):=Dv hr;obtain q:kk= .ref m:=q;subst q;cases Ou with
 | @mk q ek=>
 obtain hr:(oQ F (.ref m) dd g 65 (.obj i) ag).run I (aL X z [] B h (RV X) Q E):=hr;obtain⟨s,kx,e1⟩:∃s kx,I[i]? =ae (.iter s kx):=by
  obtain (⟨o,e1,h2⟩):=eV (show(P.load i>>=λo=>match o with
   |.iter bq _=>P.pure bq
   |.iter (ae s) k=>(do
    let l <-lst s
    match l[k]? with
    |some v=>(do P.store i (.iter (ae s) (k+1));P.pure (ae (v,AI.obj i)))
    |Option.none=>(do P.store i (.iter bq 0);P.pure bq))
   |_=>P.fail).run I _ from hr)
  cases o with
  |iter s kx=>exact⟨s,kx,e1⟩
  |_=>exact h2.elim
 obtain hT:=vk (z:=z) (W:=W) a0 e1 e;obtain mN:h.get? h.objs.size=ag:=eU h;obtain gS:(h.push { cls:=.type "list",data:=.seq ([]:ah aw).toArray }).get? h.objs.size=ae (bC "list" #[] 0):=cV _ rfl
 set_option backward.match.sparseCases true in
 obtain fin:j' (MX X) A (.builtin (lp g) ⟨[.ref a,.ref q,.ref h.objs.size],[(aq "default",d)]⟩) (λr s'=>match r with |.ok (.ret v)=>Q v s' |.ok _=>dm |.error e=>E e s') (sh z (h.push { cls:=.type "list",data:=.seq ([]:ah aw).toArray }) W):=
  Oq C hF a0 (ar.less (a4 _) (by exact RR 36 38 rfl)) (λu u q=>q) (λu u q=>q) mN (.ref ek) rd 65 (.obj i) z B I _ W ag ag 0 (.refl z) (a0.more (λb o e=>be _ e) λb hb=>by rw[aJ.mp hb];exact⟨mN,_,gS⟩) (Go.push ..) (.obj e) (a0.fresh mN).1 gS rfl hr
 obtain hq:=DJ (g:=g) [.ref a,.ref q,.ref h.objs.size] [(aq "default",d)];cases g
 ·refine kmk_tree PySem.F.kind_min PySem.F.plain_min PySem.F.entry_min (Ol _ _ _) ?_;show aA _ A.in1 (Il "min" ["key","default"] 0 ⟨[],[(aq "default",d),(aq "key",.ref q)]⟩>>=_) _ _ _;refine wB (aC (a:=[ae (.ref q),ae d]) ?_);refine wB (aC ?_);refine wB (oA hT j6 (gw j6 hT ru ?_ (rz _)));refine aC ⟨_,rfl,"list_iterator",_,hT,j3.lookup,?_⟩;refine wB (oj ?_ (cZ _));exact aC ⟨hq,fin⟩
 ·refine kmk_tree PySem.F.kind_max PySem.F.plain_max PySem.F.entry_max (Om _ _ _) ?_;show aA _ A.in1 (Il "max" ["key","default"] 0 ⟨[],[(aq "default",d),(aq "key",.ref q)]⟩>>=_) _ _ _;refine wB (aC (a:=[ae (.ref q),ae d]) ?_);refine wB (aC ?_);refine wB (oA hT j6 (gw j6 hT ru ?_ (rz _)));refine aC ⟨_,rfl,"list_iterator",_,hT,j3.lookup,?_⟩;refine wB (oj ?_ (cZ _));exact aC ⟨hq,fin⟩
def DK {c0:ak->ak->(aB->aD->Prop)->aD->Prop}{lt:ak->ak->aB}{α:Type}(hc:∀i b0 C,i < n->b0 < n->i≠b0->C (lt i b0) s->c0 i b0 C s){a0:α->aD->Prop}{a:α}:
  ∀(t:KasT α),mH n lt t=ae a->a0 a s->t.kasWp c0 a0 s
 |.ret b,e,q=>by cases e;exact q
 |.ask i b0 k,e,q=>by
  have e:(if i < n/\b0 < n/\i≠b0 then mH n lt (k (lt i b0))else ag)=ae a:=e;by_cases h:i < n/\b0 < n/\i≠b0
  ·rw[aN h]at e;exact hc i b0 _ h.1 h.2.1 h.2.2 (DK hc (k (lt i b0)) e q)
  ·rw[aK h]at e;cases e
def DL {lt lt':ak->ak->aB}{α:Type}(h:∀i a0,i < n->a0 < n->lt i a0=lt' i a0):∀(t:KasT α),mH n lt t=mH n lt' t
 |.ret _=>rfl
 |.ask i a0 k=>by
  show(if i < n/\a0 < n/\i≠a0 then mH n lt (k (lt i a0))else ag)=(if i < n/\a0 < n/\i≠a0 then mH n lt' (k (lt' i a0))else ag);by_cases q:i < n/\a0 < n/\i≠a0
  ·rw[aN q,aN q,h i a0 q.1 q.2.1];exact DL h _
  ·rw[aK q,aK q]
def DO:∀(r:ah ak),(∀x∈r,x < 4)->r∈ranks r.length:=by
 intro l;induction l with
 |nil=>
  intro _;exact .head _
 |cons x r B=>
  intro h;have:=B λy D=>h y (.tail _ D);have E:=h x (.head _);show _∈(ranks r.length).flatMap _;rw[List.mem_flatMap];refine⟨r,this,?_⟩;have:x=0\/x=1\/x=2\/x=3:=by lia
  rcases this with rfl |rfl |rfl |rfl <;>simp
def Ov:(ranks 2).all (rX 2)=aj:=by decide +kernel
def Ow:(ranks 3).all (rX 3)=aj:=by decide +kernel
def Ox:(ranks 4).all (rX 4)=aj:=by decide +kernel
def Oy {r:ah ak}(h2:2<=n)(h4:n<=4)(hr:r.length=n)(hx:∀x∈r,x < 4):rX n r=aj:=by
 obtain B:=DO r hx;rw[hr]at B;have:n=2\/n=3\/n=4:=by lia
 rcases this with rfl |rfl |rfl
 ·exact bW.mp Ov r B
 ·exact bW.mp Ow r B
 ·exact bW.mp Ox r B
def yF {α:Type}{p q:α->aB}:∀{l:ah α},(∀x∈l,p x=aj->q x=aj)->∀{a:α},a∈l->q a=aj->p a=az->l.countP p < l.countP q:=by
 intro l;induction l with
 |nil=>
  intro _ a B _ _;exact nomatch B
 |cons b l I=>
  intro h a B G F;rw[uj,uj];obtain H:=Im (l:=l) (p:=p) (q:=q) λx D=>h x (.tail _ D);rcases bu.mp B with rfl |B
  ·rw[G,F];simp;exact FI 0 0 1 1 H rfl
  ·have:=I (λx D=>h x (.tail _ D)) B G F;obtain J:=h b (.head _);cases E:p b with
   |true=>rw[J E];simp;exact this
   |false=>cases q b <;>simp <;>lia
def nM.rank {α:Type}{lt:α->α->aB}(a0:nM lt){l:ah α}{x y:α}(hx:x∈l):lt x y=decide (iu lt l x < iu lt l y):=by
 cases h:lt x y with
 |true=>
  have:=yF (p:=λz=>lt z x) (q:=λz=>lt z y) (l:=l) (λz u B=>a0.trans _ _ _ B h) hx h (a0.uU x);exact(i7 this).symm
 |false=>
  have:=Im (l:=l) (p:=λz=>lt z y) (q:=λz=>lt z x) λz u B=>by
   rcases a0.neg z x y B with q |q
   ·exact q
   ·rw[h]at q;cases q
  exact(pJ (oa.mpr this)).symm
def lQ {α β:Type}{lt:α->α->aB}{lt':β->β->aB}(f:β->α):∀(l:ah β),(∀x∈l,∀y∈l,lt (f x) (f y)=lt' x y)->sortBy lt (l.map f)=(sortBy lt' l).map f/\∀x∈sortBy lt' l,x∈l
 | [],_=>⟨rfl,λu h=>h⟩
 |x :: l,h=>by
  obtain⟨I,G⟩:=lQ f l λa H b J=>h a (.tail _ H) b (.tail _ J);have D:∀(m:ah β),(∀y∈m,y∈l)->sortBy.cf lt (f x) (m.map f)=(sortBy.cf lt' x m).map f/\∀y∈sortBy.cf lt' x m,y=x\/y∈m:=by
   intro m;induction m with
   |nil=>intro _;exact⟨rfl,λy K=>.inl (aJ.mp K)⟩
   |cons y m E=>
    intro F;obtain⟨a,b⟩:=E λz B=>F z (.tail _ B);rw[f9];rw[show sortBy.cf lt (f x) (f y :: m.map f)=(if lt (f y) (f x)=aj then f y :: sortBy.cf lt (f x) (m.map f)else f x :: f y :: m.map f) from rfl,show sortBy.cf lt' x (y :: m)=(if lt' y x=aj then y :: sortBy.cf lt' x m else x :: y :: m) from rfl];rw[h y (.tail _ (F y (.head _))) x (.head _)];cases lt' y x with
    |true=>
     simp only[jB];refine⟨by rw[a,f9],λz B=>?_⟩;rcases bu.mp B with rfl |B
     ·exact .inr (.head _)
     ·exact(b z B).imp id λq=>.tail _ q
    |false=>
     simp only[ja,jb];refine⟨by simp,λz B=>?_⟩
     simpa using B
  obtain⟨a,b⟩:=D (sortBy lt' l) G;refine⟨?_,λz B=>?_⟩
  ·rw[f9];show sortBy.cf lt (f x) (sortBy lt (l.map f))=_;rw[I,a];rfl
  ·rcases b z B with rfl |q
   ·exact .head _
   ·exact .tail _ (G z q)
def Oz {α:Type}{lt:α->α->aB}(a0:nM lt)(l:ah α)(h2:2<=l.length)(h4:l.length<=4)(d:α):∃p:aZ ak,mH l.length (λi b0=>lt (l.getD i d) (l.getD b0 d)) (kas_sort l.length)=ae p/\p.toList.map (λi=>l.getD i d)=sortBy lt l:=by
 have L:∀x∈l.map (iu lt l),x < 4:=by
  intro x G;obtain⟨y,I,rfl⟩:=mv.mp G;have:iu lt l y < l.countP λu=>aj:=yF (λu u u=>rfl) I rfl (a0.uU y);rw[Io]at this;exact TT this h4
 have B:∀i b0,i < l.length->b0 < l.length->lt (l.getD i d) (l.getD b0 d)=fZ (l.map (iu lt l)) i b0:=by
  intro i b0 F J;have D:l.getD i d=l[i]:=by simp[F]
  have E:l.getD b0 d=l[b0]:=by simp[J]
  unfold fZ;rw[a0.rank (l:=l) (by rw[D];exact pY F),D,E];simp[F,J]
 obtain H:=Oy h2 h4 (r:=l.map (iu lt l)) (by simp) L;unfold rX at H;rw[bU]at H;obtain⟨p,D,E⟩:=jZ.mp H;refine⟨p,by rw[DL B];exact D,?_⟩;rw[E];have M:l=(dz l.length).map (λi=>l.getD i d):=by
  apply Ip (by simp);intro i K N;simp[K]
 have:=(lQ (lt:=lt) (lt':=fZ (l.map (iu lt l))) (λi=>l.getD i d) (dz l.length) (λx G y I=>B x y (nu.mp G) (nu.mp I))).1;rw[<-M]at this;exact this.symm
def DP {κ:SortKind}{it:ah Keyed}{lt:Keyed->Keyed->aB}{a0:SortSt->aD->Prop}(b0:nM lt)(h2:2<=it.length)(h4:it.length<=4)(hc:∀(i c0:ak) (hi:i < it.length) (hj:c0 < it.length) (C:aB->aD->Prop),i≠c0->C (lt it[i] it[c0]) s->aA (aV prog w) A (keyLt' κ it[i].1 it[c0].1) C (λc c=>dm) s)(hQ:∀Z,(jy Z).toList=sortBy lt it->qQ Z=ag->a0 Z s):
  aA (aV prog w) A ((sortRuns').run (pI κ it.toArray #[] 7 ag)) (λr s'=>a0 r.2 s') E s:=by
 obtain⟨p,H,D⟩:=Oz b0 it h2 h4 (dq,dq);have B:∀i,kas_item it.toArray i=it.getD i (dq,dq):=λi=>by
  unfold kas_item;simp[Array.getD,List.getD];by_cases h:i < it.length <;>simp[h]
 obtain run:=kas_runs (prog:=prog) (w:=w) (A:=A) (E:=E) (κ:=κ) (it:=it.toArray) (n:=it.length) (Q:=λu Z s'=>a0 Z s') (G:=λJ s'=>J=p/\s'=s) (s:=s) h2 (by exact FI 0 4 1 64 h4 rfl)
  (λJ Z s' N M L K=>by
   obtain⟨rfl,rfl⟩:=K;refine hQ Z ?_ L;rw[M,uk,<-D];exact Hy λi u=>B i)
  (DK (n:=it.length) (lt:=λi c0=>lt (it.getD i (dq,dq)) (it.getD c0 (dq,dq))) (λi c0 C hi hj G I=>by
   unfold kas_cmp;rw[B,B];have H:it.getD i (dq,dq)=it[i]:=by simp[hi]
   have D:it.getD c0 (dq,dq)=it[c0]:=by simp[hj]
   rw[H,D]at I |-;exact hc i c0 hi hj C G I) _ H ⟨rfl,rfl⟩)
 have F:pI κ it.toArray #[] 7 ag=kas_st κ it.toArray (l8 (dz it.length)):=by
  obtain e:=kas_range it.toArray;rw[show it.toArray.size=it.length from cG ..]at e;show pI κ it.toArray #[] 7 ag=pI κ ((l8 (dz it.length)).map (kas_item it.toArray)) #[] 7 ag;rw[e]
 rw[F];exact run
def DQ:nM gG:=⟨λx=>by simp[gG],λx y z D B=>by simp only[gG,ft]at *;lia,λx y z h=>by simp only[gG,ft]at *;lia⟩
def DV:[0,1].all (λn=>(ranks n).all λr=>(sortBy (fZ r) (dz n).reverse).reverse == sortBy (λi a0=>fZ r a0 i) (dz n))=aj:=by decide +kernel
def OA:(ranks 2).all (λr=>(sortBy (fZ r) (dz 2).reverse).reverse == sortBy (λi a0=>fZ r a0 i) (dz 2))=aj:=by decide +kernel
def OC:(ranks 3).all (λr=>(sortBy (fZ r) (dz 3).reverse).reverse == sortBy (λi a0=>fZ r a0 i) (dz 3))=aj:=by decide +kernel
def OE:(ranks 4).all (λr=>(sortBy (fZ r) (dz 4).reverse).reverse == sortBy (λi a0=>fZ r a0 i) (dz 4))=aj:=by decide +kernel
def DW {α:Type}{lt:α->α->aB}(a0:nM lt)(l:ah α)(h4:l.length<=4):(sortBy lt l.reverse).reverse=sortBy (λx y=>lt y x) l:=by
 revert α lt a0 l h4;intros _ α;intros _ lt _ a0 _ l _ h4;cases l with
 |nil=>rfl
 |cons d O=>
 generalize Q:d :: O=l at *;have N:∀x∈l.map (iu lt l),x < 4:=by
  intro x E;obtain⟨y,F,rfl⟩:=mv.mp E;have:iu lt l y < l.countP λu=>aj:=yF (λu u u=>rfl) F rfl (a0.uU y);rw[Io]at this;exact TT this h4
 have D:∀i j,i < l.length->j < l.length->lt (l.getD i d) (l.getD j d)=fZ (l.map (iu lt l)) i j:=by
  intro i j H I;have J:l.getD i d=l[i]:=by simp[H]
  have M:l.getD j d=l[j]:=by simp[I]
  unfold fZ;rw[a0.rank (l:=l) (by rw[J];exact pY H),J,M];simp[H,I]
 obtain B:=DO _ N;rw[aO]at B;have G:(sortBy (fZ (l.map (iu lt l))) (dz l.length).reverse).reverse=sortBy (λi j=>fZ (l.map (iu lt l)) j i) (dz l.length):=by
  generalize l.map (iu lt l)=r at B;have:l.length=0\/l.length=1\/l.length=2\/l.length=3\/l.length=4:=by lia
  rcases this with e |e |e |e |e <;>rw[e]at B |-
  ·exact bU.mp (bW.mp (bW.mp DV 0 (by simp)) r B)
  ·exact bU.mp (bW.mp (bW.mp DV 1 (by simp)) r B)
  ·exact bU.mp (bW.mp OA r B)
  ·exact bU.mp (bW.mp OC r B)
  ·exact bU.mp (bW.mp OE r B)
 have K:l=(dz l.length).map (λi=>l.getD i d):=by
  apply Ip (by simp);intro i L R;simp[L]
 obtain a:=(lQ (lt:=lt) (lt':=fZ (l.map (iu lt l))) (λi=>l.getD i d) (dz l.length).reverse (λx E y F=>D x y (nu.mp (Iq.mp E)) (nu.mp (Iq.mp F)))).1;obtain b:=(lQ (lt:=λx y=>lt y x) (lt':=λi j=>fZ (l.map (iu lt l)) j i) (λi=>l.getD i d) (dz l.length) (λx E y F=>D y x (nu.mp F) (nu.mp E))).1;rw[um,<-K]at a;rw[<-K]at b;rw[a,b,<-um,G]
def DX {α:Type}(lt:α->α->aB):∀(l:ah α),l.length < 2->sortBy lt l=l
 | [],_=>rfl
 | [x],_=>rfl
 |_ :: _ :: _,h=>by simp at h;exact XX 3 2 (CH 3 2 0 0 h ZZ) rfl
def DY {I:SortSt}{kS:ay}{b:aB}{e e1:ak}{b0:aZ aw}{it:ah Keyed}{P:PySem.Fin->aD->Prop}(gk:s.heap.get? kS=ae (bC "list" b0 e))(ga:s.heap.get? a=ae (bC "list" #[] e1))(c0:kS≠a)(e0:b0.size<=4)(h4:it.length<=4)(a0:(jy I).toList=sortBy gG (if b then it.reverse else it))(d0:qQ I=ag)(h:∀H c,(∀b o,b≠a->b≠kS->s.heap.get? b=ae o->H.get? b=ae o)->H.get? a=ae (bC "list" (fu b gG it).toArray c)->(∃ok n xs,H.get? kS=ae ok/\ok.data= .seq xs n)->P (.done (.ret .none)) { s with heap:=H }):
  aA (aV prog w) A (ksk_tail a b e1 (.ref kS) I) P E s:=by
 have B:(if b then ((jy I).map (·.2)).reverse else (jy I).map (·.2))=(fu b gG it).toArray:=by
  apply xd.mp;unfold fu;cases b with
  |false=>simp only[ja,jb]at a0 |-;rw[uk,a0]
  |true=>
   simp only[jB]at a0 |-;rw[Ir,uk,a0,<-um,DW DQ it h4]
 have F:(fu b gG it).toArray.size<=4:=by
  rw[<-B];have T:(jy I).size<=4:=by
   rw[<-Bd,a0];have:∀(lt:Keyed->Keyed->aB) (l:ah Keyed),(sortBy lt l).length=l.length:=by
    intro lt l;induction l with
    |nil=>rfl
    |cons x l U=>
     have G:∀m:ah Keyed,(sortBy.cf lt x m).length=m.length+1:=by
      intro m;induction m with
      |nil=>rfl
      |cons y m Q=>
       rw[show sortBy.cf lt x (y :: m)=(if lt y x=aj then y :: sortBy.cf lt x m else x :: y :: m) from rfl];split
       ·rw[fq,Q,fq]
       ·rfl
     show(sortBy.cf lt x (sortBy lt l)).length=_;rw[G,U];rfl
   rw[this];split <;>simp <;>exact h4
  cases b <;>simp <;>exact T
 obtain L:=dY s.heap kS (bQ λu=>(#[]:aZ aw));obtain D:(s.heap.update kS (bQ λu=>(#[]:aZ aw))).get? a=ae (bC "list" #[] e1):=(L.2 a c0.symm).trans ga;obtain K:=ny gk λu=>(#[]:aZ aw);obtain N:=dY (s.heap.update kS (bQ λu=>(#[]:aZ aw))) a (bQ λu=>(fu b gG it).toArray);obtain J:=ny D λu=>(fu b gG it).toArray;unfold ksk_tail;try dsimp only
 refine wB (oK gk rfl ?_ (by rw[fG];exact FI 0 4 0 16777216 e0 rfl) (cZ _));refine wB (hY ?_);refine wB (xf D rfl ?_);rw[B];refine wB (oK D rfl ?_ (cZ _) (dW F (by rw[fG];exact RR 4 16777217 rfl)));rw[d0];simp only[AU,ja,jb];refine aC (h _ _ (λM o O S R=>(N.2 M O).trans ((L.2 M S).trans R)) J ⟨_,_,_,(N.2 kS c0).trans K,rfl⟩)
theorem yG {kS:ay}{b:aB}{e e1:ak}{a0:ah aw}{kz:ah Int}{P:PySem.Fin->aD->Prop}(gk:s.heap.get? kS=ae (bC "list" a0.toArray e))(ga:s.heap.get? a=ae (bC "list" #[] e1))(b0:kS≠a)(hi:og a0 kz)(hl:a0.length=V.length)(h4:V.length<=4)(h:∀H c,(∀b o,b≠a->b≠kS->s.heap.get? b=ae o->H.get? b=ae o)->H.get? a=ae (bC "list" (fu b gG (a0.zip V)).toArray c)->(∃ok n xs,H.get? kS=ae ok/\ok.data= .seq xs n)->P (.done (.ret .none)) { s with heap:=H }):
  aA (aV prog w) A (ksk_end a b V.toArray e1 (.ref kS) a0.toArray) P E s:=by
 have step:∀t:dn PySem.Fin,aA (aV prog w) A t P E s->aA (aV prog w) A (if b=aj then (do let _ <-jX "list.sort.reverse";t)else t) P E s:=by
  intro t J;split
  ·exact bO (gN J)
  ·exact J
 have Q:a0.toArray.zip V.toArray=(a0.zip V).toArray:=by apply xd.mp;rw[ksk_zip]
 have O:(a0.zip V).length=V.length:=by simp[hl]
 have D:(if b=aj then (a0.zip V).toArray.reverse else (a0.zip V).toArray)=(if b=aj then (a0.zip V).reverse else a0.zip V).toArray:=by cases b <;>simp
 unfold ksk_end;try dsimp only
 refine step _ ?_;rw[Q,D];by_cases B:V.toArray.size < 2
 ·rw[aN B,aN B];refine bO (aC ?_);rw[Iu];refine bO (aC ?_);try dsimp only
  rw[cG]at B;refine DY (I:=pI Am (if b=aj then (a0.zip V).reverse else a0.zip V).toArray #[] 7 ag) gk ga b0 (by simp;exact CF 0 0 1 2 0 4 (EL hl) B rfl) (by lia) ?_ rfl h;show(if b=aj then (a0.zip V).reverse else a0.zip V)=_;rw[DX _ _ (by split <;>simp <;>lia)]
 ·rw[aK B,aK B];rw[cG]at B;rw[ksk_kind (keys:=a0.toArray) (by simpa using hi) (by simp;exact TT (NL B) (EG hl))];refine bO (aC ?_);refine bO (DP (κ:=oneType') (lt:=gG) DQ (by split <;>simp <;>lia) (by split <;>simp <;>exact TT MR h4) (λi j G F C v I=>?_) (a0:=λZ N=>aA (aV prog w) A (ksk_tail a b e1 (.ref kS) Z) P E N) λZ e1 M=>?_)
  ·obtain L:=pY G;obtain K:=pY F;generalize (if b=aj then (a0.zip V).reverse else a0.zip V)[i]=x at L I |-;generalize (if b=aj then (a0.zip V).reverse else a0.zip V)[j]=y at K I |-;have qn:x∈a0.zip V:=by cases b <;>simpa using L
   have OF:y∈a0.zip V:=by cases b <;>simpa using K
   obtain⟨R,S⟩:=x;obtain⟨T,U⟩:=y;obtain⟨n,t,rfl⟩:=hi.all _ (rB qn).1;obtain⟨m,u,rfl⟩:=hi.all _ (rB OF).1;rw[keyLt'_oneType];exact oneLt_int I
  ·exact DY gk ga b0 (by simp;exact TT (EL hl) h4) (by lia) e1 M h
def aT.ofMap {α:Type}{f:α->AV}{g:α->aw}(l:ah α)(hx:∀x∈l,aF X B h (f x) (g x)):aT X B h (l.map f) (l.map g):=by
 induction l with
 |nil=>exact .nil
 |cons x l D=>exact .cons (hx x (.head _)) (D λy E=>hx y (.tail _ E))
theorem OG {ks:ah (Int×AV)}:∀{keys V:ah aw},og keys (ks.map (·.1))->aT X B h (ks.map (·.2)) V->∃zz:ah ((Int×AV)×Keyed),ks=zz.map (·.1)/\keys.zip V=zz.map (·.2)/\∀z∈zz,lx z.2.1=z.1.1/\aF X B h z.1.2 z.2.2:=by
 induction ks with
 |nil=>intro _ _ _ r;cases r;exact⟨[],rfl,HW,λu H=>nomatch H⟩
 |cons p ks F=>
  intros p ks _ F;intro _ _ D r;cases D with
  |cons n t D=>cases r with
   |cons J r=>
    obtain⟨zz,K,G,I⟩:=F D r;refine⟨(p,(_,_)) :: zz,by rw[K];rfl,by rw[Bj,G];rfl,λz E=>?_⟩;rcases bu.mp E with rfl |E
    ·exact⟨rfl,J⟩
    ·exact I z E
def OH {ks:ah (Int×AV)}{a0:ah aw}(b:aB)(hi:og a0 (ks.map (·.1)))(r:aT X B h (ks.map (·.2)) V):
  aT X B h ((sortBy (λx y=>if b then decide (y.1 < x.1)else decide (x.1 < y.1)) ks).map (·.2)) (fu b gG (a0.zip V)):=by
 obtain⟨G,rfl,H,F⟩:=OG hi r;unfold fu;rw[H];obtain a:=lQ (lt:=λx y:Int×AV=>if b then decide (y.1 < x.1)else decide (x.1 < y.1)) (lt':=λD E:(Int×AV)×Keyed=>if b then decide (E.1.1 < D.1.1)else decide (D.1.1 < E.1.1)) (λz=>z.1) G (λu u u u=>rfl);have c:=lQ (lt:=λx y:Keyed=>if b then gG y x else gG x y) (lt':=λD E:(Int×AV)×Keyed=>if b then decide (E.1.1 < D.1.1)else decide (D.1.1 < E.1.1)) (λz=>z.2) G (λx I y J=>by
  unfold gG;rw[(F x I).1,(F y J).1])
 rw[a.1,c.1,oL,oL];exact aT.ofMap _ λz K=>(F z (c.2 z K)).2
def yH (a0:Inv (X.more j) B I h)(ho:∀c∈own,c∈j/\c∉B/\X.base.get? c=ag):eG (X.more j) B h own:=λc D=>
 ⟨(ho c D).2.1,(ho c D).2.2,.inl (gM _ (ho c D).1)⟩
theorem OI {X:Cx}{h1:aG}{t1:ak}{a0:aw->aD->Prop}{PF:PySem.Fin->aD->Prop}{kk:AV}{q kS:ay}{b:aB}{e1:ak}{l:ah AV}{g:ah (Int×AV)->P AV}(C:cn X)(hF:∀X,cn X->HF X F k)(I0:Inv X B I h)(ar:Ar X k (20 * k+30) A le B h)(rk:aF X B h kk (.ref q))(d0:a∈j)(c0:kS∈j)(b0:∀b∈j,h.get? b=ag)(e0:kS≠a)(I1:Inv (X.more j) B I h1)(G1:Go X [] B h B h1)(v0:h1.get? kS=ae (bC "list" #[] 0))(x0:h1.get? a=ae (bC "list" #[] e1))(k0:a∉B)(r0:kS∉B)(n0:aT (X.more j) B h1 l V)(h4:V.length<=4)(C0:(nE F kk l>>=g).run I (aL X z [] B h (RV X) a0 E))(u0:∀z' J Z H t' ks out c,Zs z z'->Inv (X.more j) J Z H->Go X [] B h J H->a∉J->H.get? a=ae (bC "list" out c)->
   aT (X.more j) J H ((sortBy (λx y=>if b then decide (y.1 < x.1)else decide (x.1 < y.1)) ks).map (·.2)) out.toList->(g ks).run Z (aL X z [] B h (RV X) a0 E)->PF (.done (.ret .none)) (sh z' H t')):
  aA (MX X) A (ksk_rest a (.ref q) b V.toArray e1 (.ref kS)) PF E (sh z h1 t1):=by
 have u:X.base.get? a=ag:=I0.ey (b0 _ d0);have Y:X.base.get? kS=ag:=I0.ey (b0 _ c0);unfold ksk_rest;refine wB (gN ?_);first
  |rw[List.forIn_toArray]
  |(rw[<-Iv];simp only[List.toList_toArray])
  |rw[<-Iv]
 refine wB (ksk_fold (Cc X j F z B h kk a kS e1 l V g (aL X z [] B h (RV X) a0 E)) V 0 _ (.mk (acc:=[]) (keys:=[]) rfl (.refl z) I1 G1 k0 r0 v0 x0 .nil rfl rfl n0 C0) ?step ?done);case step=>
  rintro G v s' hx @⟨z',J,Z,H,t',O,K,e,rfl,Z',I',G',R,U,gk,ga,hi,N,L,T,S⟩;rw[ke]at N L S;rw[ke];have hj:G < V.length:=(cF.mp hx).1;have f0:G < l.length:=by rw[<-T.length];exact hj
  rw[oz f0]at S;have S:(F kk [l[G]] []>>=λr=>dF r>>=λi=>nE F kk (l.drop (G+1))>>=λrs=>g (O++((i,l[G]) :: rs))).run Z (aL X z [] B h (RV X) a0 E):=S;obtain⟨v',ev,rv⟩:=T.get (cy f0);rw[hx]at ev;cases ev;have OJ:aF (X.more j) J H kk (.ref q):=(rk.more (j:=j) b0).step (Go.more G').step;have ql:Ar (X.more j) k (20 * k+30) A le J H:=(ar.step G').more;refine wB (nv ((hF (X.more j) C.more C.more ql I' OJ (.cons rv .nil) .nil).qo Z' G' (λd hm=>nomatch hm) S (λp z5 j0 h5 t5 Z5 I5 G5 Gx e x=>?_) λz6 B0 E0 h6 t6 r vr Z6 I6 W G6 rr g0=>?_))
  ·have o0:=Gx.seq ga rfl R (I'.gX u);have w:=Gx.seq gk rfl U (I'.gX Y);have y0:=Gx.step.dt ga R;have z0:=Gx.step.dt gk U;refine wB (gN (wB (xg w rfl ?_)));refine wB (oK w rfl ?_ (by rw[cG,fG];exact TT (EL N) (CF 1 0 0 4 0 16777216 hj h4 rfl)) (cZ _));refine wB (hY ?_);have s1:=dY h5 kS (bQ λd=>(#[]:aZ aw));have g1:=ny w λd=>(#[]:aZ aw);have f:=(s1.2 a e0.symm).trans o0;refine wB (oK f rfl ?_ (cZ _) (by rw[cG,fG];exact FI 0 4 0 16777217 h4 rfl));have s2:=dY (h5.update kS (bQ λd=>(#[]:aZ aw))) a (bQ λd=>V.toArray);have g2:=ny f λd=>V.toArray;have O5:eG (X.more j) j0 h5 [a,kS]:=yH I5 λc M=>by
    rcases bu.mp M with rfl |M
    ·exact⟨d0,y0,u⟩
    ·rw[aJ.mp M];exact⟨c0,z0,Y⟩
   have D:Dr [a,kS] [] h5 ((h5.update kS (bQ λd=>(#[]:aZ aw))).update a (bQ λd=>V.toArray)):=(Dr.same (Bk _ (aJ.mpr rfl)) s1 g1).trans (Dr.same (.head _) s2 g2);refine tR (p z5 j0 _ t5 Z5 (I5.dr O5 D).less (G5.dr D.widen λc M=>?_) e (x.DH λa2 o F0 ea da=>?_))
   ·rcases bu.mp M with rfl |M
    ·exact b0 _ d0
    ·rw[aJ.mp M];exact b0 _ c0
   ·refine D.keep _ _ ea (λhm=>?_) (by simp);rcases bu.mp hm with rfl |hm
    ·rw[o0]at ea;cases ea;cases da
    ·rw[aJ.mp hm,w]at ea;cases ea;cases da
  ·obtain⟨i,q,g0⟩:=jl g0;subst q;obtain⟨m,rfl⟩:=rr;have f:=W.seq ga rfl R (I'.gX u);have l0:=W.seq gk rfl U (I'.gX Y);have A0:=W.step.dt ga R;have i0:=W.step.dt gk U;have m0:=T.step (Go.more W).step;try dsimp only
   have s1:=dY h6 kS (bQ (·.push (.int i m)));obtain⟨c2,qr⟩:∃c2,(h6.update kS (bQ (·.push (.int i m)))).get? kS=ae (bC "list" (l8 (K++[.int i m])) c2):=by
    have:=ny l0 (·.push (.int i m));have ee:(l8 K).push (tK i m)=l8 (K++[.int i m]):=by simp
    simp only[ee]at this;exact⟨_,this⟩
   have O6:eG (X.more j) B0 h6 [kS]:=yH I6 λc M=>by rw[aJ.mp M];exact⟨c0,i0,Y⟩
   have D:Dr [kS] [] h6 (h6.update kS (bQ (·.push (.int i m)))):=Dr.same (.head _) s1 qr;refine wB (oK l0 rfl ?_ (by rw[cG,fG];exact TT (EL N) (CF 1 0 0 4 0 16777216 hj h4 rfl)) (dW (n8 (Ii ..)) (by rw[cG,fG];exact CF 1 0 0 4 1 16777217 (CH 0 0 1 0 (EL N) hj) h4 rfl)));refine aC ⟨rfl,.mk (acc:=O++[(i,l[G])]) (keys:=K++[.int i m]) rfl Z6 (I6.dr O6 D) (G6.dr D.widen (λc M=>by rw[aJ.mp M];exact b0 _ c0)) A0 i0 qr ((s1.2 a e0.symm).trans f) ?_ (by simp[N]) ?_ (aT.jk (λr=>r.dr D.widen O6) m0) ?_⟩
   ·rw[dH];exact ksk_snoc hi
   ·rw[dH,L,H8 f0];rfl
   ·simp only[jY,rC,mo];exact g0
 case done=>
  rintro s' @⟨z',J,Z,H,t',O,K,e,rfl,Z',I',G',R,U,gk,ga,hi,N,L,T,S⟩;rw[ke]at N L S;have p0:=T.length;rw[List.drop_of_length_le (by exact(EG p0))]at S;have S:(g O).run Z (aL X z [] B h (RV X) a0 E):=by
   have S:(g (O++[])).run Z (aL X z [] B h (RV X) a0 E):=S;rw[fT]at S;exact S
  rw[gy (by exact(EG p0))]at L;try dsimp only
  refine wB (xg gk rfl ?_);refine yG (s:=sh z' H t') gk ga e0 hi N h4 λh2 c s0 h0 w0=>?_;have O':eG (X.more j) J H [a,kS]:=yH I' λc M=>by
   rcases bu.mp M with rfl |M
   ·exact⟨d0,R,u⟩
   ·rw[aJ.mp M];exact⟨c0,U,Y⟩
  have D:Dr [a,kS] [] H h2:=⟨λb o eb=>by
   by_cases q1:b=a
   ·subst q1;exact⟨_,h0⟩
   by_cases q2:b=kS
   ·subst q2;obtain⟨ok,n,xs,g,_⟩:=w0;exact⟨ok,g⟩
   exact⟨o,s0 b o q1 q2 eb⟩,λb o eb hn d=>s0 b o (λq=>hn (by rw[q];exact .head _)) (λq=>hn (by rw[q];exact Bk _ (aJ.mpr rfl))) eb⟩
  have rs:=OH (X:=X.more j) (B:=J) (h:=h2) (ks:=O) (a0:=K) (V:=V) b hi (by rw[L];exact aT.jk (λr=>r.dr D.widen O') T);refine u0 z' J Z h2 t' O (fu b gG (K.zip V)).toArray c Z' (I'.dr O' D) (G'.dr D.widen λc M=>?_) R h0 (by simpa using rs) S
  ·rcases bu.mp M with rfl |M
   ·exact b0 _ d0
   ·rw[aJ.mp M];exact b0 _ c0
theorem DZ {X:Cx}{b0:aw->aD->Prop}{l:ah AV}{la q:ay}{kk:AV}{b:aB}{kw:ah (au×aw)}(C:cn X)(hF:∀X,cn X->HF X F k)(a0:Inv X B I h)(ar:Ar X k (20 * k+38) A le B h)(ei:I[i]? =ae (.list l))(ea:B[i]? =ae la)(h4:l.length<=4)(rk:aF X B h kk (.ref q))(f0:pT "sorted" ⟨[.ref la],kw⟩)(c0:∀x,pT "list.sort" ⟨[.ref x],kw⟩)(ht:∀x,j2.«list.sort» ⟨[.ref x],kw⟩=ksk_tree x (.ref q) b)(hr:(nE F kk l>>=λks=>cz ((sortBy (λx y=>if b then decide (y.1 < x.1)else decide (x.1 < y.1)) ks).map (·.2))).run I (aL X z [] B h (RV X) b0 E)):
  aA (MX X) A (call (.builtin "sorted") [.ref la] kw) b0 E (sh z h W):=by
 obtain (⟨V,n,hl,rl,len,_⟩):=ez a0 ei ea;refine call_function_entry_kw kind_sorted plain_sorted entry_sorted f0 ?_;unfold Builtin.«sorted»;refine wB (m:=checkCount "sorted" 1 1 _) (aC ?_);refine wB (collect_list (s:=sh z h W) hl.isList ?_ (by rw[fG];exact CF 0 0 0 4 0 16777216 (EL len) h4 rfl));refine wB (oj ?_ (by rw[fG];exact CF 0 0 0 4 0 16777216 (EL len) h4 rfl));have N:((h.push (bC "list" #[] 0)).update h.objs.size (bQ (· ++V.toArray))).objs.size=h.objs.size+1:=by
  rw[Iw,Bl]
 have M:(((h.push (bC "list" #[] 0)).update h.objs.size (bQ (· ++V.toArray))).push (bC "list" V.toArray 0)).get? (h.objs.size+1)=ae (bC "list" V.toArray 0):=by
  rw[<-N];exact cV _ rfl
 have keep:∀b o,h.get? b=ae o->(((h.push (bC "list" #[] 0)).update h.objs.size (bQ (· ++V.toArray))).push (bC "list" V.toArray 0)).get? b=ae o:=λb o q=>by
  have S:b < h.objs.size:=gL q;rw[Bi _ _ _ (by rw[N];exact jV (Bh S)),Heap.get?_update_ne _ _ _ _ (jV S),Bi _ _ _ (jV S)];exact q
 have j:(((h.push (bC "list" #[] 0)).update h.objs.size (bQ (· ++V.toArray))).push (bC "list" V.toArray 0)).objs.size=h.objs.size+2:=by rw[Bl,N]
 show aA _ _ _ _ _ (sh z (((h.push (bC "list" #[] 0)).update h.objs.size (bQ (· ++V.toArray))).push (bC "list" V.toArray 0)) W);rw[N];have L:h.get? (h.objs.size+1)=ag:=Bc (gP _);have T:h.get? (h.objs.size+3)=ag:=Bc (by exact RR 0 3 rfl);generalize h0:h.objs.size+1=D at *;generalize i0:((h.push (bC "list" #[] 0)).update h.objs.size (bQ (· ++V.toArray))).push (bC "list" V.toArray 0)=hA at *;refine wB (eA (Iy Iz ⟨_,M,rfl⟩ IA ?body (c0 _)));case body=>
  show aA (MX X) A.in1.in1 (j2.«list.sort» ⟨[.ref D],kw⟩) _ _ _;rw[ht D];have s1:=dY hA D (bQ λd=>(#[]:aZ aw));obtain⟨e1,qt⟩:∃e1,(hA.update D (bQ λd=>(#[]:aZ aw))).get? D=ae (bC "list" #[] e1):=⟨_,ny M λd=>#[]⟩;have Y:((hA.update D (bQ λd=>(#[]:aZ aw))).push (bC "tuple" V.toArray 0)).objs.size=h.objs.size+3:=by rw[Bl,Iw,j]
  unfold ksk_tree;refine wB (xg M rfl ?_);refine wB (oK M rfl ?_ (by rw[cG,fG];exact CF 0 0 0 4 0 16777216 (EL len) h4 rfl) (cZ _));refine wB (xf qt rfl ?_);refine wB (m7 ?_ (by show V.length<=_;rw[fG];exact CF 0 0 0 4 0 16777216 (EL len) h4 rfl));refine wB (oj ?_ (cZ _));refine eA ?_;have gk:(((hA.update D (bQ λd=>(#[]:aZ aw))).push (bC "tuple" V.toArray 0)).push (bC "list" #[] 0)).get? (h.objs.size+3)=ae (bC "list" #[] 0):=by
   rw[<-Y];exact cV _ rfl
  have ga:(((hA.update D (bQ λd=>(#[]:aZ aw))).push (bC "tuple" V.toArray 0)).push (bC "list" #[] 0)).get? D=ae (bC "list" #[] e1):=be _ (be _ qt);have f:∀b o,h.get? b=ae o->(((hA.update D (bQ λd=>(#[]:aZ aw))).push (bC "tuple" V.toArray 0)).push (bC "list" #[] 0)).get? b=ae o:=λb o e=>
   be _ (be _ ((s1.2 b λq=>by rw[q,L]at e;cases e).trans (keep b o e)))
  have K:∀c∈[D,h.objs.size+3],h.get? c=ag:=λc O=>by
   rcases bu.mp O with rfl |O
   ·exact L
   ·rw[aJ.mp O];exact T
  have I1:=a0.more (j:=[D,h.objs.size+3]) f λc O=>⟨K c O,by
   rcases bu.mp O with rfl |O
   ·exact⟨_,ga⟩
   ·rw[aJ.mp O];exact⟨_,gk⟩⟩
  have w:h.objs.size+3≠D:=by exact NT (FI 0 1 1 3 (EG h0) rfl)
  have U:aT (X.more [D,h.objs.size+3]) B (((hA.update D (bQ λd=>(#[]:aZ aw))).push (bC "tuple" V.toArray 0)).push (bC "list" #[] 0)) l V:=
   (aT.jk (λr=>r.more K) rl).step (Go.keeps (X.more [D,h.objs.size+3]) B f []).step
  have d0:=OI C hF a0 ((ar.in1 (u':=20 * k+34) (by exact RR 35 38 rfl)).in1 (u':=20 * k+30) (by exact RR 31 34 rfl)) (z:=z) (t1:=W) (a0:=b0) (E:=E) (PF:=λR m=>∃v,R= .done (.ret v)/\aA (MX X) A.in1 (ret (gu D)) (λR m=>∃v,R= .done (.ret v)/\b0 v m) E m) rk (j:=[D,h.objs.size+3]) (a:=D) (kS:=h.objs.size+3)
   (.head _) (Bk _ (aJ.mpr rfl)) K w (b:=b) (e1:=e1) I1 (Go.keeps X B f []) gk ga (a0.fresh L).1 (a0.fresh T).1 U (by exact TT (EL len) h4) hr
   (λz' J Z H t' ks u c Z' I' G' g0 e0 rs G=>by
    obtain⟨hg,G⟩:=a6 G;have G:aL X z [] B h (RV X) b0 E (.ok (.ref Z.length)) (Z++[.list ((sortBy (λx y=>if b then decide (y.1 < x.1)else decide (x.1 < y.1)) ks).map (·.2))]):=G;refine⟨_,rfl,aC ⟨_,rfl,?_⟩⟩;have I2:=I'.adopt (D:=D) (.head _) e0 (ao:=.list ((sortBy (λx y=>if b then decide (y.1 < x.1)else decide (x.1 < y.1)) ks).map (·.2))) ⟨u.toList,c,by simp[bC],rs,by exact FI 0 4096 0 10000 hg rfl⟩ g0 (a0.ey L);exact G z' _ _ _ Z' I2 (G'.adopt L) _ (.ref (by rw[<-I'.len];simp)))
  rw[Y];exact d0
theorem OK {X:Cx}(C:cn X)(hF:∀X,cn X->HF X F k)(a0:Inv X B I h)(ar:Ar X k (20 * k+38) A le B h)(ra:aT X B h T V)(rk:cq X B h kw kvs):
  aW X A [] (RV X) B I h (call (.builtin "sorted") V kvs) (jI F T kw .sorted):=by
 intros _ z W Q E _ D;obtain (⟨x,v,rfl,N,D⟩):=jm ra D;obtain (⟨kk,kv,O,M,rfl,G,rk,D⟩):=vu rk D;obtain (⟨b,rfl,D⟩):=Du rk D;obtain (⟨i,q,D⟩):=iw D;subst q;obtain⟨K⟩:=N;obtain (⟨l,J,D⟩):=gW D;obtain⟨H,D⟩:=a6 D;obtain (⟨m,q,D⟩):=Dv D;obtain q:kk= .ref m:=q;subst q;obtain⟨L⟩:=G;cases b with
 |false=>exact DZ (b:=az) C hF a0 ar J K H (.ref L) (ksk_s1 _ _) (λu=>ksk_l1 _ _) (λu=>ksk_t1 _ _) D
 |true=>exact DZ (b:=aj) C hF a0 ar J K H (.ref L) (ksk_s2 _ _ _) (λu=>ksk_l2 _ _ _) (λu=>ksk_t2 _ _ _) D
def OL {X:Cx}{fv:AV}{f:aw}(C:cn X)(hF:∀X,cn X->HF X F k)(a0:Inv X B I h)(ar:Ar X k (20 * k+38) A le B h)(rf:aF X B h fv f)(ra:aT X B h T V)(rk:cq X B h kw kvs):aW X A [] (RV X) B I h (call f V kvs) (xB F fv T kw):=by
 obtain G:=ar.handled;intro z W Q E H;obtain⟨b,J,D⟩:=c9 H;clear H;obtain q:=Nw J;subst q;clear J;cases b with
 |len=>cases rf;exact Nx a0 G ra rk z W Q E D
 |iter=>cases rf;exact Ny a0 ra rk z W Q E D
 |object=>cases rf;exact Nz a0 ra rk z W Q E D
 |sum=>cases rf;exact NC a0 G ra rk z W Q E D
 |list=>cases rf;exact Ob a0 G ra rk z W Q E D
 |set=>cases rf;exact N8 a0 G ra rk z W Q E D
 |type=>cases rf;exact ND a0 ra rk z W Q E D
 |sorted=>cases rf;exact OK C hF a0 ar ra rk z W Q E D
 |best g=>cases rf;exact Ot C hF a0 ar ra rk g z W Q E D
def OM:∀(l:ah au) (n:ak),aT X B h (l.map .str) (strsFrom n l):=by
 intro E;induction E with
 |nil=>
  intro _;exact .nil
 |cons x l D=>
  intro n;exact .cons (.str x n) (D (n+1))
def OO {xs:ah au}:∀{V:ah aw},aT X B h (xs.map .str) V->∃ll,V=strValues ll/\ll.map (·.1)=xs:=by
 induction xs with
 |nil=>intro V r;cases r;exact⟨[],rfl,rfl⟩
 |cons x xs H=>
  intro V r;cases r with |cons E G=>
  obtain⟨t,rfl⟩:=E;obtain⟨ll,F,D⟩:=H G;exact⟨(x,t) :: ll,by rw[F];rfl,by rw[f9,D]⟩
def OP {s:au}{t:cK}(a0:Inv X B I h)(ra:aT X B h T V)(rk:cq X B h kw kvs):aW X A [] (RV X) B I h (call (.builtin "str.startswith") (.str s t :: V) kvs) (e9 F (.str s) .startswith T kw):=by
 intro z W Q E D;obtain⟨x,v,rfl,G,D⟩:=jm ra (nR D);obtain⟨rfl,D⟩:=gZ rk D;obtain⟨p,q,D⟩:=xP D;subst q;obtain⟨u,rfl⟩:=G;obtain D:aL X z [] B h (RV X) Q E (.ok (.bool (pD s p))) I:=D;exact SC.startswith (D _ _ _ _ (.refl _) a0 (.refl ..) _ (.bool _))
theorem OQ {s:au}{t:cK}(a0:Inv X B I h)(ra:aT X B h T V)(rk:cq X B h kw kvs):aW X A [] (RV X) B I h (call (.builtin "str.split") (.str s t :: V) kvs) (e9 F (.str s) .split T kw):=by
 intros _ z W Q E _ D;obtain (⟨x,v,rfl,R,D⟩):=jm ra (nR D);obtain⟨rfl,D⟩:=gZ rk D;obtain (⟨c,q,D⟩):=xP D;subst q;obtain (⟨u,rfl⟩):=R;obtain⟨⟨L,N,M⟩,D⟩:=a6 D;obtain⟨O,D⟩:=a6 (show(P.guard (((aU s c).map AV.str).length<=4096)>>=λw=>P.alloc (.list ((aU s c).map .str))>>=λi=>P.pure (AV.ref i)).run I (aL X z [] B h (RV X) Q E) from D);have D:aL X z [] B h (RV X) Q E (.ok (.ref I.length)) (I++[.list ((aU s c).map .str)]):=D;have G:∀(V:ah aw) (K:ak),aT X B h ((aU s c).map .str) V->Q (.ref h.objs.size) (sh z (h.push { cls:=.type "list",data:=.seq V.toArray }) K):=λV K r=>
  D _ _ _ _ (.refl _) (a0.alloc (ao:=.list ((aU s c).map .str)) ⟨V,0,rfl,r,by exact FI 0 4096 0 10000 O rfl⟩ rfl) (Go.alloc ..) _ (.ref (sj a0 _))
 cases H:(decide (s.length < c.length) || decide (IB s < IB c))
 ·cases J:(l5 s c 0 s.length (s.length+1)).isEmpty
  ·refine nk PySem.F.slot_str_split (pR _ _ _) PySem.F.entry_str_split (PySem.F.args_str_split_2 _ _) (meets_str_split_sep s c t u H L J (by show _<=2 ^ 24;exact FI 0 4096 0 16777216 N rfl) (by show _<=2 ^ 24;exact FI 0 4096 0 16777216 M rfl)) ?_;refine G (strsFrom W (m4 s (l5 s c 0 s.length (s.length+1)) c.length)) _ ?_;have e:aU s c=m4 s (l5 s c 0 s.length (s.length+1)) c.length:=(aK (Bm H)).trans (aK (Bm J));rw[e];exact OM _ _
  ·refine nk PySem.F.slot_str_split (pR _ _ _) PySem.F.entry_str_split (PySem.F.args_str_split_2 _ _) (meets_str_split_not_found s c t u H L J) ?_;have e:aU s c=[s]:=(aK (Bm H)).trans (aN J);exact G [.str s t] W (by rw[e];exact .cons (.str s t) .nil)
 ·refine nk PySem.F.slot_str_split (pR _ _ _) PySem.F.entry_str_split (PySem.F.args_str_split_2 _ _) (meets_str_split_cannot_occur s c t u H) ?_;have e:aU s c=[s]:=aN H;exact G [.str s t] W (by rw[e];exact .cons (.str s t) .nil)
theorem OR {s:au}{t:cK}(a0:Inv X B I h)(ra:aT X B h T V)(rk:cq X B h kw kvs):aW X A [] (RV X) B I h (call (.builtin "str.join") (.str s t :: V) kvs) (e9 F (.str s) .join T kw):=by
 intros _ z W Q E _ D;obtain (⟨x,v,rfl,O,D⟩):=jm ra (nR D);obtain⟨rfl,D⟩:=gZ rk D;obtain (⟨i,q,D⟩):=iw D;subst q;obtain⟨R⟩:=O;obtain (⟨l,N,D⟩):=gW D;obtain (⟨L,ex,D⟩):=c9 D;obtain⟨H,D⟩:=a6 D;obtain D:aL X z [] B h (RV X) Q E (.ok (.str (jv s L))) I:=D;obtain⟨V,n,M,K,len,_⟩:=ez a0 N R;obtain⟨S,rfl,J⟩:=OO (sm ex ▸ K);exact SC.join (s:=sh z h W) M.isList J H λG k=>D z B h k (.refl _) a0 (.refl ..) _ (.str _ G)
def OS (a0:Inv X B I h)(ea:B[i]? =ae a)(ra:aT X B h T V)(rk:cq X B h kw kvs):aW X A [] (RV X) B I h (call (.builtin "list.append") (.ref a :: V) kvs) (e9 F (.ref i) .append T kw):=by
 intro z W Q E D;obtain⟨x,v,rfl,S,D⟩:=jm ra (nR D);obtain⟨rfl,D⟩:=gZ rk D;obtain⟨l,K,D⟩:=gW D;obtain⟨J,D⟩:=a6 D;obtain D:aL X z [] B h (RV X) Q E (.ok .none) (I.set i (.list (l++[x]))):=D;obtain⟨V,n,R,M,len,_⟩:=ez a0 K ea;refine Df (s:=sh z h W) R (by rw[cG];show _<=2 ^ 24;exact CF 0 0 0 4096 0 16777216 (EL len) J rfl) λH L G O=>?_;obtain b:OB X B h (.list (l++[x])) { cls:=.type "list",data:=.seq (V.toArray.push v) L }:=⟨V++[v],L,by simp,M.append (.cons S .nil),by simp;exact FI 0 4096 0 9999 J rfl⟩;obtain⟨N,U⟩:=a0.change K ea O G b [];exact D _ _ _ _ (.refl _) N U _ .none
theorem OT (a0:Inv X B I h)(ea:B[i]? =ae a)(ra:aT X B h T V)(rk:cq X B h kw kvs):aW X A [] (RV X) B I h (call (.builtin "list.extend") (.ref a :: V) kvs) (e9 F (.ref i) .extend T kw):=by
 intros _ z W Q E _ D;obtain (⟨x,v,rfl,Y,D⟩):=jm ra (nR D);obtain⟨rfl,D⟩:=gZ rk D;obtain (⟨j,q,D⟩):=iw D;subst q;cases Y with
 | @mk c U=>
 obtain (⟨l,N,D⟩):=gW D;obtain (⟨M,Z,D⟩):=gW D;obtain⟨⟨u,O,o⟩,D⟩:=a6 D;obtain D:aL X z [] B h (RV X) Q E (.ok .none) (I.set i (.list (l++M))):=D;obtain⟨V,n,K,R,len,_⟩:=ez a0 N ea;obtain⟨G,k,H,J,L,_⟩:=ez a0 Z U;refine nk PySem.F.slot_list_extend ⟨_,K,rfl⟩ PySem.F.entry_list_extend (PySem.F.args_list_extend_2 _ _) (AutoSeq1.list_extend_list_list_0 a V.toArray n c G.toArray k (extend_door (by rw[cG,cG,fG];lia)) (by rw[cG,fG];exact CF 0 0 0 4096 0 16777216 (EL len) O rfl) (by rw[cG,cG,fG];lia)) ⟨K,H,?_⟩;obtain g:=IC K (λx=>x++G.toArray);obtain b:OB X B h (.list (l++M)) { cls:=.type "list",data:=.seq (V.toArray++G.toArray) (if (V.toArray++G.toArray).size == V.toArray.size then n else n+1) }:=⟨V++G,_,by rw[GV],R.append J,by simp;lia⟩;obtain⟨S,w⟩:=a0.change N ea (dY ..) g b [];exact D _ _ _ _ (.refl _) S w _ .none
def OU {α:Type}:∀{l:ah α} {x:α},l.getLast? =ae x->l=l.dropLast++[x]:=λ{l x} e=>by
 obtain⟨B,rfl⟩:=List.getLast?_eq_some_iff.mp e;simp
theorem aT.snoc_inv {l:ah AV}:∀{V:ah aw},aT X B h (l++[x]) V->∃ws v,V=ws++[v]/\aT X B h l ws/\aF X B h x v:=by
 induction l with
 |nil=>
  intro V r;cases r with |cons E D=>cases D;exact⟨[],_,rfl,.nil,E⟩
 |cons y l H=>
  intro V r;cases r with |cons I D=>
  obtain⟨ws,v,rfl,F,G⟩:=H D;exact⟨_ :: ws,v,rfl,.cons I F,G⟩
theorem OV (a0:Inv X B I h)(ea:B[i]? =ae a)(ra:aT X B h T V)(rk:cq X B h kw kvs):aW X A [] (RV X) B I h (call (.builtin "list.pop") (.ref a :: V) kvs) (e9 F (.ref i) .pop T kw):=by
 intros _ z W Q E _ G;obtain⟨rfl,G⟩:=yB ra (nR G);obtain⟨rfl,G⟩:=gZ rk G;obtain (⟨l,M,G⟩):=gW G;obtain (⟨x,ex,G⟩):=c9 G;obtain G:aL X z [] B h (RV X) Q E (.ok x) (I.set i (.list l.dropLast)):=G;obtain (⟨V,n,J,L,len,H⟩):=ez a0 M ea;rw[OU ex]at L;obtain (⟨D,v,rfl,R,S⟩):=L.snoc_inv;have K:(D++[v]).toArray.size - 1=D.length:=by rw[cG,bK];rfl
 refine nk PySem.F.slot_list_pop ⟨_,J,rfl⟩ PySem.F.entry_list_pop (PySem.F.args_list_pop_1 _) (PySem.MeetsSeq.list_pop_last a _ n v (by rw[K];simp) (by rw[cG,len,fG];exact FI 0 10000 0 16777216 H rfl)) ⟨J,?_⟩;obtain g:=IC J (λU=>U.eraseIdxIfInBounds ((D++[v]).toArray.size - 1));have Y:(D++[v]).toArray.eraseIdxIfInBounds ((D++[v]).toArray.size - 1)=D.toArray:=by
  rw[K,kl_erase,fT]
 obtain b:OB X B h (.list l.dropLast) { cls:=.type "list",data:=.seq ((D++[v]).toArray.eraseIdxIfInBounds ((D++[v]).toArray.size - 1)) (if ((D++[v]).toArray.eraseIdxIfInBounds ((D++[v]).toArray.size - 1)).size == (D++[v]).toArray.size then n else n+1) }:=⟨D,_,by rw[Y],R,by simp;exact FI 0 10000 0 10001 H rfl⟩;obtain⟨O,N⟩:=a0.change M ea (dY ..) g b [];exact G _ _ _ _ (.refl _) O N _ (S.step N.step)
def vA {xs:aZ aw}(g:h.get? a=ae o)(d:o.data= .seq xs n):dJ h (.ref a)=(lx (xs.getD 0 .none),lx (xs.getD 1 .none)):=by
 show(match h.get? a with |some o=>(match o.data with |.seq xs _=>(lx (xs.getD 0 .none),lx (xs.getD 1 .none)) |_=>(0,0)) |none=>(0,0))=_;rw[g];show(match o.data with |.seq xs _=>(lx (xs.getD 0 .none),lx (xs.getD 1 .none)) |_=>(0,0))=_;rw[d]
def yI:nM cX:=by
 refine⟨λx=>by simp[cX],λx y z D B=>?_,λx y z h=>?_⟩
 ·simp only[cX,pP,cW,ft,bU]at *;rcases D with D |⟨e1,D⟩<;>rcases B with B |⟨e2,B⟩
  ·exact .inl (uo D B)
  ·exact .inl (e2 ▸ D)
  ·exact .inl (e1.symm ▸ B)
  ·exact .inr ⟨e1.trans e2,uo D B⟩
 ·simp only[cX,pP,cW,ft,bU]at *;rcases Int.lt_trichotomy x.1 y.1 with c |c |c
  ·exact .inl (.inl c)
  ·rcases h with h |⟨e,h⟩
   ·exact .inr (.inl (c ▸ h))
   ·rcases uq (x.2 < y.2)with d |d
    ·exact .inl (.inr ⟨c,d⟩)
    ·exact .inr (.inr ⟨c.symm.trans e,GR (Ha.1 d) h⟩)
  ·exact .inr (.inl (h.elim (uo c) λh=>h.1 ▸ c))
def D3 (h:aG):nM (ji h):=⟨λx=>yI.uU _,λx y z D B=>yI.trans _ _ _ D B,λx y z h=>yI.neg _ _ _ h⟩
def OW (a:ay):j2.«list.sort» ⟨[.ref a],[]⟩=rY a az:=rfl
def OX (a:ay):j2.«list.sort» ⟨[.ref a],[(aq "reverse",.bool aj)]⟩=rY a aj:=rfl
theorem OY {x y:aw}{C:aB->aD->Prop}(hx:nN s.heap x)(hy:nN s.heap y)(a0:dJ s.heap x≠dJ s.heap y)(hC:C (cX (dJ s.heap x) (dJ s.heap y)) s):aA (aV prog w) A (keyLt' (tuples' aj) x y) C E s:=by
 obtain (⟨a,o,B,T,F,O,Q,n,rfl,K,V,J⟩):=hx;obtain (⟨c,p,G,S,D,R,U,m,rfl,L,N,I⟩):=hy;have k1:dJ s.heap (.ref a)=(B,F):=vA K J;have k2:dJ s.heap (.ref c)=(G,D):=vA L I;rw[k1,k2]at a0 hC;refine kat_lt K J L I ?_;refine kat_cons (tq ?_);by_cases H:B=G
 ·subst H;rw[ID];refine kat_yes (kat_cons (tq ?_));obtain M:F≠D:=λq=>a0 (by rw[q]);rw[oi.mpr M];refine kat_no ?_;refine kat_one _ _ ?_;have:cX (B,F) (B,D)=decide (F < D):=by simp[cX]
  rw[this]at hC;exact PySem.P.lt_int hC
 ·rw[oi.mpr H];refine kat_no ?_;have:cX (B,F) (G,D)=decide (B < G):=by simp[cX,H]
  rw[this]at hC;exact oneLt_int hC
def nN.keep (x:nN h v)(hk:∀a o xs n,h.get? a=ae o->o.cls= .type "tuple"->o.data= .seq xs n->H.get? a=ae o):nN H v/\dJ H v=dJ h v:=by
 obtain⟨a,o,D,B,G,E,F,n,rfl,g,c,d⟩:=x;obtain g':=hk _ _ _ _ g c d;exact⟨⟨a,o,D,B,G,E,F,n,rfl,g',c,d⟩,by rw[vA g d,vA g' d]⟩
def D4 (b:aB)(lt:Keyed->Keyed->aB)(it:ah Keyed):(fu b lt it).length=it.length:=by
 unfold fu;rw[aO];have:∀(lt:Keyed->Keyed->aB) (l:ah Keyed),(sortBy lt l).length=l.length:=by
  intro lt l;induction l with
  |nil=>rfl
  |cons x l D=>
   have B:∀m:ah Keyed,(sortBy.cf lt x m).length=m.length+1:=by
    intro m;induction m with
    |nil=>rfl
    |cons y m E=>
     unfold sortBy.cf;split
     ·rw[fq,E,fq]
     ·rfl
   show(sortBy.cf lt x (sortBy lt l)).length=_;rw[B,D];rfl
 exact this _ _
set_option backward.match.sparseCases true in
theorem OZ {b:aB}{PF:PySem.Fin->aD->Prop}(ho:s.heap.get? a=ae (bC "list" V.toArray n))(h4:V.length<=4)(hT:∀v∈V,nN s.heap v)(a0:(V.map (dJ s.heap)).Nodup)(h:∀H c,(∀b' o,b'≠a->s.heap.get? b'=ae o->H.get? b'=ae o)->H.get? a=ae (bC "list" (fu b (ji s.heap) (V.zip V)).toArray c)->PF (.done (.ret .none)) { s with heap:=H }):
  aA (aV prog w) A (rY a b) PF E s:=by
 have f:=dY s.heap a (bQ λy=>(#[]:aZ aw));obtain⟨M,qt⟩:∃M,(s.heap.update a (bQ λy=>(#[]:aZ aw))).get? a=ae (bC "list" #[] M):=⟨_,ny ho λy=>#[]⟩;unfold rY;refine wB (xg ho rfl ?_);refine wB (oK ho rfl ?_ (by rw[cG,fG];exact FI 0 4 0 16777216 h4 rfl) (cZ _));refine wB (xf qt rfl ?_);refine wB (m7 ?_ (by show V.length<=_;rw[fG];exact FI 0 4 0 16777216 h4 rfl));refine wB (oj ?_ (cZ _));refine eA ?_;have T:∀b' o,b'≠a->s.heap.get? b'=ae o->(((s.heap.update a (bQ λy=>(#[]:aZ aw))).push (bC "tuple" V.toArray 0)).push (bC "list" #[] 0)).get? b'=ae o:=λb' o S e=>
  be _ (be _ ((f.2 b' S).trans e))
 have J:(((s.heap.update a (bQ λy=>(#[]:aZ aw))).push (bC "tuple" V.toArray 0)).push (bC "list" #[] 0)).get? a=ae (bC "list" #[] M):=be _ (be _ qt);show aA (aV prog w) A _ PF E { s with heap:=((s.heap.update a (bQ λy=>(#[]:aZ aw))).push (bC "tuple" V.toArray 0)).push (bC "list" #[] 0) };generalize ((s.heap.update a (bQ λy=>(#[]:aZ aw))).push (bC "tuple" V.toArray 0)).push (bC "list" #[] 0)=H2 at *;have W:∀v∈V,nN H2 v/\dJ H2 v=dJ s.heap v:=λv F=>(hT v F).keep λa' o xs m g c y=>T a' o (λq=>by rw[q,ho]at g;cases g;exact absurd c (by show ¬ (lB "list"=lB "tuple");decide)) g;have L:(fu b (ji s.heap) (V.zip V)).length<=4:=by rw[D4];simp;exact h4
 have step:∀t:dn PySem.Fin,aA (aV prog w) A t PF E { s with heap:=H2 }->aA (aV prog w) A (if b=aj then (do let _ <-jX "list.sort.reverse";t)else t) PF E { s with heap:=H2 }:=by
  intro t ht;split
  ·exact wB (gN ht)
  ·exact ht
 have tail:∀I:SortSt,(jy I).toList=sortBy (ji s.heap) (if b then (V.zip V).reverse else V.zip V)->qQ I=ag->aA (aV prog w) A (do
   let B:=(<-wA a) != M
   tB (.ref a) λy=>if b then ((jy I).map (·.2)).reverse else (jy I).map (·.2)
   if let ae e:=qQ I then jX "list.sort.comparison-raised";throw e
   if B then jX "list.sort.modified";raiseError "ValueError" "list modified during sort"
   ret .none) PF E { s with heap:=H2 }:=by
  intro I D X;have O:(if b then ((jy I).map (·.2)).reverse else (jy I).map (·.2))=(fu b (ji s.heap) (V.zip V)).toArray:=by
   apply xd.mp;unfold fu;cases b with
   |false=>simp only[ja,jb]at D |-;rw[uk,D]
   |true=>
    simp only[jB]at D |-;rw[Ir,uk,D,<-um,DW (D3 s.heap) (V.zip V) (by simp;exact h4)]
  obtain s2:=dY H2 a (bQ λy=>(fu b (ji s.heap) (V.zip V)).toArray);obtain k:=ny J λy=>(fu b (ji s.heap) (V.zip V)).toArray;refine wB (xf J rfl ?_);rw[O];refine wB (oK J rfl ?_ (cZ _) (by rw[cG,fG];exact FI 0 4 0 16777217 L rfl));rw[X];simp only[AU,ja,jb];exact aC (h _ _ (λb' o S e=>(s2.2 b' S).trans (T b' o S e)) k)
 have hz:V.toArray.zip V.toArray=(V.zip V).toArray:=by apply xd.mp;rw[ksk_zip]
 have K:(if b=aj then (V.zip V).toArray.reverse else (V.zip V).toArray)=(if b=aj then (V.zip V).reverse else V.zip V).toArray:=by cases b <;>simp
 try dsimp only
 refine step _ ?_;rw[hz,K];by_cases G:V.toArray.size < 2
 ·rw[aN G,aN G];refine bO (aC ?_);rw[Iu];refine wB (aC ?_);try dsimp only
  rw[cG]at G;refine tail (pI Am (if b=aj then (V.zip V).reverse else V.zip V).toArray #[] 7 ag) ?_ rfl;show(if b=aj then (V.zip V).reverse else V.zip V)=_;rw[DX _ _ (by split <;>simp <;>exact G)]
 ·rw[aK G,aK G];rw[cG]at G;have u:∃N:ah aw,KatTups H2 V N/\N.length=V.length/\∀v∈N,∃x t,v= .int x t:=by
   clear tail a0 G L h4 hz K ho J qt f T h step;induction V with
   |nil=>exact⟨[],.nil,rfl,λy R=>nomatch R⟩
   |cons v V U=>
    obtain⟨N,k1,k2,k3⟩:=U (λv F=>hT v (.tail _ F)) λv F=>W v (.tail _ F);obtain⟨a',o,x1,t1,x2,t2,x3,m,rfl,g,c,d⟩:=(W v (.head _)).1;refine⟨.int x1 t1 :: N,.cons g c d rfl k1,by simp[k2],λv F=>?_⟩;rcases bu.mp F with rfl |F
    ·exact⟨_,_,rfl⟩
    ·exact k3 v F
  obtain⟨N,k1,k2,k3⟩:=u;refine wB (kat_kind (T:=.type "int") k1 (by exact CF 2 0 0 0 1 0 (NL G) (EG k2) rfl) (λv F=>?_) (by decide) ?_)
  ·obtain⟨x,t,rfl⟩:=k3 v F;exact A7 rfl
  rw[show(lB "int" != lB "tuple")=aj by decide];refine wB (DP (κ:=tuples' aj) (lt:=ji s.heap) (D3 _) (by split <;>simp <;>exact(NL G)) (by split <;>simp <;>exact h4) (λi j hi hj C z hC=>?_) (a0:=λZ s'=>aA (aV prog w) A (do
   let B:=(<-wA a) != M
   tB (.ref a) λy=>if b then ((jy Z).map (·.2)).reverse else (jy Z).map (·.2)
   if let ae e:=qQ Z then jX "list.sort.comparison-raised";throw e
   if B then jX "list.sort.modified";raiseError "ValueError" "list modified during sort"
   ret .none) PF E s') λZ M e2=>tail Z M e2)
  have Q:((if b=aj then (V.zip V).reverse else V.zip V).map λp=>dJ s.heap p.1).Nodup:=by
   have e:((V.zip V).map λp=>dJ s.heap p.1)=V.map (dJ s.heap):=by
    have:∀l:ah aw,((l.zip l).map λp=>dJ s.heap p.1)=l.map (dJ s.heap):=by
     intro l;induction l with
     |nil=>rfl
     |cons x l U=>rw[Bj,f9,f9,U]
    exact this V
   cases b with
   |false=>simp only[ja,jb];rw[e];exact a0
   |true=>simp only[jB];rw[um,e];exact List.pairwise_reverse.mpr (a0.imp λY=>Y.symm)
  have R:∀p∈(if b=aj then (V.zip V).reverse else V.zip V),p.1∈V:=λp hp=>by
   have:p∈V.zip V:=by cases b <;>simpa using hp
   exact(rB (a:=p.1) (b:=p.2) this).1
  obtain mi:=R _ (pY hi);obtain mj:=R _ (pY hj);obtain⟨ti,ki⟩:=W _ mi;obtain⟨tj,kj⟩:=W _ mj;refine OY (s:={ s with heap:=H2 }) ti tj ?_ ?_
  ·show dJ H2 _≠dJ H2 _;rw[ki,kj];intro q;have gg:i < ((if b=aj then (V.zip V).reverse else V.zip V).map λp=>dJ s.heap p.1).length:=by rw[aO];exact hi
   have yD:j < ((if b=aj then (V.zip V).reverse else V.zip V).map λp=>dJ s.heap p.1).length:=by rw[aO];exact hj
   exact z ((wG (h₀:=gg) (h₁:=yD) Q).mp (by rw[IE,IE];exact q))
  ·show C (cX (dJ H2 _) (dJ H2 _)) _;rw[ki,kj];exact hC
theorem O2 {l:ah AV}(r:aT X B h l V):∀{ks:ah ((Int×Int)×AV)},rN l=ae ks->
  ∃zz:ah (((Int×Int)×AV)×Keyed),ks=zz.map (·.1)/\V.zip V=zz.map (·.2)/\V.map (dJ h)=ks.map (·.1)/\(∀v∈V,nN h v)/\∀z∈zz,dJ h z.2.1=z.1.1/\aF X B h z.1.2 z.2.2:=by
 induction r with
 |nil=>exact λe=>dp e ▸ ⟨[],rfl,rfl,rfl,(λv F=>nomatch F),λv F=>nomatch F⟩
 | @cons x v l V J j W=>
  intro ks e;obtain⟨E,R,e⟩:=qT.mp e;obtain⟨N,F,e⟩:=jZ.mp e;obtain⟨zz,M,S,U,L,K⟩:=W F;subst e;obtain⟨y,q⟩:=xV R;subst q;have G:=J;cases J with
  | @mk ad Z k A t T Y u=>
  obtain⟨_,_,g,c,n,d⟩:=t;obtain⟨O,rfl⟩:=T;obtain⟨Q,rfl⟩:=Y;have D:dJ h (.ref ad)=(E.1,E.2):=by simp only[dJ,g,d];rfl
  refine⟨((E,_),(_,_)) :: zz,by rw[M];rfl,by rw[Bj,S];rfl,by rw[f9,U,D];rfl,λv H=>?_,λz I=>?_⟩
  ·rcases bu.mp H with rfl |H
   ·exact⟨_,_,E.1,O,E.2,Q,_,n,rfl,g,c,d⟩
   ·exact L v H
  ·rcases bu.mp I with rfl |I
   ·exact⟨D,G⟩
   ·exact K z I
theorem D8 {a0:aw->aD->Prop}(b0:Inv X B I h)(ea:B[i]? =ae a)(c0:aB)(ha:pT "list.sort" ⟨[.ref a],kvs⟩)(ht:j2.«list.sort» ⟨[.ref a],kvs⟩=rY a c0)(hr:(lst i>>=λl=>uF c0 l>>=λl'=>P.store i (.list l')>>=λt=>P.pure AV.none).run I (aL X z [] B h (RV X) a0 E)):aA (MX X) A (call (.builtin "list.sort") [.ref a] kvs) a0 E (sh z h W):=by
 obtain (⟨l,S,hr⟩):=gW hr;obtain (⟨V,n,R,T,len,Z⟩):=ez b0 S ea;obtain (⟨k,o,hr⟩):=c9 hr;obtain⟨⟨L,O⟩,hr⟩:=a6 hr;have hr:aL X z [] B h (RV X) a0 E (.ok .none) (I.set i (.list ((sortBy (λx y=>if c0 then cX y.1 x.1 else cX x.1 y.1) k).map (·.2)))):=hr;obtain (⟨J,rfl,b,f,Y,K⟩):=O2 T o;refine Iy Iz ⟨_,R,rfl⟩ IA ?_ ha;rw[ht];refine OZ (s:=sh z h W) R (by exact TT (EL len) O) Y (by rw[f];exact L) λH c w g=>⟨_,rfl,?_⟩;have M:aT X B h ((sortBy (λx y=>if c0 then cX y.1 x.1 else cX x.1 y.1) (J.map (·.1))).map (·.2)) (fu c0 (ji h) (V.zip V)):=by
  unfold fu;rw[b];have j:=lQ (lt:=λx y:(Int×Int)×AV=>if c0 then cX y.1 x.1 else cX x.1 y.1) (lt':=λG F:((Int×Int)×AV)×Keyed=>if c0 then cX F.1.1 G.1.1 else cX G.1.1 F.1.1) (λz=>z.1) J (λv v v v=>rfl);have N:=lQ (lt:=λx y:Keyed=>if c0 then ji h y x else ji h x y) (lt':=λG F:((Int×Int)×AV)×Keyed=>if c0 then cX F.1.1 G.1.1 else cX G.1.1 F.1.1) (λz=>z.2) J (λx m y u=>by
   unfold ji;rw[(K x m).1,(K y u).1])
  rw[j.1,N.1,oL,oL];exact aT.ofMap _ λz hz=>(K z (N.2 z hz)).2
 have D:=M.length;rw[D4]at D;obtain⟨U,G'⟩:=b0.DB (b0:=.list ((sortBy (λx y=>if c0 then cX y.1 x.1 else cX x.1 y.1) (J.map (·.1))).map (·.2))) S ea w g rfl ⟨fu c0 (ji h) (V.zip V),c,rfl,M,by rw[<-D];simp;exact CF 0 0 0 4 0 10000 (EL len) O rfl⟩ [];exact hr _ _ _ _ (.refl _) U G' _ .none
def O3 (a0:Inv X B I h)(ea:B[i]? =ae a)(ra:aT X B h T V)(rk:cq X B h kw kvs):aW X A [] (RV X) B I h (call (.builtin "list.sort") (.ref a :: V) kvs) (e9 F (.ref i) .sort T kw):=by
 intro z W Q E D;obtain⟨rfl,D⟩:=yB ra (nR D);obtain⟨b,rfl,D⟩:=Du rk D;cases b with
 |false=>exact D8 a0 ea az (V' _) (OW a) D
 |true=>exact D8 a0 ea aj (Wa _ _) (OX a) D
def eT.O4 {e:ay}{o:aw}{n:au}(x:Bn h H e o n):eT "AttributeError" e h H:=by
 obtain⟨t,u,B⟩:=x.there;exact⟨x.new,by rfl,by decide,_,_,B,rfl,rfl,by simp,.inl rfl⟩
def Ea:tU (.type "int") (aq "startswith")=pure ag:=by rw[rg,rh];kernel_rfl
theorem O8 {n:Int}{t:cK}{b0:au}{a0:aw->aD->Prop}(c0:tU (.type "int") b0=pure ag)(hA:A.handled=ag)(h:∀H W e,Bn s.heap H e (.int n t) b0->E (.ref e) { s with heap:=H,toks:=W })(d0:b0.length+100<=Bb:=by size_fits):
  aA (aV prog w) A (getAttr (.int n t) b0 az) a0 E s:=by
 obtain⟨K,g,d,W,os⟩:=s;have G:∀s':aD,s'.TypeIs (.int n t) "int":=λu=>rfl;have O:=sub_AttributeError;have R:=F.slot_int_getattribute.lookup;have N:=F.slot_int_getattribute.bind (.int n t);have M:=IF;unfold getAttr getAttrBy;repeat (any_goals (first |assumption |((with_reducible show aA _ _ (call (uf "object.__getattribute__") _ _) _ _ _);refine nk F.slot_int_getattribute (G _) IG (F.args_int_getattribute_2 _ _) (IH n t b0 _ c0 d0) ⟨hA,λH D e B=>?_⟩) |((with_reducible show aA _ _ (call (uf "int.__getattribute__") _ _) _ _ _);refine nk F.slot_int_getattribute (G _) IG (F.args_int_getattribute_2 _ _) (IH n t b0 _ c0 d0) ⟨hA,λH D e B=>?_⟩) |wp_step))
 obtain⟨I,L,J⟩:=B.there;show aA _ _ (getattributeRaised _ _ _ _ _ _ _) _ _ _;unfold getattributeRaised;repeat (any_goals (first |assumption |wp_step))
 exact h _ _ _ B
def O9 {n:Int}{t:cK}{pl:dn aB}{a0:aw×ah aw->aD->Prop}(hA:A.handled=ag)(h:∀H W e,Bn s.heap H e (.int n t) (aq "startswith")->E (.ref e) { s with heap:=H,toks:=W }):aA (aV prog w) A (Bo (.int n t) (aq "startswith") pl) a0 E s:=by
 have B:s.TypeIs (.int n t) "int":=rfl;unfold getMethod;refine bO (rG B F.slot_int_getattribute.lookup ?_);dsimp only;rw[aK (by decide +kernel)];refine wB (rG B IF ?_);refine wB (rG B Ea ?_);exact wB (O8 Ea hA h)
def Eb {m:au}(h:rP m=ae mm):m=aq (Cd mm):=by
 unfold rP at h;split at h
 ·cases h;assumption
 split at h
 ·cases h;assumption
 split at h
 ·cases h;assumption
 split at h
 ·cases h;assumption
 split at h
 ·cases h;assumption
 split at h
 ·cases h;assumption
 split at h
 ·cases h;assumption
 split at h
 ·cases h;assumption
 ·cases h
def jj.step {ov:AV}{f:aw}{fi:ah aw}(m:jj X B ov mm f fi)(a0:Go X [] B h J H):jj X J ov mm f fi:=by
 cases m with
 |startswith=>exact .startswith
 |split=>exact .split
 |join=>exact .join
 |append e=>exact .append (a0.step.iP e)
 |extend e=>exact .extend (a0.step.iP e)
 |pop e=>exact .pop (a0.step.iP e)
 |sort e=>exact .sort (a0.step.iP e)
 |names e D=>exact .names (a0.step.iP e) D
def Pa {ov:AV}{m:au}{pl:dn aB}{b0:aw×ah aw->aD->Prop}(C:cn X)(a0:Inv X B I h)(hm:rP m=ae mm)(rv:aF X B h ov v){γ:Type}{g:b8->P γ}{p:Res γ->St->Prop}(hr:(lH ov mm>>=g).run I p)(hQ:∀f fi,jj X B ov mm f fi->(g ()).run I p->b0 (f,fi) (sh z h W)):aA (MX X) A (Bo v m pl) b0 E (sh z h W):=by
 have K:=Eb hm;subst K;cases ov with
 |str s=>
  obtain⟨t,rfl⟩:=rv;obtain⟨L,D⟩:=a6 hr;clear hr;have M:∀{p:Obj->Prop} a,qV s t=gu a->∃o,(sh z h W).heap.get? a=ae o/\p o:=λa e=>Value.noConfusion e;rcases L with rfl |rfl |rfl
  ·refine pZ (v:=.str s t) (T:="str") (name:=aq "startswith") (id:="str.startswith") (pR _ _ _) PySem.F.plainAttrs_str PySem.F.slot_str_startswith PySem.F.type_str_startswith M ?_;exact hQ _ _ .startswith D
  ·refine pZ (v:=.str s t) (T:="str") (name:=aq "split") (id:="str.split") (pR _ _ _) PySem.F.plainAttrs_str PySem.F.slot_str_split PySem.F.type_str_split M ?_;exact hQ _ _ .split D
  ·refine pZ (v:=.str s t) (T:="str") (name:=aq "join") (id:="str.join") (pR _ _ _) PySem.F.plainAttrs_str PySem.F.slot_str_join PySem.F.type_str_join M ?_;exact hQ _ _ .join D
 |ref i=>
  cases rv with
  | @mk a e=>
  obtain⟨T,R,hr⟩:=eV (i:=i) (g:=λo=>(match o with
   |.list _=>P.guard (mm= .append\/mm= .extend\/mm= .pop\/mm= .sort)
   |.inst d=>(do
    match <-P.load d with
    |.bc l=>P.guard (mm= .names/\(l.lookup (aq "names")).isNone=aj)
    |_=>P.fail)
   |_=>P.fail)>>=g) hr
  cases T with
  |list l=>
   obtain⟨L,D⟩:=a6 hr;clear hr;obtain⟨O,n,H,rl,len,_⟩:=ez a0 R e;have J:∀b,gu a= .ref b->∃o,(sh z h W).heap.get? b=ae o/\o.dict=ag:=λb q=>by cases q;exact⟨_,H,rfl⟩
   rcases L with rfl |rfl |rfl |rfl
   ·refine pZ (v:=.ref a) (T:="list") (name:=aq "append") (id:="list.append") ⟨_,H,rfl⟩ PySem.F.plainAttrs_list PySem.F.slot_list_append PySem.F.type_list_append J ?_;exact hQ _ _ (.append e) D
   ·refine pZ (v:=.ref a) (T:="list") (name:=aq "extend") (id:="list.extend") ⟨_,H,rfl⟩ PySem.F.plainAttrs_list PySem.F.slot_list_extend PySem.F.type_list_extend J ?_;exact hQ _ _ (.extend e) D
   ·refine pZ (v:=.ref a) (T:="list") (name:=aq "pop") (id:="list.pop") ⟨_,H,rfl⟩ PySem.F.plainAttrs_list PySem.F.slot_list_pop PySem.F.type_list_pop J ?_;exact hQ _ _ (.pop e) D
   ·refine pZ (v:=.ref a) (T:="list") (name:=aq "sort") (id:="list.sort") ⟨_,H,rfl⟩ PySem.F.plainAttrs_list PySem.F.slot_list_sort PySem.F.type_list_sort J ?_;exact hQ _ _ (.sort e) D
  |inst d=>
   obtain⟨ad,U,hr⟩:=eV (i:=d) (g:=λo=>(match o with
    |.bc l=>P.guard (mm= .names/\(l.lookup (aq "names")).isNone=aj)
    |_=>P.fail)>>=g) hr
   cases ad with
   |bc l=>
    obtain⟨Z,D⟩:=a6 hr;clear hr;obtain⟨rfl,V⟩:=Z;obtain⟨da,w,S,m,_,k,Y,c,u,j,_,r⟩:=yu a0 R U e;obtain⟨fN,N,F,G⟩:=C.iM.names;have q:=r (aq "names");rw[wY.mp V]at q;refine method_fn (s:=sh z h W) (a0.lN C) k C.iM.ga C.iM.gk F G ?_ (hQ _ _ (.names e N) D);show(lookIn (aq "names") w).map _=_;rw[C4 u j,show jw S (aq "names")=ag from q];rfl
   |_=>exact hr.elim
  |_=>exact hr.elim
 |_=>exact hr.elim
def Ec (e:h.get? a=ae o)(d:o.data= .func fd):oD M h (oE (.ref a)) .frame:=by
 obtain⟨c,E,D,B⟩:=o;cases d;exact(Looks.ld (part:=ag) e).andThen .now
def Pb {X:Cx}{ov:AV}{f:aw}{fi:ah aw}(C:cn X)(hF:∀X,cn X->HF X F k)(a0:Inv X B I h)(ar:Ar X k (20 * k+38) A le B h)(m:jj X B ov mm f fi)(ra:aT X B h T V)(rk:cq X B h kw kvs):aW X A [] (RV X) B I h (call f (fi++V) kvs) (e9 F ov mm T kw):=by
 intro z W Q E D;cases m with
 |startswith=>exact OP a0 ra rk z W Q E D
 |split=>exact OQ a0 ra rk z W Q E D
 |join=>exact OR a0 ra rk z W Q E D
 |append e=>exact OS a0 e ra rk z W Q E D
 |extend e=>exact OT a0 e ra rk z W Q E D
 |pop e=>exact OV a0 e ra rk z W Q E D
 |sort e=>exact O3 a0 e ra rk z W Q E D
 |names e G=>
  obtain⟨rfl,D⟩:=gZ rk (nR D);exact hF X C C (ar.less (a4 _) (by exact RR 30 38 rfl)) a0 (.fn G) (.cons (.ref e) ra) .nil z W Q E D
def Ed {n:au}(C:cn X)(a0:Inv X B I h)(e:X.ky n=ae a)(hk:∀o,X.base.get? a=ae o->eN):∃kp,(kp=tX\/kp=pX\/kp=tY)/\oD (MX X) h (oE (.ref a)) kp:=by
 by_cases D:n=gE
 ·subst D;rw[C.cls]at e;cases e;exact keeps_K (f:=.ref X.gT) C.iM.keep h (a0.lN C)
 ·obtain⟨o,E,g,d,_⟩:=C.fns n a e D h a0.base;exact⟨.frame,.inl rfl,Ec g d⟩
def Pc {X:Cx}{x:au}{T:ah aH}{ks:ah m5}{g:aH->DE}(hF:∀X,cn X->HF X F k)(hd:HE X F k U (.Name x p) d)(ha:∀e∈T,HE X F k U e (g e))(hw:∀w∈ks,HE X F k U (nL w) (g (nL w))):
  HE X F k U (.Call (.Name x p) T ks q) (λrt=>do
   P.guard (lL T ks=aj)
   let fv <-d rt
   let c0 <-dG (T.map g) rt
   let kv <-fV (ks.map (oS g)) rt
   eu rt fv c0 kv):=by
 intro A l G Q N B I h K z W D E Z;obtain⟨a0,Z⟩:=a6 Z;refine ug ?_;refine(hd K).then Z λz1 f0 g0 h1 t1 fv f I1 G1 rf e0=>?_;have K1:=K.step I1 G1;refine ym (R':=RV X) (e0:=[]) (Pk:=λH=>(∃kp,(kp=tX\/kp=pX\/kp=tY)/\oD (MX X) H (oE f) kp)) (a0:=λV kv=>eu ⟨F,Q,N⟩ fv V kv) K1 ha hw a0 (λH hp=>hp) e0 λj M d0 S m V u kv O Y G2 R rk J=>?_;have K2:=K1.step Y G2;have L:=rf.step G2.step;have b0:Ar X k (20 * k+38) A l M S:=K2.ar.less (a4 _) (by exact RR 38 40 rfl);have b:Ar X k (20 * k+30) A l M S:=K2.ar.less (a4 _) (by exact RR 30 40 rfl);have bi:∀{fv:AV} {f:aw},aF X M S fv f->(∃n,f= .builtin n\/f= .type n)->(xB F fv V kv).run d0 (aL X j [] M S (RV X) D E)->(∃kp,(kp=tX\/kp=pX\/kp=tY)/\oD (MX X) S (oE f) kp)/\aA (MX X) A (call f ([]++u) O) D E (sh j S m):=by
  intro fv f rf hn Z;refine⟨?_,OL K.ok hF Y b0 rf R rk j m D E Z⟩;obtain⟨n,rfl |rfl⟩:=hn
  ·exact⟨_,.inr (.inl rfl),C6 _ _ _⟩
  ·exact⟨_,.inr (.inl rfl),sf _ _ _⟩
 cases fv with
 |fn n=>
  obtain⟨e⟩:=L;exact⟨Ed K.ok Y e (λv v=>trivial),hF X K.ok K.ok b Y (.fn e) R rk j m D E J⟩
 |ref i=>
  obtain⟨e⟩:=L;obtain⟨ao,ei,J⟩:=eV J;cases ao with
  |lam _ _ _ _=>
   obtain⟨o,eo,bo⟩:=Y.obj i _ _ ei e;obtain⟨_,_,_,_,_,_,rfl,_⟩:=bo;exact⟨⟨.frame,.inl rfl,Ec eo rfl⟩,hF X K.ok K.ok b Y (.ref e) R rk j m D E J⟩
  |_=>exact J.elim
 |bi n=>cases L;exact bi (.bi n) ⟨n,.inl rfl⟩ J
 |ty n=>cases L;exact bi (.ty n) ⟨n,.inr rfl⟩ J
 |_=>exact J.elim
def Pd:∀(T:ah aH) (pos:fj) (G:bH),(lA pos (jA T G)).all (λx=>!x.1)= !(lA pos (jA T G)).any (·.1):=λT pos G=>by
 rw[qW];simp
theorem Pe {X:Cx}{o:aH}{m:au}{ap:fj}{T:ah aH}{ks:ah m5}{g:aH->DE}(hF:∀X,cn X->HF X F k)(hd:HE X F k U o d)(ha:∀e∈T,HE X F k U e (g e))(hw:∀w∈ks,HE X F k U (nL w) (g (nL w))):
  HE X F k U (.Call (.Attribute o m ap) T ks q) (λrt=>do
   P.guard (lL T ks=aj/\xD o ap q=aj/\T.length+ks.length < 28)
   let a0 <-P.opt (rP m)
   let ov <-d rt
   if isInt ov=aj/\a0= .startswith then P.err "AttributeError"
   else do
    lH ov a0
    let f0 <-dG (T.map g) rt
    let kv <-fV (ks.map (oS g)) rt
    e9 rt.F ov a0 f0 kv):=by
 intros _ A l G Q N B I h _ K _ z W D E _ b;obtain⟨⟨Y,M,l0⟩,b⟩:=a6 b;obtain⟨mm,d0,b⟩:=c9 b;unfold xD at M;rw[cW]at M;have S:attributeBase o m G (eval o G)=eval o G:=by
  cases o <;>first |rfl |(exact absurd M.1 jd)
 rw[arm_eval_Call,S];refine wB ?_;refine(hd K).then b λz1 b0 h0 h1 t1 ov v I1 G1 rv L=>?_;have K1:=K.step I1 G1;refine wB (jC ?_);have J:=Y;unfold lL at J;rw[cW]at J;obtain⟨w1,w2⟩:=yl ks q G J.2;have R:methodCallForm (T.length+ks.length) (lA q (jA T G)) (mh q (mn ks G))=aj:=by
  clear M;unfold methodCallForm;rw[Pd,plain_any T q G J.1,w1];simp;split <;>lia
 have c0:methodCallPos aj o G ap q=pure q:=by unfold methodCallPos;simp[M.2]
 unfold methodCall;rw[R];have u:calleeOf aj o G v m=Bo v m (do return (<-importBound o G).getD aj):=rfl;rw[u];by_cases O:isInt ov=aj/\mm= .startswith
 ·rw[aN O]at L;obtain⟨hi,rfl⟩:=O;have Z:=Eb d0;simp only[Cd]at Z;subst Z;cases ov with
  |int n=>
   obtain⟨t,rfl⟩:=rv;refine wB (eA (O9 (s:=sh z1 h1 t1) (show A.handled=ag from K.ar.handled) λH m0 e x=>?_));have L:aL X z1 [] b0 h1 (RV X) D E (.err "AttributeError") h0:=L;exact L _ _ _ _ (.refl _) (I1.keeps x.keeps) (Go.keeps X b0 x.keeps []) _ (eT.O4 x)
  |_=>cases hi
 ·rw[aK O]at L;refine wB (eA (Pa K.ok I1 d0 rv L λf fi mf j0=>?_));dsimp only;rw[c0];refine wB (aC ?_);refine ym (R':=RV X) (e0:=fi) (Pk:=λH=>(∃kp,(kp=tX\/kp=pX\/kp=tY)/\oD (MX X) H (oE f) kp)) (a0:=λV kv=>e9 F ov mm V kv) K1 ha hw Y (λH hp=>hp) j0 λz2 o0 n0 h2 t2 V k0 kv e0 I2 G2 g0 rk i0=>?_;have K2:=K1.step I2 G2;have j:=mf.step G2;refine⟨?_,Pb K.ok hF I2 (K2.ar.less (a4 _) (by exact RR 38 40 rfl)) j g0 rk z2 t2 D E i0⟩;cases j with
  |names e ef=>exact Ed K.ok I2 ef (λy y=>trivial)
  |_=>exact⟨_,.inr (.inl rfl),C6 _ _ _⟩
def HE.stuck:HE X F k U e stuck:=λu u u u u u u u u u u u u B=>B.elim
def HT.stuck:HT X F k U e stuck:=λu u u u u u u u u u u u u B=>B.elim
def HR.stuck:HR X F k U e stuck:=λu u u u u u u u u u u u u B=>B.elim
def HI.stuck:HI X F k U e stuck:=λu u u u u u u u u u u u u B=>B.elim
def HA.stuck:HA X F k U e (λc=>stuck):=by
 intro A l G Q N B I h K x v r z W D E H;exact H.elim
def all_zero (X:Cx)(F:Or)(k:ak):mI X F k 0:=⟨λu u=>HE.stuck (F:=F),λu u=>HT.stuck (F:=F),λu u=>HR.stuck (F:=F),λu u=>HI.stuck (F:=F),λu u=>HA.stuck (F:=F)⟩
def Ee:∀e,dg e=az->cE U n e=Internal.stuck:=λe h=>by
 cases e with
 |Starred a b=>cases n <;>rfl
 |_=>cases h
def Pf {M:aH->Prop}(S:∀e,cE U (n+1) e=Internal.stuck->M e)(h1:∀c a p,M (.Constant c a p))(h2:∀x p,M (.Name x p))(h3:∀a op b p,M (.BinOp a op b p))(h4:∀x p,M (.UnaryOp .Not x p))(h5:∀x p,M (.UnaryOp .USub x p))(h6:∀x y p,M (.BoolOp .And [x,y] p))(h7:∀x y p,M (.BoolOp .Or [x,y] p))(h8:∀t b o p,M (.IfExp t b o p))(h9:∀a op r p,M (.Compare a [op] [r] p))(d0:∀es p,M (.List es p))(e0:∀es a p,M (.Tuple es a p))(j0:∀ck a b cv c d p,M (.Dict [ae (.Constant ck a b)] [.Constant cv c d] p))(g0:∀x q a p,M (.Attribute (.Name x q) a p))(i0:∀o lo hi q p,M (.Subscript o (.Slice lo hi bq q) p))(k0:∀o lo hi I q p,M (.Subscript o (.Slice lo hi (ae I) q) p))(b0:∀o i p,uS i=az->cE U (n+1) (.Subscript o i p)=(λrt=>do
   let v0 <-cE U n o rt
   let w0 <-cE U n i rt
   ik v0 w0)->M (.Subscript o i p))(f0:∀T a0 aP p,M (.Lambda T a0 aP p))(l0:∀elt t src ifs aP p,M (.ListComp elt [⟨t,src,ifs,0⟩] aP p))(h0:∀o m ap T ks q,M (.Call (.Attribute o m ap) T ks q))(c0:∀x p T ks q,M (.Call (.Name x p) T ks q))(e:aH):M e:=by
 cases e with
 |Constant c a p=>exact h1 c a p
 |Name x p=>exact h2 x p
 |BinOp a op b p=>exact h3 a op b p
 |UnaryOp op x p=>
  cases op with
  |Not=>exact h4 x p
  |USub=>exact h5 x p
  |_=>exact S _ rfl
 |BoolOp op V p=>
  rcases V with _ |⟨x,_ |⟨y,_ |⟨_,_⟩⟩⟩<;>cases op
  ·exact S _ rfl
  ·exact S _ rfl
  ·exact S _ rfl
  ·exact S _ rfl
  ·exact h6 x y p
  ·exact h7 x y p
  ·exact S _ rfl
  ·exact S _ rfl
 |IfExp t b o p=>exact h8 t b o p
 |Compare a G D p=>
  rcases G with _ |⟨op,_ |⟨_,_⟩⟩<;>rcases D with _ |⟨r,_ |⟨_,_⟩⟩;all_goals first
   |exact S _ rfl
   |exact h9 _ _ _ _
 |List es p=>exact d0 es p
 |Tuple es a p=>exact e0 es a p
 |Dict F B p=>
  rcases F with _ |⟨_ |k,_ |⟨k2,ks⟩⟩
  ·exact S _ rfl
  ·exact S _ rfl
  ·exact S _ rfl
  ·cases k with
   |Constant ck a b=>
    rcases B with _ |⟨v,_ |⟨v2,V⟩⟩
    ·exact S _ rfl
    ·cases v with
     |Constant cv c d=>exact j0 ck a b cv c d p
     |_=>exact S _ rfl
    ·cases v <;>exact S _ rfl
   |_=>exact S _ rfl
  ·cases k <;>exact S _ rfl
 |Attribute v a p=>
  cases v with
  |Name x q=>exact g0 x q a p
  |_=>exact S _ rfl
 |Subscript o i p=>
  cases i with
  |Slice lo hi I q=>cases I with
   |none=>exact i0 o lo hi q p
   |some I=>exact k0 o lo hi I q p
  |_=>exact b0 _ _ _ rfl rfl
 |Lambda T a0 aP p=>exact f0 T a0 aP p
 |ListComp elt E aP p=>
  rcases E with _ |⟨⟨t',i,ifs,a⟩,_ |⟨_,_⟩⟩
  ·exact S _ rfl
  ·rcases a with (_ |a) |a
   ·exact l0 elt t' i ifs aP p
   ·exact S _ rfl
   ·exact S _ rfl
  ·rcases a with (_ |a) |a <;>exact S _ rfl
 |Call f T ks q=>
  cases f with
  |Attribute o m ap=>exact h0 o m ap T ks q
  |Name x p=>exact c0 x p T ks q
  |_=>exact S _ rfl
 |_=>exact S _ rfl
def Pg {X:Cx}(hF:∀X,cn X->HF X F k)(ih:∀X,mI X F k n)(e:aH):HE X F k U e (cE U (n+1) e):=by
 have E:∀e,HE X F k U e (cE U n e):=(ih X).e U;refine Pf (U:=U) (n:=n) (M:=λe=>HE X F k U e (cE U (n+1) e)) (λe h=>?_) (λc a p=>?_) (λx p=>?_) (λa op b p=>(JQ (E _) (E _))) (λx p=>(JR (E _))) (λx p=>(JS (E _)))
  (λx y p=>(JT (E _) (E _))) (λx y p=>(JU (E _) (E _))) (λt b o p=>(JV ((ih X).t U _) (E _) (E _))) (λa op r p=>(Kg (E _) (E _))) (λV p=>(J3 (λe g=>E e) (λe g=>Ee e)))
  (λV a p=>(J4 (λe g=>E e) (λe g=>Ee e))) (λck a b cv c d p=>(Mo (F:=F))) (λx q a p=>(Mi (E _))) (λo lo O q p=>(Kq (E _) (λe g=>E e) (λe g=>E e))) (λo lo O I q p=>?_)
  (λo i p L h2=>?_) (λT M H p=>(Nj (F:=F))) (λa0 t f R H p=>(Di ((ih X).i U _) (λj=>(ih _).a _ _) (λj=>(ih _).e _ _) (λj c g=>(ih _).t _ _)))
  (λo m ap T Y q=>(Pe hF (E _) (λe g=>E e) (λw g=>E _))) (λx p T Y q=>(Pc hF (E _) (λe g=>E e) (λw g=>E _))) e
 ·rw (config:={}) [h];exact(HE.stuck (F:=F))
 ·exact λA l G Q N B I h K=>JI K.inv _ _ _
 ·exact λA l G Q N B I h K=>Cj K.ok K.inv K.en _ _
 ·intro A l G Q N B Z h K z W D E' S;refine AA ?_;refine(E o K).then (show(cE U n o ⟨F,Q,N⟩>>=λv=>cE U n (.Slice lo O (ae I) q) ⟨F,Q,N⟩>>=λw=>ik v w).run Z _ from S) λz1 u b0 L t1 x v I1 G1 rx J=>?_;cases n <;>exact J.elim
 ·rw (config:={}) [h2];exact(Kk L (E _) (E _))
def Ph {t b o:aH}{cb co:DT}(ht:HT X F k U t ct)(hb:HT X F k U b cb)(ho:HT X F k U o co):HT X F k U (.IfExp t b o pos) (λrt=>do
   let c <-ct rt
   if c then cb rt else co rt):=by
 intro A l G Q N B I h K z W D E R;rw[arm_isTrue_IfExp];refine wB ?_;refine(ht K).then R λL V T Y M x v J O S H=>?_;obtain rfl:x=v:=S;cases x with
 |true=>exact hb (K.step J O) L M D E H
 |false=>exact ho (K.step J O) L M D E H
def Pj {M:aH->Prop}(no:∀e,cT U (n+1) e=Internal.stuck->M e)(a0:∀e,(∀G whole,tu e G whole=(do let v0 <-whole;tH e.pos;ly [v0] (truthy v0)))->cT U (n+1) e=(λrt=>do
   let v0 <-cE U n e rt
   eE v0)->M e)(h1:∀x p,M (.UnaryOp .Not x p))(h2:∀a b p,M (.BoolOp .And [a,b] p))(h3:∀a b p,M (.BoolOp .Or [a,b] p))(h4:∀a b c p,M (.BoolOp .Or [a,b,c] p))(h5:∀t b o p,M (.IfExp t b o p))(h6:∀l op r p,M (.Compare l [op] [r] p))(e:aH):M e:=by
 cases e with
 |UnaryOp op x B=>cases op with
  |Not=>exact h1 x B
  |_=>exact a0 _ (λu u=>rfl) rfl
 |BoolOp op V B=>
  rcases V with _ |⟨a,_ |⟨b,_ |⟨c,_ |⟨_,_⟩⟩⟩⟩<;>cases op
  ·exact no _ rfl
  ·exact no _ rfl
  ·exact no _ rfl
  ·exact no _ rfl
  ·exact h2 a b B
  ·exact h3 a b B
  ·exact no _ rfl
  ·exact h4 a b c B
  ·exact no _ rfl
  ·exact no _ rfl
 |IfExp t b o B=>exact h5 t b o B
 |Compare F E D B=>
  rcases E with _ |⟨op,_ |⟨_,_⟩⟩<;>rcases D with _ |⟨v,_ |⟨_,_⟩⟩;all_goals first
   |exact no _ rfl
   |exact h6 _ _ _ _
 |_=>exact a0 _ (λu u=>rfl) rfl
def Pl {X:Cx}(ih:∀X,mI X F k n)(e:aH):HT X F k U e (cT U (n+1) e):=by
 have E:∀e,HE X F k U e (cE U n e):=(ih X).e U;have T:∀e,HT X F k U e (cT U n e):=(ih X).t U;refine Pj (n:=n) (U:=U) (M:=λe=>HT X F k U e (cT U (n+1) e)) (λe h=>?_) (λe B D=>?_) (λx p=>?_) (λa b p=>?_) (λa b p=>?_) (λa b c p=>?_) (λt b o p=>?_) (λl G r p=>?_) e
 ·rw (config:={}) [h];exact(HT.stuck (F:=F))
 ·rw (config:={}) [D];exact(J2 (E e) B)
 ·exact(JW (T _))
 ·exact(JX (T _) (T _))
 ·exact(JY (T _) (T _))
 ·exact(JZ (T _) (T _) (T _))
 ·exact(Ph (T _) (T _) (T _))
 ·exact(Kh (E _) (E _))
def Pm {M:aH->Prop}(a0:∀e,cR U (n+1) e=(λrt=>do
   let v0 <-cE U n e rt
   P.pure (.val v0))->M e)(h:∀f p T q,M (.Call (.Name f p) T [] q))(e:aH):M e:=by
 cases e with
 |Call f T B q=>cases f with
  |Name f p=>cases B with
   |nil=>exact h f p T q
   |cons _ _=>exact a0 _ rfl
  |_=>exact a0 _ rfl
 |_=>exact a0 _ rfl
def Pn {X:Cx}(ih:∀X,mI X F k n)(e:aH):HR X F k U e (cR U (n+1) e):=by
 have E:∀e,HE X F k U e (cE U n e):=(ih X).e U;have V:∀e,cR U (n+1) e=(λrt=>do
   let v <-cE U n e rt
   P.pure (.val v))->HR X F k U e (cR U (n+1) e):=λe h=>by
  rw (config:={}) [h];exact(Mz (E _))
 refine Pm (U:=U) (n:=n) (M:=λe=>HR X F k U e (cR U (n+1) e)) V (λf p T q=>?_) e;rcases uq ((cM U f == ae .globalImplicit && f == aq "range")=aj)with hc |hc
 ·have D:cR U (n+1) (.Call (.Name f p) T [] q)=(λrt=>do
    P.guard (lL T []=aj)
    let l <-dG (T.map (cE U n)) rt
    lK l):=aN hc
  rw (config:={}) [D];rw[cW,bU,bU]at hc;obtain⟨B,rfl⟩:=hc;exact(src_range B (λe u=>E e))
 ·exact(V _ (aK hc))
def Po {M:aH->Prop}(a0:∀e,cI U (n+1) e=(λrt=>do
   let v0 <-cE U n e rt
   jG v0)->M e)(h:∀f p T q,M (.Call (.Name f p) T [] q))(e:aH):M e:=by
 cases e with
 |Call f T B q=>cases f with
  |Name f p=>cases B with
   |nil=>exact h f p T q
   |cons _ _=>exact a0 _ rfl
  |_=>exact a0 _ rfl
 |_=>exact a0 _ rfl
theorem Pp {X:Cx}(ih:∀X,mI X F k n)(e:aH):HI X F k U e (cI U (n+1) e):=by
 have E:∀e,HE X F k U e (cE U n e):=(ih X).e U;have R:∀e,HR X F k U e (cR U n e):=(ih X).r U;have V:∀e,cI U (n+1) e=(λrt=>do
   let v <-cE U n e rt
   jG v)->HI X F k U e (cI U (n+1) e):=λe h=>by
  rw (config:={}) [h];exact(Ls (E _))
 refine Po (U:=U) (n:=n) (M:=λe=>HI X F k U e (cI U (n+1) e)) V ?_ e;intros _ f p T q;rcases uq ((cM U f == ae .globalImplicit && f == aq "enumerate")=aj)with c1 |c1
 ·have B:cI U (n+1) (.Call (.Name f p) T [] q)=(match (generalizing:=false) T with
    | [a]=>λrt=>do
     P.guard (dg a=aj)
     let x <-cR U n a rt
     let i <-eP x
     P.pure (.enum 0 i)
    |_=>stuck):=aN c1
  rw (config:={}) [B];rw[cW,bU,bU]at c1;obtain⟨D,rfl⟩:=c1;rcases T with _ |⟨a,_ |⟨_,_⟩⟩
  ·exact(HI.stuck (F:=F))
  ·exact(MB D (R _))
  ·exact(HI.stuck (F:=F))
 rcases uq ((cM U f == ae .globalImplicit && f == aq "zip")=aj)with c2 |c2
 ·have B:cI U (n+1) (.Call (.Name f p) T [] q)=(match (generalizing:=false) T with
    | [a,b]=>λrt=>do
     P.guard (dg a=aj/\dg b=aj)
     let x <-cR U n a rt
     let y <-cR U n b rt
     let i <-eP x
     let j <-eP y
     P.pure (.zip i j)
    |_=>stuck):=(aK c1).trans (aN c2)
  rw (config:={}) [B];rw[cW,bU,bU]at c2;obtain⟨D,rfl⟩:=c2;rcases T with _ |⟨a,_ |⟨b,_ |⟨_,_⟩⟩⟩
  ·exact(HI.stuck (F:=F))
  ·exact(HI.stuck (F:=F))
  ·exact(MG D (R _) (R _))
  ·exact(HI.stuck (F:=F))
 rcases uq ((cM U f == ae .globalImplicit && f == aq "reversed")=aj)with c3 |c3
 ·have B:cI U (n+1) (.Call (.Name f p) T [] q)=(match (generalizing:=false) T with
    | [a]=>λrt=>do
     P.guard (dg a=aj)
     let i <-cR U n a rt
     qa i
    |_=>stuck):=(aK c1).trans ((aK c2).trans (aN c3))
  rw (config:={}) [B];rw[cW,bU,bU]at c3;obtain⟨D,rfl⟩:=c3;rcases T with _ |⟨a,_ |⟨_,_⟩⟩
  ·exact(HI.stuck (F:=F))
  ·exact(MC D (R _))
  ·exact(HI.stuck (F:=F))
 ·have B:cI U (n+1) (.Call (.Name f p) T [] q)=(λrt=>do
    let v <-cR U n (.Call (.Name f p) T [] q) rt
    eP v):=(aK c1).trans ((aK c2).trans (aK c3))
  rw (config:={}) [B];exact(MF (R _))
def Pq {X:Cx}(ih:∀X,mI X F k n)(e:aH):HA X F k U e (cA U (n+1) e):=by
 have E:∀e,HE X F k U e (cE U n e):=(ih X).e U;cases e with
 |Name x p=>intro A l G Q N B I h K x v r;exact Kv (F:=F) _ _ K r
 |Attribute o a p=>intro A l G Q N B I h K x v r;exact Mj (E _) K r
 |Subscript o i p=>intro A l G Q N B I h K x v r;exact Mn (E _) (E _) K r
 |Tuple D c p=>intro A l G Q N B I h K x v r;exact assign_tuple (λe u=>(ih X).a U e) K r
 |_=>intro A l G Q N B I h K x v r;exact HA.stuck (F:=F) K r
def yJ (hF:∀X,cn X->HF X F k):∀n X,mI X F k n:=by
 intro n;induction n with
 |zero=>
  intro X;exact all_zero X F k
 |succ n B=>
  intro X;exact⟨λu e=>Pg hF (B) e,λu e=>Pl (B) e,λu e=>Pn (B) e,λu e=>Pp (B) e,λu e=>Pq (B) e⟩
def HS.stuck {s:dy}:HS X F k U s stuck:=by
 intro A l G Q N B I h K z W D E H;exact H.elim
def Pr {M:dy->Prop}(no:∀s,cS U (n+1) s=Internal.stuck->M s)(h1:∀p,M (.Pass p))(h2:∀p,M (.Break p))(h3:∀p,M (.Continue p))(h4:∀e p,M (.Return (ae e) p))(h5:∀e p,M (.Expr e p))(h6:∀t e p,M (.Assign [t] e p))(h7:∀x q op e p,M (.AugAssign (.Name x q) op e p))(h8:∀t b o p,M (.If t b o p))(h9:∀t b p,M (.While t b [] p))(a0:∀t i b p,M (.For t i b [] p))(b0:∀x np e ap c h hp o p,M (.Try [.Assign [.Name x np] e ap] [.ExceptHandler (ae c) bq h hp] o [] p))(s:dy):M s:=by
 cases s with
 |Pass p=>exact h1 p
 |Break p=>exact h2 p
 |Continue p=>exact h3 p
 |Return v p=>cases v with
  |none=>exact no _ rfl
  |some e=>exact h4 e p
 |Expr e p=>exact h5 e p
 |Assign B e p=>
  rcases B with _ |⟨t,_ |⟨_,_⟩⟩
  ·exact no _ rfl
  ·exact h6 t e p
  ·exact no _ rfl
 |AugAssign t op e p=>cases t with
  |Name x q=>exact h7 x q op e p
  |_=>exact no _ rfl
 |If t b o p=>exact h8 t b o p
 |While t b o p=>cases o with
  |nil=>exact h9 t b p
  |cons _ _=>exact no _ rfl
 |For t i b o p=>cases o with
  |nil=>exact a0 t i b p
  |cons _ _=>exact no _ rfl
 |Try b D o f p=>
  cases b with
  |nil=>exact no _ rfl
  |cons E F=>
  cases F with
  |cons _ _=>cases E with
   |Assign B e ap=>cases B with
    |nil=>exact no _ rfl
    |cons t B=>cases B <;>cases t <;>exact no _ rfl
   |_=>exact no _ rfl
  |nil=>
  cases E with
  |Assign B e ap=>
   cases B with
   |nil=>exact no _ rfl
   |cons t B=>
   cases B with
   |cons _ _=>cases t <;>exact no _ rfl
   |nil=>
   cases t with
   |Name x np=>
    cases D with
    |nil=>exact no _ rfl
    |cons h1 D=>
    obtain⟨c,nm,G,hp⟩:=h1;cases c with
    |none=>exact no _ rfl
    |some c=>
    cases nm with
    |some _=>exact no _ rfl
    |none=>
    cases D with
    |cons _ _=>exact no _ rfl
    |nil=>
    cases f with
    |cons _ _=>exact no _ rfl
    |nil=>exact b0 x np e ap c G hp o p
   |_=>exact no _ rfl
  |_=>exact no _ rfl
 |_=>exact no _ rfl
def Pt {M:aH->Prop}(h1:∀elt t i ifs aP cp,M (.ListComp elt [⟨t,i,ifs,0⟩] aP cp))(a0:∀e,cE U (n+1) e=Internal.stuck->M e)(h3:∀e,nG e=aj->M e)(e:aH):M e:=by
 cases e with
 |ListComp elt B aP cp=>
  rcases B with _ |⟨⟨t',i,ifs,a⟩,_ |⟨_,_⟩⟩
  ·exact a0 _ rfl
  ·rcases a with (_ |a) |a
   ·exact h1 elt t' i ifs aP cp
   ·exact a0 _ rfl
   ·exact a0 _ rfl
  ·rcases a with (_ |a) |a <;>exact a0 _ rfl
 |SetComp _ _ _ _=>exact a0 _ rfl
 |DictComp _ _ _ _ _=>exact a0 _ rfl
 |_=>exact h3 _ rfl
def Pu (hF:∀X,cn X->HF X F k)(ih:∀X U s,HS X F k U s (cS U n s))(X:Cx)(U:bN)(s:dy):HS X F k U s (cS U (n+1) s):=by
 have D:∀X,mI X F k 40:=λX=>yJ hF 40 X;have M:∀X,mI X F k 39:=λX=>yJ hF 39 X;have E:∀e,HE X F k U e (cE U 40 e):=(D X).e U;have T:∀e,HT X F k U e (cT U 40 e):=(D X).t U;have L:∀X R,iN X F k U R (ew (cS U n) R):=λX R=>CE _ R λs x=>ih X U s;refine Pr (U:=U) (n:=n) (M:=λs=>HS X F k U s (cS U (n+1) s)) (λs h=>?_) (λp=>?_) (λp=>?_) (λp=>?_) (λe p=>?_) (λe p=>?_) (λt e p=>?_) (λx q op e p=>?_) (λt b o p=>?_) (λt b p=>?_) (λt i b p=>?_) (λx np e m c h f o p=>?_) s
 ·rw (config:={}) [h];exact(HS.stuck (F:=F))
 ·exact(Ky (F:=F) p)
 ·exact(Kz (F:=F) p)
 ·exact(KA (F:=F) p)
 ·exact(KC (E e))
 ·exact(KI (E e))
 ·refine Pt (U:=U) (n:=39) (M:=λe=>HS X F k U (.Assign [t] e p) (cS U (n+1) (.Assign [t] e p))) (λS Z i Y J w=>?_) (λe V=>?_) (λe V=>?_) e
  ·exact(MT ((M X).i U i) (λj=>(M _).a J Z) (λj=>(M _).e J S) (λj c x=>(M _).t J c) ((D X).a U t))
  ·intro A l G Q N B I h K z W H u O;obtain⟨_,O⟩:=a6 (show(P.guard (kq e=az/\dg t=aj)>>=λx=>cE U 40 e ⟨F,Q,N⟩>>=λv=>cA U 40 t v ⟨F,Q,N⟩>>=λN=>P.pure (FL.next,N)).run I _ from O);rw[show cE U 40 e=Internal.stuck from V]at O;exact O.elim
  ·exact(KL V (E e) ((D X).a U t))
 ·exact(KP (E e))
 ·exact(KE (T t) (L X b) (L X o))
 ·exact(KG (T t) (L X b) 64)
 ·exact(Lp ((D X).i U i) (λj=>(D _).a U t) (λj=>L _ b) 128)
 ·exact(Nf (E e) (L X o))
def Pw (hF:∀X,cn X->HF X F k):∀n X U s,HS X F k U s (cS U n s):=by
 intro n;induction n with
 |zero=>
  intro X U s;exact HS.stuck (F:=F)
 |succ n B=>
  intro X U s;exact Pu hF (B) X U s
def Px (hF:∀X,cn X->HF X F k)(n:ak)(X:Cx)(U:bN)(ss:ah dy):iN X F k U ss (ew (cS U n) ss):=CE _ ss λs u=>Pw hF n X U s
def Py:∀(n:ak) (X:Cx),cn X->HF X (FN n) n:=by
 intro n;induction n with
 |zero=>
  intro X _;exact Ma X 0
 |succ n B=>
  intro X _;exact Mb (F:=FN n) (λU e=>(yJ (B) 40 X).e U e) (λU D=>Px (B) 20 X U D)
set_option tactic.hygienic true in theorem Pz {c : aw} {q : au} (X : K.In h) (e : recIn K c q = aj) : h.CodeRec c q := by
 cases c with
 |ref a=>
  unfold recIn at e;dsimp only at e;cases B:K.lookup a with
  |none=>rw[B]at e;cases e
  |some o=>
   rw[B]at e;obtain⟨E,F,d,n⟩:=o;cases d with
   |fields V=>
    have e:(match (V[1]? :ax aw)with |some (.str x _)=>x == q |_=>az)=aj:=e;cases D:(V[1]? :ax aw)with
    |none=>rw[D]at e;cases e
    |some v=>
     rw[D]at e;cases v with
     |str x t=>exact⟨a,_,V,t,rfl,X _ _ B,rfl,(bU.mp e) ▸ D⟩
     |_=>cases e
   |_=>cases e
 |_=>cases e
set_option tactic.hygienic true in theorem PA (X : K.In h) (e : xK K v = aj) : v = .none ∨ ∃ a0 ot O n, v = .ref a0 ∧ h.get? a0 = ae ot ∧ ot.data = .seq O n := by
 cases v with
 |none=>exact .inl rfl
 |ref a=>
  unfold xK at e;dsimp only at e;cases B:K.lookup a with
  |none=>rw[B]at e;cases e
  |some o=>
   rw[B]at e;obtain⟨D,E,d,n⟩:=o;cases d with
   |seq=>exact .inr ⟨a,_,_,_,rfl,X _ _ B,rfl⟩
   |_=>cases e
 |_=>cases e
theorem PB {d:ax (fh×ah dy×bN)}(X:K.In h)(e1:(fnIn K a).map (λfd=>(fd.params,fd.body,fd.scope))=d.map (λp=>(p.1,wy p.2.1,p.2.2)))(e2:(fnIn K a).any (rZ K)=aj):FnAt h a d:=by
 cases B:fnIn K a with
 |none=>rw[B]at e2;cases e2
 |some fd=>
  intros fd _ B;rw[B]at e1 e2;unfold fnIn at B;cases F:K.lookup a with
  |none=>rw[F]at B;cases B
  |some o=>
  rw[F]at B;obtain⟨S,T,H,n⟩:=o;cases H with
  |func D=>
   obtain q:D=fd:=dp B;subst q;have e2:rZ K D=aj:=e2;unfold rZ at e2;simp only[cW,wX,pP,bU,qS,ub]at e2;obtain⟨⟨⟨⟨⟨⟨⟨⟨L,O⟩,I⟩,M⟩,G⟩,J⟩,Q⟩,N⟩,E⟩:=e2;refine⟨_,D,X _ _ F,rfl,e1.symm,L,O,I,M,G,J,Pz X Q,PA X N,λR=>?_⟩;rcases E with E |E
   ·exact absurd R E
   ·exact E
  |_=>cases B
def PC (F:lhs K=rhs):(mJ.filter λp=>p.1 != gE).all (λp=>(fnIn K p.2).any (rZ K))=aj:=bZ (λx=>x.1) F
def PD (F:lhs K=rhs):(mJ.filter λp=>p.1 != gE).map (λp=>(fnIn K p.2).map (λfd=>(fd.params,fd.body,fd.scope)))=(mJ.filter λp=>p.1 != gE).map (λp=>(defOf p.1).map (λq=>(q.1,wy q.2.1,q.2.2))):=bZ (λx=>x.2.1) F
def kt (F:lhs K=rhs):(K.lookup cJ).isNone=aj:=bZ (λx=>x.2.2.1) F
def PE (F:lhs K=rhs):codeHdIn K 177 175=aj:=bZ (λx=>x.2.2.2.1) F
def PG (F:lhs K=rhs):makesIn K 147=aj:=bZ (λx=>x.2.2.2.2.1) F
def PH (F:lhs K=rhs):keepIn K (.ref 147)=aj:=bZ (λx=>x.2.2.2.2.2.1) F
def PJ (F:lhs K=rhs):fk K (.ref 147) "__init__"=ae (ae (.ref 137)):=bZ (λx=>x.2.2.2.2.2.2.1) F
def PK (F:lhs K=rhs):qP K (.ref 137)=ae (.type "function"):=bZ (λx=>x.2.2.2.2.2.2.2.1) F
def PL (F:lhs K=rhs):fk K (.ref 147) (aq "names")=ae (ae (.ref 144)):=bZ (λx=>x.2.2.2.2.2.2.2.2.1) F
def PM (F:lhs K=rhs):qP K (.ref 144)=ae (.type "function"):=bZ (λx=>x.2.2.2.2.2.2.2.2.2.1) F
def PN (F:lhs K=rhs):fk K (.ref 147) "__getattribute__"=ae (ae (.builtin "object.__getattribute__")):=bZ (λx=>x.2.2.2.2.2.2.2.2.2.2.1) F
def PO (F:lhs K=rhs):fk K (.ref 147) "__getattr__"=ae ag:=bZ (λx=>x.2.2.2.2.2.2.2.2.2.2.2.1) F
def PQ (F:lhs K=rhs):fk K (.ref 147) "__setattr__"=ae (ae (.builtin "object.__setattr__")):=bZ (λx=>x.2.2.2.2.2.2.2.2.2.2.2.2.1) F
def PR (F:lhs K=rhs):Ak K 147=aj:=bZ (λx=>x.2.2.2.2.2.2.2.2.2.2.2.2.2.1) F
def PS (F:lhs K=rhs):Al K 147=aj:=bZ (λx=>x.2.2.2.2.2.2.2.2.2.2.2.2.2.2.1) F
def PT (F:lhs K=rhs):fk K (.ref 147) (aq "_mods")=ae ag:=bZ (λx=>x.2.2.2.2.2.2.2.2.2.2.2.2.2.2.2.1) F
def PU (F:lhs K=rhs):pH K 147 (aq "_mods")=ae ag:=bZ (λx=>x.2.2.2.2.2.2.2.2.2.2.2.2.2.2.2.2.1) F
def PV (F:lhs K=rhs):fk K (.ref 147) (aq "_dirs")=ae ag:=bZ (λx=>x.2.2.2.2.2.2.2.2.2.2.2.2.2.2.2.2.2.1) F
def PW (F:lhs K=rhs):pH K 147 (aq "_dirs")=ae ag:=bZ (λx=>x.2.2.2.2.2.2.2.2.2.2.2.2.2.2.2.2.2.2.1) F
def PX (F:lhs K=rhs):fk K (.ref 147) (aq "_ignore")=ae ag:=bZ (λx=>x.2.2.2.2.2.2.2.2.2.2.2.2.2.2.2.2.2.2.2.1) F
def PY (F:lhs K=rhs):pH K 147 (aq "_ignore")=ae ag:=bZ (λx=>x.2.2.2.2.2.2.2.2.2.2.2.2.2.2.2.2.2.2.2.2.1) F
def PZ (F:lhs K=rhs):BL.map (λp=>iO K (aq p.1))=BL.map (λc=>ae ag):=bZ (λx=>x.2.2.2.2.2.2.2.2.2.2.2.2.2.2.2.2.2.2.2.2.2.1) F
def P2 (F:lhs K=rhs):oV.map (λn=>iO K (aq n))=oV.map (λn=>ae ((kI (aq n)).map gu)):=bZ (λx=>x.2.2.2.2.2.2.2.2.2.2.2.2.2.2.2.2.2.2.2.2.2.2.1) F
def P4 (F:lhs K=rhs):(match iO K (aq "sep")with |some (ae (.str x0 _))=>x0 == aq "/" |_=>az)=aj:=bZ (λx=>x.2.2.2.2.2.2.2.2.2.2.2.2.2.2.2.2.2.2.2.2.2.2.2.1) F
def P5 (F:lhs K=rhs):iO K (aq "law")=ae (ae (.ref 178)):=bZ (λx=>x.2.2.2.2.2.2.2.2.2.2.2.2.2.2.2.2.2.2.2.2.2.2.2.2) F
def P6 (h:aG):(FK h).In h:=by
 intro a o;unfold FK;generalize Ce=l;induction l with
 |nil=>intro e;cases e
 |cons b l E=>
  intro e;rw[AM]at e;cases D:h.get? b with
  |none=>rw[D]at e;exact E e
  |some x=>
   rw[D]at e
   replace e:rA a ((b,x) :: _)=ae o:=e
   rw[gv]at e;cases B:a == b with
   |true=>rw[B]at e;cases e;rw[bU.mp B];exact D
   |false=>rw[B]at e;exact E e
def P7:∀(w:ju) (os),(topRun Bp pw w 11 (ae (.ref 6)) 2016 ⟨my w.params,#[],Bq,Br,os⟩ (topStub pw)).map (λs=>(staticsOk (Bs pw.main.body) (my w.params) s.heap && namesBound pw s.heap && gensDone s && laidKept (my w.params) s.heap,openSeen q0 uW (Bs pw.main.body) (λc=>aj) aj s,xM s))=ae (aj,openGood q0 uW,rhs,ae (jW #[])):=by
 rw[PySem.W.Fast.te14082659384304107361,PySem.W.Fast.te14364793385576792824,PySem.W.Fast.te4187177175401517315];intro w os
 kernel_rfl
def P8:∀w:ju,((my w.params).isNs iG && (#[]:aZ GenState).size == 0,(my w.params).objs.size,(my w.params).nsMap iG "__annotations__")=(aj,11,ae (.ref 6)):=λw=>by kernel_rfl
def P9:PySem.Challenge.rw_oc0179_01.wellSaid=aj:=by
 rw[PySem.W.Fast.te9446332074065402090]
 kernel_rfl
def P':opening pw=plainProg pw.main.scope.names:=by kernel_rfl
def Qa:∀s,fenceModules? pw s=ae s:=λs=>by kernel_rfl
def Qb:LeftO pw q0 uW (λc=>aj) xM (λc=>(rhs,ae (jW #[]))) 2016:=λw=>by
 obtain⟨⟨h,gs,d,k,os⟩,e,D⟩:=jZ.mp (boot_open (p:=pw) (N:=2016) P' rfl Qa w);obtain⟨rfl,rfl,rfl,rfl⟩:h=my w.params/\gs= #[]/\d=Bq/\k=Br:=by simpa using D
 obtain⟨E,F,H⟩:_/\_/\_:=by simpa only[wZ] using P8 w
 obtain⟨s,r,x⟩:=jZ.mp (P7 w os);obtain⟨B,G⟩:=lD x;have t:topFrom Bp pw w 2016 ⟨my w.params,#[],Bq,Br,os⟩=ae s:=by
  unfold topFrom;dsimp only;rw[E,F,H,r];show(match staticsOk (Bs pw.main.body) (my w.params) s.heap && namesBound pw s.heap && gensDone s && laidKept (my w.params) s.heap with |true=>_ |false=>_)=_;rw[B]
 unfold openEnds;rw[e];show(topFrom Bp pw w 2016 _).map _=_;rw[t];exact bZ ae G
def Qc:kI gE=ae 147:=by decide +kernel
def fI:kI nJ=ae 137:=by decide +kernel
def fN:kI uN=ae 144:=by decide +kernel
def Qd (F:lhs K=rhs):B8 K 147 kI where
 makes:=PG F
 keep:=PH F
 init:=⟨137,fI,PJ F,PK F⟩
 names:=⟨144,fN,PL F,PM F⟩
 ga:=PN F
 gk:=PO F
 sa:=PQ F
 over:=PR F
 hasDict:=PS F
 attrs:=λn B=>by
  unfold p5 at B;rcases bu.mp B with rfl |B
  ·exact⟨PT F,PU F⟩
  rcases bu.mp B with rfl |B
  ·exact⟨PV F,PW F⟩
  rw[aJ.mp B];exact⟨PX F,PY F⟩
def Qe {n:au}(F:lhs K=rhs)(X:K.In h)(e:kI n=ae a)(hn:n≠gE):FnAt h a (defOf n):=by
 have H:(n,a)∈mJ:=by
  unfold kI at e;have:∀l:ah (au×ay),l.lookup n=ae a->(n,a)∈l:=by
   intro l;induction l with
   |nil=>intro h;cases h
   |cons p l I=>
    obtain⟨m,b⟩:=p;intro h;rw[gv]at h;cases D:n == m with
    |true=>rw[D]at h;cases h;rw[bU.mp D];exact .head _
    |false=>rw[D]at h;exact .tail _ (I h)
  exact this _ e
 have B:(n,a)∈mJ.filter λp=>p.1 != gE:=A3.mpr ⟨H,qS.mpr hn⟩;have E:=bW.mp (PC F) _ B;have G:=xh.mp (PD F) _ B;exact PB X G E
theorem Qg {x:au}{v:AV}(h:p9 x=ae v):(x=aq "sep"/\v= .str (aq "/"))\/(∃p∈BL,x=aq p.1/\v=p.2)\/(∃n∈oV,x=aq n/\v= .fn x):=by
 have h:(if x == aq "sep" then ae (AV.str (aq "/"))
  else match BL.find? λp=>x == aq p.1 with
  |some p=>ae p.2
  |none=>if oV.any λp=>x == aq p then ae (.fn x)else ag)=ae v:=h
 by_cases h1:(x == aq "sep")=aj
 ·rw[aN h1]at h;cases h;exact .inl ⟨bU.mp h1,rfl⟩
 ·rw[aK h1]at h;cases hf:BL.find? λp=>x == aq p.1 with
  |some p=>
   rw[hf]at h;cases h;exact .inr (.inl ⟨p,II hf,bU.mp (by simpa using List.find?_some hf),rfl⟩)
  |none=>
   rw[hf]at h;dsimp only at h;split at h
   ·rename_i ha;cases h;obtain⟨n,hn,e⟩:=ur.mp ha;exact .inr (.inr ⟨n,hn,bU.mp e,rfl⟩)
   ·cases h
set_option tactic.hygienic true in def vB {x : au} {r : ax aw} (X : K.In h) (g : h.Ns iG mg) (e : iO K x = ae r) : mg x = r := by
 unfold iO at e;cases B:K.lookup iG with
 |none=>rw[B]at e;cases e
 |some o=>
  rw[B]at e;obtain⟨J,M,d,n⟩:=o;cases d with
  |dict I L=>
   cases e;obtain⟨o,E,G,D,F,_,H⟩:=g;rw[X _ _ B]at D;cases D;cases F;exact(H x).symm
  |_=>cases e
def Qh:BL.map (λp=>bootBuiltins (aq p.1))=BL.map (λp=>uV p.2):=by kernel_rfl
def Qi:oV.all (λn=>(kI (aq n)).isSome)=aj:=by decide +kernel
def Qj (F:lhs K=rhs):∃t,iO K (aq "sep")=ae (ae (.str (aq "/") t)):=by
 have h:=P4 F;generalize iO K (aq "sep")=r at h |-;rcases r with _ |_ |v
 ·exact(jd h).elim
 ·exact(jd h).elim
 ·induction v using PySem.Value.casesOn with
  |str x t=>rw[show x=aq "/" from bU.mp h];exact⟨t,rfl⟩
  |_=>exact(jd h).elim
def Qk:BL.all (λp=>decide (aq p.1≠aq "__name__"))=aj:=by decide +kernel
def Ql:kI (aq "law")=ae 178:=by decide +kernel
def Qm {m':au->ax aw}(x:h.Ns a m)(y:h.Ns a m'):m=m':=by
 obtain⟨o,K,L,H,G,_,E⟩:=x;obtain⟨M,F,I,D,B,_,J⟩:=y;rw[H]at D;cases D;rw[G]at B;cases B;exact funext λk=>(E k).symm.trans (J k)
def Qn {v:AV}{v':aw}(e:uV v=ae v'):SV X v v':=λB h=>by
 cases v with
 |bi=>cases e;exact .bi _
 |ty=>cases e;exact .ty _
 |_=>cases e
def Qo {b0:aD}{p:n7}{c0:ah au}{d0:xi->ax aw}{mb:au->ax aw}(a0:Top p c0 d0 mg mb b0.heap)(F:lhs K=rhs)(KX:K.In b0.heap)(e0:∀P∈[175],b0.heap.get? P=ae (jW #[])):cn (X0 K w b0) where
 lim:=a0.nolimit
 lN:=KX
 B9:=wY.mp (kt F)
 fns:=λn a e G h U=>Qe F (λb o I=>U b o (KX b o I) λD=>by rw[D,wY.mp (kt F)]at I;cases I) e G
 cls:=Qc
 iM:=Qd F
 cd:=codeHd_of_K KX (PE F)
 bt:=λZ n=>by
  rw[Qm n a0.g];obtain⟨O,W,S,V,B,J,N,H⟩:=a0.bmain;refine⟨O,W,S,V,λD=>?_,λD=>?_,B,J,N,H⟩
  ·obtain⟨o,l,u,k,Q,_⟩:=a0.g;rw[D,k]at B;cases B;rw[Q]at H;cases H
  ·have:=e0 175 (.head _);rw[D,show cJ=175 from rfl,this]at B;cases B;cases J
 gl:=by
  refine⟨mg,mb,a0.g,a0.b,λx v j=>?_⟩;rcases Qg j with ⟨rfl,rfl⟩ |⟨q,hq,rfl,rfl⟩ |⟨n,G,rfl,rfl⟩
  ·obtain⟨t,e⟩:=Qj F;exact .inl ⟨_,vB KX a0.g e,λx x=>.str _ _⟩
  ·have E:iO _ _=_:=xh.mp (PZ F) q hq;have A:bootBuiltins _=_:=xh.mp Qh q hq;have X:=gx (bW.mp Qk q hq);refine .inr ⟨vB KX a0.g E,?_⟩;have Y:(uV q.2).isSome=aj:=bW.mp (show BL.all (λq=>(uV q.2).isSome)=aj by decide +kernel) q hq;obtain⟨R,L⟩:=Bt.mp Y;exact⟨R,by rw[a0.builtins _ X,A,L],Qn L⟩
  ·have E:iO _ _=_:=xh.mp (P2 F) n G;obtain⟨a,M⟩:=Bt.mp (bW.mp Qi n G);rw[M]at E;exact .inl ⟨_,vB KX a0.g E,λx x=>.fn M⟩
def Qp {b0:aD}{p:n7}{c0:ah au}{d0:xi->ax aw}{mb:au->ax aw}(a0:Top p c0 d0 mg mb b0.heap)(hp:importsNone p=aj)(e0:∀P∈[175],b0.heap.get? P=ae (jW #[])):Inv (X0 K w b0) [] [] b0.heap where
 len:=rfl
 nodup:=.nil
 obj:=λi E a e u=>by cases e
 base:=λb o e u=>e
 new:=λa h=>nomatch h
 gd:=⟨_,e0 175 (.head _)⟩
 mods:=by
  obtain⟨D,⟨o,B,F,e,_⟩,_⟩:=(a0.seer hp).mods;exact⟨o,e⟩
 tab:=⟨#[],e0 175 (.head _),.inl rfl⟩
 gf:=λb h=>nomatch h
def Qq {b0:aD}{p:n7}{e0:ah au}{g0:xi->ax aw}{mb:au->ax aw}{O:ah aw}{l:ah Int}{c:ClaimW}{cl:au->ax ay}{d0:xi->ax aw}{T:ah WData}(a0:Top p e0 g0 mg mb b0.heap)(hp:importsNone p=aj)(F:lhs K=rhs)(KX:K.In b0.heap)(c0:∀P∈[175],b0.heap.get? P=ae (jW #[]))(hg:b0.gens= #[])(hL:b0.heap.IsList a O.toArray)(hI:og O l)(hl:l.length<=63)(D:(uO l).run [] (λr g=>r= .ok (.bool aj)))(hr:∀cls,c.raises T cls=az)(f0:c.post T (.bool aj) T=aj):
  aA (aV PySem.Challenge.pw_oc0179_01 w) callerA (call (.ref 178) [.ref a]) (fun v s'=>GoodWG c cl d0 T b0 (.ok (.ret v)) s') (fun e s'=>GoodWG c cl d0 T b0 (.error e) s') b0:=by
 have C:=Qo (w:=w) a0 F KX c0;have I:=Qp (K:=K) (w:=w) a0 hp c0;have N:a≠cJ:=λX=>by
  obtain⟨o,U,Q,_⟩:=hL;rw[X,show cJ=175 from rfl,c0 175 (.head _)]at U;cases U;cases Q
 have B:=Py 12 (X0 K w b0) C (A:=callerA) (l:=[]) (ρ:=[]) (st:=[]) (h:=b0.heap) C ⟨rfl,by decide +kernel,by decide +kernel,rfl,λe W=>nomatch W⟩ I
  (fv:=.fn (aq "law")) (f:=.ref 178) (args:=[.gR l]) (vs:=[.ref a]) (kw:=[]) (kvs:=[]) (.fn Ql)
  (.cons (VA.mk (xF.mk (λh=>nomatch h) ⟨N,λh=>nomatch h⟩ hL hI (by exact FI 0 63 0 4096 hl rfl))) .nil) .nil
 have E:b0=sh b0 b0.heap b0.toks:=rfl;rw[E];refine B b0 b0.toks _ _ ?_;refine P.mono _ (λr Z M=>?_) D;subst M;intro Y J H A G R S b L;cases L;refine⟨.inl ⟨_,.bool aj,[],rfl,hr,.bool aj,f0,λu=>⟨.nil,λu h=>nomatch h⟩⟩,⟨λb o e=>?_,λb o e=>S.step.there b o e⟩,G.2,.of_eq (G.1.trans hg)⟩;by_cases L:b=cJ
 ·rw[L]at e;rw[show cJ=175 from rfl,c0 175 (.head _)]at e;cases e;obtain⟨V,Q,_⟩:=R.tab;refine .inr (.inl ⟨?_,rfl,#[],V,rfl,?_⟩)
  ·rw[L];exact(C.cd.tab (c0 175 (.head _))).isCodeTable
  ·rw[L];show H.get? cJ=_;rw[Q,Array.empty_append]
 ·exact .inl (R.base b o e L)
namespace Q
open Classical
local macro_rules | `(tactic| wtm_at $s:str) => let n := s.getString; let u (t : String) := cH ("with_unfolding_all' " ++ t ++ " S withUnfoldingAll2") [s]; return if n == "pr" then u "exact' rfl. exact2" else if n == "r" then cH "repeat' wtm_at' 0$ PySem.W.tacticWtm_at_2 S tacticRepeat_2" [Lean.Syntax.mkStrLit "s"] else if n == "lk" then u "first' |' assumption' assumption1 S group2 |' exact' g_last. exact2 S group2 |' (' refine' g_app. ?' _' Term.syntheticHole2 null1 Term.app2 refine2 ;' wtm_at' 0$ PySem.W.tacticWtm_at_2 null3 tacticSeq1Indented1 tacticSeq1 )' paren3 S group2 |' (' refine' g_ne. ?' _' Term.syntheticHole2 ?' _' Term.syntheticHole2 null2 Term.app2 refine2 ;' (' first' |' assumption' assumption1 S group2 |' lia' null0 optConfig1 lia2 S group2 null2 first2 S )' paren3 ;' wtm_at' 0$ PySem.W.tacticWtm_at_2 null5 tacticSeq1Indented1 tacticSeq1 )' paren3 S group2 null4 first2" else if n == "cel" then u "first' |' (' with_reducible' first' |' exact' cl_readers. exact2 S group2 |' exact' cl_asks. exact2 S group2 |' exact' cl_wish. exact2 S group2 |' exact' cl_k. exact2 S group2 |' exact' cl_total. exact2 S group2 null5 first2 S withReducible2 S )' paren3 S group2 |' exact' lk_here. exact2 S group2 |' (' apply' lk_next. apply2 ;' decide' +' kernel. posConfigItem2 configItem1 null1 optConfig1 decide2 ;' wtm_at' 0$ PySem.W.tacticWtm_at_2 null5 tacticSeq1Indented1 tacticSeq1 )' paren3 S group2 null3 first2" else if n == "pl" then cH "(' try' simp' null0 optConfig1 null0 only' null1 [' null0 null0 List.set_cons_succ. simpLemma3 ,' null0 null0 List.set_cons_zero. simpLemma3 null3 ]' null3 null0 simp6 S tacticTry_2 ;' with_unfolding_all' exact' rfl. exact2 S withUnfoldingAll2 null3 tacticSeq1Indented1 tacticSeq1 )' paren3" [] else cH "with_reducible' 0$ S withReducible2" [BK ("x_sq n_next w_Set w_qIf x_Expr x_Ret y_L w_K y_pL w_evs_cons w_evs_nil w_kws_nil w_kws_cons w_Call w_Idx w_tCmp w_tAnd w_tOr w_tNot w_tV w_tIf w_Bin b_add b_sub c_lt c_gt c_ge f_fn r_ret r_next n_ret n_brk n_cont l_next l_brk l_cont l_ret x_nil x_Pass x_Brk x_Cont y_C y_pC x_pIdx x_pAttr y_pTup x_put_cons x_put_nil w_Not w_Neg w_strict w_And w_Or w_If w_Cmp w_List w_Tup tup2 tup3 w_Attr w_Slice w_optE_none w_optE_some w_For w_iA w_iS w_iEnum w_iZip w_iRev w_rRange w_rVal w_itS_val w_itS_range x_Try y_Aug y_Sub y_Meth tr_none tr_bool tr_int t_t t_f".splitOn " ")]
@[reducible] abbrev eL (i:ak):DE:=BU i
@[reducible] abbrev eC (x:aI):DE:=uI (aq x)
abbrev eK (v:AV):DE:=λu=>P.pure v
abbrev yK:DE:=stuck
abbrev aY (op:jU)(a b:DE):DE:=λrt=>do
 let x <-a rt
 let y <-b rt
 gc op x y
abbrev Qr (a:DE):DE:=λrt=>do
 let v <-a rt
 let b <-eE v
 P.pure (.bool !b)
abbrev iR (a:DE):DE:=λrt=>do
 let v <-a rt
 let i <-dF v
 P.pure (.int (-i))
abbrev vC (a b:DE):DE:=λrt=>do
 let v <-a rt
 let c <-eE v
 if c then b rt else P.pure v
abbrev Ef (a b:DE):DE:=λrt=>do
 let v <-a rt
 let c <-eE v
 if c then P.pure v else b rt
abbrev gH (t:DT)(b o:DE):DE:=λrt=>do
 let c <-t rt
 if c then b rt else o rt
abbrev lR (op:pB)(a b:DE):DE:=λrt=>do
 P.guard (aj=aj)
 let x <-a rt
 let y <-b rt
 let c <-dQ op x y
 P.pure (.bool c)
abbrev eList (l:ah DE):DE:=λrt=>do
 let l <-dG l rt
 cz l
abbrev gI (l:ah DE):DE:=λrt=>do
 let l <-dG l rt
 oN l
abbrev Eg (k v:AV):DE:=λu=>do
 let kv <-P.opt (ae k)
 let vv <-P.opt (ae v)
 let k <-P.opt (gC kv)
 let i <-P.alloc (.dict [(k,vv)])
 P.pure (.ref i)
abbrev iy (o:DE)(a:aI):DE:=λrt=>do
 let v <-o rt
 mA v (aq a)
abbrev fw (o:DE)(lo hi:ax DE):DE:=λrt=>do
 let v <-o rt
 let a <-ku lo rt
 let b <-ku hi rt
 km v a b
abbrev bz (o i:DE):DE:=λrt=>do
 let v <-o rt
 let k <-i rt
 ik v k
abbrev Qs (args:fh)(body:aH)(sc:bN):DE:=λrt=>do
 let st <-P.get
 P.guard (st.all (λo=>!jg o)=aj)
 let cs <-P.opt (fL rt sc.names [])
 let i <-P.alloc (.lam args body sc cs)
 P.pure (.ref i)
abbrev eH (l:ah (aI×l6)):bN:={ kind:=.function,names:=l.map λp=>(aq p.1,p.2),isGenerator:=az,isCoroutine:=az }
abbrev vD (ai:AI):aB:=match ai with
 |.zip .. =>az
 |.enum .. =>az
 |_=>aj
abbrev d9 (aP:bN)(tup:aB)(src:DI)(put:DA)(ifs:ah DT)(elt:DE):DE:=λrt=>do
 P.guard (aj=aj)
 P.guard (fb aP=aj)
 let cs <-P.opt (fL rt aP.names [])
 let ai <-src rt
 P.guard ((tup || vD ai)=aj)
 let r2 <-cP rt.F aP cs []
 let l <-cw elt ifs put 128 ai r2 []
 cz l
abbrev aX (f:DE)(args:ah DE)(ks:ah (au×DE)):DE:=λrt=>do
 P.guard (aj=aj)
 let fv <-f rt
 let vs <-dG args rt
 let kv <-fV ks rt
 eu rt fv vs kv
abbrev bX (o:DE)(m:kh)(args:ah DE)(ks:ah (au×DE)):DE:=λrt=>do
 P.guard (aj=aj/\aj=aj/\args.length+ks.length < 28)
 let m <-P.opt (ae m)
 let ov <-o rt
 if isInt ov=aj/\m= .startswith then P.err "AttributeError"
 else do
  lH ov m
  let vs <-dG args rt
  let kv <-fV ks rt
  e9 rt.F ov m vs kv
abbrev gm (a:DT):DT:=λrt=>do
 let b <-a rt
 P.pure !b
abbrev jN (a b:DT):DT:=λrt=>do
 let x <-a rt
 if x then b rt else P.pure az
abbrev nS (a b:DT):DT:=λrt=>do
 let x <-a rt
 if x then P.pure aj else b rt
abbrev aR (op:pB)(a b:DE):DT:=λrt=>do
 P.guard (aj=aj)
 let x <-a rt
 let y <-b rt
 dQ op x y
abbrev yL (t a b:DT):DT:=λrt=>do
 let c <-t rt
 if c then a rt else b rt
abbrev tV (e:DE):DT:=λrt=>do
 let v <-e rt
 eE v
abbrev iT (l:ah DE):DR:=λrt=>do
 P.guard (aj=aj)
 let l <-dG l rt
 lK l
abbrev g6 (e:DE):DR:=λrt=>do
 let v <-e rt
 P.pure (.val v)
abbrev o5 (x:DR):DI:=λrt=>do
 P.guard (aj=aj)
 let x <-x rt
 let i <-eP x
 P.pure (.enum 0 i)
abbrev o7 (a b:DR):DI:=λrt=>do
 P.guard (aj=aj/\aj=aj)
 let x <-a rt
 let y <-b rt
 let i <-eP x
 let j <-eP y
 P.pure (.zip i j)
abbrev vE (a:DR):DI:=λrt=>do
 P.guard (aj=aj)
 let i <-a rt
 qa i
abbrev iS (a:DR):DI:=λrt=>do
 let v <-a rt
 eP v
abbrev iA (e:DE):DI:=λrt=>do
 let v <-e rt
 jG v
abbrev pL (i:ak):DA:=xC i
abbrev pC (x:aI):DA:=kn (aq x)
abbrev sp (o:DE)(a:aI):DA:=λv rt=>do
 let ov <-o rt
 p6 ov (aq a) v
 P.pure rt.loc
abbrev dM (o i:DE):DA:=λv rt=>do
 let ov <-o rt
 let iv <-i rt
 oP ov iv v
 P.pure rt.loc
abbrev cx (l:ah DA):DA:=λv rt=>do
 let vs <-P.opt (gb v)
 P.guard (vs.length=l.length/\aj=aj)
 jf l vs rt
abbrev Eh:DS:=λrt=>P.pure (.next,rt.loc)
abbrev sr:DS:=λrt=>P.pure (.brk,rt.loc)
abbrev qu:DS:=λrt=>P.pure (.cont,rt.loc)
abbrev bL (e:DE):DS:=λrt=>do
 let v <-e rt
 P.pure (.ret v,rt.loc)
abbrev b9 (e:DE):DS:=λrt=>do
 P.guard (aj=aj)
 let _ <-e rt
 P.pure (.next,rt.loc)
abbrev aE (put:DA)(e:DE):DS:=λrt=>do
 P.guard (az=az/\aj=aj)
 let v <-e rt
 let loc <-put v rt
 P.pure (.next,loc)
abbrev o8 (put:DA)(x:DE)(op:jU)(e:DE):DS:=λrt=>do
 P.guard (op= .Add\/op= .Sub)
 let o <-x rt
 let i <-dF o
 let v <-e rt
 let j <-dF v
 let v <-gc op (.int i) (.int j)
 let loc <-put v rt
 P.pure (.next,loc)
abbrev sq:ah DS->DS
 | []=>λrt=>P.pure (.next,rt.loc)
 |s :: l=>λrt=>do
  let x <-s rt
  match x with
  |(.next,loc)=>sq l { rt with loc:=loc }
  |x=>P.pure x
abbrev bJ (t:DT)(b o:ah DS):DS:=λrt=>do
 let c <-t rt
 if c then sq b rt else sq o rt
abbrev o9 (t:DT)(b:ah DS):DS:=λrt=>iK t (sq b) 64 rt
abbrev fx (tup:aB)(put:DA)(src:DI)(b:ah DS):DS:=λrt=>do
 P.guard (aj=aj)
 let it <-src rt
 P.guard ((tup || vD it)=aj)
 forA (sq b) put 128 it rt
abbrev su (put:DA)(e:DE)(yM:aI->aB)(h:DS)(o:ah DS):DS:=λrt=>do
 P.guard (aj=aj/\az=az/\aj=aj)
 P.uB (e rt) (λv=>do
   let loc <-put v rt
   sq o { rt with loc:=loc })
  λk=>match (ae yM:ax (aI->aB))with
   |some f=>if f k then h rt else P.fail
   |none=>P.fail
@[reducible] abbrev vS (x:aI):AV:=.str (aq x)
abbrev eI (n:aI):ax DS:=(defOf (aq n)).map λq=>ew (cS q.2.2 20) q.2.1
abbrev mP:ax (fh×aH×bN):=(defOf (aq "law")).bind λq=>q.2.1.findSome? λs=>match s with
 |.Assign _ (.Lambda a e sc _) _=>ae (a,e,sc)
 |_=>ag
abbrev Ei (o:ax (fh×aH×bN)):DE:=match o with
 |some (a,e,sc)=>Qs a e sc
 |none=>stuck
abbrev Ej:ah DS:=[
 aE (pL 2) (bz (eL 0) (eK (.int 0))),
 aE (dM (eL 0) (eK (.int 0))) (eL 1),
 b9 (aX (eK (.fn (aq "_siftup"))) [(eL 0),(eK (.int 0))] []),
 bL (eL 2)]
abbrev Ek:ah DS:=[
 aE (pL 1) (aX (eK (.bi "len")) [(eL 0)] []),
 fx az (pL 2) (vE (iT [(aY .FloorDiv (eL 1) (eK (.int 2)))])) [
  b9 (aX (eK (.fn (aq "_siftup"))) [(eL 0),(eL 2)] [])]]
abbrev El:ah DS:=[
 aE (pL 2) (bz (eL 0) (eK (.int 0))),
 aE (dM (eL 0) (eK (.int 0))) (eL 1),
 b9 (aX (eK (.fn (aq "_siftup_max"))) [(eL 0),(eK (.int 0))] []),
 bL (eL 2)]
abbrev Em:ah DS:=[
 aE (pL 1) (aX (eK (.bi "len")) [(eL 0)] []),
 fx az (pL 2) (vE (iT [(aY .FloorDiv (eL 1) (eK (.int 2)))])) [
  b9 (aX (eK (.fn (aq "_siftup_max"))) [(eL 0),(eL 2)] [])]]
abbrev Eo:ah DS:=[
 aE (pL 3) (bz (eL 0) (eL 2)),
 o9 (aR .Gt (eL 2) (eL 1)) [
  aE (pL 4) (aY .RShift (aY .Sub (eL 2) (eK (.int 1))) (eK (.int 1))),
  aE (pL 5) (bz (eL 0) (eL 4)),
  bJ (aR .Lt (eL 3) (eL 5)) [
   aE (dM (eL 0) (eL 2)) (eL 5),
   aE (pL 2) (eL 4),
   qu] [],
  sr],
 aE (dM (eL 0) (eL 2)) (eL 3)]
abbrev Ep:ah DS:=[
 aE (pL 2) (aX (eK (.bi "len")) [(eL 0)] []),
 aE (pL 3) (eL 1),
 aE (pL 4) (bz (eL 0) (eL 1)),
 aE (pL 5) (aY .Add (aY .Mult (eK (.int 2)) (eL 1)) (eK (.int 1))),
 o9 (aR .Lt (eL 5) (eL 2)) [
  aE (pL 6) (aY .Add (eL 5) (eK (.int 1))),
  bJ (jN (aR .Lt (eL 6) (eL 2)) (gm (aR .Lt (bz (eL 0) (eL 5)) (bz (eL 0) (eL 6))))) [
   aE (pL 5) (eL 6)] [],
  aE (dM (eL 0) (eL 1)) (bz (eL 0) (eL 5)),
  aE (pL 1) (eL 5),
  aE (pL 5) (aY .Add (aY .Mult (eK (.int 2)) (eL 1)) (eK (.int 1)))],
 aE (dM (eL 0) (eL 1)) (eL 4),
 b9 (aX (eK (.fn (aq "_siftdown"))) [(eL 0),(eL 3),(eL 1)] [])]
abbrev Er:ah DS:=[
 aE (pL 3) (bz (eL 0) (eL 2)),
 o9 (aR .Gt (eL 2) (eL 1)) [
  aE (pL 4) (aY .RShift (aY .Sub (eL 2) (eK (.int 1))) (eK (.int 1))),
  aE (pL 5) (bz (eL 0) (eL 4)),
  bJ (aR .Lt (eL 5) (eL 3)) [
   aE (dM (eL 0) (eL 2)) (eL 5),
   aE (pL 2) (eL 4),
   qu] [],
  sr],
 aE (dM (eL 0) (eL 2)) (eL 3)]
abbrev Es:ah DS:=[
 aE (pL 2) (aX (eK (.bi "len")) [(eL 0)] []),
 aE (pL 3) (eL 1),
 aE (pL 4) (bz (eL 0) (eL 1)),
 aE (pL 5) (aY .Add (aY .Mult (eK (.int 2)) (eL 1)) (eK (.int 1))),
 o9 (aR .Lt (eL 5) (eL 2)) [
  aE (pL 6) (aY .Add (eL 5) (eK (.int 1))),
  bJ (jN (aR .Lt (eL 6) (eL 2)) (gm (aR .Lt (bz (eL 0) (eL 6)) (bz (eL 0) (eL 5))))) [
   aE (pL 5) (eL 6)] [],
  aE (dM (eL 0) (eL 1)) (bz (eL 0) (eL 5)),
  aE (pL 1) (eL 5),
  aE (pL 5) (aY .Add (aY .Mult (eK (.int 2)) (eL 1)) (eK (.int 1)))],
 aE (dM (eL 0) (eL 1)) (eL 4),
 b9 (aX (eK (.fn (aq "_siftdown_max"))) [(eL 0),(eL 3),(eL 1)] [])]
abbrev yN:DE:=gI [(aX (eC "key") [(eL 2)] []),(eL 1),(eL 2)]
abbrev yO (b:aB):ah DS:=[
  aE (pL 12) (aX (eC "key") [(eL 7)] []),
  bJ (if b then aR .Lt (eL 8) (eL 12)else aR .Lt (eL 12) (eL 8)) [
   b9 (aX (eL 10) [(eL 5),(gI [(eL 12),(eL 9),(eL 7)])] []),
   aE (cx [(pL 8),(pL 11),(pL 13)]) (bz (eL 5) (eK (.int 0))),
   o8 (pL 9) (eL 9) (if b then .Sub else .Add) (eK (.int 1))] []]
abbrev yP (b:aB):ah DS:=[
  aE (pL 3) (aX (eK (.bi "iter")) [(eL 1)] []),
  aE (pL 4) (aX (eK (.ty "object")) [] []),
  aE (pL 5) (aX (eK (.bi (if b then "max" else "min"))) [(eL 3)] [(aq "default",(eL 4)),(aq "key",(eC "key"))]),
  bL (gH (aR .Is (eL 5) (eL 4)) (eList []) (eList [(eL 5)]))]
abbrev yQ (b:aB):DE:=fw (aX (eK (.bi "sorted")) [(eL 1)] (if b then [(aq "key",(eC "key")),(aq "reverse",(eK (.bool aj)))]else [(aq "key",(eC "key"))])) ag (ae (eL 0))
abbrev qv (b:aB):ah DS:=[
 aE (pL 3) (aX (eK (.bi "iter")) [(eL 1)] []),
 aE (pL 5) (d9 (eH [(".0",.local),("i",.local),("elem",.local),("key",.free)]) aj (o7 (iT (if b then [(eK (.int 0)),(iR (eL 0)),(iR (eK (.int 1)))]else [(eL 0)])) (g6 (eL 3))) (cx [(pL 1),(pL 2)]) [] yN),
 bJ (gm (tV (eL 5))) [
  bL (eL 5)] [],
 b9 (aX (eK (.fn (aq (if !b then "_heapify_max" else "heapify")))) [(eL 5)] []),
 aE (pL 8) (bz (bz (eL 5) (eK (.int 0))) (eK (.int 0))),
 aE (pL 9) (if b then iR (eL 0)else eL 0),
 aE (pL 10) (eK (.fn (aq (if !b then "_heapreplace_max" else "heapreplace")))),
 fx az (pL 7) (iA (eL 3)) (yO b),
 b9 (bX (eL 5) .sort [] (if b then [(aq "reverse",(eK (.bool aj)))]else [])),
 bL (d9 (eH [(".0",.local),("k",.local),("order",.local),("elem",.local)]) aj (iA (eL 5)) (cx [(pL 1),(pL 2),(pL 3)]) [] (eL 3))]
abbrev yR (b:aB)(K:ah DS):ah DS:=bJ (aR .Is (eC "key") (eK .none)) K [] :: qv b
abbrev qw (b:aB)(K:ah DS):ah DS:=
 bJ (aR .Eq (eL 0) (eK (.int 1))) (yP b) [] ::
 su (pL 6) (aX (eK (.bi "len")) [(eL 1)] []) (λk=>k == "TypeError" || k == "AttributeError") Eh [
  bJ (aR .GtE (eL 0) (eL 6)) [bL (yQ b)] []] ::
 yR b K
abbrev yS:ah DS:=qw az [
  aE (pL 3) (aX (eK (.bi "iter")) [(eL 1)] []),
  aE (pL 5) (d9 (eH [(".0",.local),("i",.local),("elem",.local)]) aj (o7 (iT [(eL 0)]) (g6 (eL 3))) (cx [(pL 1),(pL 2)]) [] (gI [(eL 2),(eL 1)])),
  bJ (gm (tV (eL 5))) [
   bL (eL 5)] [],
  b9 (aX (eK (.fn (aq "_heapify_max"))) [(eL 5)] []),
  aE (pL 8) (bz (bz (eL 5) (eK (.int 0))) (eK (.int 0))),
  aE (pL 9) (eL 0),
  aE (pL 10) (eK (.fn (aq "_heapreplace_max"))),
  fx az (pL 7) (iA (eL 3)) [
   bJ (aR .Lt (eL 7) (eL 8)) [
    b9 (aX (eL 10) [(eL 5),(gI [(eL 7),(eL 9)])] []),
    aE (cx [(pL 8),(pL 11)]) (bz (eL 5) (eK (.int 0))),
    o8 (pL 9) (eL 9) .Add (eK (.int 1))] []],
  b9 (bX (eL 5) .sort [] []),
  bL (d9 (eH [(".0",.local),("elem",.local),("order",.local)]) aj (iA (eL 5)) (cx [(pL 1),(pL 2)]) [] (eL 1))]
abbrev yT:ah DS:=qw aj [
  aE (pL 3) (aX (eK (.bi "iter")) [(eL 1)] []),
  aE (pL 5) (d9 (eH [(".0",.local),("i",.local),("elem",.local)]) aj (o7 (iT [(eK (.int 0)),(iR (eL 0)),(iR (eK (.int 1)))]) (g6 (eL 3))) (cx [(pL 1),(pL 2)]) [] (gI [(eL 2),(eL 1)])),
  bJ (gm (tV (eL 5))) [
   bL (eL 5)] [],
  b9 (aX (eK (.fn (aq "heapify"))) [(eL 5)] []),
  aE (pL 8) (bz (bz (eL 5) (eK (.int 0))) (eK (.int 0))),
  aE (pL 9) (iR (eL 0)),
  aE (pL 10) (eK (.fn (aq "heapreplace"))),
  fx az (pL 7) (iA (eL 3)) [
   bJ (aR .Lt (eL 8) (eL 7)) [
    b9 (aX (eL 10) [(eL 5),(gI [(eL 7),(eL 9)])] []),
    aE (cx [(pL 8),(pL 11)]) (bz (eL 5) (eK (.int 0))),
    o8 (pL 9) (eL 9) .Sub (eK (.int 1))] []],
  b9 (bX (eL 5) .sort [] [(aq "reverse",(eK (.bool aj)))]),
  bL (d9 (eH [(".0",.local),("elem",.local),("order",.local)]) aj (iA (eL 5)) (cx [(pL 1),(pL 2)]) [] (eL 1))]
abbrev yU:ah DS:=[
 aE (pL 2) (aX (eK (.ty "type")) [(eL 1)] []),
 bJ (aR .Is (eL 2) (eK (.ty "str"))) [
  bL (eK (vS ""))] [],
 bJ (aR .Is (eL 1) (eK .none)) [
  bL (eK (vS "NoneType"))] [],
 bJ (aR .Is (eL 2) (eK (.ty "bool"))) [
  bL (eK (vS "bool"))] [],
 bJ (aR .Is (eL 2) (eK (.ty "int"))) [
  bL (eK (vS "int"))] [],
 bJ (aR .Is (eL 2) (eK (.ty "float"))) [
  bL (eK (vS "float"))] [],
 bJ (aR .Is (eL 2) (eK (.ty "list"))) [
  bL (eK (vS "list"))] [],
 bJ (aR .Is (eL 2) (eK (.ty "tuple"))) [
  bL (eK (vS "tuple"))] [],
 bJ (aR .Is (eL 2) (eK (.ty "dict"))) [
  bL (eK (vS "dict"))] [],
 bJ (aR .Is (eL 2) (eK (.ty "set"))) [
  bL (eK (vS "set"))] [],
 b9 (aX yK [(eK (.int 0))] [])]
abbrev yV:ah DS:=[
 bJ (jN (aR .Eq (aX (eK (.bi "len")) [(eL 3)] []) (eK (.int 1))) (gm (tV (eL 4)))) [
  aE (pL 5) (bz (eL 3) (eK (.int 0)))] [
  bJ (tV yK) [
   aE (pL 5) (bz (eL 4) (eL 2))] [
   b9 (aX yK [(eK (.int 1))] [])]],
 aE (pL 6) (aX (eK (.fn (aq "_kind"))) [(eL 0),(eL 5)] []),
 bJ (tV (eL 6)) [
  stuck] [],
 bL (eL 5)]
abbrev yW:ah DS:=[
 aE (pL 1) (eK (vS "/")),
 aE (pL 2) (eK (vS "")),
 bJ (aR .NotEq (fw (eL 0) ag (ae (eK (.int 1)))) (eL 1)) [
  bL (gI [(eL 2),(eL 2),(eL 0)])] [
  bJ (nS (aR .NotEq (fw (eL 0) (ae (eK (.int 1))) (ae (eK (.int 2)))) (eL 1)) (aR .Eq (fw (eL 0) (ae (eK (.int 2))) (ae (eK (.int 3)))) (eL 1))) [
   bL (gI [(eL 2),(eL 1),(fw (eL 0) (ae (eK (.int 1))) ag)])] [
   bL (gI [(eL 2),(fw (eL 0) ag (ae (eK (.int 2)))),(fw (eL 0) (ae (eK (.int 2))) ag)])]]]
abbrev yX:ah DS:=[
  bJ (nS (gm (tV (eL 8))) (aR .Eq (eL 8) (eL 2))) [
   qu] [],
  bJ (nS (aR .NotEq (eL 8) (eL 3)) (nS (jN (gm (tV (eL 5))) (gm (tV (eL 7)))) (jN (tV (eL 7)) (aR .Eq (bz (eL 7) (iR (eK (.int 1)))) (eL 3))))) [
   b9 (bX (eL 7) .append [(eL 8)] [])] [
   bJ (tV (eL 7)) [
    b9 (bX (eL 7) .pop [] [])] []]]
abbrev yY:ah DS:=[
 aE (pL 1) (eK (vS "/")),
 aE (pL 2) (eK (vS ".")),
 aE (pL 3) (eK (vS "..")),
 bJ (gm (tV (eL 0))) [
  bL (eL 2)] [],
 aE (cx [(pL 4),(pL 5),(pL 0)]) (aX (eK (.fn (aq "_splitroot"))) [(eL 0)] []),
 aE (pL 6) (bX (eL 0) .split [(eL 1)] []),
 aE (pL 7) (eList []),
 fx az (pL 8) (iA (eL 6)) yX,
 aE (pL 6) (eL 7),
 aE (pL 0) (aY .Add (eL 5) (bX (eL 1) .join [(eL 6)] [])),
 bL (Ef (eL 0) (eL 2))]
abbrev sx:ah DS:=[
 bL (aX (eK (.fn (aq "_normpath"))) [(aX (eK (.fn (aq "_c_path"))) [(eK (vS "normpath")),(eK (vS "_path_normpath")),(eK (vS "path")),(eL 0),(eL 1)] [])] [])]
abbrev vF:ah DS:=[
 aE (sp (eL 0) "_mods") (gH (gm (tV (eL 1))) (aX (eK (.ty "set")) [] []) (aX (eK (.ty "set")) [(eL 1)] [])),
 aE (sp (eL 0) "_dirs") (gH (gm (tV (eL 2))) (eList []) (d9 (eH [(".0",.local),("d",.local),("normpath",.globalImplicit)]) az (iA (eL 2)) (pL 1) [] (aX (eK (.fn (aq "normpath"))) [(eL 1)] []))),
 aE (sp (eL 0) "_ignore") (Eg (vS "<string>") (.int 1))]
abbrev yZ:ah DS:=[
 bJ (aR .In (eL 2) (iy (eL 0) "_ignore")) [
  bL (bz (iy (eL 0) "_ignore") (eL 2))] [],
 bJ (aR .In (eL 2) (iy (eL 0) "_mods")) [
  aE (dM (iy (eL 0) "_ignore") (eL 2)) (eK (.int 1)),
  bL (eK (.int 1))] [],
 fx az (pL 3) (iA (iy (eL 0) "_mods")) [
  bJ (tV (bX (eL 2) .startswith [(aY .Add (eL 3) (eK (vS ".")))] [])) [
   aE (dM (iy (eL 0) "_ignore") (eL 2)) (eK (.int 1)),
   bL (eK (.int 1))] []],
 bJ (aR .Is (eL 1) (eK .none)) [
  aE (dM (iy (eL 0) "_ignore") (eL 2)) (eK (.int 1)),
  bL (eK (.int 1))] [],
 fx az (pL 4) (iA (iy (eL 0) "_dirs")) [
  bJ (tV (bX (eL 1) .startswith [(aY .Add (eL 4) (eK (vS "/")))] [])) [
   aE (dM (iy (eL 0) "_ignore") (eL 2)) (eK (.int 1)),
   bL (eK (.int 1))] []],
 aE (dM (iy (eL 0) "_ignore") (eL 2)) (eK (.int 0)),
 bL (eK (.int 0))]
abbrev y3:ah DS:=[
 aE (pL 4) (eList []),
 bJ (aR .NotEq (eL 1) (eK (.int 7))) [
  aE (pC "parts") (bX (eL 1) .split [(eK (vS "."))] []),
  aE (pL 4) (d9 (eH [(".0",.local),("k",.local),("parts",.free)]) az (iS (iT [(aX (eK (.bi "len")) [(eC "parts")] [])])) (pL 1) [] (bX (eK (vS ".")) .join [(fw (eC "parts") ag (ae (aY .Add (eL 1) (eK (.int 1)))))] []))] [],
 bJ (nS (aR .Is (eL 0) (eK .none)) (aR .NotEq (d9 (eH [(".0",.local),("name",.local),("modules",.free)]) az (iA (eL 4)) (pL 1) [(aR .In (eL 1) (eC "modules"))] (eL 1)) (eList []))) [
  bL (eK (.bool aj))] [],
 aE (pC "steps") (bX (eL 0) .split [(eK (vS "/"))] []),
 bL (lR .NotEq (d9 (eH [(".0",.local),("k",.local),("directories",.free),("steps",.free)]) az (iS (iT [(aX (eK (.bi "len")) [(eC "steps")] [])])) (pL 1) [(aR .In (bX (eK (vS "/")) .join [(fw (eC "steps") ag (ae (eL 1)))] []) (eC "directories"))] (eL 1)) (eList []))]
abbrev sy:ah DS:=[
   bJ (jN (aR .Eq (eC "module") (eK (.int 7))) (aR .NotEq (eL 9) (eList []))) [
    bL (eL 3)] [],
   b9 (bX (eL 8) .append [(gI [(eC "module"),(eL 4)])] []),
   aE (pL 11) (bz (d9 (eH [(".0",.local),("name",.local),("where",.local),("module",.free)]) aj (iA (eL 8)) (cx [(pL 1),(pL 2)]) [(aR .Eq (eL 1) (eC "module"))] (eL 2)) (eK (.int 0))),
   bJ (tV (aX (eK (.fn (aq "_law_to_be_left_out"))) [(eL 11),(eC "module"),(eL 9),(eL 10)] [])) [
    o8 (pL 7) (eL 7) .Add (eK (.int 1))] []]
abbrev y4:ah DS:=[
 aE (pL 3) (eList []),
 fx aj (cx [(pL 4),(pC "module"),(pL 6)]) (iA (eL 0)) [
  aE (pL 7) (eK (.int 0)),
  fx aj (cx [(pL 8),(cx [(pL 9),(pL 10)])]) (o7 (g6 (eL 1)) (g6 (eL 2))) sy,
  b9 (bX (eL 3) .append [(eL 7)] [])],
 bL (eL 3)]
abbrev za:ah DS:=[
 aE (pL 4) (eList []),
 fx az (pL 5) (iS (iT [(eL 2)])) [
  fx aj (cx [(pC "j"),(pL 7)]) (o5 (g6 (eL 0))) [
   aE (pL 8) (d9 (eH [(".0",.local),("i",.local),("rank",.local),("greatest",.free),("j",.free),("ranks",.free)]) aj (o5 (g6 (eC "ranks"))) (cx [(pL 1),(pL 2)]) [(yL (tV (eC "greatest")) (aR .Gt (eL 2) (bz (eC "ranks") (eC "j"))) (aR .Lt (eL 2) (bz (eC "ranks") (eC "j"))))] (eL 1)),
   aE (pL 9) (d9 (eH [(".0",.local),("i",.local),("rank",.local),("j",.free),("ranks",.free)]) aj (o5 (g6 (fw (eC "ranks") ag (ae (eC "j"))))) (cx [(pL 1),(pL 2)]) [(aR .Eq (eL 2) (bz (eC "ranks") (eC "j")))] (eL 1)),
   bJ (aR .Eq (aY .Add (aX (eK (.bi "len")) [(eL 8)] []) (aX (eK (.bi "len")) [(eL 9)] [])) (eL 5)) [
    b9 (bX (eL 4) .append [(eL 7)] [])] []]],
 bL (eL 4)]
abbrev zb:ah DS:=[
 su (pL 2) (bX (eL 0) .names [(eK .none),(eL 1)] []) (λk=>k == "AttributeError") (bL (eList [])) [],
 bL (gH (aR .Is (aX (eK (.ty "type")) [(eL 2)] []) (eK (.ty "int"))) (eList [(eL 2)]) (eList [(eK .none)]))]
abbrev sz:ah DS:=[
 aE (pL 1) (aY .Add (fw (eL 0) ag (ae (eK (.int 6)))) (eList [(eK (.int 1728)),(eK (.int 1466)),(eK (.int 48)),(eK (.int 34)),(eK (.int 41)),(eK (.int 787)),(eK (.int 42)),(eK (.int 1536)),(eK (.int 55)),(eK (.int 33))])),
 aE (pC "total") (aY .Add (aX (eK (.bi "sum")) [(fw (eL 0) ag (ae (eK (.int 6))))] []) (eK (.int 84104))),
 aE (pL 3) (eList []),
 fx az (pC "k") (iA (eList [(eK (.int 0)),(eK (.int 6)),(eK (.int 12))])) [
  aE (pL 5) (d9 (eH [(".0",.local),("i",.local),("name",.local),("k",.free),("total",.free)]) aj (o5 (g6 (eList [(eK (vS "a")),(eK (vS "a.b")),(eK (vS "b"))]))) (cx [(pL 1),(pL 2)]) [(aR .Eq (aY .Mod (aY .FloorDiv (eC "total") (aY .Pow (eK (.int 2)) (aY .Add (eC "k") (eL 1)))) (eK (.int 2))) (eK (.int 1)))] (eL 2)),
  aE (pL 6) (d9 (eH [(".0",.local),("i",.local),("name",.local),("k",.free),("total",.free)]) aj (o5 (g6 (eList [(eK (vS "/l")),(eK (vS "/l/a")),(eK (vS "/w"))]))) (cx [(pL 1),(pL 2)]) [(aR .Eq (aY .Mod (aY .FloorDiv (eC "total") (aY .Pow (eK (.int 2)) (aY .Add (aY .Add (eC "k") (eK (.int 3))) (eL 1)))) (eK (.int 2))) (eK (.int 1)))] (eL 2)),
  b9 (bX (eL 3) .append [(gI [(eL 5),(eL 6)])] [])]]
abbrev vG:ah DS:=[
 aE (pC "readers") (d9 (eH [(".0",.local),("modules",.local),("directories",.local),("_Ignore",.globalImplicit)]) aj (iA (eL 3)) (cx [(pL 1),(pL 2)]) [] (aX (eK (.fn (aq "_Ignore"))) [(eL 1),(eL 2)] [])),
 aE (pL 7) (aX (eK (.fn (aq "_Ignore"))) [(eList []),(eList [(eK (vS "/l/../w//"))])] []),
 bJ (aR .NotEq (eList [(bX (eL 7) .names [(eK (vS "/w/q.py")),(eK (vS "q"))] []),(bX (eL 7) .names [(eK (vS "/wx/q.py")),(eK (vS "r"))] [])]) (eList [(eK (.int 1)),(eK (.int 0))])) [
  bL (eK (.bool az))] [],
 aE (pC "asks") (eList []),
 aE (pL 8) (Ei mP)]
abbrev zc:DS:=bJ (nS (aR .Eq (eL 11) (eK (.int 0))) (aR .Eq (aY .Mod (aY .FloorDiv (eL 12) (eK (.int 32))) (eK (.int 3))) (eK (.int 0)))) [
   b9 (bX (eL 9) .append [(eList [])] []),
   b9 (bX (eL 10) .append [(aY .FloorDiv (eL 12) (eK (.int 96)))] [])] []
abbrev vH:ah DS:=[
 aE (pL 9) (eList []),
 aE (pL 10) (eList []),
 fx aj (cx [(pL 11),(pL 12)]) (o5 (g6 (eL 1))) [
  zc,
  aE (pL 13) (bz (eList [(eK (vS "a")),(eK (vS "a.b")),(eK (vS "ab")),(eK (vS "b.a")),(eK (vS "a")),(eK (vS "a.b")),(eK (vS "ab")),(eK (.int 7))]) (aY .Mod (eL 12) (eK (.int 8)))),
  b9 (bX (bz (eL 9) (iR (eK (.int 1)))) .append [(gI [(bz (eList [(eK (vS "/l/x.py")),(eK (vS "/l/a/x.py")),(eK (vS "/w/x.py")),(eK .none)]) (aY .Mod (aY .FloorDiv (eL 12) (eK (.int 8))) (eK (.int 4)))),(eL 13),(eL 11)])] [])]]
abbrev vI:ah DS:=[
  b9 (bX (eL 15) .append [(gI [(eL 23),(aX (eK (.ty "list")) [(eL 22)] [])])] []),
  aE (pL 24) (gH (aR .Gt (eC "wish") (eK (.int 0))) (aX (eK (.fn (aq "_law_ranks"))) [(eL 18),(eL 14),(eL 3)] []) (eList [])),
  b9 (bX (eL 17) .extend [(d9 (eH [(".0",.local),("path",.local),("module",.local),("place",.local),("wish",.free)]) aj (iA (fw (eL 18) ag (ae (aY .Add (aX (eK (.bi "len")) [(eL 24)] []) (eK (.int 1)))))) (cx [(pL 1),(pL 2),(pL 3)]) [(aR .Gt (eC "wish") (eK (.int 0)))] (eL 3))] []),
  aE (pL 25) (gH (jN (aR .Gt (eC "wish") (eK (.int 0))) (aR .Eq (aY .Mod (aY .FloorDiv (eL 19) (eK (.int 12))) (eK (.int 2))) (eK (.int 1)))) (fw (eL 18) (ae (aY .Add (aX (eK (.bi "len")) [(eL 24)] []) (eK (.int 1)))) ag) (eL 18)),
  aE (pL 26) (vC (lR .Gt (eC "wish") (eK (.int 0))) (lR .Lt (aX (eK (.bi "len")) [(eL 24)] []) (aX (eK (.bi "len")) [(eL 18)] []))),
  b9 (bX (eL 16) .append [(gI [(gH (tV (eL 26)) (eK .none) (aX (eK (.fn (aq "_law_few"))) [(eL 18),(eL 24),(eC "wish"),(eL 21)] [])),(eL 25)])] [])]
abbrev vJ:ah DS:=
  aE (pC "wish") (aY .Sub (aY .Mod (eL 19) (eK (.int 6))) (eK (.int 1))) ::
  aE (pL 21) (lR .Eq (aY .Mod (aY .FloorDiv (eL 19) (eK (.int 6))) (eK (.int 2))) (eK (.int 1))) ::
  aE (pL 22) (gH (aR .Eq (aY .Mod (aY .FloorDiv (eL 19) (eK (.int 12))) (eK (.int 2))) (eK (.int 1))) (aX (eK (.bi "iter")) [(eL 18)] []) (aX (eK (.ty "list")) [(eL 18)] [])) ::
  su (pL 23) (gH (tV (eL 21)) (aX (eK (.fn (aq "nlargest"))) [(eC "wish"),(eL 22)] [(aq "key",(eL 8))]) (aX (eK (.fn (aq "nsmallest"))) [(eC "wish"),(eL 22)] [(aq "key",(eL 8))])) (λk=>k == "AttributeError") (aE (pL 23) (eK .none)) [] :: vI
abbrev vK:ah DS:=[
 aE (pL 14) (eList [(eList []),(eList []),(eList [])]),
 aE (pL 15) (eList []),
 aE (pL 16) (eList []),
 aE (pL 17) (eList []),
 fx aj (cx [(pL 18),(pL 19)]) (o7 (g6 (eL 9)) (g6 (eL 10))) vJ]
abbrev zd:ah DS:=[
   b9 (bX (eL 15) .append [(aX (eK (.fn (aq "_law_says"))) [(bz (eC "readers") (eC "k")),(eL 13)] [])] []),
   b9 (bX (eL 16) .append [(aX (eK (.fn (aq "_law_ranks"))) [(eList [(gI [(eK .none),(eL 13),(eK (.int 0))])]),(eList [(bz (eL 14) (eC "k"))]),(eList [(bz (eL 3) (eC "k"))])] [])] [])]
abbrev vL:ah DS:=[
 fx az (pC "k") (iS (iT [(eK (.int 3))])) [
  fx az (pL 13) (iA (eList [(eK (vS "a")),(eK (vS "a.b")),(eK (vS "ab")),(eK (vS "b.a")),(eK (.int 7))])) zd],
 bL (vC (lR .Eq (eL 15) (eL 16)) (lR .Eq (eC "asks") (eL 17)))]
abbrev vM:ah DS:=sz++(vG++(vH++(vK++vL)))
abbrev WP {β:Type}(m:P β)(st:St)(Q:β->St->Prop)(E:aI->St->Prop):Prop:=
 m.run st λr bh=>match r with
  |.ok b=>Q b bh
  |.err k=>E k bh
@[reducible] abbrev k1 {β γ:Type}(f:β->P γ)(Q:γ->St->Prop)(E:aI->St->Prop)(v:β)(st:St):Prop:=WP (f v) st Q E
@[reducible] abbrev k2 {β γ δ:Type}(f:β->γ->P δ)(Q:δ->St->Prop)(E:aI->St->Prop)(v:β)(w:γ)(st:St):Prop:=WP (f v w) st Q E
@[reducible] abbrev k3 {β γ δ ε:Type}(f:β->γ->δ->P ε)(Q:ε->St->Prop)(E:aI->St->Prop)(u:β)(v:γ)(w:δ)(st:St):Prop:=WP (f u v w) st Q E
@[reducible] abbrev kE {β γ:Type}(a:RT->P γ)(rt:RT)(Q:β->γ->St->Prop)(E:aI->St->Prop)(v:β)(st:St):Prop:=WP (a rt) st (Q v) E
@[reducible] abbrev Qt {β γ:Type}(a:RT->P γ)(rt:RT)(Q:γ->St->Prop)(E:aI->St->Prop)(_:β)(st:St):Prop:=WP (a rt) st Q E
@[reducible] abbrev Et {β γ δ:Type}(a:RT->P δ)(rt:RT)(Q:β->γ->δ->St->Prop)(E:aI->St->Prop)(u:β)(v:γ)(st:St):Prop:=WP (a rt) st (Q u v) E
@[reducible] abbrev kM {β γ:Type}(g:β->γ)(Q:γ->St->Prop)(v:β)(st:St):Prop:=Q (g v) st
@[reducible] abbrev Qu {β γ δ:Type}(g:β->γ->δ)(Q:δ->St->Prop)(u:β)(v:γ)(st:St):Prop:=Q (g u v) st
@[reducible] abbrev ze {γ:Type}(m n:P γ)(Q:γ->St->Prop)(E:aI->St->Prop)(c:aB)(st:St):Prop:=(c=aj->WP m st Q E)/\(c=az->WP n st Q E)
@[reducible] abbrev Eu {γ:Type}(m:P γ)(R:St->Prop)(Q:γ->St->Prop)(E:aI->St->Prop)(c:aB)(st:St):Prop:=(c=aj->WP m st Q E)/\(c=az->R st)
@[reducible] abbrev vN {γ:Type}(m:P γ)(R:St->Prop)(Q:γ->St->Prop)(E:aI->St->Prop)(c:aB)(st:St):Prop:=(c=aj->R st)/\(c=az->WP m st Q E)
@[reducible] abbrev kA (m:P AV)(Q:AV->St->Prop)(E:aI->St->Prop)(x:AV)(st:St):Prop:=WP (eE x) st (Eu m (Q x) Q E) E
@[reducible] abbrev kO (m:P AV)(Q:AV->St->Prop)(E:aI->St->Prop)(x:AV)(st:St):Prop:=WP (eE x) st (vN m (Q x) Q E) E
@[reducible] abbrev kU {β:Type}(loc:ah (ax AV))(Q:ah (ax AV)->St->Prop)(_:β)(st:St):Prop:=Q loc st
@[reducible] abbrev kX {β:Type}(loc:ah (ax AV))(Q:FL×ah (ax AV)->St->Prop)(_:β)(st:St):Prop:=Q (.next,loc) st
@[reducible] abbrev kN (Q:FL×ah (ax AV)->St->Prop)(loc:ah (ax AV))(st:St):Prop:=Q (.next,loc) st
@[reducible] abbrev kR (loc:ah (ax AV))(Q:FL×ah (ax AV)->St->Prop)(v:AV)(st:St):Prop:=Q (.ret v,loc) st
@[reducible] abbrev Ew (Q:AV->St->Prop)(E:aI->St->Prop)(x:FL×ah (ax AV))(st:St):Prop:=WP (eQ x.1) st Q E
@[reducible] abbrev kL {γ:Type}(f:RT->P γ)(F:Or)(cel:ah (au×ak))(Q:γ->St->Prop)(E:aI->St->Prop)(loc:ah (ax AV))(st:St):Prop:=WP (f ⟨F,cel,loc⟩) st Q E
@[reducible] abbrev kK (n:au)(Q:ah (au×AV)->St->Prop)(x:AV)(xs:ah (au×AV))(st:St):Prop:=Q ((n,x) :: xs) st
@[reducible] abbrev Ey (put:DA)(rt:RT)(Q:FL×ah (ax AV)->St->Prop)(E:aI->St->Prop)(v:AV)(st:St):Prop:=WP (put v rt) st (kN Q) E
@[reducible] abbrev Ez (x:aI)(v:AV)(loc:ah (ax AV))(Q:ah (ax AV)->St->Prop)(E:aI->St->Prop)(ov:AV)(st:St):Prop:=WP (p6 ov (aq x) v) st (kU loc Q) E
@[reducible] abbrev EA (v:AV)(loc:ah (ax AV))(Q:ah (ax AV)->St->Prop)(E:aI->St->Prop)(ov iv:AV)(st:St):Prop:=WP (oP ov iv v) st (kU loc Q) E
@[reducible] abbrev Qv (op:jU)(Q:AV->St->Prop)(E:aI->St->Prop)(i j:Int)(st:St):Prop:=WP (gc op (.int i) (.int j)) st Q E
@[reducible] abbrev Qw (op:jU)(Q:AV->St->Prop)(E:aI->St->Prop)(i:Int)(v:AV)(st:St):Prop:=WP (dF v) st (Qv op Q E i) E
@[reducible] abbrev EB (F:Or)(mm:kh)(l:ah DE)(ks:ah (au×DE))(rt:RT)(Q:AV->St->Prop)(E:aI->St->Prop)(ov:AV)(st:St):Prop:=
 ¬ (isInt ov=aj/\mm= .startswith)/\WP (lH ov mm) st (Qt (dG l) rt (kE (fV ks) rt (k2 (e9 F ov mm) Q E) E) E) E
@[reducible] abbrev EC (put:DA)(rt:RT)(o:ah DS)(F:Or)(cel:ah (au×ak))(Q:FL×ah (ax AV)->St->Prop)(E:aI->St->Prop)(v:AV)(st:St):Prop:=WP (put v rt) st (kL (sq o) F cel Q E) E
@[reducible] abbrev ED (yM:aI->aB)(m:P (FL×ah (ax AV)))(Q:FL×ah (ax AV)->St->Prop)(E:aI->St->Prop)(k:aI)(st:St):Prop:=yM k=aj/\WP m st Q E
abbrev Left (N:ah (ax AV)->St->Prop)(Q:FL×ah (ax AV)->St->Prop)(y:FL×ah (ax AV))(st:St):Prop:=match y with
 |(.next,loc)=>N loc st
 |(.cont,loc)=>N loc st
 |(.brk,loc)=>Q (.next,loc) st
 |(.ret v,loc)=>Q (.ret v,loc) st
@[reducible] abbrev Qx (tup:aB)(b:ah DS)(put:DA)(rt:RT)(Q:FL×ah (ax AV)->St->Prop)(E:aI->St->Prop)(it:AI)(st:St):Prop:=(tup || vD it)=aj/\WP (forA (sq b) put 128 it rt) st Q E
abbrev Yl (G:St->Prop):AI->ah AV->Prop
 |it,[]=>∀st,G st->∀(Q:ax (AV×AI)->St->Prop) (E:aI->St->Prop),Q ag st->WP (bx it) st Q E
 |it,x :: xs=>∃jH,(∀st,G st->∀(Q:ax (AV×AI)->St->Prop) (E:aI->St->Prop),Q (ae (x,jH)) st->WP (bx it) st Q E)/\Yl G jH xs
abbrev mQ (rt:RT)(Q:aB->St->Prop)(E:aI->St->Prop):ah DT->St->Prop
 | [],st=>Q aj st
 | [t],st=>WP (t rt) st Q E
 |_,_=>dm
abbrev mR (d:Int):ak->Int->ah AV
 | 0,_=>[]
 |n+1,c=>.int c :: mR d n (c+d)
abbrev mS:Int->ah AV->ah AV
 |_,[]=>[]
 |n,x :: l=>.pair (.int n) x :: mS (n+1) l
abbrev pb:ah AV->ah AV->ah AV
 |x :: xs,y :: ys=>.pair x y :: pb xs ys
 |_,_=>[]
@[reducible] abbrev Qy (y:AS)(Q:AI->St->Prop)(E:aI->St->Prop)(i:AI)(st:St):Prop:=WP (eP y) st (kM (AI.zip i) Q) E
@[reducible] abbrev kZ (Q:AI->St->Prop)(E:aI->St->Prop)(x y:AS)(st:St):Prop:=WP (eP x) st (Qy y Q E) E
@[reducible] abbrev EE (tup:aB)(elt:DE)(ifs:ah DT)(put:DA)(rt:RT)(Q:AV->St->Prop)(E:aI->St->Prop)(ai:AI)(st:St):Prop:=(tup || vD ai)=aj/\WP (cw elt ifs put 128 ai rt []) st (k1 cz Q E) E
@[reducible] abbrev Body (r:ah DS)(rt:RT)(st:St)(Q:AV->St->Prop)(E:aI->St->Prop):Prop:=WP (sq r rt) st (Ew Q E) E
abbrev jO (N:ah (ax AV)->St->Prop)(Q:FL×ah (ax AV)->St->Prop)(y:FL×ah (ax AV))(st:St):Prop:=match y with
 |(.next,loc)=>N loc st
 |y=>Q y st
@[reducible] abbrev Qz (t:DT)(body:DS)(n:ak)(F:Or)(cel:ah (au×ak))(loc:ah (ax AV))(Q:FL×ah (ax AV)->St->Prop)(E:aI->St->Prop)(c:aB)(st:St):Prop:=(c=aj->WP (body ⟨F,cel,loc⟩) st (Left (kL (iK t body n) F cel Q E) Q) E)/\(c=az->Q (.next,loc) st)
@[reducible] abbrev Tr:=Int×Int×AV
abbrev tv (t:Tr):AV:=.dB (.int t.1) (.int t.2.1) t.2.2
abbrev fM (x y:Tr):aB:=if x.1=y.1 then decide (x.2.1 < y.2.1)else decide (x.1 < y.1)
abbrev bf (g:aB)(x y:Tr):aB:=if g then fM y x else fM x y
abbrev f3 (x y:Tr):Prop:=x.1=y.1->x.2.1≠y.2.1
abbrev Hp (st:St)(h:ak)(l:ah Tr):Prop:=st[h]? =ae (.list (l.map tv))
abbrev iz (g:aB)(new:Tr)(s:ak):ak->ah Tr->ak->ah Tr
 | 0,l,p=>l.set p new
 |n+1,l,p=>if s < p then
   match l[(p - 1) / 2]? with
   |some par=>if bf g new par then iz g new s n (l.set p par) ((p - 1) / 2)else l.set p new
   |none=>l.set p new
  else l.set p new
abbrev QA (t:DT):ah DS:=[
 aE (pL 3) (bz (eL 0) (eL 2)),
 o9 (aR .Gt (eL 2) (eL 1)) [
  aE (pL 4) (aY .RShift (aY .Sub (eL 2) (eK (.int 1))) (eK (.int 1))),
  aE (pL 5) (bz (eL 0) (eL 4)),
  bJ t [
   aE (dM (eL 0) (eL 2)) (eL 5),
   aE (pL 2) (eL 4),
   qu] [],
  sr],
 aE (dM (eL 0) (eL 2)) (eL 3)]
abbrev fc (g:aB):ak->ah Tr->ak->ah Tr×ak
 | 0,l,p=>(l,p)
 |n+1,l,p=>match l[2 * p+1]? with
  |none=>(l,p)
  |some x=>match l[2 * p+2]? with
   |none=>fc g n (l.set p x) (2 * p+1)
   |some y=>if bf g x y then fc g n (l.set p x) (2 * p+1)else fc g n (l.set p y) (2 * p+2)
abbrev QC (t:DT)(f:AV):ah DS:=[
 aE (pL 2) (aX (eK (.bi "len")) [(eL 0)] []),
 aE (pL 3) (eL 1),
 aE (pL 4) (bz (eL 0) (eL 1)),
 aE (pL 5) (aY .Add (aY .Mult (eK (.int 2)) (eL 1)) (eK (.int 1))),
 o9 (aR .Lt (eL 5) (eL 2)) [
  aE (pL 6) (aY .Add (eL 5) (eK (.int 1))),
  bJ (jN (aR .Lt (eL 6) (eL 2)) (gm t)) [
   aE (pL 5) (eL 6)] [],
  aE (dM (eL 0) (eL 1)) (bz (eL 0) (eL 5)),
  aE (pL 1) (eL 5),
  aE (pL 5) (aY .Add (aY .Mult (eK (.int 2)) (eL 1)) (eK (.int 1)))],
 aE (dM (eL 0) (eL 1)) (eL 4),
 b9 (aX (eK f) [(eL 0),(eL 3),(eL 1)] [])]
abbrev dN (l:ah Tr):Prop:=∀(i j:ak) (x y:Tr),i≠j->l[i]? =ae x->l[j]? =ae y->f3 x y
abbrev cN (g:aB)(l:ah Tr)(p:ak):ah Tr:=match l[p]? with
 |none=>l
 |some new=>iz g new p (fc g 63 l p).2 ((fc g 63 l p).1.set (fc g 63 l p).2 new) (fc g 63 l p).2
abbrev eW (g:aB):ak->ah Tr->ah Tr
 | 0,l=>l
 |k+1,l=>eW g k (cN g l k)
abbrev kQ (g:aB):ah Tr->Prop
 | []=>dm
 | [_]=>eN
 | [a,b]=>bf g a b=aj
 | [a,b,c]=>bf g a b=aj/\bf g a c=aj
 | [a,b,c,d]=>bf g a b=aj/\bf g a c=aj/\bf g b d=aj
 |_=>dm
abbrev bg (b:aB)(k k':Int):aB:=if b then decide (k' < k)else decide (k < k')
abbrev iB (b:aB)(t:Tr):ah Tr->ah Tr
 | []=>[t]
 |x :: S=>if bg b t.1 x.1 then t :: x :: S else x :: iB b t S
abbrev bV (b:aB)(t:Int×AV):ah (Int×AV)->ah (Int×AV)
 | []=>[t]
 |x :: S=>if bg b t.1 x.1 then t :: x :: S else x :: bV b t S
abbrev kv (t:Tr):Int×AV:=(t.1,t.2.2)
abbrev Later (b:aB)(t:Tr)(S:ah Tr):Prop:=∀x∈S,if b then t.2.1 < x.2.1 else x.2.1 < t.2.1
@[reducible] abbrev gJ (b:aB)(S:ah Tr):Prop:=S.Pairwise λx y=>bf b x y=aj
abbrev kk (t:Tr):(Int×Int)×AV:=((t.1,t.2.1),tv t)
abbrev fy (b:aB)(n:ak)(xs:ah (Int×AV)):ah (Int×AV):=xs.foldl (λS x=>(bV b x S).take n) []
structure kT (b:aB)(n:ak)(L S:ah Tr)(xs:ah (Int×AV)):Prop where
 heap:kQ (!b) L
 sorted:gJ b S
 perm:L.Perm S
 sel:S.map kv=fy b n xs
 full:S.length=n
structure Fr (D:ak->Prop)(st bh:St):Prop where
 len:st.length<=bh.length
 keep:∀i,i < st.length->¬ D i->bh[i]? =st[i]?
structure iU (F:Or)(key:AV)(D:ak->Prop)(J:ak->St->Prop)(JE:St->Prop)(xs:ah AV)(rk:ah Int):Prop where
 call:∀(j:ak) (x:AV) (st:St),xs[j]? =ae x->J j st->WP (F key [x] []) st (λv bh=>∃r,rk[j]? =ae r/\v= .int r/\J (j+1) bh/\Fr D st bh) (λk bh=>k="AttributeError"/\rk.length=j/\JE bh/\Fr D st bh)
 zf:∀j st bh,J j st->st.length<=bh.length->(∀i,D i->bh[i]? =st[i]?)->J j bh
 QD:∀st bh,JE st->st.length<=bh.length->(∀i,D i->bh[i]? =st[i]?)->JE bh
 inside:∀j st,J j st->∀i,D i->i < st.length
 le:rk.length<=xs.length
abbrev mT (loc:ah (ax AV)):Prop:=∃x0 x1 x2,loc=[x0,x1,x2]
abbrev jn (loc:ah (ax AV)):Prop:=∃x0 x1 x2 x3,loc=[x0,x1,x2,x3]
abbrev lS (loc:ah (ax AV)):Prop:=∃x0 x1 x2 x3 x4,loc=[x0,x1,x2,x3,x4]
@[reducible] abbrev QE (ifs:ah DT)(elt:DE)(F:Or)(cel:ah (au×ak))(I:ah AV->ah (ax AV)->St->Prop)(acc:ah AV)(E:aI->St->Prop)(loc:ah (ax AV))(st:St):Prop:=
 mQ ⟨F,cel,loc⟩ (λc st=>(c=aj->acc.length<=4096/\WP (elt ⟨F,cel,loc⟩) st (λx st=>I (acc++[x]) loc st) E)/\(c=az->I acc loc st)) E ifs st
abbrev tr (b:aB)(i:ak)(r:Int)(x:AV):Tr:=(r,if b then -(i:Int)else i,x)
abbrev dh (b:aB):ak->ah Int->ah AV->ah Tr
 |i,r :: rs,x :: xs=>tr b i r x :: dh b (i+1) rs xs
 |_,_,_=>[]
abbrev It (st:St)(it s j:ak)(xs:ah AV):Prop:=st[it]? =ae (.iter (ae s) j)/\st[s]? =ae (.list xs)
abbrev qx (st:St)(it s j:ak)(xs:ah AV):Prop:=It st it s j xs\/(st[it]? =ae (.iter ag 0)/\xs.length<=j)
abbrev ec (b:aB)(i:ak):Int:=if b then -(i:Int)else i
abbrev stepI (b:aB):Int:=if b then -1 else 1
abbrev With (D:ak->Prop)(it i:ak):Prop:=D i\/i=it
abbrev jP (st:St)(key:AV):Prop:=∃i a e sc cs,key= .ref i/\st[i]? =ae (.lam a e sc cs)
abbrev qy (b:aB)(o:ak)(S:ah Tr):Prop:=∀x∈S,if b then ec b o < x.2.1 else x.2.1 < ec b o
abbrev iV (b:aB):ah (Int×AV)->Int×AV->Int×AV
 | [],p=>p
 |x :: l,p=>iV b l (if bg b x.1 p.1 then x else p)
abbrev Gv (w:aB)(st:St)(gi s:ak)(xs:ah AV):Prop:=if w then It st gi s 0 xs else s=gi/\st[gi]? =ae (.list xs)
abbrev jo (w:aB)(st:St)(gi s m:ak)(xs:ah AV):Prop:=if w then qx st gi s m xs else s=gi/\st[gi]? =ae (.list xs)
abbrev DG (D:ak->Prop)(w:aB)(gi i:ak):Prop:=D i\/(w=aj/\i=gi)
structure pd (b:aB)(n:ak)(D:ak->Prop)(J:ak->St->Prop)(w:aB)(gi s:ak)(xs:ah AV)(rk:ah Int)(df:St)(v:AV)(bh:St):Prop where
 res:∃r,v= .ref r/\df.length<=r/\bh[r]? =ae (.list ((fy b n (rk.zip xs)).map (·.2)))
 len:xs.length=rk.length
 j:J xs.length bh
 fr:Fr (DG D w gi) df bh
 left:jo w bh gi s xs.length xs
structure mU (D:ak->Prop)(JE:St->Prop)(w:aB)(gi s:ak)(xs:ah AV)(rk:ah Int)(df:St)(k:aI)(bh:St):Prop where
 k:k="AttributeError"
 len:rk.length < xs.length
 j:JE bh
 fr:Fr (DG D w gi) df bh
 left:jo w bh gi s (rk.length+1) xs
structure vO (J:ak->St->Prop)(df:St)(v:AV)(bh:St):Prop where
 res:∃r,v= .ref r/\df.length<=r/\bh[r]? =ae (.list [])
 j:J 0 bh
 fr:Fr (λ_=>dm) df bh
@[reducible] abbrev sO (x:aI):au:=aq x
abbrev subs (x y z:au):ah (ah au):=[[],[x],[y],[x,y],[z],[x,z],[y,z],[x,y,z]]
abbrev qz:ah (ah au):=subs (sO "a") (sO "a.b") (sO "b")
abbrev pe:ah (ah au):=subs (sO "/l") (sO "/l/a") (sO "/w")
abbrev modS:ah au:=[sO "a",sO "a.b",sO "ab",sO "b.a"]
abbrev sA:ah au:=[sO "/l/x.py",sO "/l/a/x.py",sO "/w/x.py"]
abbrev eg (m:AV):Prop:=m= .int 7\/∃s∈modS,m= .str s
abbrev f5 (p:AV):Prop:=p= .none\/∃s∈sA,p= .str s
@[reducible] abbrev Rd:=ah au×ah au
abbrev fz (r:Rd):Prop:=r.1∈qz/\r.2∈pe
abbrev pf (mods:ah au)(s:au):aB:=mods.any λx=>pD s (x++sO ".")
abbrev sC (fO:ah au)(s:au):aB:=fO.any λx=>pD s (x++sO "/")
abbrev sD (mods:ah au):AV->aB
 |.str s=>mods.contains s || pf mods s
 |_=>az
abbrev qA (fO:ah au):AV->aB
 |.str s=>sC fO s
 |_=>aj
abbrev dv (r:Rd)(p m:AV):aB:=sD r.1 m || qA r.2 p
abbrev jq (s:au):ah au:=(dz (aU s (sO ".")).length).map λk=>jv (sO ".") ((aU s (sO ".")).take (k+1))
abbrev kW (s:au):ah au:=(dz (aU s (sO "/")).length).map λk=>jv (sO "/") ((aU s (sO "/")).take k)
structure fA (st:St)(a d dd g:ak)(r:Rd)(D:ah ((au ⊕ Int)×AV)):Prop where
 inst:st[a]? =ae (.inst d)
 bc:st[d]? =ae (.bc [(sO "_mods",.cL r.1),(sO "_dirs",.ref dd),(sO "_ignore",.ref g)])
 fO:st[dd]? =ae (.list (r.2.map .str))
 dict:st[g]? =ae (.dict D)
abbrev b2i (b:aB):Int:=if b then 1 else 0
abbrev EF (m:AV):Prop:=m= .int 7\/∃s:au,m= .str s
abbrev EH (p:AV):Prop:=p= .none\/∃s:au,p= .str s
@[reducible] abbrev aS:=ah (AV×AV)
abbrev dw (n:aS)(m:AV):ax AV:=(n.find? λq=>q.1=m).map (·.2)
structure kY (r:Rd)(n:aS)(D:ah ((au ⊕ Int)×AV)):Prop where
 len:D.length<=1+n.length
 get:∀m key,eg m->gC m=ae key->eF D key=(dw n m).map λp=>.int (b2i (dv r p m))
 ok:∀q∈n,f5 q.2/\eg q.1
 EI:r.1≠[]->dw n (.int 7)=ag
structure eY where
 a:ak
 d:ak
 dd:ak
 g:ak
abbrev gs (qs:ah eY)(i:ak):Prop:=∃q∈qs,i=q.g
abbrev bG (st:St):ah eY->ah Rd->ah aS->Prop
 | [],[],[]=>eN
 |q :: qs,r :: rs,n :: ns=>(∃D,fA st q.a q.d q.dd q.g r D/\kY r n D)/\bG st qs rs ns
 |_,_,_=>dm
abbrev b7:ah Rd->ah aS->AV->AV->ax Int×ah aS
 |r :: rs,n :: ns,m,p=>if m= .int 7/\r.1≠[]then (ag,n :: ns)else
  ((b7 rs ns m p).1.map λi=>b2i (dv r ((dw n m).getD p) m)+i,(n++[(m,p)]) :: (b7 rs ns m p).2)
 |_,_,_,_=>(ae 0,[])
abbrev zg:DE:=bX (eL 1) .names [(bz (eC "thing") (eK (.int 0))),(bz (eC "thing") (eK (.int 1)))] []
abbrev sE:DE:=(bz (eList [(bX (eC "asks") .append [(bz (eC "thing") (eK (.int 2)))] []),(aX (eK (.bi "sum")) [(d9 (eH [(".0",.local),("reader",.local),("thing",.free)]) az (iA (eC "readers")) (pL 1) [] zg)] [])]) (eK (.int 1)))
structure eO where
 cA:ak
 A:ak
 cR:ak
 R:ak
 lm:ak
 qs:ah eY
deriving Inhabited
structure eO.Ok (x:eO):Prop where
 sep:x.qs.Pairwise λp q=>p.g≠q.g
 ar:x.A≠x.R
 ad:∀q∈x.qs,x.A≠q.dd
structure Good (x:eO)(rs:ah Rd)(ns:ah aS)(as:ah AV)(st:St):Prop where
 cA:st[x.cA]? =ae (.cell (ae (.ref x.A)))
 A:st[x.A]? =ae (.list as)
 cR:st[x.cR]? =ae (.cell (ae (.ref x.R)))
 R:st[x.R]? =ae (.list (x.qs.map λq=>.ref q.a))
 lm:∃a e sc,mP=ae (a,e,sc)/\st[x.lm]? =ae (.lam a e sc [(sO "readers",x.cR),(sO "asks",x.cA)])
 jQ:bG st x.qs rs ns
abbrev eZ (x:eO)(i:ak):Prop:=i=x.cA\/i=x.A\/i=x.cR\/i=x.R\/i=x.lm\/∃q∈x.qs,i=q.a\/i=q.d\/i=q.dd\/i=q.g
@[reducible] abbrev Thing:=AV×AV×Int
abbrev tA (t:Thing):AV:=.dB t.1 t.2.1 (.int t.2.2)
abbrev iC (t:Thing):Prop:=f5 t.1/\eg t.2.1
abbrev gn (ts:ah Thing):ah AV:=ts.map λt=>.int t.2.2
abbrev bM (rs:ah Rd):ah aS->ah Thing->ah Int×ah aS
 |ns,[]=>([],ns)
 |ns,t :: ts=>match b7 rs ns t.2.1 t.1 with
  |(ag,lT)=>([],lT)
  |(ae i,lT)=>(i :: (bM rs lT ts).1,(bM rs lT ts).2)
abbrev KJ (x:eO)(rs:ah Rd)(dI:ah aS)(gB:ah AV)(ts:ah Thing)(b0 j:ak)(st:St):Prop:=
 ∃lT,Good x rs lT (gB++gn (ts.take j)) st/\bM rs lT (ts.drop j)=((bM rs dI ts).1.drop j,(bM rs dI ts).2)/\(∀n∈lT,n.length<=b0+j)/\j<=(bM rs dI ts).1.length
abbrev EJ (x:eO)(rs:ah Rd)(dI:ah aS)(gB:ah AV)(ts:ah Thing)(st:St):Prop:=Good x rs (bM rs dI ts).2 (gB++gn (ts.take ((bM rs dI ts).1.length+1))) st
@[reducible] abbrev Ex (st bh:St):Prop:=Fr (λu=>dm) st bh
structure vP (s c:au)(n:ak)(L:ah au):Prop where
 len:(aU s c).length<=n
 short:s.length<=16
 ok:cY s=aj
 join:∀k,k<=n->pE c ((aU s c).take k)=aj
 EK:∀x∈L,cY x=aj
 parts:(m4 s (l5 s c 0 s.length (s.length+1)) c.length).length<=4096
abbrev nA (n:aS):ah AV:=n.map λq=>.pair q.1 q.2
abbrev dO (st:St):ah ak->ah aS->Prop
 | [],[]=>eN
 |i :: is,n :: ns=>st[i]? =ae (.list (nA n))/\dO st is ns
 |_,_=>dm
abbrev fe (st:St):ah (ak×ak)->ah Rd->Prop
 | [],[]=>eN
 |q :: qs,r :: rs=>(st[q.1]? =ae (.list (r.1.map .str))/\st[q.2]? =ae (.list (r.2.map .str)))/\fe st qs rs
 |_,_=>dm
abbrev g7 (n:aS):Prop:=∀q∈n,eg q.1/\f5 q.2
abbrev pM (q:ak×ak):AV:=.pair (.ref q.1) (.ref q.2)
abbrev sF (row NP LP rp:ak)(loc:ah (ax AV)):Prop:=∃x4 x5 x6 x7 x8 x9 fU bS pg zh,loc=[ae (.ref row),ae (.ref NP),ae (.ref LP),ae (.ref rp),x4,x5,x6,x7,x8,x9,fU,bS,pg,zh]
abbrev fB (b:aB)(T:ah Tr)(t:Tr):ak:=T.countP λu=>bf b u t
abbrev lU (b:aB)(T:ah Tr)(k:ak):ah AV:=(T.filter λt=>decide (fB b T t=k)).map (·.2.2)
abbrev sG (row fp:ak)(z:Int)(loc:ah (ax AV)):Prop:=∃x5 x6 x7 x8 x9 fU bS pg,loc=[ae (.ref row),ag,ae (.int z),ag,ae (.ref fp),x5,x6,x7,x8,x9,fU,bS,pg]
abbrev qB (row fp:ak)(z w:Int)(loc:ah (ax AV)):Prop:=∃x6 x7 x8 x9 fU bS pg,loc=[ae (.ref row),ag,ae (.int z),ag,ae (.ref fp),ae (.int w),x6,x7,x8,x9,fU,bS,pg]
abbrev dx (nc:ah au)(c:au):ah au:=if c.length == 0 || c == sO "." then nc else if !(c == sO "..") || (!nc.isEmpty && nc.getLast? == ae (sO ".."))then nc++[c]else nc.dropLast
abbrev bT (s:au):au:=lh s (ae 1) ag
abbrev iD (s:au):au:=sO "/"++jv (sO "/") ((aU (bT s) (sO "/")).foldl dx [])
abbrev lV:ah au:=[sO "/l",sO "/l/a",sO "/w",sO "/l/../w//"]
abbrev EM (s:au):aB:=decide (0 < s.length) && decide (s.length<=100) && (lh s ag (ae 1) == sO "/") && cY (lh s (ae 1) (ae 2)) && !(lh s (ae 1) (ae 2) == sO "/")
 && decide ((bT s).length<=100) && decide ((aU (bT s) (sO "/")).length<=10) && (aU (bT s) (sO "/")).all (λc=>cY c && decide (c.length<=100))
 && decide ((m4 (bT s) (l5 (bT s) (sO "/") 0 (bT s).length ((bT s).length+1)) (sO "/").length).length<=4096)
 && pE (sO "/") ((aU (bT s) (sO "/")).foldl dx []) && decide ((jv (sO "/") ((aU (bT s) (sO "/")).foldl dx [])).length<=100)
structure NF (s:au):Prop where
 pos:0 < s.length
 len:s.length<=100
 s1:lh s ag (ae 1)=sO "/"
 QG:cY (lh s (ae 1) (ae 2))=aj
 s2:(lh s (ae 1) (ae 2) == sO "/")=az
 EN:(bT s).length<=100
 QH:(aU (bT s) (sO "/")).length<=10
 QI:∀c∈aU (bT s) (sO "/"),cY c=aj/\c.length<=100
 parts:(m4 (bT s) (l5 (bT s) (sO "/") 0 (bT s).length ((bT s).length+1)) (sO "/").length).length<=4096
 join:pE (sO "/") ((aU (bT s) (sO "/")).foldl dx [])=aj
 QJ:(jv (sO "/") ((aU (bT s) (sO "/")).foldl dx [])).length<=100
abbrev bj (st:St):Prop:=st.all (λo=>!jg o)=aj
abbrev sH (ni:ak)(loc:ah (ax AV)):Prop:=∃x0 x4 x6 x8 x9,loc=[x0,ae (vS "/"),ae (vS "."),ae (vS ".."),x4,ae (vS "/"),x6,ae (.ref ni),x8,x9]
abbrev D0:ah ((au ⊕ Int)×AV):=[(.inl (sO "<string>"),.int 1)]
abbrev jR (r:Rd)(n:aS)(m:AV):ah Int×ah aS:=bM [r] [n] [(.none,m,0)]
abbrev dc:ah (au×ak):=[(sO "readers",4),(sO "asks",3),(sO "wish",2),(sO "k",1),(sO "total",0)]
abbrev zi:ah (ax AV):=[ag,ag,ag,ag,ag,ag,ag,ag,ag,ag,ag,ag,ag,ag,ag,ag,ag,ag,ag,ag,ag,ag,ag,ag,ag,ag,ag,ag,ag,ag,ag,ag,ag,ag,ag,ag,ag,ag,ag,ag,ag,ag]
abbrev zj (L:ah au):ak->ah (ah au)
 | 0=>[[]]
 |j+1=>zj L j++(zj L j).map (· ++L[j]?.toList)
structure zk (st:St)(n1 LP:ak)(a9:ah (ak×ak))(rs:ah Rd)(nums:ah Int):Prop where
 c1:∃v,st[1]? =ae (.cell v)
 c2:st[2]? =ae (.cell ag)
 c3:st[3]? =ae (.cell ag)
 c4:st[4]? =ae (.cell ag)
 num:st[n1]? =ae (.list (nums.map .int))
 nl:1<=nums.length/\nums.length<=16
 lp:st[LP]? =ae (.list (a9.map pM))
 at_:fe st a9 rs
 ok:∀r∈rs,fz r
 low:∀q∈a9,LP < q.1/\LP < q.2
 fP:5<=LP/\5<=n1
 EO:n1 < LP
 EP:bj st
abbrev Behind (b:ak)(q:eY):Prop:=b<=q.a/\b<=q.d/\b<=q.dd/\b<=q.g
structure ER (bA:ak)(st:St)(x:eO)(n1 LP:ak)(a9:ah (ak×ak))(rs:ah Rd)(nums:ah Int):Prop where
 good:Good x rs (rs.map λ_=>[]) [] st
 vQ:x.Ok
 foot:∀i,eZ x i->i=3\/i=4\/(bA<=i/\i < st.length)
 q3:x.qs.length=3
 c1:∃v,st[1]? =ae (.cell v)
 c2:st[2]? =ae (.cell ag)
 num:st[n1]? =ae (.list (nums.map .int))
 nl:1<=nums.length/\nums.length<=16
 lp:st[LP]? =ae (.list (a9.map pM))
 at_:fe st a9 rs
 ok:∀r∈rs,fz r
 low:∀q∈a9,5<=q.1/\5<=q.2/\q.1 < bA/\q.2 < bA
 fP:5<=LP/\5<=n1/\LP < bA/\n1 < bA
 bl:bA<=st.length
 cc:x.cA=3/\x.cR=4
abbrev g8 (st:St):ah ak->ah (ah Thing)->Prop
 | [],[]=>eN
 |i :: is,n :: ns=>st[i]? =ae (.list (n.map tA))/\g8 st is ns
 |_,_=>dm
abbrev total (bR:ah (ah Thing)):ak:=(bR.map List.length).sum
structure LawC (b0:ak)(st:St)(RW OD:ak)(fQ:ah ak)(bR:ah (ah Thing))(k5:ah Int)(j:ak):Prop where
 jr:st[RW]? =ae (.list (fQ.map .ref))
 od:st[OD]? =ae (.list (k5.map .int))
 at_:g8 st fQ bR
 len:fQ.length=k5.length
 ok:∀ts∈bR,ts≠[]/\∀t∈ts,iC t
 iE:total bR=j
 nd:fQ.Nodup
 low:∀i∈fQ,b0<=i/\OD < i
 qC:b0<=RW/\RW < OD
structure QK (b0:ak)(st:St)(RW OD:ak)(ip:ah ak)(lp:ak)(it:ah (ah Thing))(lt:ah Thing)(k5:ah Int)(j:ak):Prop where
 jr:st[RW]? =ae (.list ((ip++[lp]).map .ref))
 od:st[OD]? =ae (.list (k5.map .int))
 at_:g8 st ip it
 last:st[lp]? =ae (.list (lt.map tA))
 len:ip.length+1=k5.length
 ok:∀ts∈it,ts≠[]/\∀t∈ts,iC t
 QM:∀t∈lt,iC t
 iE:total it+lt.length=j
 nd:(ip++[lp]).Nodup
 low:∀i∈ip++[lp],b0<=i/\OD < i
 qC:b0<=RW/\RW < OD
abbrev cB (rs:ah Rd)(ns:ah aS)(ts:ah Thing)(z:Int):ah Int×ah aS:=if 0 < z then bM rs ns ts else ([],ns)
abbrev ff (rs:ah Rd)(ns:ah aS)(ts:ah Thing)(z:Int):ah AV:=if 0 < z then gn (ts.take ((cB rs ns ts z).1.length+1))else []
abbrev jS (rs:ah Rd)(ns:ah aS)(ts:ah Thing)(z:Int)(w:aB):ah AV:=if w=aj/\0 < z then (ts.map tA).drop ((cB rs ns ts z).1.length+1)else ts.map tA
abbrev nU (b:aB)(rs:ah Rd)(ns:ah aS)(ts:ah Thing)(z:Int):ah AV:=(fy b z.toNat ((cB rs ns ts z).1.zip (ts.map tA))).map (·.2)
structure zl (x:eO)(rs:ah Rd)(ns:ah aS)(as:ah AV)(ts:ah Thing)(b:aB)(z:Int)(w:aB)(gi s:ak)(st:St)(v:AV)(bh:St):Prop where
 good:Good x rs (cB rs ns ts z).2 (as++ff rs ns ts z) bh
 fr:Fr (DG (eZ x) w gi) st bh
 left:∃m,jo w bh gi s m (ts.map tA)/\(w=aj->(ts.map tA).drop m=jS rs ns ts z w)/\(w=aj->qx bh gi s m (ts.map tA)->m<=ts.length)
 val:(0 < z/\(cB rs ns ts z).1.length < ts.length/\v= .none)\/(¬ (0 < z/\(cB rs ns ts z).1.length < ts.length)/\∃r,v= .ref r/\st.length<=r/\bh[r]? =ae (.list (nU b rs ns ts z)))
abbrev iW (o:Int):aB:=(o.fdiv 12).fmod 2 == 1
abbrev nV (rs:ah Rd)(ns:ah aS)(ts:ah Thing)(z:Int):aB:=decide (0 < z) && decide ((cB rs ns ts z).1.length < ts.length)
abbrev Flat (l:ah AV):Prop:=∀v∈l,∃d,(∀n st,a8 (n+1) st v=ae d)/\bY d d=aj
abbrev k6 (Z:ak->Prop)(st:St)(v w:AV):Prop:=∃l i j,Flat l/\v= .ref i/\w= .ref j/\Z i/\Z j/\st[i]? =ae (.list l)/\st[j]? =ae (.list l)
abbrev Item (Z:ak->Prop)(st:St)(v w:AV):Prop:=k6 Z st v w\/∃a a' c c',v= .pair a c/\w= .pair a' c'/\k6 Z st c c'/\((a= .none/\a'= .none)\/k6 Z st a a')
abbrev k7 (Z:ak->Prop)(st:St):ah AV->ah AV->Prop
 | [],[]=>eN
 |v :: vs,w :: ws=>Item Z st v w/\k7 Z st vs ws
 |_,_=>dm
structure Ad where
 x:eO
 bA:ak
 bB:ak
 bD:ak
 bE:ak
 LP:ak
 RW:ak
 OD:ak
 NP:ak
 TD:ak
 DU:ak
 ON:ak
 a9:ah (ak×ak)
 fQ:ah ak
 cQ:ah ak
 rs:ah Rd
 bR:ah (ah Thing)
 k5:ah Int
deriving Inhabited
structure Ad.Ok (a:Ad):Prop where
 vQ:a.x.Ok
 foot:∀i,eZ a.x i->i=3\/i=4\/(a.bA<=i/\i < a.bB)
 a9:∀q∈a.a9,5<=q.1/\q.1 < a.bA/\5<=q.2/\q.2 < a.bA
 lp:5<=a.LP/\a.LP < a.bA
 rows:a.bB<=a.RW/\a.RW < a.bD/\a.bB<=a.OD/\a.OD < a.bD
 fQ:∀i∈a.fQ,a.bB<=i/\i < a.bD
 cQ:∀i∈a.cQ,a.bD<=i/\i < a.NP
 ord:a.bD<=a.NP/\a.NP < a.TD/\a.TD < a.DU/\a.DU < a.ON/\a.ON < a.bE
 bs:5<=a.bA/\a.bA<=a.bB/\a.bB<=a.bD
 nd:a.cQ.Nodup
 ml:a.a9.length=3
 nl:a.cQ.length=3
 q3:a.x.qs.length=3
 zm:∀r∈a.rs,fz r
 tok:∀ts∈a.bR,ts≠[]/\∀t∈ts,iC t
 iE:total a.bR<=16
 EN:a.fQ.length=a.k5.length
 cc:a.x.cA=3/\a.x.cR=4
abbrev Ad.iq (a:Ad)(i:ak):Prop:=i < 5\/(a.bA<=i/\i < a.bB)\/i∈a.cQ\/i=a.TD\/i=a.DU\/i=a.ON
abbrev Ad.Fz (a:Ad)(i:ak):Prop:=¬ a.iq i
structure LS (a:Ad)(st:St):Prop where
 lp:st[a.LP]? =ae (.list (a.a9.map pM))
 at_:fe st a.a9 a.rs
 jr:st[a.RW]? =ae (.list (a.fQ.map .ref))
 od:st[a.OD]? =ae (.list (a.k5.map .int))
 rows:g8 st a.fQ a.bR
 np:st[a.NP]? =ae (.list (a.cQ.map .ref))
 long:a.bE<=st.length
structure LM (a:Ad)(st:St)(ns:ah aS)(as sI sJ:ah AV)(b:ak):Prop where
 s:LS a st
 good:Good a.x a.rs ns as st
 ph:dO st a.cQ ns
 td:st[a.TD]? =ae (.list sI)
 du:st[a.DU]? =ae (.list sJ)
 on:st[a.ON]? =ae (.list as)
 items:k7 a.Fz st sI sJ
 c1:∃v,st[1]? =ae (.cell v)
 c2:∃v,st[2]? =ae (.cell v)
 nb:∀n∈ns,n.length<=b/\g7 n
 al:as.length<=b
 af:Flat as
abbrev Ad.at (a:Ad)(i:ak):ak:=[5,a.bA,a.bB,a.bD,a.NP,a.TD,a.DU,a.ON].getD i a.bE
structure QN (a:Ad)(df st:St)(ns:ah aS)(as sI sJ:ah AV)(rp:ak)(ts:ah Thing)(b:aB)(z:Int)(w:aB)(gi s:ak)(v:AV):Prop where
 ls:LS a st
 good:Good a.x a.rs (cB a.rs ns ts z).2 (as++ff a.rs ns ts z) st
 ph:dO st a.cQ ns
 td:st[a.TD]? =ae (.list sI)
 du:st[a.DU]? =ae (.list sJ)
 on:st[a.ON]? =ae (.list as)
 items:k7 a.Fz df sI sJ
 c1:∃v,st[1]? =ae (.cell v)
 c2:st[2]? =ae (.cell (ae (.int z)))
 g9:a.bE<=gi/\df.length<=gi
 left:∃m,jo w st gi s m (ts.map tA)/\(w=aj->(ts.map tA).drop m=jS a.rs ns ts z w)/\(w=aj->qx st gi s m (ts.map tA)->m<=ts.length)
 val:(0 < z/\(cB a.rs ns ts z).1.length < ts.length/\v= .none)\/(¬ (0 < z/\(cB a.rs ns ts z).1.length < ts.length)/\∃r,v= .ref r/\a.bE<=r/\r≠gi/\st[r]? =ae (.list (nU b a.rs ns ts z)))
 fr:Fr a.iq df st
 row:st[rp]? =ae (.list (ts.map tA))
 QO:rp∈a.fQ
abbrev jT (o:Int):Int:=o.fmod 6 - 1
abbrev sL (x0 x1 x5 x6 x7 bS pg zh:ax AV)(a:Ad)(loc:ah (ax AV)):Prop:=∃zo zp ic ie ig hZ ia ib,loc=[x0,x1,ag,ae (.ref a.LP),ag,x5,x6,x7,ae (.ref a.x.lm),ae (.ref a.RW),ae (.ref a.OD),bS,pg,zh,ae (.ref a.NP),ae (.ref a.TD),ae (.ref a.DU),ae (.ref a.ON),zo,zp,ag,ic,ie,ig,hZ,ia,ib,ag,ag,ag,ag,ag,ag,ag,ag,ag,ag,ag,ag,ag,ag,ag,ag]
variable {B H df:St}{E:aI->St->Prop}{F:Or}{I:ah (ax AV)}{b w:aB}{k i n s j U d A h b0 row dd LP k0 di rp ri mi NP:ak}{Q:RT}{O cs:ah (au×ak)}{v a m T p:AV}{M:ah Rd}{K l as args W u vs gB:ah AV}{D Z:ak->Prop}{QB:aB->St->Prop}{z:Int}{R:ah Thing}{x y:Tr}{r:Rd}{x6 x0 x5 x7 x1 bS f Y x3 x8 x9 hZ ia ib x4 fU ic ie ig:ax AV}{V:ah Int}{e elt:DE}{S L:ah Tr}{o:AO}{J:ak->St->Prop}{G:St->Prop}{body:DS}{ifs:ah DT}{N QL:ah (ax AV)->St->Prop}{bR:ah (ah Thing)}{mm:kh}{kw:ah (au×AV)}{X:ah eY}{dI:ah aS}{a9:ah (ak×ak)}{ks:ah (au×DE)}{ys:ah (Int×AV)}
def QP:eI "heapreplace"=ae (sq Ej):=by kernel_rfl
def QR:eI "heapify"=ae (sq Ek):=by kernel_rfl
def QS:eI "_heapreplace_max"=ae (sq El):=by kernel_rfl
def QT:eI "_heapify_max"=ae (sq Em):=by kernel_rfl
def QU:eI "_siftdown"=ae (sq Eo):=by kernel_rfl
def QV:eI "_siftup"=ae (sq Ep):=by kernel_rfl
def QW:eI "_siftdown_max"=ae (sq Er):=by kernel_rfl
def QX:eI "_siftup_max"=ae (sq Es):=by kernel_rfl
def QY:eI "nsmallest"=ae (sq yS):=by kernel_rfl
def QZ:eI "nlargest"=ae (sq yT):=by kernel_rfl
def Q2:eI "_kind"=ae (sq yU):=by kernel_rfl
def Q3:eI "_c_path"=ae (sq yV):=by kernel_rfl
def Q4:eI "_splitroot"=ae (sq yW):=by kernel_rfl
def Q5:eI "_normpath"=ae (sq yY):=by kernel_rfl
def Q6:eI "normpath"=ae (sq sx):=by kernel_rfl
def Q7:eI "_Ignore.__init__"=ae (sq vF):=by kernel_rfl
def Q8:eI "_Ignore.names"=ae (sq yZ):=by kernel_rfl
def Q9:eI "_law_to_be_left_out"=ae (sq y3):=by kernel_rfl
def Ra:eI "_law_ranks"=ae (sq y4):=by kernel_rfl
def Rb:eI "_law_few"=ae (sq za):=by kernel_rfl
def Rc:eI "_law_says"=ae (sq zb):=by kernel_rfl
def Rf:eI "law"=ae (sq vM):=by kernel_rfl
def WP.mono {E':aI->St->Prop}{β:Type}{m:P β}{a0 Q':β->St->Prop}(h:WP m B a0 E)(hq:∀b H,a0 b H->Q' b H)(he:∀k H,E k H->E' k H):WP m B Q' E':=
 P.mono m (λr H x=>by cases r with
  |ok b=>exact hq _ _ x
  |err k=>exact he _ _ x) h
def WP.a5 {β:Type}{m:P β}{a0 Q':β->St->Prop}(h:WP m B a0 E)(hq:∀b H,a0 b H->Q' b H):WP m B Q' E:=h.mono hq λu u x=>x
def av {β γ:Type}{m:P β}{c0:β->P γ}{a0:γ->St->Prop}(h:WP m B (λb H=>WP (c0 b) H a0 E) E):WP (m>>=c0) B a0 E:=
 P.mono m (λr H x=>by cases r <;>exact x) h
def aQ {β:Type}{a0:β->St->Prop}{b:β}(h:a0 b B):WP (P.pure b) B a0 E:=h
def sM {β:Type}{a0:β->St->Prop}{b:β}(h:a0 b B):WP (th b) B a0 E:=h
def ES {k:aI}{β:Type}{a0:β->St->Prop}(h:E k B):WP (P.err k:P β) B a0 E:=h
def bw {a0:b8->St->Prop}{c:Prop}[wo c](h:c)(k:a0 () B):WP (P.guard c) B a0 E:=by
 unfold P.guard;rw[aN h];exact k
def dU {β:Type}{a0:β->St->Prop}{o:ax β}{b:β}(e:o=ae b)(h:a0 b B):WP (P.opt o) B a0 E:=by rw[e];exact h
def dj {a0:AO->St->Prop}(e:B[i]? =ae o)(h:a0 o B):WP (P.load i) B a0 E:=by
 unfold WP;rw[P.run_load e];exact h
def eJ {a0:ak->St->Prop}(h:a0 B.length (B++[o])):WP (P.alloc o) B a0 E:=h
def k8 {a0:b8->St->Prop}(h:a0 () (B.set i o)):WP (P.store i o) B a0 E:=h
def w_get {a0:St->St->Prop}(h:a0 B B):WP P.get B a0 E:=h
def Rg {α:Type}{l:ah α}{a0:ah α->St->Prop}(h:∀l',l'.Perm l->a0 l' B):WP (P.perm l) B a0 E:=h
def Rh {β γ:Type}{m:P β}{c0:β->P γ}{a0:γ->St->Prop}{g:aI->P γ}(h:WP m B (λb H=>WP (c0 b) H a0 E) (λk H=>WP (g k) H a0 E)):WP (P.uB m c0 g) B a0 E:=
 P.mono m (λr H x=>by cases r <;>exact x) h
def fD {a0:ah AV->St->Prop}(e:B[i]? =ae (.list l))(h:a0 l B):WP (lst i) B a0 E:=by
 unfold lst;exact av (dj e (aQ h))
def bp {a0:AV->St->Prop}(hl:l.length<=4096)(h:a0 (.ref B.length) (B++[.list l])):WP (cz l) B a0 E:=by
 unfold cz;exact av (bw hl (av (eJ (aQ h))))
def w_ite {β:Type}{a0:β->St->Prop}{c:Prop}[wo c]{a b:P β}(h1:c->WP a B a0 E)(h2: ¬ c->WP b B a0 E):WP (if c then a else b) B a0 E:=by
 by_cases D:c
 ·rw[aN D];exact h1 D
 ·rw[aK D];exact h2 D
def mV {c:aB}{β:Type}{a0:β->St->Prop}{a b:P β}(h1:c=aj->WP a B a0 E)(h2:c=az->WP b B a0 E):WP (if c then a else b) B a0 E:=by
 cases c with
 |true=>exact h1 rfl
 |false=>exact h2 rfl
def ET {a0:AV->St->Prop}(e:Q.loc[i]? =ae (ae v))(h:a0 v B):WP (eL i Q) B a0 E:=by
 refine dU (b:=v) ?_ h;show Option.join (Q.loc[i]?)=ae v;rw[e];rfl
def EU {a0:AV->St->Prop}{x:aI}{c:ak}(e:Q.cel.lookup (aq x)=ae c)(e2:B[c]? =ae (.cell (ae v)))(h:a0 v B):WP (eC x Q) B a0 E:=
 av (dU e (av (dj e2 (aQ h))))
def w_K {a0:AV->St->Prop}(h:a0 v B):WP (eK v Q) B a0 E:=h
def w_Bin {a0:AV->St->Prop}{a b:DE}{op:jU}(h:WP (a Q) B (kE b Q (k2 (gc op) a0 E) E) E):WP (aY op a b Q) B a0 E:=av (h.a5 λu u h=>av h)
def w_Not {a0:AV->St->Prop}{a:DE}(h:WP (a Q) B (k1 eE (kM (λb=>.bool !b) a0) E) E):WP (Qr a Q) B a0 E:=av (h.a5 λu u h=>av (h.a5 λu u h=>aQ h))
def w_Neg {a0:AV->St->Prop}{a:DE}(h:WP (a Q) B (k1 dF (kM (λi=>.int (-i)) a0) E) E):WP (iR a Q) B a0 E:=av (h.a5 λu u h=>av (h.a5 λu u h=>aQ h))
def w_strict {i:Int}{a0:Int->St->Prop}(h:a0 i B):WP (dF (.int i)) B a0 E:=h
def w_And {a0:AV->St->Prop}{a b:DE}(h:WP (a Q) B (kA (b Q) a0 E) E):WP (vC a b Q) B a0 E:=
 av (h.a5 λu u h=>av (h.a5 λu u h=>mV h.1 λe=>aQ (h.2 e)))
def w_Or {a0:AV->St->Prop}{a b:DE}(h:WP (a Q) B (kO (b Q) a0 E) E):WP (Ef a b Q) B a0 E:=
 av (h.a5 λu u h=>av (h.a5 λu u h=>mV (λe=>aQ (h.1 e)) h.2))
def w_If {a0:AV->St->Prop}{a b:DE}{t:DT}(h:WP (t Q) B (ze (a Q) (b Q) a0 E) E):WP (gH t a b Q) B a0 E:=
 av (h.a5 λu u h=>mV h.1 h.2)
def w_Cmp {a0:AV->St->Prop}{a b:DE}{op:pB}(h:WP (a Q) B (kE b Q (k2 (dQ op) (kM AV.bool a0) E) E) E):WP (lR op a b Q) B a0 E:=
 av (bw rfl (av (h.a5 λu u h=>av (h.a5 λu u h=>av (h.a5 λu u h=>aQ h)))))
def w_evs_nil {a0:ah AV->St->Prop}(h:a0 [] B):WP (dG [] Q) B a0 E:=h
def w_evs_cons {a:DE}{l:ah DE}{a0:ah AV->St->Prop}(h:WP (a Q) B (kE (dG l) Q (Qu List.cons a0) E) E):WP (dG (a :: l) Q) B a0 E:=
 av (h.a5 λu u h=>av (h.a5 λu u h=>sM h))
def w_kws_nil {a0:ah (au×AV)->St->Prop}(h:a0 [] B):WP (fV [] Q) B a0 E:=h
def w_kws_cons {a:DE}{n:au}{l:ah (au×DE)}{a0:ah (au×AV)->St->Prop}(h:WP (a Q) B (kE (fV l) Q (kK n a0) E) E):WP (fV ((n,a) :: l) Q) B a0 E:=
 av (h.a5 λu u h=>av (h.a5 λu u h=>sM h))
def w_List {a0:AV->St->Prop}{l:ah DE}(h:WP (dG l Q) B (k1 cz a0 E) E):WP (eList l Q) B a0 E:=av h
def w_Tup {a0:AV->St->Prop}{l:ah DE}(h:WP (dG l Q) B (k1 oN a0 E) E):WP (gI l Q) B a0 E:=av h
def w_Attr {a0:AV->St->Prop}{o:DE}{x:aI}(h:WP (o Q) B (k1 (λv=>mA v (aq x)) a0 E) E):WP (iy o x Q) B a0 E:=av h
def w_optE_none {a0:ax AV->St->Prop}(h:a0 ag B):WP (ku ag Q) B a0 E:=h
def w_optE_some {a:DE}{a0:ax AV->St->Prop}(h:WP (a Q) B (kM ae a0) E):WP (ku (ae a) Q) B a0 E:=av (h.a5 λu u h=>sM h)
def w_Slice {a0:AV->St->Prop}{o:DE}{lo hi:ax DE}(h:WP (o Q) B (kE (ku lo) Q (Et (ku hi) Q (k3 km a0 E) E) E) E):WP (fw o lo hi Q) B a0 E:=
 av (h.a5 λu u h=>av (h.a5 λu u h=>av h))
def w_Idx {a0:AV->St->Prop}{a o:DE}(h:WP (o Q) B (kE a Q (k2 ik a0 E) E) E):WP (bz o a Q) B a0 E:=av (h.a5 λu u h=>av h)
def w_Call {a0:AV->St->Prop}{a:DE}{l:ah DE}(h:WP (a Q) B (kE (dG l) Q (Et (fV ks) Q (k3 (eu Q) a0 E) E) E) E):WP (aX a l ks Q) B a0 E:=
 av (bw rfl (av (h.a5 λu u h=>av (h.a5 λu u h=>av h))))
def EV {B:St}{a0:AV->St->Prop}{o:DE}{l:ah DE}(hk:l.length+ks.length < 28)(h:WP (o Q) B (λov B=>(isInt ov=aj/\mm= .startswith->E "AttributeError" B)/\(¬ (isInt ov=aj/\mm= .startswith)->WP (lH ov mm) B (λg B=>WP (dG l Q) B (λvs B=>WP (fV ks Q) B (λkv B=>WP (e9 Q.F ov mm vs kv) B a0 E) E) E) E)) E):WP (bX o mm l ks Q) B a0 E:=
 av (bw ⟨rfl,rfl,hk⟩ (av (dU rfl (av (h.a5 λu u h=>w_ite (λc=>ES (h.1 c)) λc=>av ((h.2 c).a5 λu u h=>av (h.a5 λu u h=>av h)))))))
def w_tNot {a0:aB->St->Prop}{a:DT}(h:WP (a Q) B (kM Bool.not a0) E):WP (gm a Q) B a0 E:=av h
def w_tAnd {a0:aB->St->Prop}{a b:DT}(h:WP (a Q) B (Eu (b Q) (a0 az) a0 E) E):WP (jN a b Q) B a0 E:=av (h.a5 λu u h=>mV h.1 λe=>aQ (h.2 e))
def w_tOr {a0:aB->St->Prop}{a b:DT}(h:WP (a Q) B (vN (b Q) (a0 aj) a0 E) E):WP (nS a b Q) B a0 E:=av (h.a5 λu u h=>mV (λe=>aQ (h.1 e)) h.2)
def w_tCmp {a0:aB->St->Prop}{e':DE}{op:pB}(h:WP (e Q) B (kE e' Q (k2 (dQ op) a0 E) E) E):WP (aR op e e' Q) B a0 E:=
 av (bw rfl (av (h.a5 λu u h=>av h)))
def w_tIf {a0:aB->St->Prop}{a b t:DT}(h:WP (t Q) B (ze (a Q) (b Q) a0 E) E):WP (yL t a b Q) B a0 E:=av (h.a5 λu u h=>mV h.1 h.2)
def w_tV {a0:aB->St->Prop}(h:WP (e Q) B (k1 eE a0 E) E):WP (tV e Q) B a0 E:=av h
def nW {a0:ah (ax AV)->St->Prop}{x:aI}{c:ak}{v':ax AV}(e:Q.cel.lookup (aq x)=ae c)(e2:B[c]? =ae (.cell v'))(h:a0 Q.loc (B.set c (.cell (ae v)))):WP (pC x v Q) B a0 E:=
 av (dU e (av (dj e2 (av (k8 (aQ h))))))
def Ri {a0:ah (ax AV)->St->Prop}{o:DE}{x:aI}(h:WP (o Q) B (Ez x v Q.loc a0 E) E):WP (sp o x v Q) B a0 E:=av (h.a5 λu u h=>av (h.a5 λu u h=>aQ h))
def Rj {a0:ah (ax AV)->St->Prop}{o:DE}(h:WP (o Q) B (kE e Q (EA v Q.loc a0 E) E) E):WP (dM o e v Q) B a0 E:=
 av (h.a5 λu u h=>av (h.a5 λu u h=>av (h.a5 λu u h=>aQ h)))
def vR {a0:ah (ax AV)->St->Prop}{l:ah DA}(e:gb v=ae vs)(hl:vs.length=l.length)(h:WP (jf l vs Q) B a0 E):WP (cx l v Q) B a0 E:=av (dU e (av (bw ⟨hl,rfl⟩ h)))
def Rk {a0:ah (ax AV)->St->Prop}{a:DA}{as:ah DA}(h:WP (a v Q) B (kL (jf as vs) Q.F Q.cel a0 E) E):WP (jf (a :: as) (v :: vs) Q) B a0 E:=av h
def Rl {B:St}{a0:FL×ah (ax AV)->St->Prop}{s:DS}{l:ah DS}(h:WP (s Q) B (λy B=>match y with |(.next,Rm)=>WP (sq l { Q with loc:=Rm }) B a0 E |y=>a0 y B) E):WP (sq (s :: l) Q) B a0 E:=
 av (h.a5 λy B h=>by
  obtain⟨f,I⟩:=y;cases f <;>exact h)
def Rn {a0:FL×ah (ax AV)->St->Prop}(h:WP (e Q) B (kR Q.loc a0) E):WP (bL e Q) B a0 E:=av h
def Ro {a0:FL×ah (ax AV)->St->Prop}(h:WP (e Q) B (kX Q.loc a0) E):WP (b9 e Q) B a0 E:=av (bw rfl (av h))
def w_Set {a0:FL×ah (ax AV)->St->Prop}{put:DA}(h:WP (e Q) B (Ey put Q a0 E) E):WP (aE put e Q) B a0 E:=av (bw ⟨rfl,rfl⟩ (av (h.a5 λu u h=>av h)))
def vT {a0:FL×ah (ax AV)->St->Prop}{x:DE}{put:DA}{op:jU}(ho:op= .Add\/op= .Sub)(h:WP (x Q) B (k1 dF (kE e Q (Qw op (Ey put Q a0 E) E) E) E) E):
  WP (o8 put x op e Q) B a0 E:=
 av (bw ho (av (h.a5 λu u h=>av (h.a5 λu u h=>av (h.a5 λu u h=>av (h.a5 λu u h=>av (h.a5 λu u h=>av h)))))))
def w_qIf {a0:FL×ah (ax AV)->St->Prop}{t:DT}{b o:ah DS}(h:WP (t Q) B (ze (sq b Q) (sq o Q) a0 E) E):WP (bJ t b o Q) B a0 E:=av (h.a5 λu u h=>mV h.1 h.2)
def Rp {a0:FL×ah (ax AV)->St->Prop}{put:DA}{c0:aI->aB}{hd:DS}{o:ah DS}(h:WP (e Q) B (EC put Q o Q.F Q.cel a0 E) (ED c0 (hd Q) a0 E)):WP (su put e c0 hd o Q) B a0 E:=
 av (bw ⟨rfl,rfl,rfl⟩ (Rh (h.mono (λu u h=>av h) λk B h=>by
  show WP (if c0 k then hd Q else P.fail) B a0 E;rw[aN h.1];exact h.2)))
def Rq {B:St}{a0:FL×ah (ax AV)->St->Prop}{t:DT}(h:WP (t Q) B (λc B=>(c=aj->WP (body Q) B (Left (λI B=>WP (iK t body n { Q with loc:=I }) B a0 E) a0) E)/\(c=az->a0 (.next,Q.loc) B)) E):WP (iK t body (n+1) Q) B a0 E:=
 av (h.a5 λu u h=>mV (λe=>av ((h.1 e).a5 λy B h=>by
  obtain⟨f,I⟩:=y;cases f <;>exact h)) λe=>aQ (h.2 e))
def EW {a0:FL×ah (ax AV)->St->Prop}{t:DT}{b:ah DS}(h:WP (iK t (sq b) 64 Q) B a0 E):WP (o9 t b Q) B a0 E:=h
def zq {B:St}{a0:FL×ah (ax AV)->St->Prop}{put:DA}{U:AI}(h:WP (bx U) B (λo B=>match o with
  |none=>a0 (.next,Q.loc) B
  |some (v0,c0)=>WP (put v0 Q) B (λI B=>WP (body { Q with loc:=I }) B (Left (λI B=>WP (forA body put n c0 { Q with loc:=I }) B a0 E) a0) E) E) E):WP (forA body put (n+1) U Q) B a0 E:=
 av (h.a5 λo u h=>by
  cases o with
  |none=>exact h
  |some p=>
   obtain⟨v,c0⟩:=p;exact av (h.a5 λu u h=>av (h.a5 λy B h=>by
    obtain⟨f,I⟩:=y;cases f <;>exact h)))
def w_For {a0:FL×ah (ax AV)->St->Prop}{put:DA}{c0:aB}{d0:DI}{b:ah DS}(h:WP (d0 Q) B (Qx c0 b put Q a0 E) E):WP (fx c0 put d0 b Q) B a0 E:=
 av (bw rfl (av (h.a5 λu u h=>av (bw h.1 h.2))))
def Rr {a0:FL×ah (ax AV)->St->Prop}{put:DA}{c0:ak->ah (ax AV)->St->Prop}:
  ∀(n j:ak) (U:AI) (Q:RT) (B:St),Yl G U (K.drop j)->j<=K.length->K.length < n+j->(∀k I B,c0 k I B->G B)->c0 j Q.loc B->
  (∀k v I B,K[k]? =ae v->c0 k I B->WP (put v { Q with loc:=I }) B (λI B=>WP (body { Q with loc:=I }) B (Left (c0 (k+1)) a0) E) E)->
  (∀I B,c0 K.length I B->a0 (.next,I) B)->WP (forA body put n U Q) B a0 E:=by
 intro n;induction n with
 |zero=>
  intro j U Q B y J W F H O M
  lia
 |succ n S=>
  intro j U Q B y J W F H O M;refine zq ?_;cases N:K[j]? with
  |none=>
   have D:K.length<=j:=nq.mp N;rw[kf D]at y;refine y B (F _ _ _ H) _ _ ?_;have:j=K.length:=by exact AN (J) (D)
   subst this;exact M _ _ H
  |some v=>
   have D:j < K.length:=(cF.mp N).1;rw[oz D]at y;obtain⟨L,V,R⟩:=y;refine V B (F _ _ _ H) _ _ ?_;have T:K[j]=v:=(cF.mp N).2;rw[T];refine(O j v Q.loc B N H).a5 λI B h=>h.a5 λy B h=>?_;obtain⟨f,I⟩:=y;cases f with
   |next=>exact S (j+1) L _ B R (by exact D) (by lia) F h O M
   |cont=>exact S (j+1) L _ B R (by exact D) (by lia) F h O M
   |brk=>exact h
   |ret v=>exact h
def Rt {a0:aB->St->Prop}(h:mQ Q a0 E ifs B):WP (ifs.foldlM (λb t=>if b then t Q else P.pure az) aj) B a0 E:=by
 match ifs,h with
 | [],h=>exact h
 | [t],h=>
  show WP (t Q>>=λb=>th b) B a0 E;exact av (WP.a5 h λu u h=>h)
def zr {B:St}{a0:ah AV->St->Prop}{put:DA}{U:AI}{c0:ah AV}(h:WP (bx U) B (λo B=>match o with
  |none=>a0 c0 B
  |some (v0,d0)=>WP (put v0 Q) B (λI B=>mQ { Q with loc:=I } (λc B=>(c=aj->c0.length<=4096/\WP (elt { Q with loc:=I }) B (λx B=>WP (cw elt ifs put n d0 { Q with loc:=I } (c0++[x])) B a0 E) E)/\
    (c=az->WP (cw elt ifs put n d0 { Q with loc:=I } c0) B a0 E)) E ifs B) E) E):WP (cw elt ifs put (n+1) U Q c0) B a0 E:=
 av (h.a5 λo u h=>by
  cases o with
  |none=>exact h
  |some p=>
   obtain⟨v,d0⟩:=p;exact av (h.a5 λu u h=>av ((Rt h).a5 λc B h=>mV (λe=>av (bw (h.1 e).1 (av (h.1 e).2))) λe=>h.2 e)))
def zt {a0:ah AV->St->Prop}{put:DA}{c0:ak->ah AV->ah (ax AV)->St->Prop}:
  ∀(n j:ak) (U:AI) (Q:RT) (B:St) (acc:ah AV),Yl G U (K.drop j)->j<=K.length->K.length < n+j->(∀k acc I B,c0 k acc I B->G B)->c0 j acc Q.loc B->
  (∀k v acc I B,K[k]? =ae v->c0 k acc I B->WP (put v { Q with loc:=I }) B (λI B=>mQ { Q with loc:=I } (λc B=>(c=aj->acc.length<=4096/\WP (elt { Q with loc:=I }) B (λx B=>c0 (k+1) (acc++[x]) I B) E)/\
   (c=az->c0 (k+1) acc I B)) E ifs B) E)->
  (∀acc I B,c0 K.length acc I B->a0 acc B)->WP (cw elt ifs put n U Q acc) B a0 E
 | 0,j,U,Q,B,acc,y,EX,hl,hG,h0,hs,he=>by
  lia
 |n+1,j,U,Q,B,acc,y,EX,hl,hG,h0,hs,he=>by
  refine zr ?_;cases J:K[j]? with
  |none=>
   have D:K.length<=j:=nq.mp J;rw[kf D]at y;refine y B (hG _ _ _ _ h0) _ _ ?_;have:j=K.length:=by exact AN (EX) (D)
   subst this;exact he _ _ _ h0
  |some v=>
   have D:j < K.length:=(cF.mp J).1;rw[oz D]at y;obtain⟨H,S,N⟩:=y;refine S B (hG _ _ _ _ h0) _ _ ?_;have R:K[j]=v:=(cF.mp J).2;rw[R];refine(hs j v acc Q.loc B J h0).a5 λI B h=>?_;have T:∀{M L:aB->St->Prop} (B:St),(∀c B,M c B->L c B)->mQ { Q with loc:=I } M E ifs B->mQ { Q with loc:=I } L E ifs B:=by
    intro M L B O F
    match ifs,F with
    | [],F=>exact O _ _ F
    | [t],F=>exact WP.a5 F O
   exact T B (λc B h=>⟨λe=>⟨(h.1 e).1,(h.1 e).2.a5 λx B h=>zt n (j+1) H _ B _ N (by exact D) (by lia) hG h hs he⟩,
    λe=>zt n (j+1) H _ B _ N (by exact D) (by lia) hG (h.2 e) hs he⟩) h
def Yl.range {d:Int}:∀{n:ak} {c:Int},Yl G (.range c n d) (mR d n c):=by
 intro n;induction n with
 |zero=>
  intro _;exact λu u u u h=>h
 |succ r B=>
  intro _;exact⟨_,λu u u u h=>h,B⟩
def Yl.set:∀{l:ah au},Yl G (.set l) (l.map .str):=by
 intro l;induction l with
 |nil=>
  exact λu u u u h=>h
 |cons _ r B=>
  exact⟨_,λu u u u h=>h,B⟩
def Yl.list (h:∀B,G B->B[s]? =ae (.list l)):∀(m k:ak),k+m=l.length->Yl G (.list (ae s) k) (l.drop k):=by
 intro n;induction n with
 |zero=>
  intro k e;rw[kf (by exact(EG e))];intro B g Q E q;refine av (fD (h B g) ?_);rw[rI (by exact(EG e))];exact q
 |succ m F=>
  intro k e;have D:k < l.length:=by lia
  rw[oz D];refine⟨.list (ae s) (k+1),λB g Q E q=>?_,F (k+1) (by lia)⟩;refine av (fD (h B g) ?_);rw[cy D];exact q
def Yl.gK (h:∀B,G B->B[s]? =ae (.list l)):Yl G (.list (ae s) 0) l:=Yl.list h l.length 0 (ke _)
def Yl.enum:∀{K:ah AV} {U:AI} {n:Int},Yl G U K->Yl G (.enum n U) (mS n K)
 | [],_,_,y=>λB g u u q=>av (y B g _ _ q)
 |_ :: _,_,_,⟨_,y1,y2⟩=>⟨_,λB g u u q=>av (y1 B g _ _ q),Yl.enum y2⟩
def Yl.zip:∀{K ys:ah AV} {a b:AI},Yl G a K->Yl G b ys->Yl G (.zip a b) (pb K ys):=by
 intro I;induction I with
 |nil=>
  intro ys _ _ y _;have:pb [] ys=[]:=by cases ys <;>rfl
  rw[this];exact λB g u u q=>av (y B g _ _ q)
 |cons M N L=>
  intro E;cases E with
  |nil=>
   rintro _ _ ⟨_,D,_⟩ z;exact λB g u u q=>av (D B g _ _ (av (z B g _ _ q)))
  |cons _ _=>
   rintro _ _ ⟨_,D,H⟩ ⟨_,F,J⟩;exact⟨_,λB g u u q=>av (D B g _ _ (av (F B g _ _ q))),L H J⟩
def w_iA {a0:AI->St->Prop}(h:WP (e Q) B (k1 jG a0 E) E):WP (iA e Q) B a0 E:=av h
def w_iS {a0:AI->St->Prop}{a:DR}(h:WP (a Q) B (k1 eP a0 E) E):WP (iS a Q) B a0 E:=av h
def w_iEnum {a0:AI->St->Prop}{a:DR}(h:WP (a Q) B (k1 eP (kM (AI.enum 0) a0) E) E):WP (o5 a Q) B a0 E:=av (bw rfl (av (h.a5 λu u h=>av h)))
def w_iZip {a0:AI->St->Prop}{a b:DR}(h:WP (a Q) B (kE b Q (kZ a0 E) E) E):WP (o7 a b Q) B a0 E:=
 av (bw ⟨rfl,rfl⟩ (av (h.a5 λu u h=>av (h.a5 λu u h=>av (h.a5 λu u h=>av h)))))
def w_iRev {a0:AI->St->Prop}{a:DR}(h:WP (a Q) B (k1 qa a0 E) E):WP (vE a Q) B a0 E:=av (bw rfl (av h))
def w_rRange {l:ah DE}{a0:AS->St->Prop}(h:WP (dG l Q) B (k1 lK a0 E) E):WP (iT l Q) B a0 E:=av (bw rfl (av h))
def w_rVal {a0:AS->St->Prop}(h:WP (e Q) B (kM AS.val a0) E):WP (g6 e Q) B a0 E:=av h
def fg {a0:AI->St->Prop}(e1:B[i]? =ae (.list l))(h:a0 (.list (ae i) 0) B):WP (jG (.ref i)) B a0 E:=av (dj e1 (aQ h))
def vU {a0:AI->St->Prop}{s:ax ak}(e1:B[i]? =ae (.iter s k))(h:a0 (.obj i) B):WP (jG (.ref i)) B a0 E:=av (dj e1 (aQ h))
def Ru {a0:AI->St->Prop}{l:ah au}(h:∀l',l'.Perm l->a0 (.set l') B):WP (jG (.cL l)) B a0 E:=av (Rg λl' p=>aQ (h l' p))
def w_itS_val {a0:AI->St->Prop}(h:WP (jG (.ref i)) B a0 E):WP (eP (.val (.ref i))) B a0 E:=h
def w_itS_range {a0:AI->St->Prop}{c d:Int}(h:a0 (.range c k d) B):WP (eP (.range c k d)) B a0 E:=h
def pj {b:Int}{a0:AS->St->Prop}(h1: -4096 < b)(h2:b < 4096)(h:a0 (.range 0 b.toNat 1) B):WP (lK [.int b]) B a0 E:=av (dU rfl (av (bw ⟨h1,h2⟩ (aQ h))))
def EY {b:Int}{a0:AS->St->Prop}(h1: -4096 < b)(h2:b < 4096)(h:a0 (.range 0 (-b).toNat (-1)) B):WP (lK [.int 0,.int b,.int (-1)]) B a0 E:=av (dU rfl (av (bw ⟨rfl,rfl,h1,h2⟩ (aQ h))))
def w_rev {a0:AI->St->Prop}(h:a0 (.range (k - 1) k (-1)) B):WP (qa (.range 0 k 1)) B a0 E:=av (bw ⟨rfl,rfl⟩ (aQ h))
def Rv {cs:ah (au×ak)}{c0:bN}{d0:aB}{e0:DI}{put:DA}{a0:AV->St->Prop}(hp:fb c0=aj)(hc:fL Q c0.names []=ae cs)(hn:∀cs,kr c0.names cs=P.pure cs)(h:WP (e0 Q) B (EE d0 elt ifs put { F:=Q.F,cel:=cs,loc:=c0.names.map λc=>ag } a0 E) E):WP (d9 c0 d0 e0 put ifs elt Q) B a0 E:=by
 refine av (bw rfl (av (bw hp (av (dU hc (av (h.a5 λD B h=>av (bw h.1 (av ?_)))))))));unfold cP;refine av ?_;rw[hn];exact aQ (av (aQ (aQ (av h.2))))
def zu {α:Type}{l:ah α}{a b:α}:(l++[a]).set l.length b=l++[b]:=by simp
def iX {α:Type}{B l:ah α}:(B++l)[B.length+j]? =l[j]? :=by rw[wF (tn _ _),Nat.add_sub_cancel_left]
def qD {α:Type}{B l:ah α}:(B++l)[B.length]? =l[0]? :=by rw[wF (a4 _),Nat.sub_self]
def EZ {α:Type}{B l:ah α}{b:α}:(B++l).set (B.length+j) b=B++l.set j b:=by simp
def E2 {α:Type}{B l:ah α}{b:α}:(B++l).set B.length b=B++l.set 0 b:=by simp
def fE {B:St}{n:aI}{r:ah DS}{a0:AV->St->Prop}{c0:P RT}(e:eI n=ae (sq r))(hn:(aq n == gE || Str.ofString n == jJ)=az)(he:(defOf (aq n)).map (λd=>P.opt (fW d.1 args kw)>>=λb=>cP (FN k) d.2.2 [] b)=ae c0)(h:WP c0 B (λQ B=>WP (sq r Q) B (Ew a0 E) E) E):WP (FN (k+1) (.fn (aq n)) args kw) B a0 E:=by
 rw[HQ]at hn;show WP (if aq n == gE then qc (FN k) args kw else if aq n == jJ then oU (FN k) args kw else lM (FN k) (aq n) args kw) B a0 E;rw[hn.1,hn.2];show WP (lM (FN k) (aq n) args kw) B a0 E;cases D:defOf (aq n)with
 |none=>rw[D]at he;cases he
 |some d=>
  unfold eI at e;rw[D]at he e;obtain e:ew (cS d.2.2 20) d.2.1=sq r:=dp e;obtain he:(P.opt (fW d.1 args kw)>>=λb=>cP (FN k) d.2.2 [] b)=c0:=dp he;unfold lM;rw[D];show WP (P.opt (fW d.1 args kw)>>=λb=>cP (FN k) d.2.2 [] b>>=λQ=>ew (cS d.2.2 20) d.2.1 Q>>=λx=>eQ x.1) B a0 E;have:(P.opt (fW d.1 args kw)>>=λb=>cP (FN k) d.2.2 [] b>>=λQ=>ew (cS d.2.2 20) d.2.1 Q>>=λx=>eQ x.1)
    =((P.opt (fW d.1 args kw)>>=λb=>cP (FN k) d.2.2 [] b)>>=λQ=>ew (cS d.2.2 20) d.2.1 Q>>=λx=>eQ x.1):=by
   cases fW d.1 args kw <;>rfl
  rw[this,he,e];exact av (h.a5 λu u h=>av h)
def Rw {b c:AV}{a0:AV->St->Prop}(h:Body Eo ⟨FN k,[],[ae a,ae b,ae c,ag,ag,ag]⟩ B a0 E):WP (FN (k+1) (.fn (aq "_siftdown")) [a,b,c] []) B a0 E:=
 fE (c0:=P.pure ⟨FN k,[],[ae a,ae b,ae c,ag,ag,ag]⟩) QU (by decide +kernel) (by kernel_rfl) (aQ h)
def Rx {b c:AV}{a0:AV->St->Prop}(h:Body Er ⟨FN k,[],[ae a,ae b,ae c,ag,ag,ag]⟩ B a0 E):WP (FN (k+1) (.fn (aq "_siftdown_max")) [a,b,c] []) B a0 E:=
 fE (c0:=P.pure ⟨FN k,[],[ae a,ae b,ae c,ag,ag,ag]⟩) QW (by decide +kernel) (by kernel_rfl) (aQ h)
def Ry {b:AV}{a0:AV->St->Prop}(h:Body Ep ⟨FN k,[],[ae a,ae b,ag,ag,ag,ag,ag,ag,ag]⟩ B a0 E):WP (FN (k+1) (.fn (aq "_siftup")) [a,b] []) B a0 E:=
 fE (c0:=P.pure ⟨FN k,[],[ae a,ae b,ag,ag,ag,ag,ag,ag,ag]⟩) QV (by decide +kernel) (by kernel_rfl) (aQ h)
def Rz {b:AV}{a0:AV->St->Prop}(h:Body Es ⟨FN k,[],[ae a,ae b,ag,ag,ag,ag,ag,ag,ag]⟩ B a0 E):WP (FN (k+1) (.fn (aq "_siftup_max")) [a,b] []) B a0 E:=
 fE (c0:=P.pure ⟨FN k,[],[ae a,ae b,ag,ag,ag,ag,ag,ag,ag]⟩) QX (by decide +kernel) (by kernel_rfl) (aQ h)
def RA {b:AV}{a0:AV->St->Prop}(h:Body Ej ⟨FN k,[],[ae a,ae b,ag,ag]⟩ B a0 E):WP (FN (k+1) (.fn (aq "heapreplace")) [a,b] []) B a0 E:=
 fE (c0:=P.pure ⟨FN k,[],[ae a,ae b,ag,ag]⟩) QP (by decide +kernel) (by kernel_rfl) (aQ h)
def RC {b:AV}{a0:AV->St->Prop}(h:Body El ⟨FN k,[],[ae a,ae b,ag,ag]⟩ B a0 E):WP (FN (k+1) (.fn (aq "_heapreplace_max")) [a,b] []) B a0 E:=
 fE (c0:=P.pure ⟨FN k,[],[ae a,ae b,ag,ag]⟩) QS (by decide +kernel) (by kernel_rfl) (aQ h)
def RD {a0:AV->St->Prop}(h:Body Ek ⟨FN k,[],[ae a,ag,ag,ag,ag,ag,ag]⟩ B a0 E):WP (FN (k+1) (.fn (aq "heapify")) [a] []) B a0 E:=
 fE (c0:=P.pure ⟨FN k,[],[ae a,ag,ag,ag,ag,ag,ag]⟩) QR (by decide +kernel) (by kernel_rfl) (aQ h)
def RE {a0:AV->St->Prop}(h:Body Em ⟨FN k,[],[ae a,ag,ag,ag,ag,ag,ag]⟩ B a0 E):WP (FN (k+1) (.fn (aq "_heapify_max")) [a] []) B a0 E:=
 fE (c0:=P.pure ⟨FN k,[],[ae a,ag,ag,ag,ag,ag,ag]⟩) QT (by decide +kernel) (by kernel_rfl) (aQ h)
def RF {b:AV}{a0:AV->St->Prop}(h:Body yU ⟨FN k,[],[ae a,ae b,ag,ag,ag,ag,ag,ag,ag,ag,ag,ag,ag]⟩ B a0 E):WP (FN (k+1) (.fn (aq "_kind")) [a,b] []) B a0 E:=
 fE (c0:=P.pure ⟨FN k,[],[ae a,ae b,ag,ag,ag,ag,ag,ag,ag,ag,ag,ag,ag]⟩) Q2 (by decide +kernel) (by kernel_rfl) (aQ h)
def RG {b c d e:AV}{a0:AV->St->Prop}(h:Body yV ⟨FN k,[],[ae a,ae b,ae c,ae d,ae e,ag,ag,ag,ag,ag,ag]⟩ B a0 E):WP (FN (k+1) (.fn (aq "_c_path")) [a,b,c,d,e] []) B a0 E:=
 fE (c0:=P.pure ⟨FN k,[],[ae a,ae b,ae c,ae d,ae e,ag,ag,ag,ag,ag,ag]⟩) Q3 (by decide +kernel) (by kernel_rfl) (aQ h)
def RH {a0:AV->St->Prop}(h:Body yW ⟨FN k,[],[ae a,ag,ag]⟩ B a0 E):WP (FN (k+1) (.fn (aq "_splitroot")) [a] []) B a0 E:=
 fE (c0:=P.pure ⟨FN k,[],[ae a,ag,ag]⟩) Q4 (by decide +kernel) (by kernel_rfl) (aQ h)
def RI {a0:AV->St->Prop}(h:Body yY ⟨FN k,[],[ae a,ag,ag,ag,ag,ag,ag,ag,ag,ag]⟩ B a0 E):WP (FN (k+1) (.fn (aq "_normpath")) [a] []) B a0 E:=
 fE (c0:=P.pure ⟨FN k,[],[ae a,ag,ag,ag,ag,ag,ag,ag,ag,ag]⟩) Q5 (by decide +kernel) (by kernel_rfl) (aQ h)
def RJ {b c:AV}{a0:AV->St->Prop}(h:Body vF ⟨FN k,[],[ae a,ae b,ae c,ag]⟩ B a0 E):WP (FN (k+1) (.fn (aq "_Ignore.__init__")) [a,b,c] []) B a0 E:=
 fE (c0:=P.pure ⟨FN k,[],[ae a,ae b,ae c,ag]⟩) Q7 (by decide +kernel) (by kernel_rfl) (aQ h)
def RK {b c:AV}{a0:AV->St->Prop}(h:Body yZ ⟨FN k,[],[ae a,ae b,ae c,ag,ag,ag]⟩ B a0 E):WP (FN (k+1) (.fn (aq "_Ignore.names")) [a,b,c] []) B a0 E:=
 fE (c0:=P.pure ⟨FN k,[],[ae a,ae b,ae c,ag,ag,ag]⟩) Q8 (by decide +kernel) (by kernel_rfl) (aQ h)
def RM {b:AV}{a0:AV->St->Prop}(h:Body zb ⟨FN k,[],[ae a,ae b,ag,ag,ag,ag]⟩ B a0 E):WP (FN (k+1) (.fn (aq "_law_says")) [a,b] []) B a0 E:=
 fE (c0:=P.pure ⟨FN k,[],[ae a,ae b,ag,ag,ag,ag]⟩) Rc (by decide +kernel) (by kernel_rfl) (aQ h)
def RN {b c:AV}{a0:AV->St->Prop}(h:Body yS ⟨FN k,[(aq "key",B.length)],[ae a,ae b,ag,ag,ag,ag,ag,ag,ag,ag,ag,ag,ag,ag,ag,ag,ag,ag,ag,ag,ag,ag,ag,ag,ag]⟩ (B++[.cell (ae c)]) a0 E):WP (FN (k+1) (.fn (aq "nsmallest")) [a,b] [(aq "key",c)]) B a0 E:=
 fE (c0:=P.alloc (.cell ag)>>=λi=>kn (aq "key") c ⟨FN k,[(aq "key",i)],[ae a,ae b,ag,ag,ag,ag,ag,ag,ag,ag,ag,ag,ag,ag,ag,ag,ag,ag,ag,ag,ag,ag,ag,ag,ag]⟩>>=λI=>P.pure ⟨FN k,[(aq "key",i)],I⟩) QY (by decide +kernel) (by kernel_rfl)
  (av (eJ (av (nW (x:="key") (v':=ag) (by kernel_rfl) Bu (by rw[zu];exact aQ h)))))
def RO {b c:AV}{a0:AV->St->Prop}(h:Body yT ⟨FN k,[(aq "key",B.length)],[ae a,ae b,ag,ag,ag,ag,ag,ag,ag,ag,ag,ag,ag,ag,ag,ag,ag,ag,ag,ag,ag,ag,ag,ag,ag]⟩ (B++[.cell (ae c)]) a0 E):WP (FN (k+1) (.fn (aq "nlargest")) [a,b] [(aq "key",c)]) B a0 E:=
 fE (c0:=P.alloc (.cell ag)>>=λi=>kn (aq "key") c ⟨FN k,[(aq "key",i)],[ae a,ae b,ag,ag,ag,ag,ag,ag,ag,ag,ag,ag,ag,ag,ag,ag,ag,ag,ag,ag,ag,ag,ag,ag,ag]⟩>>=λI=>P.pure ⟨FN k,[(aq "key",i)],I⟩) QZ (by decide +kernel) (by kernel_rfl)
  (av (eJ (av (nW (x:="key") (v':=ag) (by kernel_rfl) Bu (by rw[zu];exact aQ h)))))
theorem RP {b c d:AV}{a0:AV->St->Prop}(h:Body y3 ⟨FN k,[(aq "steps",B.length+3),(aq "parts",B.length+2),(aq "directories",B.length+1),(aq "modules",B.length)],[ae a,ae b,ag,ag,ag,ag,ag,ag,ag]⟩ (B++[.cell (ae c),.cell (ae d),.cell ag,.cell ag]) a0 E):
  WP (FN (k+1) (.fn (aq "_law_to_be_left_out")) [a,b,c,d] []) B a0 E:=by
 refine fE (c0:=P.alloc (.cell ag)>>=λi=>P.alloc (.cell ag)>>=λj=>P.alloc (.cell ag)>>=λm=>P.alloc (.cell ag)>>=λn=>
  kn (aq "modules") c ⟨FN k,[(aq "steps",n),(aq "parts",m),(aq "directories",j),(aq "modules",i)],[ae a,ae b,ag,ag,ag,ag,ag,ag,ag]⟩>>=λI=>
  kn (aq "directories") d ⟨FN k,[(aq "steps",n),(aq "parts",m),(aq "directories",j),(aq "modules",i)],I⟩>>=λI=>
  P.pure ⟨FN k,[(aq "steps",n),(aq "parts",m),(aq "directories",j),(aq "modules",i)],I⟩) Q9 (by decide +kernel) (by kernel_rfl) ?_
 refine av (eJ (av (eJ (av (eJ (av (eJ ?_)))))));simp only[jY,bK,fq,q7,rC,mo,ke,xj];refine av (nW (x:="modules") (v':=ag) (c:=B.length) (by kernel_rfl) qD ?_);rw[E2];refine av (nW (x:="directories") (v':=ag) (c:=B.length+1) (by kernel_rfl) iX ?_);rw[EZ];exact aQ h
def RQ {b c:AV}{a0:AV->St->Prop}(h:Body y4 ⟨FN k,[(aq "module",B.length)],[ae a,ae b,ae c,ag,ag,ag,ag,ag,ag,ag,ag,ag,ag,ag]⟩ (B++[.cell ag]) a0 E):
  WP (FN (k+1) (.fn (aq "_law_ranks")) [a,b,c] []) B a0 E:=
 fE (c0:=P.alloc (.cell ag)>>=λi=>P.pure ⟨FN k,[(aq "module",i)],[ae a,ae b,ae c,ag,ag,ag,ag,ag,ag,ag,ag,ag,ag,ag]⟩) Ra (by decide +kernel) (by kernel_rfl) (av (eJ (aQ h)))
theorem RU {b c d:AV}{a0:AV->St->Prop}(h:Body za ⟨FN k,[(aq "j",B.length+2),(aq "greatest",B.length+1),(aq "ranks",B.length)],[ae a,ag,ae c,ag,ag,ag,ag,ag,ag,ag,ag,ag,ag]⟩ (B++[.cell (ae b),.cell (ae d),.cell ag]) a0 E):
  WP (FN (k+1) (.fn (aq "_law_few")) [a,b,c,d] []) B a0 E:=by
 refine fE (c0:=P.alloc (.cell ag)>>=λi=>P.alloc (.cell ag)>>=λj=>P.alloc (.cell ag)>>=λm=>
  kn (aq "ranks") b ⟨FN k,[(aq "j",m),(aq "greatest",j),(aq "ranks",i)],[ae a,ag,ag,ag,ag,ag,ag,ag,ag,ag,ag,ag,ag]⟩>>=λI=>
  xC 2 c ⟨FN k,[(aq "j",m),(aq "greatest",j),(aq "ranks",i)],I⟩>>=λI=>
  kn (aq "greatest") d ⟨FN k,[(aq "j",m),(aq "greatest",j),(aq "ranks",i)],I⟩>>=λI=>
  P.pure ⟨FN k,[(aq "j",m),(aq "greatest",j),(aq "ranks",i)],I⟩) Rb (by decide +kernel) (by kernel_rfl) ?_
 refine av (eJ (av (eJ (av (eJ ?_)))));simp only[jY,bK,fq,q7,rC,mo,ke,xj];refine av (nW (x:="ranks") (v':=ag) (c:=B.length) (by kernel_rfl) qD ?_);rw[E2];refine av ?_;refine aQ (av (nW (x:="greatest") (v':=ag) (c:=B.length+1) (by kernel_rfl) iX ?_));rw[EZ];exact aQ h
def n_next {a0:FL×ah (ax AV)->St->Prop}(h:N I B):jO N a0 (.next,I) B:=h
def n_brk {a0:FL×ah (ax AV)->St->Prop}(h:a0 (.brk,I) B):jO N a0 (.brk,I) B:=h
def n_cont {a0:FL×ah (ax AV)->St->Prop}(h:a0 (.cont,I) B):jO N a0 (.cont,I) B:=h
def n_ret {a0:FL×ah (ax AV)->St->Prop}(h:a0 (.ret v,I) B):jO N a0 (.ret v,I) B:=h
def l_next {a0:FL×ah (ax AV)->St->Prop}(h:N I B):Left N a0 (.next,I) B:=h
def l_brk {a0:FL×ah (ax AV)->St->Prop}(h:a0 (.next,I) B):Left N a0 (.brk,I) B:=h
def l_cont {a0:FL×ah (ax AV)->St->Prop}(h:N I B):Left N a0 (.cont,I) B:=h
def l_ret {a0:FL×ah (ax AV)->St->Prop}(h:a0 (.ret v,I) B):Left N a0 (.ret v,I) B:=h
def x_sq {a0:FL×ah (ax AV)->St->Prop}{s:DS}{l:ah DS}(h:WP (s ⟨F,O,I⟩) B (jO (kL (sq l) F O a0 E) a0) E):WP (sq (s :: l) ⟨F,O,I⟩) B a0 E:=
 Rl (h.a5 λy B h=>by obtain⟨f,I⟩:=y;cases f <;>exact h)
def x_nil {a0:FL×ah (ax AV)->St->Prop}(h:a0 (.next,I) B):WP (sq [] ⟨F,O,I⟩) B a0 E:=h
def x_Pass {a0:FL×ah (ax AV)->St->Prop}(h:a0 (.next,I) B):WP (Eh ⟨F,O,I⟩) B a0 E:=h
def x_Brk {a0:FL×ah (ax AV)->St->Prop}(h:a0 (.brk,I) B):WP (sr ⟨F,O,I⟩) B a0 E:=h
def x_Cont {a0:FL×ah (ax AV)->St->Prop}(h:a0 (.cont,I) B):WP (qu ⟨F,O,I⟩) B a0 E:=h
def x_Ret {a0:FL×ah (ax AV)->St->Prop}(h:WP (e ⟨F,O,I⟩) B (kR I a0) E):WP (bL e ⟨F,O,I⟩) B a0 E:=Rn h
def x_Expr {a0:FL×ah (ax AV)->St->Prop}(h:WP (e ⟨F,O,I⟩) B (kX I a0) E):WP (b9 e ⟨F,O,I⟩) B a0 E:=Ro h
def aM {a0:AV->St->Prop}(e:I[i]? =ae (ae v))(h:a0 v B):WP (eL i ⟨F,O,I⟩) B a0 E:=ET e h
def cu {a0:ah (ax AV)}(e:I.set i (ae v)=a0)(h:QL a0 B):WP (pL i v ⟨F,O,I⟩) B QL E:=by subst e;exact h
def x_pIdx {o:DE}(h:WP (o ⟨F,O,I⟩) B (kE e ⟨F,O,I⟩ (EA v I QL E) E) E):WP (dM o e v ⟨F,O,I⟩) B QL E:=Rj h
def E3 {a0:FL×ah (ax AV)->St->Prop}{t:DT}(h:WP (t ⟨F,O,I⟩) B (Qz t body n F O I a0 E) E):WP (iK t body (n+1) ⟨F,O,I⟩) B a0 E:=Rq h
def x_put_cons {a:DA}{as:ah DA}(h:WP (a v ⟨F,O,I⟩) B (kL (jf as vs) F O QL E) E):WP (jf (a :: as) (v :: vs) ⟨F,O,I⟩) B QL E:=Rk h
def x_put_nil (h:QL I B):WP (jf [] [] ⟨F,O,I⟩) B QL E:=h
def eh {a0:ak->St->Prop}(h:a0 i B):WP (e8 (.ref i)) B a0 E:=h
def qE {i:au}{a0:au->St->Prop}(h:a0 i B):WP (nB (.str i)) B a0 E:=h
def fF {a0:AV->St->Prop}{x:AV}(h:a0 x B):WP (one [x]) B a0 E:=h
def zv {Q0:b8->St->Prop}(h:Q0 () B):WP (rO []) B Q0 E:=h
def e5 {Q0:b8->St->Prop}(h:Q0 () B):WP (noKw []) B Q0 E:=h
def mW {a0:AV->St->Prop}{n:aI}{b:BI}(e:p8 (.bi n)=ae b)(h:WP (jI Q.F args kw b) B a0 E):WP (eu Q (.bi n) args kw) B a0 E:=av (dU e h)
def mX {a0:AV->St->Prop}{n:aI}{b:BI}(e:p8 (.ty n)=ae b)(h:WP (jI Q.F args kw b) B a0 E):WP (eu Q (.ty n) args kw) B a0 E:=av (dU e h)
def b_add {a0:AV->St->Prop}{a b:Int}(h:a0 (.int (a+b)) B):WP (gc .Add (.int a) (.int b)) B a0 E:=h
def b_sub {a0:AV->St->Prop}{a b:Int}(h:a0 (.int (a - b)) B):WP (gc .Sub (.int a) (.int b)) B a0 E:=h
def E4 {a0:AV->St->Prop}{a b:Int}(g:a.natAbs < 2 ^ 62/\b.natAbs < 2 ^ 62)(h:a0 (.int (a * b)) B):WP (gc .Mult (.int a) (.int b)) B a0 E:=av (w_strict (av (bw g (aQ h))))
def pn {a0:AV->St->Prop}{a b:Int}(g:0 < b/\b < 2 ^ 29)(h:a0 (.int (a.fdiv b)) B):WP (gc .FloorDiv (.int a) (.int b)) B a0 E:=av (w_strict (av (bw g (aQ h))))
def pq {a0:AV->St->Prop}{a b:Int}(g:0 < b/\b < 2 ^ 29)(h:a0 (.int (a.fmod b)) B):WP (gc .Mod (.int a) (.int b)) B a0 E:=av (w_strict (av (bw g (aQ h))))
def RX {a0:AV->St->Prop}{a:Int}(h:a0 (.int (a.fdiv 2)) B):WP (gc .RShift (.int a) (.int 1)) B a0 E:=av (w_strict (av (bw rfl (aQ h))))
def c_lt {a b:Int}(h:QB (decide (a < b)) B):WP (dQ .Lt (.int a) (.int b)) B QB E:=h
def c_gt {a b:Int}(h:QB (decide (a > b)) B):WP (dQ .Gt (.int a) (.int b)) B QB E:=h
def c_ge {a b:Int}(h:QB (decide (a ≥ b)) B):WP (dQ .GtE (.int a) (.int b)) B QB E:=h
def lW {a0:AV->St->Prop}{j:Int}(e:B[i]? =ae (.list l))(hj:0<=j/\j < 2 ^ 62)(ev:l[j.toNat]? =ae v)(h:a0 v B):WP (ik (.ref i) (.int j)) B a0 E:=by
 refine av (dj e (av (w_strict (av (bw ⟨by lia,hj.2⟩ (dU ?_ h))))));rw[aN hj.1];exact ev
def sN {Q0:b8->St->Prop}{j:Int}(e:B[i]? =ae (.list l))(hj:0<=j/\j.toNat < l.length/\j < 2 ^ 62)(h:Q0 () (B.set i (.list (l.set j.toNat v)))):WP (oP (.ref i) (.int j) v) B Q0 E:=
 av (eh (av (dj e (av (w_strict (av (bw hj (k8 h))))))))
def f_len {a0:AV->St->Prop}(e:B[i]? =ae (.list l))(h:a0 (.int l.length) B):WP (eu Q (.bi "len") [.ref i] []) B a0 E:=mW rfl (av (fF (av (e5 (av (eh (av (dj e (aQ h)))))))))
def f_fn {a0:AV->St->Prop}{n:au}(h:WP (F (.fn n) args kw) B a0 E):WP (eu ⟨F,O,I⟩ (.fn n) args kw) B a0 E:=h
def r_ret {a0:AV->St->Prop}(h:a0 v B):WP (eQ (.ret v)) B a0 E:=h
def r_next {a0:AV->St->Prop}(h:a0 .none B):WP (eQ .next) B a0 E:=h
def vV (yE:x.1=y.1->x.2.1≠y.2.1)(h:QB (fM x y) B):WP (dQ .Lt (tv x) (tv y)) B QB E:=by
 show WP (if x.1=y.1 then (if x.2.1=y.2.1 then P.fail else P.pure (decide (x.2.1 < y.2.1)))else P.pure (decide (x.1 < y.1))) B QB E;unfold fM at h;split
 ·rename_i e;rw[aK (yE e)];rw[aN e]at h;exact h
 ·rename_i e;rw[aK e]at h;exact h
def f3.symm (h:f3 x y):f3 y x:=λe B=>h e.symm B.symm
def vW {g:aB}{new:Tr}{l:ah Tr}{p:ak}:iz g new s 0 l p=l.set p new:=rfl
def sP {g:aB}{new:Tr}{l:ah Tr}{p:ak}:iz g new s (n+1) l p=(if s < p then
   match l[(p - 1) / 2]? with
   |some a0=>if bf g new a0 then iz g new s n (l.set p a0) ((p - 1) / 2)else l.set p new
   |none=>l.set p new
  else l.set p new):=rfl
def sQ {l:ah Tr}{p:ak}:(l.map tv).set p (tv x)=(l.set p x).map tv:=by rw[List.map_set]
def Hp.set {l l':ah Tr}(x:Hp B h l):Hp (B.set h (.list (l'.map tv))) h l':=by
 unfold Hp at x |-;have:=(cF.mp x).1;rw[l9 this]
theorem RY {g:aB}{t:DT}{new:Tr}(ht:∀{B:St} {a b c d:ax AV} {par:Tr} {QB:aB->St->Prop},f3 new par->QB (bf g new par) B->WP (t ⟨F,[],[a,b,c,ae (tv new),d,ae (tv par)]⟩) B QB E):
  ∀(n p:ak) (l:ah Tr) (B:St) (a b:ax AV) (a0:FL×ah (ax AV)->St->Prop),p<=n->p < 64->p < l.length->Hp B h l->(∀q x,q < p->l[q]? =ae x->f3 new x)->
  (∀(p':ak) (l':ah Tr) (a b:ax AV),p' < l'.length->p'<=p->l'.set p' new=iz g new s n l p->a0 (.next,[ae (.ref h),ae (.int s),ae (.int p'),ae (tv new),a,b]) (B.set h (.list (l'.map tv))))->p < n+1->
  ∀m,n < m->WP (iK (aR .Gt (eL 2) (eL 1)) (sq [
   aE (pL 4) (aY .RShift (aY .Sub (eL 2) (eK (.int 1))) (eK (.int 1))),
   aE (pL 5) (bz (eL 0) (eL 4)),
   bJ t [
    aE (dM (eL 0) (eL 2)) (eL 5),
    aE (pL 2) (eL 4),
    qu] [],
   sr]) m ⟨F,[],[ae (.ref h),ae (.int s),ae (.int p),ae (tv new),a,b]⟩) B a0 E:=by
 intro n p l B a b a0 S J L H W M A m X;induction m generalizing n p l B a b a0 with
 |zero=>exact XX 1 0 (CH 1 0 0 0 X ZZ) rfl
 |succ m j=>
  have same:B=B.set h (.list (l.map tv)):=by
   have:=(cF.mp H);obtain⟨U,T⟩:=this;rw[<-T,Bv]
  refine E3 (w_tCmp (aM rfl (aM rfl (c_gt ⟨λc=>?_,λc=>?_⟩))))
  ·have c:s < p:=iZ.1 (gx c);have N:0 < p:=wI (cZ _) c;have I:(p - 1) / 2<=p - 1:=IJ ..;have G:p - 1 < p:=Nat.sub_lt N Nat.one_pos;obtain⟨n,rfl⟩:∃k,n=k+1:=⟨n - 1,by exact AN (SU) ((SW (TT N S)))⟩;have K:((p:Int) - 1).fdiv 2=(((p - 1) / 2:ak):Int):=by
    rw[IK _ (by decide),show(p:Int) - 1=((p - 1:ak):Int) from (IL N).symm];rfl
   have D:(p - 1) / 2 < l.length:=by exact CF 1 0 1 0 1 0 (CH 0 0 1 0 I G) L rfl
   refine x_sq (w_Set (w_Bin (w_Bin (aM rfl (w_K (b_sub (w_K (RX (cu rfl (n_next ?_))))))))));rw[K];refine x_sq (w_Set (w_Idx (aM rfl (aM rfl (lW H ⟨by exact JP,by exact JC (2 ^ 62) (CF 1 0 1 64 1 4611686018427387904 (CH 0 0 1 0 I G) J rfl)⟩ (v:=tv l[(p - 1) / 2]) (by rw[eD,dA,cy D];rfl) (cu rfl (n_next ?_)))))));have R:=W ((p - 1) / 2) _ (by exact CF 0 0 1 0 1 0 I G rfl) (cy D);refine x_sq (w_qIf (ht R ⟨λO=>?_,λO=>?_⟩))
   ·refine x_sq (w_Set (aM rfl (x_pIdx (aM rfl (aM rfl (sN H ⟨by exact JP,by simp;exact L,by exact JC (2 ^ 62) (FI 1 64 1 4611686018427387904 J rfl)⟩ (n_next ?_)))))));refine x_sq (w_Set (aM rfl (cu rfl (n_next ?_))));refine x_sq (x_Cont (n_cont (n_cont (l_cont ?_))));rw[eD,sQ];refine j n ((p - 1) / 2) (l.set p l[(p - 1) / 2]) _ _ _ a0 (by exact TT I (CF 1 0 0 1 0 0 G S rfl)) (by exact CF 1 0 1 64 1 64 (CH 0 0 1 0 I G) J rfl) (by simp;exact D) H.set (λq x V Y=>?_) (λp' l' a b U Z T=>?_) (by exact CF 1 0 0 1 1 1 (CH 0 0 1 0 I G) S rfl) (by exact FI 2 1 1 0 X rfl)
    ·rw[jz (by exact NT (CF 1 0 1 0 1 0 (CH 1 0 0 0 V I) G rfl))]at Y;exact W q x (by exact CF 1 0 1 0 1 0 (CH 1 0 0 0 V I) G rfl) Y
    ·rw[oM];refine M p' l' a b U (by exact TT Z (CF 0 0 1 0 0 0 I G rfl)) ?_;rw[T];show _=(if s < p then _ else _);rw[aN c,cy D];show _=(if bf g new _ then _ else _);rw[aN O]
   ·refine x_nil (n_next (x_sq (x_Brk (n_brk (l_brk ?_)))));rw[same];refine M p l _ _ L (a4 _) ?_;show _=(if s < p then _ else _);rw[aN c,cy D];show _=(if bf g new _ then _ else _);rw[O];rfl
  ·have c: ¬ s < p:=λh=>jE c (iZ.2 h);rw[same];refine M p l _ _ L (a4 _) ?_;cases n with
   |zero=>rfl
   |succ n=>
    show _=(if s < p then _ else _);rw[aK c]
def E5 {B:St}{g:aB}{t:DT}{p:ak}{new:Tr}{l:ah Tr}{a0:AV->St->Prop}(ht:∀{B:St} {a b c d:ax AV} {par:Tr} {QB:aB->St->Prop},f3 new par->QB (bf g new par) B->WP (t ⟨F,[],[a,b,c,ae (tv new),d,ae (tv par)]⟩) B QB E)(c0:Hp B h l)(hn:l[p]? =ae new)(hk:∀q x,q < p->l[q]? =ae x->f3 new x)(d0:p < 63)(q:a0 .none (B.set h (.list ((iz g new s p l p).map tv)))):
  Body (QA t) ⟨F,[],[ae (.ref h),ae (.int s),ae (.int p),ag,ag,ag]⟩ B a0 E:=by
 obtain I:p < l.length:=(cF.mp hn).1;refine x_sq (w_Set (w_Idx (aM rfl (aM rfl (lW c0 ⟨by exact JP,by exact JC (2 ^ 62) (FI 1 63 1 4611686018427387904 d0 rfl)⟩ (v:=tv new) (by rw[eD,dA,hn];rfl) (cu rfl (n_next ?_)))))));refine x_sq (EW (RY ht p p l B _ _ _ (a4 _) (by exact FI 1 63 1 64 d0 rfl) I c0 hk (λL D a b K G J=>n_next ?_) (by exact a4 _) 64 (by exact FI 1 63 1 64 d0 rfl)));obtain H':Hp (B.set h (.list (D.map tv))) h D:=c0.set;refine x_sq (w_Set (aM rfl (x_pIdx (aM rfl (aM rfl (sN H' ⟨by exact JP,by rw[aO];lia,by exact JC (2 ^ 62) (CF 0 0 1 63 1 4611686018427387904 G d0 rfl)⟩ (n_next (x_nil (r_next ?_)))))))));rw[eD,sQ,oM,J];exact q
def RZ {g:aB}{p:ak}{new:Tr}{l:ah Tr}{a0:AV->St->Prop}(c0:Hp B h l)(hn:l[p]? =ae new)(hk:∀q x,q < p->l[q]? =ae x->f3 new x)(d0:p < 63)(q:a0 .none (B.set h (.list ((iz g new s p l p).map tv)))):WP (FN (k+1) (.fn (aq (if g then "_siftdown_max" else "_siftdown"))) [.ref h,.int s,.int p] []) B a0 E:=by
 cases g with
 |false=>
  refine Rw (E5 (g:=az) (t:=aR .Lt (eL 3) (eL 5)) (λD q=>w_tCmp (aM rfl (aM rfl (vV D q)))) c0 hn hk d0 q)
 |true=>
  refine Rx (E5 (g:=aj) (t:=aR .Lt (eL 5) (eL 3)) (λD q=>w_tCmp (aM rfl (aM rfl (vV D.symm q)))) c0 hn hk d0 q)
def vX {g:aB}{l:ah Tr}{p:ak}:fc g 0 l p=(l,p):=rfl
def qF {g:aB}{l:ah Tr}{p:ak}:fc g (n+1) l p=(match l[2 * p+1]? with
  |none=>(l,p)
  |some a0=>match l[2 * p+2]? with
   |none=>fc g n (l.set p a0) (2 * p+1)
   |some y0=>if bf g a0 y0 then fc g n (l.set p a0) (2 * p+1)else fc g n (l.set p y0) (2 * p+2)):=rfl
def Hp.same {l:ah Tr}(a0:Hp B h l):B.set h (.list (l.map tv))=B:=by
 obtain⟨E,D⟩:=(cF.mp a0);rw[<-D,Bv]
def Hp.at {p:ak}{l:ah Tr}{a0:AV->St->Prop}(c0:Hp B h l)(hx:l[p]? =ae x)(d0:p < 4096)(q:a0 (tv x) B):WP (ik (.ref h) (.int p)) B a0 E:=
 lW c0 ⟨by exact JP,by exact JC (2 ^ 62) (FI 1 4096 1 4611686018427387904 d0 rfl)⟩ (by rw[eD,dA,hx];rfl) q
theorem R2 {g:aB}{t:DT}{n0:ak}{u1 u2 u3 u4:ax AV}(ht:∀{B:St} {i:ak} {l:ah Tr} {x y:Tr} {a b c d a0 v:ax AV} {QB:aB->St->Prop},Hp B h l->l[i]? =ae x->l[i+1]? =ae y->i < 64->f3 x y->QB (bf g x y) B->
   WP (t ⟨F,[],[ae (.ref h),a,b,c,d,ae (.int i),ae (.int ((i+1:ak):Int)),a0,v]⟩) B QB E)(d0:n0 < 60):
  ∀(m p:ak) (l:ah Tr) (B:St) (e:ax AV) (c0:FL×ah (ax AV)->St->Prop),l.length=n0->p < n0->n0<=p+m->Hp B h l->(∀i x y,2 * p < i->l[i]? =ae x->l[i+1]? =ae y->f3 x y)->
  (∀(p':ak) (l':ah Tr) (e a:ax AV),(l',p')=fc g m l p->p' < n0->l'.length=n0->c0 (.next,[ae (.ref h),ae (.int p'),ae (.int n0),u1,u2,a,e,u3,u4]) (B.set h (.list (l'.map tv))))->
  WP (iK (aR .Lt (eL 5) (eL 2)) (sq [
  aE (pL 6) (aY .Add (eL 5) (eK (.int 1))),
  bJ (jN (aR .Lt (eL 6) (eL 2)) (gm t)) [
   aE (pL 5) (eL 6)] [],
  aE (dM (eL 0) (eL 1)) (bz (eL 0) (eL 5)),
  aE (pL 1) (eL 5),
  aE (pL 5) (aY .Add (aY .Mult (eK (.int 2)) (eL 1)) (eK (.int 1)))]) (m+1) ⟨F,[],[ae (.ref h),ae (.int p),ae (.int n0),u1,u2,ae (.int ((2 * p+1:ak):Int)),e,u3,u4]⟩) B c0 E:=by
 intro m;induction m with
 |zero=>exact λp l B e c0 G O V H U T=>XX 1 0 (CH 0 0 1 0 V O) rfl
 |succ m W=>
  intros m _ W;intros _ p l B e c0 _ G O V H U T;refine E3 (w_tCmp (aM rfl (aM rfl (c_lt ⟨λc=>?_,λc=>?_⟩))))
  ·have c:2 * p+1 < n0:=iZ.1 (gx c);obtain L:l[2 * p+1]? =ae (l[2 * p+1]'(by exact TT c (EG G))):=cy _;generalize l[2 * p+1]'(by exact TT c (EG G))=x at L;have X:(((2 * p+1:ak):Int)+1)=((2 * p+1+1:ak):Int):=rfl;have N:∀(q:ak) (z:Tr) (a:ax AV),2 * p < q->q < n0->l[q]? =ae z->(∀(p':ak) (l':ah Tr),(l',p')=fc g m (l.set p z) q->(l',p')=fc g (m+1) l p)->
     WP (sq [
      aE (dM (eL 0) (eL 1)) (bz (eL 0) (eL 5)),
      aE (pL 1) (eL 5),
      aE (pL 5) (aY .Add (aY .Mult (eK (.int 2)) (eL 1)) (eK (.int 1)))] ⟨F,[],[ae (.ref h),ae (.int p),ae (.int n0),u1,u2,ae (.int q),a,u3,u4]⟩) B
      (Left (λI B=>WP (iK (aR .Lt (eL 5) (eL 2)) (sq [
  aE (pL 6) (aY .Add (eL 5) (eK (.int 1))),
  bJ (jN (aR .Lt (eL 6) (eL 2)) (gm t)) [
   aE (pL 5) (eL 6)] [],
  aE (dM (eL 0) (eL 1)) (bz (eL 0) (eL 5)),
  aE (pL 1) (eL 5),
  aE (pL 5) (aY .Add (aY .Mult (eK (.int 2)) (eL 1)) (eK (.int 1)))]) (m+1) ⟨F,[],I⟩) B c0 E) c0) E:=by
    intro q z a j M k Y;refine x_sq (w_Set (w_Idx (aM rfl (aM rfl (H.at k (by exact CF 1 0 1 60 1 4096 M d0 rfl) (x_pIdx (aM rfl (aM rfl (sN H ⟨by exact JP,by rw[aO];show p < l.length;exact TT O (EG G),by exact JC (2 ^ 62) (CF 1 0 1 60 1 4611686018427387904 O d0 rfl)⟩ (n_next ?_))))))))));rw[eD,sQ];refine x_sq (w_Set (aM rfl (cu rfl (n_next ?_))));refine x_sq (w_Set (w_Bin (w_Bin (w_K (aM rfl (E4 ⟨by decide,(by show q < 2 ^ 62;exact CF 1 0 1 60 1 4611686018427387904 M d0 rfl)⟩ (w_K (b_add (cu rfl (n_next (x_nil (l_next ?_))))))))))));have Z:((2:Int) * (q:Int)+1)=((2 * q+1:ak):Int):=rfl;simp only[gz,gA];rw[Z];refine W q (l.set p z) _ _ c0 (by rw[eM];exact G) M (by lia) H.set (λi x y w R S=>?_) (λp' l' e a R S A=>?_)
    ·rw[jz (by lia)]at R S;exact U i x y (by lia) R S
    ·rw[oM];exact T p' l' e a (Y p' l' R) S A
   refine x_sq (w_Set (w_Bin (aM rfl (w_K (b_add (cu rfl (n_next ?_)))))));simp only[gz,gA];rw[X];refine x_sq (w_qIf (w_tAnd (w_tCmp (aM rfl (aM rfl (c_lt ⟨λD=>?_,λD=>?_⟩))))))
   ·have D:2 * p+2 < n0:=iZ.1 (gx D);obtain K:l[2 * p+2]? =ae (l[2 * p+2]'(by exact TT D (EG G))):=cy _;generalize l[2 * p+2]'(by exact TT D (EG G))=y at K;refine w_tNot (ht H L K (by exact CF 3 0 1 60 2 64 D d0 rfl) (U _ x y (by exact a4 _) L K) ⟨λJ=>?_,λJ=>?_⟩)
    ·have J:bf g x y=az:=by simpa using J
     refine x_sq (w_Set (aM rfl (cu rfl (n_next (x_nil (n_next ?_))))));refine N (2 * p+2) y _ (by exact gP _) D K λp' l' h=>?_;rw[h];show _=(match l[2 * p+1]? with |none=>_ |some x=>_);rw[L];show _=(match l[2 * p+2]? with |none=>_ |some x=>_);rw[K];show _=(if _ then _ else _);rw[J];rfl
    ·have J:bf g x y=aj:=by simpa using J
     refine x_nil (n_next ?_);refine N (2 * p+1) x _ (by exact a4 _) c L λp' l' h=>?_;rw[h];show _=(match l[2 * p+1]? with |none=>_ |some x=>_);rw[L];show _=(match l[2 * p+2]? with |none=>_ |some x=>_);rw[K];show _=(if _ then _ else _);rw[J];rfl
   ·have D: ¬ 2 * p+2 < n0:=λh=>jE D (iZ.2 h);obtain K:l[2 * p+2]? =ag:=rI (by exact TT (EL G) (NL D));refine⟨λJ=>(nomatch J),λu=>x_nil (n_next ?_)⟩;refine N (2 * p+1) x _ (by exact a4 _) c L λp' l' h=>?_;rw[h];show _=(match l[2 * p+1]? with |none=>_ |some x=>_);rw[L];show _=(match l[2 * p+2]? with |none=>_ |some x=>_);rw[K]
  ·have c: ¬ 2 * p+1 < n0:=λh=>jE c (iZ.2 h);rw[<-H.same];refine T p l _ _ ?_ O G;show _=(match l[2 * p+1]? with |none=>_ |some x=>_);rw[rI (by exact TT (EL G) (NL c))]
set_option tactic.hygienic true in theorem R3 {g : aB} : ∀ (m : ak) (l : ah Tr) (p : ak) (l' : ah Tr) (p' : ak), (l', p') = fc g m l p → ∀ q x, q ≠ p' → l'[q]? = ae x → ∃ q2, q2 ≠ p ∧ l[q2]? = ae x := by
 intro n;induction n with
 |zero=>
  intro l p l' p' e q x hq hx;cases e;exact⟨q,hq,hx⟩
 |succ m ih=>
  intros m _ ih;intros _ l p l' p' _ e _ q x _ hq hx;have go:∀(c:ak) (z:Tr),c≠p->l[c]? =ae z->(l',p')=fc g m (l.set p z) c->∃q2,q2≠p/\l[q2]? =ae x:=by
   intros _ c z _ hc hz e;obtain⟨q2,h1,h2⟩:=ih _ _ _ _ e q x hq hx;by_cases h:p=q2
   ·subst h;obtain hl:p < (l.set p z).length:=(cF.mp h2).1;rw[eM]at hl;rw[l9 hl]at h2;cases h2;exact⟨c,hc,hz⟩
   ·rw[jz h]at h2;exact⟨q2,λh'=>h h'.symm,h2⟩
  rw[qF]at e;split at e
  ·cases e;exact⟨q,hq,hx⟩
  ·rename_i a ha;split at e
   ·exact go _ _ (by lia) ha e
   ·rename_i b hb;split at e
    ·exact go _ _ (by lia) ha e
    ·exact go _ _ (by lia) hb e
def E6 {B:St}{g:aB}{t:DT}{p:ak}{l:ah Tr}{d0:AV->St->Prop}{a0 v:ax AV}(ht:∀{B:St} {i:ak} {l:ah Tr} {x y:Tr} {a b c d a0 v:ax AV} {QB:aB->St->Prop},Hp B h l->l[i]? =ae x->l[i+1]? =ae y->i < 64->f3 x y->QB (bf g x y) B->
   WP (t ⟨FN (k+1),[],[ae (.ref h),a,b,c,d,ae (.int i),ae (.int ((i+1:ak):Int)),a0,v]⟩) B QB E)(c0:Hp B h l)(hp:p < l.length)(e0:l.length < 60)(hd:dN l)(q:d0 .none (B.set h (.list ((cN g l p).map tv)))):
  Body (QC t (.fn (aq (if g then "_siftdown_max" else "_siftdown")))) ⟨FN (k+1),[],[ae (.ref h),ae (.int p),ag,ag,ag,ag,ag,a0,v]⟩ B d0 E:=by
 obtain J:l[p]? =ae l[p]:=cy hp;generalize l[p]=new at J;refine x_sq (w_Set (w_Call (w_K (w_evs_cons (aM rfl (w_evs_nil (w_kws_nil (f_len c0 (cu rfl (n_next ?_))))))))));refine x_sq (w_Set (aM rfl (cu rfl (n_next ?_))));refine x_sq (w_Set (w_Idx (aM rfl (aM rfl (c0.at J (by exact CF 1 0 1 60 1 4096 hp e0 rfl) (cu rfl (n_next ?_)))))));refine x_sq (w_Set (w_Bin (w_Bin (w_K (aM rfl (E4 ⟨by decide,(by show p < 2 ^ 62;exact CF 1 0 1 60 1 4611686018427387904 hp e0 rfl)⟩ (w_K (b_add (cu rfl (n_next ?_))))))))));have O:((2:Int) * (p:Int)+1)=((2 * p+1:ak):Int):=rfl;simp only[gz,gA,aO];rw[O];refine x_sq (EW (R2 ht e0 63 p l B _ _ rfl hp (by exact CF 1 60 0 0 0 63 e0 ZZ rfl) c0 (λi x y K I G=>hd i (i+1) x y (by exact NE (a4 _)) I G) (λF D e a I G M=>n_next ?_)));obtain H':Hp (B.set h (.list (D.map tv))) h D:=c0.set;refine x_sq (w_Set (aM rfl (x_pIdx (aM rfl (aM rfl (sN H' ⟨by exact JP,by rw[aO];show F < D.length;exact TT G (EG M),by exact JC (2 ^ 62) (CF 1 0 1 60 1 4611686018427387904 G e0 rfl)⟩ (n_next ?_)))))));rw[eD,sQ,oM];refine x_sq (x_Expr (w_Call (w_K (w_evs_cons (aM rfl (w_evs_cons (aM rfl (w_evs_cons (aM rfl (w_evs_nil (w_kws_nil (f_fn ?_))))))))))));have qm:F < D.length:=by exact TT G (EG M)
 refine RZ (new:=new) (c0.set (l':=D.set F new)) (by rw[l9 qm]) (λi x K N=>?_) (by exact CF 1 0 1 60 1 63 G e0 rfl) (n_next (x_nil (r_next ?_)))
 ·rw[jz (by exact NT (K))]at N;obtain⟨T,S,L⟩:=R3 63 l p D F I i x (by exact NE (K)) N;exact hd p T new x (by lia) J L
 ·rw[oM];have R:cN g l p=iz g new p F (D.set F new) F:=by
   unfold cN;rw[J];show iz g new p (fc g 63 l p).2 ((fc g 63 l p).1.set (fc g 63 l p).2 new) (fc g 63 l p).2=_;rw[<-I]
  rw[<-R];exact q
def E7 {g:aB}{p:ak}{l:ah Tr}{a0:AV->St->Prop}(c0:Hp B h l)(hp:p < l.length)(d0:l.length < 60)(hd:dN l)(q:a0 .none (B.set h (.list ((cN g l p).map tv)))):
  WP (FN (k+2) (.fn (aq (if g then "_siftup_max" else "_siftup"))) [.ref h,.int p] []) B a0 E:=by
 cases g with
 |false=>
  refine Ry (E6 (g:=az) (t:=aR .Lt (bz (eL 0) (eL 5)) (bz (eL 0) (eL 6))) (λc0 I G F D q=>?_) c0 hp d0 hd q);exact w_tCmp (w_Idx (aM rfl (aM rfl (c0.at I (by exact FI 1 64 1 4096 F rfl) (w_Idx (aM rfl (aM rfl (c0.at G (by exact FI 1 64 2 4096 F rfl) (vV D q)))))))))
 |true=>
  refine Rz (E6 (g:=aj) (t:=aR .Lt (bz (eL 0) (eL 6)) (bz (eL 0) (eL 5))) (λc0 I G F D q=>?_) c0 hp d0 hd q);exact w_tCmp (w_Idx (aM rfl (aM rfl (c0.at G (by exact FI 1 64 2 4096 F rfl) (w_Idx (aM rfl (aM rfl (c0.at I (by exact FI 1 64 1 4096 F rfl) (vV D.symm q)))))))))
def E8 {g:aB}{a b:Tr}:cN g [a,b] 0=if bf g a b then [a,b]else [b,a]:=by
 unfold cN;show iz g a 0 _ _ _=_;simp only[qF,vX,IM,List.getElem?_cons_zero,List.getElem?_nil,gz,gA,sP,vW,Nat.mul_zero,ke,Nat.mul_one,xj,Nat.reduceSub,Nat.reduceDiv,Nat.reduceLT,jB]
theorem E9 {g:aB}{a b c:Tr}:cN g [a,b,c] 0=if bf g b c then (if bf g a b then [a,b,c]else [b,a,c])else (if bf g a c then [a,b,c]else [c,b,a]):=by
 unfold cN;show iz g a 0 _ _ _=_;cases h:bf g b c <;>simp[qF,vX,sP,vW,h]<;>split <;>simp_all
theorem Fb {g:aB}{a b c d:Tr}:cN g [a,b,c,d] 0=if bf g b c then (if bf g a d then (if bf g a b then [a,b,c,d]else [b,a,c,d])else [b,d,c,a])else (if bf g a c then [a,b,c,d]else [c,b,a,d]):=by
 unfold cN;show iz g a 0 _ _ _=_;cases h:bf g b c <;>cases B:bf g a d <;>cases D:bf g a b <;>cases E:bf g a c <;>simp[qF,vX,sP,vW,h,B,D,E]
def Fc {g:aB}{a b c d:Tr}:cN g [a,b,c,d] 1=if bf g b d then [a,b,c,d]else [a,d,c,b]:=by
 unfold cN;show iz g b 1 _ _ _=_;cases h:bf g b d <;>simp[qF,vX,sP,vW,h]
def sR {B:St}{a0:FL×ah (ax AV)->St->Prop}{put:DA}{U:AI}(h:WP (bx U) B (λo B=>o=ag/\a0 (.next,I) B) E):WP (forA body put (n+1) U ⟨F,O,I⟩) B a0 E:=
 zq (h.a5 λo B h=>by obtain⟨rfl,h⟩:=h;exact h)
def vY {I:ah (ax AV)}{B:St}{a0:FL×ah (ax AV)->St->Prop}{put:DA}{U c0:AI}(h:WP (bx U) B (λo B=>o=ae (v,c0)/\WP (put v ⟨F,O,I⟩) B (λI B=>WP (body ⟨F,O,I⟩) B (Left (λI B=>WP (forA body put n c0 ⟨F,O,I⟩) B a0 E) a0) E) E) E):WP (forA body put (n+1) U ⟨F,O,I⟩) B a0 E:=
 zq (h.a5 λo B h=>by obtain⟨rfl,h⟩:=h;exact h)
def R5 {a0:FL×ah (ax AV)->St->Prop}{put:DA}{c d:Int}(h:a0 (.next,I) B):WP (forA body put (n+1) (.range c 0 d) ⟨F,O,I⟩) B a0 E:=sR (aQ ⟨rfl,h⟩)
def R6 {I:ah (ax AV)}{B:St}{a0:FL×ah (ax AV)->St->Prop}{put:DA}{m:ak}{c d:Int}(h:WP (put (.int c) ⟨F,O,I⟩) B (λI B=>WP (body ⟨F,O,I⟩) B (Left (λI B=>WP (forA body put n (.range (c+d) m d) ⟨F,O,I⟩) B a0 E) a0) E) E):
  WP (forA body put (n+1) (.range c (m+1) d) ⟨F,O,I⟩) B a0 E:=vY (aQ ⟨rfl,h⟩)
def R7 {g:aB}{new:Tr}:∀(n:ak) (l:ah Tr) (p:ak),(iz g new s n l p).length=l.length:=by
 intro n;induction n with
 |zero=>
  intro l p;exact eM ..
 |succ n B=>
  intro l p;rw[sP];split
  ·split
   ·split
    ·rw[B,eM]
    ·exact eM ..
   ·exact eM ..
  ·exact eM ..
def R8 {g:aB}:∀(n:ak) (l:ah Tr) (p:ak),(fc g n l p).1.length=l.length:=by
 intro n;induction n with
 |zero=>
  intro l p;exact rfl
 |succ n B=>
  intro l p;rw[qF];split
  ·rfl
  ·split
   ·rw[B,eM]
   ·split <;>rw[B,eM]
def Fd {g:aB}{l:ah Tr}{p:ak}:(cN g l p).length=l.length:=by
 unfold cN;split
 ·rfl
 ·rw[R7,eM,R8]
theorem R9 {g:aB}{l:ah Tr}{a0:AV->St->Prop}(c0:Hp B h l)(d0:l.length < 60)(hd:∀m,m<=l.length / 2->∀l2,l2.length=l.length->eW g m l2=eW g (l.length / 2) l->dN l2)(q:a0 .none (B.set h (.list ((eW g (l.length / 2) l).map tv)))):WP (FN (k+3) (.fn (aq (if g then "_heapify_max" else "heapify"))) [.ref h] []) B a0 E:=by
 have F:∀(m:ak) (l2:ah Tr) (D:St) (b:ak) (L:ah (ax AV)),L[0]? =ae (ae (.ref h))->2 < L.length->m<=l.length / 2->m < b->l2.length=l.length->eW g m l2=eW g (l.length / 2) l->D=B.set h (.list (l2.map tv))->
   WP (forA (sq [b9 (aX (eK (.fn (aq (if g then "_siftup_max" else "_siftup")))) [(eL 0),(eL 2)] [])]) (pL 2) b (.range ((m:Int) - 1) m (-1)) ⟨FN (k+2),[],L⟩) D
    (jO (λI B=>WP (sq [] ⟨FN (k+2),[],I⟩) B (λx B=>WP (eQ x.1) B a0 E) E) (λx B=>WP (eQ x.1) B a0 E)) E:=by
  intro m;induction m with
  |zero=>
   intro l2 D b L N O M S J G K;obtain⟨b,rfl⟩:∃c,b=c+1:=⟨b - 1,by exact AN (SU) ((SW (S)))⟩;refine R5 ?_;refine n_next (x_nil (r_next ?_));rw[K,show l2=eW g (l.length / 2) l from G];exact q
  |succ m W=>
   intro l2 D b L N O M S J G K;obtain⟨b,rfl⟩:∃c,b=c+1:=⟨b - 1,by lia⟩;refine R6 ?_;have R:(((m+1:ak):Int) - 1)=(m:Int):=by show((m:Int)+1) - 1=(m:Int);exact Int.add_sub_cancel ..
   rw[R];refine cu rfl ?_;have V:Hp D h l2:=by rw[K];exact c0.set
   refine x_sq (x_Expr (w_Call (w_K (w_evs_cons (aM (v:=.ref h) (by rw[jz (by decide)];exact N) (w_evs_cons (aM (v:=.int m) (by rw[l9 O]) (w_evs_nil (w_kws_nil (f_fn ?_))))))))));refine E7 V (by lia) (by exact CF 0 0 1 60 1 60 (EL J) d0 rfl) (hd (m+1) M l2 J G) (n_next (x_nil (l_next ?_)));refine W (cN g l2 m) _ b _ (by rw[jz (by decide)];exact N) (by rw[eM];exact O) (by exact FI 1 0 0 0 M rfl) (by exact FI 2 1 1 0 S rfl) (by rw[Fd];exact J) G (by rw[K,oM])
 have T:Body [
 aE (pL 1) (aX (eK (.bi "len")) [(eL 0)] []),
 fx az (pL 2) (vE (iT [(aY .FloorDiv (eL 1) (eK (.int 2)))])) [
  b9 (aX (eK (.fn (aq (if g then "_siftup_max" else "_siftup")))) [(eL 0),(eL 2)] [])]] ⟨FN (k+2),[],[ae (.ref h),ag,ag,ag,ag,ag,ag]⟩ B a0 E:=by
  refine x_sq (w_Set (w_Call (w_K (w_evs_cons (aM rfl (w_evs_nil (w_kws_nil (f_len c0 (cu rfl (n_next ?_))))))))));rw[aO];have R:((l.length:Int)).fdiv 2=((l.length / 2:ak):Int):=by rw[IK _ (by decide)];rfl
  have U:l.length / 2<=l.length:=IJ ..;refine x_sq (w_For (w_iRev (w_rRange (w_evs_cons (w_Bin (aM rfl (w_K (pn ⟨by decide,by decide⟩ (w_evs_nil ?_)))))))));rw[R];refine pj (by exact KN (by decide)) (by exact JC 4096 (CF 0 0 1 60 1 4096 U d0 rfl)) ?_;rw[eD];refine w_rev ⟨rfl,?_⟩;exact F (l.length / 2) l B 128 _ rfl (by simp) (a4 _) (by exact CF 0 0 1 60 1 128 U d0 rfl) rfl rfl c0.same.symm
 cases g with
 |false=>exact RD T
 |true=>exact RE T
def Sa {g:aB}{l:ah Tr}{t t0:Tr}{a0:AV->St->Prop}(c0:Hp B h l)(h0:l[0]? =ae t0)(d0:l.length < 60)(hd:dN (l.set 0 t))(q:a0 (tv t0) (B.set h (.list ((cN g (l.set 0 t) 0).map tv)))):WP (FN (k+3) (.fn (aq (if g then "_heapreplace_max" else "heapreplace"))) [.ref h,tv t] []) B a0 E:=by
 obtain D:0 < l.length:=(cF.mp h0).1;have T:Body [
 aE (pL 2) (bz (eL 0) (eK (.int 0))),
 aE (dM (eL 0) (eK (.int 0))) (eL 1),
 b9 (aX (eK (.fn (aq (if g then "_siftup_max" else "_siftup")))) [(eL 0),(eK (.int 0))] []),
 bL (eL 2)] ⟨FN (k+2),[],[ae (.ref h),ae (tv t),ag,ag]⟩ B a0 E:=by
  refine x_sq (w_Set (w_Idx (aM rfl (w_K (c0.at (p:=0) h0 (by exact RR 1 4096 rfl) (cu rfl (n_next ?_)))))));refine x_sq (w_Set (aM rfl (x_pIdx (aM rfl (w_K (sN c0 ⟨by decide,by rw[aO];exact D,by decide⟩ (n_next ?_)))))));rw[show(0:Int).toNat=0 from rfl,sQ];refine x_sq (x_Expr (w_Call (w_K (w_evs_cons (aM rfl (w_evs_cons (w_K (w_evs_nil (w_kws_nil (f_fn ?_))))))))));refine E7 (p:=0) (c0.set (l':=l.set 0 t)) (by rw[eM];exact D) (by rw[eM];exact d0) hd (n_next ?_);rw[oM];exact x_sq (x_Ret (aM rfl (n_ret (r_ret q))))
 cases g with
 |false=>exact RA T
 |true=>exact RC T
def Ff {z:Tr}(h1:fM x y=aj)(h2:fM y z=aj):fM x z=aj:=by
 unfold fM at *;split at h1 <;>split at h2 <;>split <;>simp_all <;>lia
def Fg (a0:f3 x y)(h:fM x y=az):fM y x=aj:=by
 unfold fM at *;by_cases e:x.1=y.1
 ·rw[aN e]at h;rw[aN e.symm];have:=a0 e;have:=jE h;exact i7 (by lia)
 ·rw[aK e]at h;rw[aK λB=>e B.symm];have:=jE h;exact i7 (by lia)
def lX {g:aB}{z:Tr}(h1:bf g x y=aj)(h2:bf g y z=aj):bf g x z=aj:=by
 cases g with
 |false=>exact Ff h1 h2
 |true=>exact Ff (x:=z) h2 h1
def lY {g:aB}(a0:f3 x y)(h:bf g x y=az):bf g y x=aj:=by
 cases g with
 |false=>exact Fg a0 h
 |true=>exact Fg a0.symm h
def kQ.len {g:aB}{l:ah Tr}(h:kQ g l):1<=l.length/\l.length<=4:=by
 rcases l with _ |⟨_,_ |⟨_,_ |⟨_,_ |⟨_,_ |⟨_,_⟩⟩⟩⟩⟩
 ·exact h.elim
 ·exact⟨a4 _,iY rfl⟩
 ·exact⟨iY rfl,iY rfl⟩
 ·exact⟨iY rfl,iY rfl⟩
 ·exact⟨iY rfl,iY rfl⟩
 ·exact h.elim
def kQ.root {g:aB}{a:Tr}{l:ah Tr}(h:kQ g (a :: l)):∀x∈l,bf g a x=aj:=by
 rcases l with _ |⟨b,_ |⟨c,_ |⟨d,_ |⟨_,_⟩⟩⟩⟩
 ·intro x B;cases B
 ·intro x B;rw[aJ.mp B];exact h
 ·intro x B;rcases bu.mp B with rfl |B
  ·exact h.1
  ·rw[aJ.mp B];exact h.2
 ·intro x B;rcases bu.mp B with rfl |B
  ·exact h.1
  rcases bu.mp B with rfl |B
  ·exact h.2.1
  ·rw[aJ.mp B];exact lX h.1 h.2.2
 ·exact h.elim
def dN.get {l:ah Tr}(h:dN l)(i j:ak)(hi:l[i]? =ae x)(hj:l[j]? =ae y)(a0:i≠j:=by decide):f3 x y:=h i j x y a0 hi hj
def sS {a b c:Tr}:[c,b,a].Perm [a,b,c]:=Bw [a,b,c]
def Fh {a b c d:Tr}:[b,d,c,a].Perm [a,b,c,d]:=
 (Bw [a,c,d,b]).trans (.cons a (Bx (l₁:=[c,d]) (l₂:=[b])))
theorem sT {g:aB}{t:Tr}{l:ah Tr}(hl:l.length<=3)(nQ:∀b c d,l=[b,c,d]->bf g b d=aj)(hd:dN (t :: l)):kQ g (cN g (t :: l) 0)/\(cN g (t :: l) 0).Perm (t :: l):=by
 rcases l with _ |⟨b,_ |⟨c,_ |⟨d,_ |⟨_,_⟩⟩⟩⟩
 ·exact⟨trivial,.refl _⟩
 ·rw[E8];obtain n1:=hd.get 0 1 rfl rfl;split
  ·rename_i c;exact⟨c,.refl _⟩
  ·rename_i c;exact⟨lY n1 (by simpa using c),.swap ..⟩
 ·rw[E9];obtain n1:=hd.get 0 1 rfl rfl;obtain n2:=hd.get 0 2 rfl rfl;obtain n3:=hd.get 1 2 rfl rfl;split
  ·rename_i c1;split
   ·rename_i c2;exact⟨⟨c2,lX c2 c1⟩,.refl _⟩
   ·rename_i c2;exact⟨⟨lY n1 (by simpa using c2),c1⟩,.swap ..⟩
  ·rename_i c1;obtain c1:=lY n3 (by simpa using c1);split
   ·rename_i c2;exact⟨⟨lX c2 c1,c2⟩,.refl _⟩
   ·rename_i c2;exact⟨⟨c1,lY n2 (by simpa using c2)⟩,sS⟩
 ·rw[Fb];obtain n1:=hd.get 0 1 rfl rfl;obtain n2:=hd.get 0 2 rfl rfl;obtain n3:=hd.get 1 2 rfl rfl;obtain n4:=hd.get 0 3 rfl rfl;obtain nQ:=nQ b c d rfl;split
  ·rename_i c1;split
   ·rename_i c2;split
    ·rename_i c3;exact⟨⟨c3,lX c3 c1,nQ⟩,.refl _⟩
    ·rename_i c3;exact⟨⟨lY n1 (by simpa using c3),c1,c2⟩,.swap ..⟩
   ·rename_i c2;exact⟨⟨nQ,c1,lY n4 (by simpa using c2)⟩,Fh⟩
  ·rename_i c1;obtain c1:=lY n3 (by simpa using c1);split
   ·rename_i c2;exact⟨⟨lX c2 c1,c2,nQ⟩,.refl _⟩
   ·rename_i c2;exact⟨⟨c1,lY n2 (by simpa using c2),nQ⟩,(sS (a:=t) (b:=b) (c:=c)).append_right [d]⟩
 ·exact absurd hl (by simp)
def Sb {g:aB}{t a:Tr}{l:ah Tr}(h:kQ g (a :: l))(hd:dN (t :: l)):kQ g (cN g (t :: l) 0)/\(cN g (t :: l) 0).Perm (t :: l):=
 sT (Hq h.len.2) (λu u u e=>by subst e;exact h.2.2) hd
theorem Sd {g:aB}{l:ah Tr}(h1:1<=l.length)(h4:l.length<=4)(hd:dN l):kQ g (eW g (l.length / 2) l)/\(eW g (l.length / 2) l).Perm l:=by
 rcases l with _ |⟨a,_ |⟨b,_ |⟨c,_ |⟨d,_ |⟨_,_⟩⟩⟩⟩⟩
 ·exact absurd h1 (by simp)
 ·rw[show [a].length / 2=0 from by simp];exact⟨trivial,.refl _⟩
 ·rw[show [a,b].length / 2=1 from by simp];exact sT (iY rfl) (λu u u e=>by cases e) hd
 ·rw[show [a,b,c].length / 2=1 from by simp];exact sT (iY rfl) (λu u u e=>by cases e) hd
 ·rw[show [a,b,c,d].length / 2=2 from by simp];show kQ g (cN g (cN g [a,b,c,d] 1) 0)/\(cN g (cN g [a,b,c,d] 1) 0).Perm _;rw[Fc];obtain n1:=hd.get 1 3 rfl rfl;split
  ·rename_i c1;exact sT (a4 _) (λu u u e=>by cases e;exact c1) hd
  ·rename_i c1;obtain c1:=lY n1 (by simpa using c1);obtain pm:[a,d,c,b].Perm [a,b,c,d]:=.cons a (Bw [b,c,d]);have hd2:dN [a,d,c,b]:=by
    intro i j x y Ws hx hy;have f:∀i x,[a,d,c,b][i]? =ae x->∃k,[a,b,c,d][k]? =ae x/\k=(if i=1 then 3 else if i=3 then 1 else i):=by
     intro i x hx;rcases i with _ |_ |_ |_ |n
     ·exact⟨0,hx,rfl⟩
     ·exact⟨3,hx,rfl⟩
     ·exact⟨2,hx,rfl⟩
     ·exact⟨1,hx,rfl⟩
     ·simp at hx
    obtain⟨k,hk,ek⟩:=f i x hx;obtain⟨m,hm,em⟩:=f j y hy;refine hd k m x y ?_ hk hm;rw[ek,em];split <;>split <;>(try split)<;>(try split)<;>lia
   obtain⟨r1,r2⟩:=sT (t:=a) (l:=[d,c,b]) (a4 _) (λu u u e=>by cases e;exact c1) hd2;exact⟨r1,r2.trans pm⟩
 ·exact absurd h4 (by simp)
def Fi {t:Tr}:iB b t (x :: S)=if bg b t.1 x.1 then t :: x :: S else x :: iB b t S:=rfl
def Se {t x:Int×AV}{S:ah (Int×AV)}:bV b t (x :: S)=if bg b t.1 x.1 then t :: x :: S else x :: bV b t S:=rfl
def zw {t:Tr}:∀{S:ah Tr},(iB b t S).map kv=bV b (kv t) (S.map kv):=by
 intro l;induction l with
 |nil=>
  exact rfl
 |cons x S B=>
  show(if bg b t.1 x.1 then t :: x :: S else x :: iB b t S).map kv=(if bg b t.1 x.1 then kv t :: kv x :: S.map kv else kv x :: bV b (kv t) (S.map kv));split
  ·rfl
  ·rw[f9,B]
def pv {t:Tr}:∀{S:ah Tr},(iB b t S).Perm (t :: S):=by
 intro l;induction l with
 |nil=>
  exact .refl _
 |cons x S B=>
  rw[Fi];split
  ·exact .refl _
  ·exact(wM x B).trans (.swap ..)
def Fj {t:Tr}(h:bg b t.1 x.1=aj):bf b t x=aj:=by
 unfold bg at h;unfold bf fM;cases b with
 |false=>
  have h:=gx h;show(if t.1=x.1 then _ else _)=aj;rw[aK (by lia)];exact i7 h
 |true=>
  have h:=gx h;show(if x.1=t.1 then _ else _)=aj;rw[aK (by lia)];exact i7 h
def Sf {t:Tr}(h:bg b t.1 x.1=az)(hl:if b then t.2.1 < x.2.1 else x.2.1 < t.2.1):bf b x t=aj:=by
 unfold bg at h;unfold bf fM;cases b with
 |false=>
  obtain h: ¬ t.1 < x.1:=jE h;have hl:x.2.1 < t.2.1:=hl;show(if x.1=t.1 then _ else _)=aj;split
  ·exact i7 hl
  ·exact i7 (by lia)
 |true=>
  obtain h: ¬ x.1 < t.1:=jE h;obtain hl:t.2.1 < x.2.1:=hl;show(if t.1=x.1 then _ else _)=aj;split
  ·exact i7 hl
  ·exact i7 (by lia)
def Fk {t:Tr}:∀{S:ah Tr},gJ b S->Later b t S->gJ b (iB b t S):=by
 intro l;induction l with
 |nil=>
  intro _ _;exact By ..
 |cons x S ih=>
  intro h hl;obtain⟨h1,h2⟩:=lE.mp h;rw[Fi];split
  ·rename_i hb;refine lE.mpr ⟨λy hy=>?_,h⟩;rcases bu.mp hy with rfl |hy
   ·exact Fj hb
   ·exact lX (Fj hb) (h1 y hy)
  ·rename_i hb;refine lE.mpr ⟨λy hy=>?_,ih h2 λz hz=>hl z (.tail _ hz)⟩;rcases bu.mp (pv.mem_iff.mp hy)with rfl |hy
   ·exact Sf (by simpa using hb) (hl x (.head _))
   ·exact h1 y hy
def vZ:bf b x x=az:=by
 have:fM x x=az:=by
  unfold fM;rw[aN rfl];exact pJ (Int.lt_irrefl _)
 cases b <;>exact this
def Sg {a0:ah Tr}(hs:gJ b S)(ht:gJ b a0)(p:S.Perm a0):S=a0:=
 List.Perm.eq_of_pairwise (λx y u u D B=>by
  have:=lX D B;rw[vZ]at this;cases this) hs ht p
def gJ.dist (h:gJ b S):dN S:=by
 intro i j x y B I J;have T:∀{x y:Tr},bf b x y=aj->f3 x y:=by
  intro x y h F D;unfold bf fM at h;cases b with
  |false=>
   obtain h:(if x.1=y.1 then decide (x.2.1 < y.2.1)else decide (x.1 < y.1))=aj:=h;rw[aN F,D]at h;have:=gx h
   lia
  |true=>
   obtain h:(if y.1=x.1 then decide (y.2.1 < x.2.1)else decide (y.1 < x.1))=aj:=h;rw[aN F.symm,D]at h;have:=gx h
   lia
 obtain⟨G,rfl⟩:=cF.mp I;obtain⟨E,rfl⟩:=cF.mp J;obtain H:=xk.mp h;rcases IP B with c |c
 ·exact T (H i j G E c)
 ·exact(T (H j i E G c)).symm
def dN.perm {a0:ah Tr}(h:dN S)(p:S.Perm a0):dN a0:=by
 have e:∀S:ah Tr,dN S↔S.Pairwise f3:=by
  intro S;constructor
  ·intro h;rw[xk];intro i j E D B;exact h i j _ _ (by exact NE (B)) (cy E) (cy D)
  ·intro h i j x y B G H;obtain⟨E,rfl⟩:=cF.mp G;obtain⟨D,rfl⟩:=cF.mp H;obtain F:=xk.mp h;rcases IP B with c |c
   ·exact F i j E D c
   ·exact(F j i D E c).symm
 rw[e]at h |-;exact(List.Perm.pairwise_iff (λh=>h.symm) p).mp h
def Sh {α β:Type}{a0:α->β}{lt:β->β->aB}{x:α}:∀{l:ah α},sortBy.cf lt (a0 x) (l.map a0)=(sortBy.cf (λa b=>lt (a0 a) (a0 b)) x l).map a0:=by
 intro l;induction l with
 |nil=>
  exact rfl
 |cons y l B=>
  show(if lt (a0 y) (a0 x)then a0 y :: sortBy.cf lt (a0 x) (l.map a0)else a0 x :: a0 y :: l.map a0)=(if lt (a0 y) (a0 x)then y :: sortBy.cf (λa b=>lt (a0 a) (a0 b)) x l else x :: y :: l).map a0;split
  ·rw[f9,B]
  ·rfl
def lQ {α β:Type}{a0:α->β}{lt:β->β->aB}:∀{l:ah α},sortBy lt (l.map a0)=(sortBy (λa b=>lt (a0 a) (a0 b)) l).map a0:=by
 intro l;induction l with
 |nil=>
  exact rfl
 |cons x l B=>
  show sortBy.cf lt (a0 x) (sortBy lt (l.map a0))=_;rw[B,Sh];rfl
def Fl {α:Type}{lt:α->α->aB}{x:α}:∀{l:ah α},(sortBy.cf lt x l).Perm (x :: l):=by
 intro l;induction l with
 |nil=>
  exact .refl _
 |cons y l B=>
  show(if lt y x then y :: sortBy.cf lt x l else x :: y :: l).Perm _;split
  ·exact(wM y B).trans (.swap ..)
  ·exact .refl _
def Fm {α:Type}{lt:α->α->aB}:∀{l:ah α},(sortBy lt l).Perm l:=by
 intro l;induction l with
 |nil=>
  exact .refl _
 |cons _ r B=>
  exact Fl.trans (.cons _ B)
def Si:∀{l:ah Tr},gJ b l->(∀y∈l,f3 x y)->gJ b (sortBy.cf (bf b) x l):=by
 intro l;induction l with
 |nil=>
  intro _ _;exact By ..
 |cons y l ih=>
  intro h hd;obtain⟨h1,h2⟩:=lE.mp h;show gJ b (if bf b y x then y :: sortBy.cf (bf b) x l else x :: y :: l);split
  ·rename_i hy;refine lE.mpr ⟨λz hz=>?_,ih h2 λz hz=>hd z (.tail _ hz)⟩;rcases bu.mp (Fl.mem_iff.mp hz)with rfl |hz
   ·exact hy
   ·exact h1 z hz
  ·rename_i hy;obtain vo:bf b x y=aj:=lY (hd y (.head _)).symm (by simpa using hy);refine lE.mpr ⟨λz hz=>?_,h⟩;rcases bu.mp hz with rfl |hz
   ·exact vo
   ·exact lX vo (h1 z hz)
def dN.tail {l:ah Tr}(h:dN (x :: l)):dN l:=λi j a b E B D=>h (i+1) (j+1) a b (by lia) B D
def dN.head {l:ah Tr}(h:dN (x :: l)):∀y∈l,f3 x y:=λy D=>by
 obtain⟨i,B,e⟩:=List.getElem_of_mem D;exact h 0 (i+1) x y (by exact NE (FI 0 0 1 1 ZZ rfl)) rfl (by rw[IM,cy B,e])
def Sj:∀{l:ah Tr},dN l->gJ b (sortBy (bf b) l):=by
 intro l;induction l with
 |nil=>
  intro _;exact Bz
 |cons x l B=>
  intro h;exact Si (B h.tail) λy D=>h.head y (Fm.mem_iff.mp D)
def Fn:cX (x.1,x.2.1) (y.1,y.2.1)=fM x y:=by
 unfold cX fM;by_cases e:x.1=y.1
 ·rw[aN e];simp[e]
 ·rw[aK e];simp[e]
def Sk:rN (L.map tv)=ae (L.map kk):=by
 induction L with
 |nil=>rfl
 |cons t L B=>show(rN (L.map tv)).map _=_;rw[B];rfl
def Sl (hd:dN L):((L.map kk).map (·.1)).Nodup:=by
 rw[oL];unfold List.Nodup;rw[List.pairwise_map,xk];intro i j D E B e;have:=hd i j _ _ (by exact NE (B)) (cy D) (cy E);obtain e:(L[i].1,L[i].2.1)=(L[j].1,L[j].2.1):=e;injection e with e1 e2;exact this e1 e2
def Sm {a0:ah AV->St->Prop}(h4:L.length<=4)(hs:gJ b S)(hp:L.Perm S)(q:a0 (S.map tv) B):WP (uF b (L.map tv)) B a0 E:=by
 obtain D:dN L:=hs.dist.perm hp.symm;unfold uF;refine av (dU Sk (av (bw ⟨Sl D,by rw[aO];exact h4⟩ (aQ ?_))));obtain e:(λx y:(Int×Int)×AV=>if b then cX y.1 x.1 else cX x.1 y.1)=(λx y=>if b then cX y.1 x.1 else cX x.1 y.1):=rfl;rw[lQ,oL];have F:(λa c:Tr=>if b then cX (kk c).1 (kk a).1 else cX (kk a).1 (kk c).1)=bf b:=by
  funext a c
  show(if b then cX (c.1,c.2.1) (a.1,a.2.1)else cX (a.1,a.2.1) (c.1,c.2.1))=_;rw[Fn,Fn];rfl
 rw[F,Sg (Sj D) hs (Fm.trans hp)];exact q
def Sn:bf (!b) x y=bf b y x:=by cases b <;>rfl
def Fo {r:Tr}(h:kQ (!b) (r :: L))(hs:gJ b S)(hp:(r :: L).Perm S):∃S0,S=S0++[r]/\L.Perm S0:=by
 have B:S≠[]:=λe=>by rw[e]at hp;exact absurd hp.length_eq (by simp)
 have e:=BA B;generalize S.getLast B=z at e;generalize S.dropLast=S0 at e;subst e;have H:z=r:=by
  obtain E:z∈r :: L:=hp.symm.mem_iff.mp (hW _ (aJ.mpr rfl));rcases bu.mp E with e |So
  ·exact e
  ·have F:=h.root z So;rw[Sn]at F;have D:r∈S0++[z]:=hp.mem_iff.mp (.head _);rcases dX.mp D with D |D
   ·obtain G:=(xl.mp hs).2.2 r D z (aJ.mpr rfl);have:=lX F G;rw[vZ]at this;cases this
   ·exact(aJ.mp D).symm
 subst H;exact⟨S0,rfl,List.Perm.cons_inv (hp.trans (Bx.trans (.refl _)))⟩
def Sp {t r:Tr}(h:bg b t.1 r.1=aj):∀{S:ah Tr},iB b t (S++[r])=iB b t S++[r]:=by
 intro l;induction l with
 |nil=>
  show(if bg b t.1 r.1 then _ else _)=_;rw[aN h];rfl
 |cons x S B=>
  show(if bg b t.1 x.1 then _ else x :: iB b t (S++[r]))=(if bg b t.1 x.1 then _ else _)++[r];split
  ·rfl
  ·rw[B];rfl
def Sq {t:Tr}:∀{S:ah Tr},(∀x∈S,bg b t.1 x.1=az)->iB b t S=S++[t]:=by
 intro l;induction l with
 |nil=>
  intro _;exact rfl
 |cons x S B=>
  intro h;show(if bg b t.1 x.1 then _ else x :: iB b t S)=_;rw[h x (.head _),B λy D=>h y (.tail _ D)];rfl
def Sr {t r:Tr}(h:bg b t.1 r.1=az)(hx:bf b x r=aj):bg b t.1 x.1=az:=by
 unfold bg at h |-;unfold bf fM at hx;cases b with
 |false=>
  obtain h:=jE h;obtain hx:(if x.1=r.1 then decide (x.2.1 < r.2.1)else decide (x.1 < r.1))=aj:=hx;refine pJ ?_;by_cases e:x.1=r.1
  ·exact λg=>h (e ▸ g)
  ·rw[aK e]at hx;exact λg=>h (uo g (gx hx))
 |true=>
  obtain h:=jE h;obtain hx:(if r.1=x.1 then decide (r.2.1 < x.2.1)else decide (r.1 < x.1))=aj:=hx;refine pJ ?_;by_cases e:r.1=x.1
  ·exact λg=>h (e ▸ g)
  ·rw[aK e]at hx;exact λg=>h (uo (gx hx) g)
def Fp {K:ah (Int×AV)}{x:Int×AV}:fy b n (K++[x])=(bV b x (fy b n K)).take n:=by
 unfold fy;rw[uu];rfl
def zx {x:Int×AV}:∀{S:ah (Int×AV)},(bV b x S).length=S.length+1:=by
 intro l;induction l with
 |nil=>
  exact rfl
 |cons y S B=>
  rw[Se];split
  ·rfl
  ·rw[fq,B];rfl
def Ss:∀(K S:ah (Int×AV)),S.length<=n->(K.foldl (λS x=>(bV b x S).take n) S).length=min n (S.length+K.length):=by
 intro l;induction l with
 |nil=>
  intro S h;show S.length=min n (S.length+0);exact AN ((LO (h))) (MR)
 |cons x K B=>
  intro S h;show(K.foldl _ ((bV b x S).take n)).length=_;rw[B _ (by rw[er];exact ML),er,zx,fq];rcases IQ n (S.length+1)with h1 |h1
  ·rw[m8 (nz h1),m8 (tn _ _),m8 (TT (Nat.le_of_lt_succ h1) AL)]
  ·rw[tM h1,qL,Af 1]
def Fq (K:ah (Int×AV)):(fy b n K).length=min n K.length:=by
 unfold fy;rw[Ss K [] (cZ _)];show min n (0+_)=_;rw[ke]
def kT.skip {r:Tr}{K:ah (Int×AV)}{k:Int}{e:AV}(h:kT b n (r :: L) S K)(hb:bg b k r.1=az):kT b n (r :: L) S (K++[(k,e)]):=by
 obtain⟨E,D,G,J,F⟩:=h;refine⟨E,D,G,?_,F⟩;obtain⟨I,rfl,_⟩:=Fo E D G;rw[Fp,<-J];obtain H:(k,e)=kv (k,0,e):=rfl;rw[H,<-zw,Sq (λx B=>?_)]
 ·rw[dH (l₁:=I++[r]),IS (by rw[aO];exact F)]
 ·rcases dX.mp B with B |B
  ·exact Sr (t:=(k,0,e)) hb ((xl.mp D).2.2 x B r (aJ.mpr rfl))
  ·rw[aJ.mp B];exact hb
theorem kT.swap {r:Tr}{K:ah (Int×AV)}{k o:Int}{e:AV}(h:kT b n (r :: L) S K)(hb:bg b k r.1=aj)(hl:Later b (k,o,e) S):
  dN ((k,o,e) :: L)/\∃S',kT b n (cN (!b) ((k,o,e) :: L) 0) S' (K++[(k,e)])/\∀x∈S',x=(k,o,e)\/x∈S:=by
 obtain⟨H,J,O,Q,I⟩:=h;obtain⟨D,rfl,F⟩:=Fo H J O;obtain E:Later b (k,o,e) D:=λx B=>hl x (gM _ B);have Fs:=Fk (xl.mp J).1 E;have qG:((k,o,e) :: L).Perm (iB b (k,o,e) D):=(wM _ F).trans pv.symm;have G:dN ((k,o,e) :: L):=Fs.dist.perm qG.symm;obtain⟨M,N⟩:=Sb H G;refine⟨G,iB b (k,o,e) D,⟨M,Fs,N.trans qG,?_,?_⟩,λx B=>?_⟩
 ·rw[Fp,<-Q];obtain R:(k,e)=kv (k,o,e):=rfl;rw[R,<-zw,Sp hb,dH,IS ?_];rw[aO,pv.length_eq,<-I,bK];rfl
 ·rw[pv.length_eq,<-I,bK];rfl
 ·rcases bu.mp (pv.mem_iff.mp B)with rfl |B
  ·exact .inl rfl
  ·exact .inr (gM _ B)
def Fr.refl (D:ak->Prop)(B:St):Fr D B B:=⟨a4 _,λu u u=>rfl⟩
def Fr.trans {a b c:St}(x:Fr D a b)(y:Fr D b c):Fr D a c:=
 ⟨dW x.len y.len,λi E B=>(y.keep i (gQ E x.len) B).trans (x.keep i E B)⟩
def Fr.mono {D':ak->Prop}{a b:St}(x:Fr D a b)(h:∀i,D i->D' i):Fr D' a b:=⟨x.len,λi E B=>x.keep i E λF=>B (h i F)⟩
def Fr.get {a b:St}(x:Fr D a b)(h:a[i]? =ae o)(hd: ¬ D i):b[i]? =ae o:=by
 rw[x.keep i (cF.mp h).1 hd];exact h
def Fr.app {l:St}:Fr D B (B++l):=⟨by rw[bK];exact AL,λi E u=>lz E⟩
def Fr.set (h:D i):Fr D B (B.set i o):=⟨by rw[eM];exact a4 _,λj u E=>by
 by_cases e:i=j
 ·subst e;exact absurd h E
 ·exact jz e⟩
def Fr.old {D':ak->Prop}{a b c:St}(x:Fr D a b)(y:Fr D' b c)(h:∀i,i < a.length->D' i->D i):Fr D a c:=
 ⟨dW x.len y.len,λi B E=>(y.keep i (gQ B x.len) λF=>E (h i B F)).trans (x.keep i B E)⟩
def gp {a0:AV->St->Prop}{x:aI}{c:ak}(e:O.lookup (aq x)=ae c)(e2:B[c]? =ae (.cell (ae v)))(h:a0 v B):WP (eC x ⟨F,O,I⟩) B a0 E:=EU e e2 h
def y_L {a0:AV->St->Prop}(h:a0 v B)(e:I[i]? =ae (ae v):=by wtm_at "pr"):WP (eL i ⟨F,O,I⟩) B a0 E:=ET e h
def y_pL {a0:ah (ax AV)}(h:QL a0 B)(e:I.set i (ae v)=a0:=by wtm_at "pl"):WP (pL i v ⟨F,O,I⟩) B QL E:=cu e h
def y_C {a0:AV->St->Prop}{x:aI}{c:ak}(h:a0 v B)(e:O.lookup (aq x)=ae c:=by wtm_at "cel")(e2:B[c]? =ae (.cell (ae v)):=by wtm_at "lk"):WP (eC x ⟨F,O,I⟩) B a0 E:=EU e e2 h
def y_pC {x:aI}{c:ak}{v':ax AV}(h:QL I (B.set c (.cell (ae v))))(e:O.lookup (aq x)=ae c:=by wtm_at "cel")(e2:B[c]? =ae (.cell v'):=by wtm_at "lk"):WP (pC x v ⟨F,O,I⟩) B QL E:=nW e e2 h
def x_pAttr {o:DE}{x:aI}(h:WP (o ⟨F,O,I⟩) B (Ez x v I QL E) E):WP (sp o x v ⟨F,O,I⟩) B QL E:=Ri h
def x_Try {QF:FL×ah (ax AV)->St->Prop}{put:DA}{a0:aI->aB}{hd:DS}{o:ah DS}(h:WP (e ⟨F,O,I⟩) B (EC put ⟨F,O,I⟩ o F O QF E) (ED a0 (hd ⟨F,O,I⟩) QF E)):WP (su put e a0 hd o ⟨F,O,I⟩) B QF E:=Rp h
def iF {cs:ah (au×ak)}{a0:AV->St->Prop}{c0:bN}{d0:aB}{e0:DI}{put:DA}{L:ah (ax AV)}(hp:fb c0=aj)(hc:fL ⟨F,O,I⟩ c0.names []=ae cs)(hn:∀cs,kr c0.names cs=P.pure cs)(hL:(c0.names.map λc=>ag)=L)(h:WP (e0 ⟨F,O,I⟩) B (EE d0 elt ifs put ⟨F,cs,L⟩ a0 E) E):WP (d9 c0 d0 e0 put ifs elt ⟨F,O,I⟩) B a0 E:=by
 subst hL;exact Rv hp hc hn h
def v3 {a0:AV->St->Prop}{o:DE}{l:ah DE}(hk:l.length+ks.length < 28)(h:WP (o ⟨F,O,I⟩) B (EB F mm l ks ⟨F,O,I⟩ a0 E) E):WP (bX o mm l ks ⟨F,O,I⟩) B a0 E:=
 EV hk (h.a5 λu u h=>⟨λc=>absurd c h.1,λu=>h.2⟩)
def y_pTup {l:ah DA}(h:WP (jf l vs Q) B QL E)(e:gb v=ae vs:=by wtm_at "pr")(hl:vs.length=l.length:=by wtm_at "pr"):WP (cx l v Q) B QL E:=vR e hl h
abbrev y_Aug {st:St}{E:aI->St->Prop}{QF:FL×ah (ax AV)->St->Prop}{rt:RT}{put:DA}{e x:DE}:=vT (Q:=rt) (B:=st) (a0:=QF) (E:=E) (e:=e) (x:=x) (put:=put) (op:=.Add) (.inl rfl)
abbrev y_Sub {st:St}{E:aI->St->Prop}{QF:FL×ah (ax AV)->St->Prop}{rt:RT}{put:DA}{e x:DE}:=vT (Q:=rt) (B:=st) (a0:=QF) (E:=E) (e:=e) (x:=x) (put:=put) (op:=.Sub) (.inr rfl)
def y_Meth {a0:AV->St->Prop}{o:DE}{l:ah DE}(h:WP (o ⟨F,O,I⟩) B (EB F mm l ks ⟨F,O,I⟩ a0 E) E)(hk:l.length+ks.length < 28:=by decide):WP (bX o mm l ks ⟨F,O,I⟩) B a0 E:=v3 hk h
def Su {a0:AV->St->Prop}{a:fh}{b:aH}{s:bN}{c:ah (au×ak)}(e:B[i]? =ae (.lam a b s c))(h:WP (F (.ref i) args kw) B a0 E):WP (eu ⟨F,O,I⟩ (.ref i) args kw) B a0 E:=
 av (dj e h)
def Sv {a0:AV->St->Prop}{s:ax ak}(e:B[i]? =ae (.iter s k))(h:E "TypeError" B):WP (eu ⟨F,O,I⟩ (.bi "len") [.ref i] []) B a0 E:=mW rfl (av (fF (av (e5 (av (eh (av (dj e (ES h)))))))))
def Ft {a0:AV->St->Prop}(e:B[i]? =ae (.list l))(h:a0 (.ref B.length) (B++[.iter (ae i) 0])):WP (eu ⟨F,O,I⟩ (.bi "iter") [.ref i] []) B a0 E:=mW rfl (av (fF (av (e5 (av (eh (av (dj e (av (eJ (aQ h)))))))))))
def Sw {a0:AV->St->Prop}{s:ax ak}(e:B[i]? =ae (.iter s k))(h:a0 (.ref i) B):WP (eu ⟨F,O,I⟩ (.bi "iter") [.ref i] []) B a0 E:=mW rfl (av (fF (av (e5 (av (eh (av (dj e (aQ h)))))))))
def Sx {a0:AV->St->Prop}(h:a0 (.ref B.length) (B++[.obj])):WP (eu ⟨F,O,I⟩ (.ty "object") [] []) B a0 E:=mX rfl (av (zv (av (e5 (av (eJ (aQ h)))))))
def hU {a0:b8->St->Prop}(e:B[i]? =ae (.list l))(hm:mm= .append\/mm= .extend\/mm= .pop\/mm= .sort)(h:a0 () B):WP (lH (.ref i) mm) B a0 E:=av (dj e (bw hm h))
def js {a0:AV->St->Prop}(e:B[i]? =ae (.list l))(hl:l.length<=4096)(h:a0 .none (B.set i (.list (l++[v])))):WP (e9 F (.ref i) .append [v] []) B a0 E:=
 av (eh (av (fF (av (e5 (av (fD e (av (bw hl (av (k8 (aQ h))))))))))))
def sU {n:au}{x:AV}{l:ah (au×AV)}{a0:AV×ah (au×AV)->St->Prop}(h:a0 (x,l) B):WP (p7 n ((n,x) :: l)) B a0 E:=av (bw rfl (aQ h))
def zy {a0:aB->St->Prop}(h:a0 b B):WP (uH (if b then [(aq "reverse",.bool aj)]else [])) B a0 E:=by
 cases b with
 |false=>exact h
 |true=>exact av (sU h)
def t_t {a0 c0:Prop}(h:a0):(aj=aj->a0)/\(aj=az->c0):=⟨λu=>h,λe=>absurd e (by decide)⟩
def t_f {a0 c0:Prop}(h:c0):(az=aj->a0)/\(az=az->c0):=⟨λe=>absurd e (by decide),λu=>h⟩
def tup2 {a0:AV->St->Prop}{b:AV}(h:a0 (.pair a b) B):WP (oN [a,b]) B a0 E:=h
def tup3 {a0:AV->St->Prop}{b c:AV}(h:a0 (.dB a b c) B):WP (oN [a,b,c]) B a0 E:=h
def zA (h:QB (xy a) B):WP (dQ .Is a .none) B QB E:=h
def tr_none {a0:aB->St->Prop}(h:a0 az B):WP (eE .none) B a0 E:=h
def tr_bool {a0:aB->St->Prop}(h:a0 b B):WP (eE (.bool b)) B a0 E:=h
def tr_int {i:Int}{a0:aB->St->Prop}(h:a0 (i != 0) B):WP (eE (.int i)) B a0 E:=h
def sV {s:au}{a0:aB->St->Prop}(hl:s.length<=4096)(h:a0 (s.length != 0) B):WP (eE (.str s)) B a0 E:=av (bw hl (aQ h))
def px {a0:aB->St->Prop}(e:B[i]? =ae (.list l))(h:a0 (!l.isEmpty) B):WP (eE (.ref i)) B a0 E:=av (dj e (aQ h))
def Sy {l:ah ((au ⊕ Int)×AV)}{a0:aB->St->Prop}(e:B[i]? =ae (.dict l))(h:a0 (!l.isEmpty) B):WP (eE (.ref i)) B a0 E:=av (dj e (aQ h))
def sW {a0:AV->St->Prop}{t:AV}{j:Int}(hj:0<=j/\j < 8)(e:gb t=ae l)(ev:l[j.toNat]? =ae v)(h:a0 v B):WP (ik t (.int j)) B a0 E:=by
 cases t with
 |ref i=>exact nomatch e
 |_=>exact av (w_strict (av (bw hj (av (dU e (dU ev h))))))
def lk_here {x:au}{c:ak}{l:ah (au×ak)}:rA x ((x,c) :: l)=ae c:=by rw[gv];simp
def lk_next {x y:au}{c:ak}{l:ah (au×ak)}(h:(x == y)=az)(k:rA x l=ae d):rA x ((y,c) :: l)=ae d:=by rw[gv,h];exact k
def g_last {α:Type}{B:ah α}{o:α}:(B++[o])[B.length]? =ae o:=by simp
def g_app {α:Type}{B l:ah α}{o:α}(h:B[i]? =ae o):(B++l)[i]? =ae o:=by rw[lz (cF.mp h).1];exact h
def g_ne {α:Type}{B:ah α}{o o':α}(h:j≠i)(h2:B[i]? =ae o):(B.set j o')[i]? =ae o:=by rw[jz h];exact h2
def de {α:Type}{B:ah α}{o o':α}(h:B[i]? =ae o):(B.set i o')[i]? =ae o':=l9 (cF.mp h).1
def ba {α:Type}{B:ah α}{o:α}(h:B[i]? =ae o):i < B.length:=(cF.mp h).1
def cC {α:Type}{B:ah α}{o o':α}(h:B[i]? =ae o)(h2:B[j]? =ae o')(a0:o≠o'):i≠j:=λe=>by subst e;rw[h]at h2;exact a0 (dp h2)
def k9 {B:St}{a0:FL×ah (ax AV)->St->Prop}{put:DA}{c0:ak->ah (ax AV)->St->Prop}{U:AI}{L:ah (ax AV)}(y:Yl G U K)(hl:K.length < 128)(hG:∀k I B,c0 k I B->G B)(h0:c0 0 L B)(hs:∀k v I B,K[k]? =ae v->c0 k I B->WP (put v ⟨F,O,I⟩) B (kL body F O (Left (c0 (k+1)) a0) E) E)(he:∀I B,c0 K.length I B->a0 (.next,I) B):WP (forA body put 128 U ⟨F,O,L⟩) B a0 E:=
 Rr 128 0 U ⟨F,O,L⟩ B y (cZ _) (by exact hl) hG h0 hs he
def mT.mk {x2:ax AV}:mT [x0,x1,x2]:=⟨_,_,_,rfl⟩
def jn.mk {x2:ax AV}:jn [x0,x1,x2,x3]:=⟨_,_,_,_,rfl⟩
def lS.mk {x2:ax AV}:lS [x0,x1,x2,x3,x4]:=⟨_,_,_,_,_,rfl⟩
def lZ {B:St}{QL:ah AV->St->Prop}{put:DA}{a0:ak->ah AV->ah (ax AV)->St->Prop}{U:AI}{L:ah (ax AV)}(y:Yl G U K)(hl:K.length < 128)(hG:∀k acc I B,a0 k acc I B->G B)(h0:a0 0 [] L B)(hs:∀k v acc I B,K[k]? =ae v->a0 k acc I B->WP (put v ⟨F,O,I⟩) B (QE ifs elt F O (a0 (k+1)) acc E) E)(he:∀acc I B,a0 K.length acc I B->QL acc B):WP (cw elt ifs put 128 U ⟨F,O,L⟩ []) B QL E:=
 zt 128 0 U ⟨F,O,L⟩ B [] y (cZ _) (by exact hl) hG h0 hs he
def Sz:∃a0,yS=qw az a0:=⟨_,rfl⟩
def SA:∃a0,yT=qw aj a0:=⟨_,rfl⟩
def v5 {x:AV}{a0:ax (AV×AI)->St->Prop}(h:It B U s j K)(hx:K[j]? =ae x)(q:a0 (ae (x,.obj U)) (B.set U (.iter (ae s) (j+1)))):WP (bx (.obj U)) B a0 E:=by
 refine av (dj h.1 (av (fD h.2 ?_)));rw[hx];exact av (k8 (aQ q))
def zB {a0:ax (AV×AI)->St->Prop}(h:It B U s j K)(hx:K.length<=j)(q:a0 ag (B.set U (.iter ag 0))):WP (bx (.obj U)) B a0 E:=by
 refine av (dj h.1 (av (fD h.2 ?_)));rw[rI hx];exact av (k8 (aQ q))
def It.turn (h:It B U s j K):It (B.set U (.iter (ae s) k)) U s k K:=
 ⟨de h.1,g_ne (cC h.1 h.2 (by simp)) h.2⟩
def It.fr (h:It B U s j K)(a0:Fr D B H)(h1: ¬ D U)(h2: ¬ D s):It H U s j K:=⟨a0.get h.1 h1,a0.get h.2 h2⟩
def It.app {l:St}(h:It B U s j K):It (B++l) U s j K:=⟨g_app h.1,g_app h.2⟩
def Fu {I:ah (ax AV)}{B:St}{a0:ah AV->St->Prop}{put:DA}{U d0:AI}{c0:ah AV}(h:WP (bx U) B (λo B=>o=ae (v,d0)/\WP (put v ⟨F,O,I⟩) B (λI B=>mQ ⟨F,O,I⟩ (λc B=>(c=aj->c0.length<=4096/\WP (elt ⟨F,O,I⟩) B (λx B=>WP (cw elt ifs put n d0 ⟨F,O,I⟩ (c0++[x])) B a0 E) E)/\
    (c=az->WP (cw elt ifs put n d0 ⟨F,O,I⟩ c0) B a0 E)) E ifs B) E) E):WP (cw elt ifs put (n+1) U ⟨F,O,I⟩ c0) B a0 E:=
 zr (h.a5 λo B h=>by obtain⟨rfl,h⟩:=h;exact h)
def v7 {B:St}{a0:ah AV->St->Prop}{put:DA}{U:AI}{c0:ah AV}(h:WP (bx U) B (λo B=>o=ag/\a0 c0 B) E):WP (cw elt ifs put (n+1) U ⟨F,O,I⟩ c0) B a0 E:=
 zr (h.a5 λo B h=>by obtain⟨rfl,h⟩:=h;exact h)
def qH {a0:aB->St->Prop}(h:a0 aj B):mQ Q a0 E [] B:=h
def zC:∀{V:ah Int} {K:ah AV} {i j:ak} {r:Int} {x:AV},V[j]? =ae r->K[j]? =ae x->(dh b i V K)[j]? =ae (tr b (i+j) r x):=by
 intro G;induction G with
 |nil=>
  intro _ _ _ _ _ h _;exact nomatch h
 |cons H V F=>
  intro D;cases D with
  |nil=>
   intro _ _ _ _ _ h;exact nomatch h
  |cons _ K=>
   intro i E;cases E with
   |zero=>
    intro _ _ h B;cases h;cases B;rfl
   |succ j=>
    intro r x h B;have:=F (i:=i+1) (j:=j) h B;rw[show i+(j+1)=i+1+j by lia];exact this
def sX:∀{V:ah Int} {K:ah AV} {i:ak},(dh b i V K).length=min V.length K.length:=by
 intro E;induction E with
 |nil=>
  intro K _;cases K <;>exact(IT _).symm
 |cons F V D=>
  intro B;cases B with
  |nil=>
   intro _;exact(IU _).symm
  |cons _ K=>
   intro i;exact(bZ (· +1) D).trans (IV ..).symm
def take_snoc {α:Type}{a0:ah α}{t:α}(h:a0[j]? =ae t):a0.take (j+1)=a0.take j++[t]:=by
 rw[AP,h];rfl
def SD:ec b i+stepI b=ec b (i+1):=by cases b <;>simp[ec,stepI]<;>lia
def SE {a0:ax (AV×AI)->St->Prop}{c d:Int}{m:ak}{x:AV}(h:It B U s j K)(hx:K[j]? =ae x)(q:a0 (ae (.pair (.int c) x,.zip (.range (c+d) m d) (.obj U))) (B.set U (.iter (ae s) (j+1)))):WP (bx (.zip (.range c (m+1) d) (.obj U))) B a0 E:=
 av (aQ (av (v5 h hx (aQ q))))
def Fv {a0:ax (AV×AI)->St->Prop}{c d:Int}(q:a0 ag B):WP (bx (.zip (.range c 0 d) (.obj U))) B a0 E:=av (aQ (aQ q))
def SF {a0:ax (AV×AI)->St->Prop}{c d:Int}{m:ak}(h:It B U s j K)(hx:K.length<=j)(q:a0 ag (B.set U (.iter ag 0))):WP (bx (.zip (.range c (m+1) d) (.obj U))) B a0 E:=
 av (aQ (av (zB h hx (aQ q))))
def jP.call {a0:AV->St->Prop}(h:jP B T)(q:WP (F T args []) B a0 E):WP (eu ⟨F,O,I⟩ T args []) B a0 E:=by
 obtain⟨i,a,e,G,D,rfl,h⟩:=h;exact Su h q
def iU.turn {JE:St->Prop}(ko:iU F T D J JE K V)(h:J j B)(hd: ¬ D U):J j (B.set U o):=
 ko.zf j B _ h (by rw[eM];exact a4 _) λi E=>jz λe=>hd (by rw[e];exact E)
def iU.app {JE:St->Prop}{l:St}(ko:iU F T D J JE K V)(h:J j B):J j (B++l):=
 ko.zf j B _ h (by rw[bK];exact tn _ _) λi E=>lz (ko.inside j B h i E)
def SG {JE:St->Prop}{c:ak}{a0:ah AV->St->Prop}(ko:iU F T D J JE K V)(e0:∀j B,J j B->jP B T)(d0: ¬ D U)(hs: ¬ D s)(hc: ¬ D c)(hn:n<=4)(q:∀H,Fr (With D U) df H->min n K.length<=V.length->J (min n K.length) H->H[c]? =ae (.cell (ae T))->(n<=K.length->It H U s n K)->(K.length < n->H[U]? =ae (.iter ag 0))->a0 (((dh b 0 V K).take (min n K.length)).map tv) H)(e:∀H,Fr (With D U) df H->V.length < K.length->JE H->It H U s (V.length+1) K->E "AttributeError" H):
  ∀(m j c0:ak) (B:St) (x0 x1 x2 x3:ax AV),m < c0->j+m=n->j<=V.length->It B U s j K->J j B->B[c]? =ae (.cell (ae T))->Fr (With D U) df B->
  WP (cw yN [] (cx [(pL 1),(pL 2)]) c0 (.zip (.range (ec b j) m (stepI b)) (.obj U)) ⟨F,[(aq "key",c)],[x0,x1,x2,x3]⟩ (((dh b 0 V K).take j).map tv)) B a0 E:=by
 intro m;induction m with
 |zero=>
  intro j c0 B x0 x1 x2 x3 z u W S w G f;cases c0 with
  |zero=>exact XX 1 0 (CH 1 0 0 0 z ZZ) rfl
  |succ c0=>
   refine v7 (Fv ⟨rfl,?_⟩);obtain Y:=ko.le;have:j=n:=by exact AN ((EL u)) ((EG u))
   subst this;have e1:min j K.length=j:=by exact AN (ML) ((LN (TT W ko.le)))
   have:=q B f;rw[e1]at this;exact this W w G (λv=>S) λh=>by exact XX 1 0 (CH 0 0 1 0 (CH 0 0 0 0 W Y) h) rfl
 |succ m ih=>
  intro j c0 B x0 x1 x2 x3 z u W S w G f;cases c0 with
  |zero=>exact XX 1 0 (CH 1 0 0 0 z ZZ) rfl
  |succ c0=>
   obtain Y:=ko.le;obtain M:∀o,Fr (With D U) B (B.set U o):=λo=>Fr.set (Or.inr rfl);obtain L:U≠c:=cC S.1 G (by simp);cases Z:K[j]? with
   |none=>
    obtain A:K.length<=j:=nq.mp Z;refine v7 (SF S A ⟨rfl,?_⟩);have e1:min n K.length=j:=by exact AN (TT MR A) (TT W (TT ko.le (LO (TT A (TT AL (EL u))))))
    have:=q _ (f.trans (M (.iter ag 0)));rw[e1]at this;exact this W (ko.turn w d0) (g_ne L G) (λh=>by lia) λv=>de S.1
   |some x=>
    refine Fu (SE S Z ⟨rfl,?_⟩);obtain A:j < K.length:=(cF.mp Z).1;obtain N:=S.turn (k:=j+1);obtain R:=ko.turn (o:=.iter (ae s) (j+1)) w d0;obtain X:(B.set U (.iter (ae s) (j+1)))[c]? =ae (.cell (ae T)):=g_ne L G;obtain O:=f.trans (M (.iter (ae s) (j+1)));generalize B.set U (.iter (ae s) (j+1))=a7 at N R X O;wtm_at "r";refine qH ?_;refine t_t ?_;refine⟨by rw[aO,er];lia,?_⟩;unfold yN;wtm_at "r";refine(e0 _ _ R).call ((ko.call j x a7 Z R).mono (λv I h=>?_) λk I h=>?_)
    ·obtain⟨r,l,rfl,h3,h4⟩:=h;wtm_at "r";obtain h5:Fr (With D U) a7 I:=h4.mono λi hi=>Or.inl hi;have e3:((dh b 0 V K).take j).map tv++[.dB (.int r) (.int (ec b j)) x]=((dh b 0 V K).take (j+1)).map tv:=by
      rw[take_snoc (zC l Z),dH,ke];rfl
     rw[e3,SD];exact ih (j+1) c0 I _ _ _ _ (by exact FI 2 1 1 0 z rfl) (by lia) (ba l) (N.fr h4 d0 hs) h3 (h4.get X hc) (O.trans h5)
    ·obtain⟨rfl,l,h2,h3⟩:=h;subst l;exact e I (O.trans (h3.mono λi hi=>Or.inl hi)) A h2 (N.fr h3 d0 hs)
def SH {k t:Int}(h1:I[i]? =ae (ae (.int t)))(h2:I[j]? =ae (ae (.int k)))(q:QB (bg b k t) B):
  WP ((if b then aR .Lt (eL i) (eL j)else aR .Lt (eL j) (eL i)) ⟨F,O,I⟩) B QB E:=by
 cases b with
 |false=>exact w_tCmp (aM h2 (aM h1 (c_lt q)))
 |true=>exact w_tCmp (aM h1 (aM h2 (c_lt q)))
def SI {a0:FL×ah (ax AV)->St->Prop}{o:ak}{c0:ah (ax AV)}(h1:I[i]? =ae (ae (.int (ec b o))))(hl:I.set i (ae (.int (ec b (o+1))))=c0)(q:a0 (.next,c0) B):
  WP (o8 (pL i) (eL i) (if b then .Sub else .Add) (eK (.int 1)) ⟨F,O,I⟩) B a0 E:=by
 subst hl;cases b with
 |false=>exact vT (.inl rfl) (aM h1 (w_strict (w_K (w_strict (b_add (cu rfl q))))))
 |true=>
  refine vT (.inr rfl) (aM h1 (w_strict (w_K (w_strict (b_sub (cu rfl ?_))))));have:ec aj o - 1=ec aj (o+1):=by simp[ec];lia
  rw[this];exact q
def qy.succ {o:ak}(h:qy b o S):qy b (o+1) S:=λx B=>by
 have:=h x B;cases b with
 |false=>
  have h:x.2.1 < (o:Int):=this;show x.2.1 < ((o+1:ak):Int)
  lia
 |true=>
  have h: -(o:Int) < x.2.1:=this;show -((o+1:ak):Int) < x.2.1
  lia
def SJ {JE:St->Prop}{c r:ak}{a0:FL×ah (ax AV)->St->Prop}(ko:iU (FN (k0+3)) T D J JE K V)(l0:∀j B,J j B->jP B T)(e0: ¬ D U)(hs: ¬ D s)(hc: ¬ D c)(hr: ¬ D r)(f0:r≠U)(s0:r≠s)(n1:AV)(g x4 x6:ax AV)(q:∀H lJ L S,Fr (With (With D U) r) df H->K.length=V.length->J K.length H->H[U]? =ae (.iter ag 0)->Hp H r L->kT b n L S (V.zip K)->lJ[5]? =ae (ae (.ref r))->a0 (.next,lJ) H)(e:∀H,Fr (With (With D U) r) df H->V.length < K.length->JE H->It H U s (V.length+1) K->E "AttributeError" H):
  ∀(c0 j o:ak) (B:St) (L S:ah Tr) (d0:Int) (x7 bS f Y:ax AV),K.length < c0+j->j<=V.length->It B U s j K->J j B->B[c]? =ae (.cell (ae T))->Fr (With (With D U) r) df B->
  kT b n L S ((V.zip K).take j)->Hp B r L->(L.map (·.1)).head? =ae d0->qy b o S->
  WP (forA (sq (yO b)) (pL 7) c0 (.obj U) ⟨FN (k0+3),[(aq "key",c)],[ae n1,g,ag,ae (.ref U),x4,ae (.ref r),x6,x7,ae (.int d0),ae (.int (ec b o)),ae (.fn (aq (if !b then "_heapreplace_max" else "heapreplace"))),bS,f,Y,ag,ag,ag,ag,ag,ag,ag,ag,ag,ag,ag]⟩) B a0 E:=by
 intro c0;induction c0 with
 |zero=>
  intro j o B L S d0 x7 bS f Y hm hj w hJ O hf R hp W ho;have:=ko.le;lia
 |succ c0 ih=>
  intro j o B L S d0 x7 bS f Y hm hj w hJ O hf R hp W ho;obtain z:=ko.le;obtain X:∀o,Fr (With (With D U) r) B (B.set U o):=λo=>Fr.set (Or.inl (Or.inr rfl));obtain o0:U≠c:=cC w.1 O (by simp);obtain u0:r≠c:=cC hp O (by simp);cases hx:K[j]? with
  |none=>
   obtain hl:K.length<=j:=nq.mp hx;refine sR (zB w hl ⟨rfl,?_⟩);have e1:j=K.length:=by exact AN (TT hj z) (hl)
   subst e1;obtain e2:(V.zip K).take K.length=V.zip K:=gy (by rw[p3];exact MR);rw[e2]at R;exact q _ _ L S (hf.trans (X (.iter ag 0))) (by exact AN (hj) (z)) (ko.turn hJ e0) (de w.1) (g_ne (AD f0) hp) R rfl
  |some x=>
   refine vY (v5 w hx ⟨rfl,?_⟩);obtain hl:j < K.length:=(cF.mp hx).1;obtain Z:=w.turn (k:=j+1);obtain l:=ko.turn (o:=.iter (ae s) (j+1)) hJ e0;obtain n0:(B.set U (.iter (ae s) (j+1)))[c]? =ae (.cell (ae T)):=g_ne o0 O;obtain A:=hf.trans (X (.iter (ae s) (j+1)));obtain g0:Hp (B.set U (.iter (ae s) (j+1))) r L:=g_ne (AD f0) hp;generalize B.set U (.iter (ae s) (j+1))=a7 at Z l n0 A g0;unfold yO;wtm_at "r";refine(l0 _ _ l).call ((ko.call j x a7 hx l).mono (λv G h=>?_) λk G h=>?_)
   ·obtain⟨N,h1,rfl,h3,h4⟩:=h;wtm_at "r";obtain h5:Fr (With (With D U) r) a7 G:=h4.mono λi hi=>Or.inl (Or.inl hi);obtain m0:=A.trans h5;obtain M:Hp G r L:=h4.get g0 hr;obtain u:=Z.fr h4 e0 hs;obtain p0:=h4.get n0 hc;obtain hz:(V.zip K).take (j+1)=(V.zip K).take j++[(N,x)]:=take_snoc (uv.mpr ⟨h1,hx⟩)
    match L,R,M,W with
    | [],R,M,W=>cases W
    |Q :: L,R,M,W=>
     obtain W:Q.1=d0:=dp W;subst W;refine SH rfl rfl ⟨λhb=>?_,λhb=>?_⟩
     ·obtain⟨hd,S',F,r0⟩:=R.swap (e:=x) hb (o:=ec b o) (λy hy=>ho y hy);wtm_at "r";refine Sa (g:=!b) (t:=(N,ec b o,x)) M rfl (by have:=R.heap.len;exact FI 0 4 1 60 this.2 rfl) hd ?_;obtain I:Hp (G.set r (.list ((cN (!b) ((N,ec b o,x) :: L) 0).map tv))) r (cN (!b) ((N,ec b o,x) :: L) 0):=M.set;show jO _ _ _ (G.set r (.list ((cN (!b) ((N,ec b o,x) :: L) 0).map tv)));obtain j0:It (G.set r (.list ((cN (!b) ((N,ec b o,x) :: L) 0).map tv))) U s (j+1) K:=⟨g_ne f0 u.1,g_ne s0 u.2⟩;obtain h0:=ko.turn (U:=r) (o:=.list ((cN (!b) ((N,ec b o,x) :: L) 0).map tv)) h3 hr;obtain m:(G.set r (.list ((cN (!b) ((N,ec b o,x) :: L) 0).map tv)))[c]? =ae (.cell (ae T)):=g_ne u0 p0;obtain i0:=m0.trans (Fr.set (D:=With (With D U) r) (i:=r) (o:=.list ((cN (!b) ((N,ec b o,x) :: L) 0).map tv)) (Or.inr rfl));generalize G.set r (.list ((cN (!b) ((N,ec b o,x) :: L) 0).map tv))=bk at I j0 h0 m i0;generalize cN (!b) ((N,ec b o,x) :: L) 0=L3 at I F
      match L3,I,F with
      | [],I,F=>exact F.heap.elim
      |t3 :: L3,I,F=>
      wtm_at "r";refine I.at (p:=0) rfl (by decide) ?_;unfold tv;wtm_at "r";refine SI rfl rfl ?_;simp only[gz,gA];wtm_at "r";rw[<-hz]at F;exact ih (j+1) (o+1) bk _ S' t3.1 _ _ _ _ (by lia) (ba h1) j0 h0 m i0 F I rfl (λy hy=>by
       rcases r0 y hy with rfl |hy
       ·cases b with
        |false=>exact iZ.2 (jD o)
        |true=>exact Ao (iZ.2 (jD o))
       ·exact ho.succ y hy)
     ·obtain F:=R.skip (e:=x) hb;rw[<-hz]at F;wtm_at "r";exact ih (j+1) o G _ S Q.1 _ _ _ _ (by lia) (ba h1) u h3 p0 m0 F M rfl ho
   ·obtain⟨rfl,h1,h2,h3⟩:=h;subst h1;exact e G (A.trans (h3.mono λi hi=>Or.inl (Or.inl hi))) hl h2 (Z.fr h3 e0 hs)
def Fw {g:aB}:∀{l:ah Tr},l.length<=4->(cN g l 0).Perm l
 | [],_=>.refl _
 | [a],_=>.refl _
 | [a,b],_=>by
  rw[E8];split
  ·exact .refl _
  ·exact .swap ..
 | [a,b,c],_=>by
  rw[E9];split <;>split
  ·exact .refl _
  ·exact .swap ..
  ·exact .refl _
  ·exact sS
 | [a,b,c,d],_=>by
  rw[Fb];split
  ·split
   ·split
    ·exact .refl _
    ·exact .swap ..
   ·exact Fh
  ·split
   ·exact .refl _
   ·exact(sS (a:=a) (b:=b) (c:=c)).append_right [d]
 |_ :: _ :: _ :: _ :: _ :: _,h=>by simp at h
def SK {g:aB}{a b c d:Tr}:(cN g [a,b,c,d] 1).Perm [a,b,c,d]:=by
 rw[Fc];split
 ·exact .refl _
 ·exact .cons a (sS (a:=b) (b:=c) (c:=d))
def Fx {g:aB}{m:ak}{l:ah Tr}(h:l.length<=4)(h2:m<=l.length / 2):(eW g m l).Perm l:=by
 rcases m with _ |_ |_ |m
 ·exact .refl _
 ·exact Fw h
 ·have B:l.length=4:=by lia
  rcases l with _ |⟨a,_ |⟨b,_ |⟨c,_ |⟨d,_ |⟨_,_⟩⟩⟩⟩⟩
  ·cases B
  ·cases B
  ·cases B
  ·cases B
  ·exact(Fw (by rw[Fd];exact a4 _)).trans SK
  ·simp at B
 ·lia
def SM {g:aB}{l:ah Tr}(h4:l.length<=4)(hd:dN l):∀m,m<=l.length / 2->∀l2,l2.length=l.length->eW g m l2=eW g (l.length / 2) l->dN l2:=by
 intro m G l2 E D;obtain B:=Fx (g:=g) (m:=m) (l:=l2) (by exact TT (EL E) h4) (by lia);obtain F:=Fx (g:=g) (m:=l.length / 2) (l:=l) h4 (a4 _);rw[D]at B;exact hd.perm (F.symm.trans B)
def SN:∀(ys S:ah (Int×AV)),S.length+ys.length<=n->ys.foldl (λS x=>(bV b x S).take n) S=ys.foldl (λS x=>bV b x S) S:=by
 intro l;induction l with
 |nil=>
  intro S _;exact rfl
 |cons y ys B=>
  intro S h;rw[fq]at h;show ys.foldl _ ((bV b y S).take n)=ys.foldl _ (bV b y S);rw[gy (by rw[zx];lia)];exact B _ (by rw[zx];lia)
def v8 (h:ys.length<=n):fy b n ys=ys.foldl (λS x=>bV b x S) []:=SN ys [] (by simpa using h)
def SO:fy b (min n ys.length) ys=fy b n ys:=by
 by_cases h:n<=ys.length
 ·rw[m8 h]
 ·rw[tM (by exact FI 1 0 0 0 (NG h) rfl),v8 (a4 _),v8 (by exact FI 1 0 0 0 (NG h) rfl)]
def view:∀(j:ak),j<=V.length->V.length<=K.length->∃S,gJ b S/\((dh b 0 V K).take j).Perm S/\S.map kv=((V.zip K).take j).foldl (λS x=>bV b x S) []/\qy b j S:=by
 intro M;induction M with
 |zero=>
  intro _ _;exact⟨[],Bz,.refl _,rfl,λu h=>nomatch h⟩
 |succ j O=>
  intro h F;obtain⟨S,L,N,J,D⟩:=O (by exact FI 1 0 0 0 h rfl) F;obtain E:=cy (show j < V.length by exact h);obtain G:=cy (show j < K.length by exact TT h F);obtain H:=take_snoc (zC (b:=b) (i:=0) E G);obtain I:(V.zip K).take (j+1)=(V.zip K).take j++[(V[j],K[j])]:=take_snoc (uv.mpr ⟨E,G⟩);rw[ke]at H;refine⟨iB b (tr b j V[j] K[j]) S,Fk L (λy B=>D y B),?_,?_,?_⟩
  ·rw[H];exact(Bx.trans (N.cons _)).trans pv.symm
  ·rw[I,uu,zw,J];rfl
  ·intro y B;rcases bu.mp (pv.mem_iff.mp B)with rfl |B
   ·cases b with
    |false=>exact iZ.2 (jD j)
    |true=>exact Ao (iZ.2 (jD j))
   ·exact D.succ y B
def SP (h1:1<=n)(h4:n<=4)(hn:n<=V.length)(a0:V.length<=K.length):dN ((dh b 0 V K).take n)/\∃S,kT b n (eW (!b) (((dh b 0 V K).take n).length / 2) ((dh b 0 V K).take n)) S ((V.zip K).take n)/\qy b n S:=by
 obtain⟨S,F,D,H,J⟩:=view (b:=b) n hn a0;have B:((dh b 0 V K).take n).length=n:=by rw[er,sX];lia
 obtain E:dN ((dh b 0 V K).take n):=F.dist.perm D.symm;obtain⟨G,I⟩:=Sd (g:=!b) (by rw[B];exact h1) (by rw[B];exact h4) E;refine⟨E,S,⟨G,F,I.trans D,?_,by rw[<-D.length_eq,B]⟩,J⟩;rw[H,v8 (by rw[er];exact ML)]
theorem SQ {lt:Int->Int->aB}{x y:Int×AV}(hl:lt=bg b):∀{l:ah (Int×AV)},sortBy.cf (λp q=>lt p.1 q.1) x (bV b y l)=bV b y (sortBy.cf (λp q=>lt p.1 q.1) x l):=by
 intro G;induction G with
 |nil=>
  subst hl;show(if bg b y.1 x.1 then y :: [x]else x :: [y])=(if bg b y.1 x.1 then y :: [x]else x :: [y]);rfl
 |cons c l E=>
  intros c l _ E;obtain E:=E;subst hl;show sortBy.cf _ x (if bg b y.1 c.1 then y :: c :: l else c :: bV b y l)=bV b y (if bg b c.1 x.1 then c :: sortBy.cf _ x l else x :: c :: l);by_cases B:bg b y.1 c.1=aj <;>by_cases D:bg b c.1 x.1=aj
  ·rw[aN B,aN D];have F:bg b y.1 x.1=aj:=by
    unfold bg at *;cases b <;>simp at * <;>lia
   show(if bg b y.1 x.1 then y :: (if bg b c.1 x.1 then c :: sortBy.cf _ x l else x :: c :: l)else x :: y :: c :: l)=(if bg b y.1 c.1 then y :: c :: sortBy.cf _ x l else c :: bV b y (sortBy.cf _ x l));rw[aN F,aN D,aN B]
  ·rw[aN B,aK D];show(if bg b y.1 x.1 then y :: (if bg b c.1 x.1 then c :: sortBy.cf _ x l else x :: c :: l)else x :: y :: c :: l)=(if bg b y.1 x.1 then y :: x :: c :: l else x :: (if bg b y.1 c.1 then y :: c :: l else c :: bV b y l));rw[aK D,aN B]
  ·rw[aK B,aN D];show(if bg b c.1 x.1 then c :: sortBy.cf _ x (bV b y l)else x :: c :: bV b y l)=(if bg b y.1 c.1 then y :: c :: sortBy.cf _ x l else c :: bV b y (sortBy.cf _ x l));rw[aN D,aK B,E]
  ·rw[aK B,aK D];have F: ¬ bg b y.1 x.1=aj:=by
    unfold bg at *;cases b <;>simp at * <;>lia
   show(if bg b c.1 x.1 then c :: sortBy.cf _ x (bV b y l)else x :: c :: bV b y l)=(if bg b y.1 x.1 then y :: x :: c :: l else x :: (if bg b y.1 c.1 then y :: c :: l else c :: bV b y l));rw[aK D,aK F,aK B]
def SR {lt:Int->Int->aB}{x:Int×AV}(hl:lt=bg b):∀(ys l:ah (Int×AV)),ys.foldl (λS x=>bV b x S) (sortBy.cf (λp q=>lt p.1 q.1) x l)=sortBy.cf (λp q=>lt p.1 q.1) x (ys.foldl (λS x=>bV b x S) l):=by
 intro l;induction l with
 |nil=>
  intro _;exact rfl
 |cons y ys B=>
  intro l;show ys.foldl _ (bV b y (sortBy.cf _ x l))=_;rw[<-SQ hl,B];rfl
def SX {lt:Int->Int->aB}(hl:lt=bg b):∀(ys:ah (Int×AV)),sortBy (λp q=>lt p.1 q.1) ys=ys.foldl (λS x=>bV b x S) []:=by
 intro l;induction l with
 |nil=>
  exact rfl
 |cons y ys B=>
  show sortBy.cf _ y (sortBy _ ys)=ys.foldl _ (bV b y []);rw[B,<-SR hl ys];rfl
def SY:∀(ys:ah (Int×AV)) (p:Int×AV),ys.foldl (λS x=>(bV b x S).take 1) [p]=[iV b ys p]:=by
 intro D;induction D with
 |nil=>
  intro p;exact rfl
 |cons y ys B=>
  intro p;show ys.foldl _ ((if bg b y.1 p.1 then y :: [p]else p :: [y]).take 1)=_;have:(if bg b y.1 p.1 then y :: [p]else p :: [y]).take 1=[if bg b y.1 p.1 then y else p]:=by split <;>rfl
  rw[this,B];rfl
def zD {a0:AV->St->Prop}(hG:Gv w B A s K)(q:∀U l,It (B++l) U s 0 K->(w=aj->U=A)->(w=az->U=B.length)->a0 (.ref U) (B++l)):WP (eu ⟨F,O,I⟩ (.bi "iter") [.ref A] []) B a0 E:=by
 cases w with
 |true=>
  obtain hG:It B A s 0 K:=hG;refine Sw hG.1 ?_;have:=q A [] (by rw[fT];exact hG) (λu=>rfl) (λh=>nomatch h);rw[fT]at this;exact this
 |false=>
  obtain⟨rfl,h⟩:s=A/\B[A]? =ae (.list K):=hG;exact Ft h (q B.length _ ⟨g_last,g_app h⟩ (λh=>nomatch h) λu=>rfl)
def S2 {a0:AV->St->Prop}{r:ak}(hp:Hp B r L)(h4:L.length<=4)(hs:gJ b S)(c0:L.Perm S)(q:a0 .none (B.set r (.list (S.map tv)))):
  WP (e9 F (.ref r) .sort [] (if b then [(aq "reverse",.bool aj)]else [])) B a0 E:=by
 exact av (eh (av (zv (av (zy (av (fD hp (av (Sm (b:=b) h4 hs c0 (av (k8 (aQ q))))))))))))
def S3 {a0:ah (au×AV)->St->Prop}(q:a0 (if b then [(aq "reverse",.bool aj)]else []) B):
  WP (fV (if b then [(aq "reverse",(eK (.bool aj)))]else []) ⟨F,O,I⟩) B a0 E:=by
 cases b with
 |false=>exact w_kws_nil q
 |true=>exact w_kws_cons (w_K (w_kws_nil q))
theorem S4 {B:St}{a0:AV->St->Prop}{r:ak}(hp:Hp B r L)(hH:kT b n L S ys)(hl:I[5]? =ae (ae (.ref r)))(q:a0 (.ref B.length) (B.set r (.list (S.map tv))++[.list ((fy b n ys).map (·.2))])):
  WP (sq [b9 (bX (eL 5) .sort [] (if b then [(aq "reverse",(eK (.bool aj)))]else [])),
   bL (d9 (eH [(".0",.local),("k",.local),("order",.local),("elem",.local)]) aj (iA (eL 5)) (cx [(pL 1),(pL 2),(pL 3)]) [] (eL 3))] ⟨F,O,I⟩) B (λx B=>WP (eQ x.1) B a0 E) E:=by
 refine x_sq (x_Expr (v3 (by cases b <;>decide) (aM hl ⟨(λh=>nomatch h.2),hU hp (.inr (.inr (.inr rfl))) (w_evs_nil (S3 (S2 hp hH.heap.len.2 hH.sorted hH.perm (n_next ?_))))⟩)));obtain J:Hp (B.set r (.list (S.map tv))) r S:=hp.set;refine x_sq (x_Ret (iF (cs:=[]) (L:=[ag,ag,ag,ag]) (by decide +kernel) rfl (λu=>rfl) rfl (w_iA (aM hl (fg J ⟨rfl,?_⟩)))));refine lZ (G:=λH=>H=B.set r (.list (S.map tv))) (a0:=λk D I H=>D=(S.map (·.2.2)).take k/\H=B.set r (.list (S.map tv))/\jn I) (K:=S.map tv)
  (Yl.gK λH e=>by rw[e];exact J) (by have:=hH.heap.len;have:=hH.perm.length_eq;rw[aO];lia) (λu u u u h=>h.2.1) ⟨rfl,rfl,jn.mk⟩ ?_ ?_
 ·intros _ k v D T H _ G N;obtain⟨rfl,rfl,R⟩:=N;obtain (⟨X,V,Y,W,rfl⟩):=R;rw[dA]at G;cases K:S[k]? with
  |none=>rw[K]at G;cases G
  |some t=>
   intros t _ K;rw[K]at G;cases G;unfold tv;wtm_at "r";refine qH ?_;refine t_t ?_;refine⟨by have:=hH.heap.len;have:=hH.perm.length_eq;rw[er,aO];lia,?_⟩;wtm_at "r";refine⟨?_,rfl,jn.mk⟩;exact(take_snoc (by rw[dA,K];rfl)).symm
 ·rintro D _ H ⟨rfl,rfl,-⟩;rw[aO];rw[gy (by rw[aO];exact a4 _)];have M:S.length<=4:=by have:=hH.heap.len;have:=hH.perm.length_eq;lia
  refine bp (by rw[aO];exact FI 0 4 0 4096 M rfl) (n_ret (r_ret ?_));have U:S.map (·.2.2)=(fy b n ys).map (·.2):=by rw[<-hH.sel,oL];rfl
  rw[U,eM];exact q
def S5 {a0:AV->St->Prop}(h:I[i]? =ae (ae (.int n)))(q:a0 (.int (ec b n)) B):WP ((if b then iR (eL i)else eL i) ⟨F,O,I⟩) B a0 E:=by
 cases b with
 |false=>exact aM h q
 |true=>exact w_Neg (aM h (w_strict q))
def S6 {a0:AS->St->Prop}(h:I[i]? =ae (ae (.int n)))(h4:n<=4)(q:a0 (.range (ec b 0) n (stepI b)) B):
  WP (iT (if b then [(eK (.int 0)),(iR (eL i)),(iR (eK (.int 1)))]else [(eL i)]) ⟨F,O,I⟩) B a0 E:=by
 cases b with
 |false=>exact w_rRange (w_evs_cons (aM h (w_evs_nil (pj (by lia) (by lia) (by rw[eD];exact q)))))
 |true=>exact w_rRange (w_evs_cons (w_K (w_evs_cons (w_Neg (aM h (w_strict (w_evs_cons (w_Neg (w_K (w_strict (w_evs_nil (EY (by lia) (by lia) (by rw[HL,eD];exact q)))))))))))))
def S7 {a0:ax (AV×AI)->St->Prop}(h:B[U]? =ae (.iter ag k))(q:a0 ag B):WP (bx (.obj U)) B a0 E:=av (dj h (aQ q))
def jo.of {m:ak}(h1:w=aj->U=A)(hi:qx B U s m K)(hl:w=az->s=A/\B[A]? =ae (.list K)):jo w B A s m K:=by
 cases w with
 |true=>rw[<-h1 rfl];exact hi
 |false=>exact hl rfl
theorem S8 {B:St}{JE:St->Prop}{c:ak}(ko:iU (FN (k0+3)) T D J JE K V)(l0:∀j B,J j B->jP B T)(Y0: ¬ D A)(hs: ¬ D s)(hc: ¬ D c)(h2:2<=n)(h4:n<=4)(hx:K≠[])(W0:K.length<=64)(hJ:J 0 B)(hG:Gv w B A s K)(P0:B[c]? =ae (.cell (ae T))):
  WP (sq (qv b) ⟨FN (k0+3),[(aq "key",c)],[ae (.int n),ae (.ref A),ag,x3,ag,x5,x6,ag,ag,ag,ag,ag,ag,ag,ag,ag,ag,ag,ag,ag,ag,ag,ag,ag,ag]⟩) B
   (λx H=>WP (eQ x.1) H (pd b n D J w A s K V B) (mU D JE w A s K V B)) (mU D JE w A s K V B):=by
 unfold qv;wtm_at "r";refine zD hG ?_;intros _ U l _ hI u N0;obtain e1:∀i,D i->i < B.length:=ko.inside 0 B hJ;have F0: ¬ D U:=by
  cases w with
  |true=>rw[u rfl];exact Y0
  |false=>rw[N0 rfl];exact λh=>by have:=e1 _ h;exact XX 1 0 this rfl
 have o0:∀i,i < B.length->With D U i->DG D w A i:=λi hi h=>by
  rcases h with h |h
  ·exact .inl h
  ·cases w with
   |true=>exact .inr ⟨rfl,h.trans (u rfl)⟩
   |false=>have:=N0 rfl;exact XX 1 0 (CH 1 0 0 0 (CH 1 0 0 0 hi (EG this)) (EG h)) rfl
 have G0:J 0 (B++l):=ko.app hJ;have M0:(B++l)[c]? =ae (.cell (ae T)):=g_app P0;have m:Fr (DG D w A) B (B++l):=Fr.app;obtain k:B.length<=(B++l).length:=m.len;have O:w=az->s=A:=λe=>by subst e;exact hG.1
 generalize B++l=a7 at hI G0 M0 m k;obtain f1:K.length≠0:=λh=>hx (nr.mp h);obtain z0:=ko.le;wtm_at "r";refine iF (cs:=[(aq "key",c)]) (L:=[ag,ag,ag,ag]) (by decide +kernel) (by kernel_rfl) (λv=>by kernel_rfl) rfl ?_;wtm_at "r";refine S6 rfl h4 ?_;wtm_at "r";refine vU hI.1 ⟨rfl,?_⟩;refine SG (b:=b) ko l0 F0 hs hc (n:=n) (df:=a7) h4 ?_ ?_ n 0 128 a7 ag ag ag ag (by exact FI 0 4 1 128 h4 rfl) (by lia) (cZ _) hI G0 M0 (Fr.refl _ _)
 ·intros _ F _ R Y f0 Z0 i0 R0;have u0:1<=min n K.length:=by lia
  have d0:min n K.length<=4:=by exact TT ML h4
  have E0:F[s]? =ae (.list K):=R.get hI.2 (λh=>by
   rcases h with h |h
   ·exact hs h
   ·exact cC hI.1 hI.2 (by simp) h.symm)
  obtain C0:U < F.length:=gQ (ba hI.1) R.len;obtain⟨hd,S0,N,d1⟩:=SP (b:=b) (K:=K) u0 d0 Y z0;have H0:fy b (min n K.length) (V.zip K)=fy b n (V.zip K):=by
   by_cases e:n<=K.length
   ·rw[m8 e]
   ·rw[<-SO (n:=n),p3,show min V.length K.length=K.length by lia]
  obtain y0:n<=K.length->n=min n K.length:=λh=>by exact AN ((LN (h))) (ML)
  obtain I0:K.length < n->min n K.length=K.length:=λh=>by lia
  generalize min n K.length=p at *;have j0:((dh b 0 V K).take p).length=p:=by rw[er,sX];lia
  generalize (dh b 0 V K).take p=E at *;refine bp (by rw[aO];exact CF 0 0 0 4 0 4096 (EL j0) d0 rfl) ?_;have h0:Hp (F++[.list (E.map tv)]) F.length E:=g_last;obtain U0:J p (F++[.list (E.map tv)]):=ko.app f0;have A0:(F++[.list (E.map tv)])[c]? =ae (.cell (ae T)):=g_app Z0;have a0:Fr (DG D w A) B (F++[.list (E.map tv)]):=(m.old R o0).trans Fr.app;have s0: ¬ D F.length:=λh=>by have:=ko.inside _ _ f0 _ h;exact XX 1 0 this rfl
  have g0:F.length≠U:=by exact NT (C0)
  have X:F.length≠s:=by have:=ba E0;exact NT (this)
  have K0:n<=K.length->It (F++[.list (E.map tv)]) U s n K:=λh=>(i0 h).app;obtain c1:K.length < n->(F++[.list (E.map tv)])[U]? =ae (.iter ag 0):=λh=>g_app (R0 h);have L0:(F++[.list (E.map tv)])[s]? =ae (.list K):=g_app E0;have Q0:B.length<=F.length:=by have:=R.len;exact TT k this
  generalize F.length=r at *;generalize F++[.list (E.map tv)]=bk at *;wtm_at "r";have V0:(E.map tv).isEmpty=az:=by
   cases E with
   |nil=>rw[<-j0]at u0;exact absurd u0 (by decide)
   |cons=>rfl
  refine px h0 ?_;rw[V0];refine t_f ?_;wtm_at "r";refine R9 (g:=!b) h0 (by exact CF 0 0 0 4 1 60 (EL j0) d0 rfl) (SM (by exact TT (EL j0) d0) hd) ?_;have Q:Hp (bk.set r (.list ((eW (!b) (E.length / 2) E).map tv))) r (eW (!b) (E.length / 2) E):=h0.set;have v0:=ko.turn (U:=r) (o:=.list ((eW (!b) (E.length / 2) E).map tv)) U0 s0;obtain a1:r≠c:=cC h0 A0 (by simp);obtain b1:(bk.set r (.list ((eW (!b) (E.length / 2) E).map tv)))[c]? =ae (.cell (ae T)):=g_ne a1 A0;have J0:Fr (With (With D U) r) bk (bk.set r (.list ((eW (!b) (E.length / 2) E).map tv))):=Fr.set (.inr rfl);have c0:n<=K.length->It (bk.set r (.list ((eW (!b) (E.length / 2) E).map tv))) U s n K:=λh=>⟨g_ne g0 (K0 h).1,g_ne X (K0 h).2⟩;have W:K.length < n->(bk.set r (.list ((eW (!b) (E.length / 2) E).map tv)))[U]? =ae (.iter ag 0):=λh=>g_ne g0 (c1 h);obtain g1:(bk.set r (.list ((eW (!b) (E.length / 2) E).map tv)))[s]? =ae (.list K):=g_ne X L0;have m0:∀i,i < B.length->With (With D U) r i->DG D w A i:=λi hi h=>by
   rcases h with h |h
   ·exact o0 i hi h
   ·exact XX 1 0 (CH 0 0 1 0 (CH 0 0 0 0 Q0 (EG h)) hi) rfl
  generalize bk.set r (.list ((eW (!b) (E.length / 2) E).map tv))=cO at *;generalize eW (!b) (E.length / 2) E=L at *;wtm_at "r"
  match L,Q,N with
  | [],Q,N=>exact N.heap.elim
  |t0 :: L,Q,N=>
  refine Q.at (p:=0) rfl (by decide) (w_K (sW (by decide) rfl rfl ?_));wtm_at "r";refine S5 rfl ?_;wtm_at "r";have B0:∀(G:St) (I:ah (ax AV)) (L S:ah Tr),Fr (With (With D U) r) bk G->K.length=V.length->J K.length G->G[U]? =ae (.iter ag 0)->Hp G r L->kT b p L S (V.zip K)->I[5]? =ae (ae (.ref r))->
    WP (sq [b9 (bX (eL 5) .sort [] (if b then [(aq "reverse",(eK (.bool aj)))]else [])),
   bL (d9 (eH [(".0",.local),("k",.local),("order",.local),("elem",.local)]) aj (iA (eL 5)) (cx [(pL 1),(pL 2),(pL 3)]) [] (eL 3))] ⟨FN (k0+3),[(aq "key",c)],I⟩) G
   (λx H=>WP (eQ x.1) H (pd b n D J w A s K V B) (mU D JE w A s K V B)) (mU D JE w A s K V B):=by
   intro G I L S M Z f e0 r0 n0 z;refine S4 r0 n0 z ⟨⟨G.length,rfl,?_,?_⟩,Z,?_,?_,?_⟩
   ·have:=M.len;have:=a0.len;exact TT a0.len M.len
   ·rw[<-H0];exact(by simp:∀o:AO,(G.set r (.list (S.map tv))++[o])[G.length]? =ae o) _
   ·exact ko.app (ko.turn f s0)
   ·exact(a0.old (M.trans (Fr.set (i:=r) (.inr rfl))) m0).trans Fr.app
   ·refine jo.of (U:=U) u (.inr ⟨g_app (g_ne g0 e0),a4 _⟩) λe=>⟨O e,?_⟩;rw[<-O e];refine g_app (g_ne X ?_);refine M.get L0 λh=>?_;rcases h with (h |h) |h
    ·exact hs h
    ·have:=ba e0;exact cC hI.1 hI.2 (by simp) h.symm
    ·exact X h.symm
  by_cases hn:n<=K.length
  ·have c0:=c0 hn;obtain O0:n=p:=y0 hn;subst O0;refine vU c0.1 ⟨rfl,?_⟩;refine SJ ko l0 F0 hs hc s0 g0 X (n:=n) (df:=bk) (.int n) (ae (.ref A)) ag x6 (λG I L S M Z f e0 r0 n0 z=>n_next (B0 G I L S M Z f e0 r0 n0 z)) (λG M p0 f w0=>?_) 128 n n cO _ S0 t0.1 _ _ _ _ (by exact CF 0 64 128 0 1 0 W0 AL rfl) Y c0 v0 b1 J0 N Q rfl d1;refine⟨rfl,p0,f,a0.old M m0,jo.of (U:=U) u (.inl w0) λe=>⟨O e,?_⟩⟩;rw[<-O e];exact w0.2
  ·have W:=W (by exact(NG hn));obtain T0:p=K.length:=I0 (by exact(NG hn));subst T0;refine vU W ⟨rfl,?_⟩;refine sR (S7 W ⟨rfl,n_next (B0 cO _ _ S0 J0 (by exact AN (Y) (z0)) v0 W Q ?_ rfl)⟩);rw[gy (by rw[p3];exact MR)]at N;exact N
 ·intros _ F _ R p0 f0 i0;refine⟨rfl,p0,f0,m.old R o0,jo.of (U:=U) u (.inl i0) λe=>⟨O e,?_⟩⟩;rw[<-O e];exact i0.2
def zE {b:AV}{x y:hV}(h1:a8 8 B a=ae x)(h2:a8 8 B b=ae y)(q:QB (bY x y) B):WP (lG a b) B QB E:=by
 refine av (w_get ?_);rw[h1,h2];exact q
def mY {a b:Int}(q:QB (a == b) B):WP (dQ .Eq (.int a) (.int b)) B QB E:=by
 show WP (lG (.int a) (.int b)) B QB E;exact zE (x:=.int a) (y:=.int b) rfl rfl (by rw[bY];exact q)
def drop_cons {α:Type}{a0:ah α}{t:α}(h:a0[j]? =ae t):a0.drop j=t :: a0.drop (j+1):=by
 obtain⟨B,rfl⟩:=cF.mp h;exact oz B
def S9 {JE:St->Prop}{a0:AV->St->Prop}{p0:Int×AV}{d:AV}(ko:iU F T D J JE K V)(d0: ¬ D U)(hs: ¬ D s)(q:∀H,Fr (With D U) df H->K.length=V.length->J K.length H->H[U]? =ae (.iter ag 0)->H[s]? =ae (.list K)->a0 (iV b ((V.zip K).drop 1) p0).2 H)(e:∀H,Fr (With D U) df H->V.length < K.length->JE H->It H U s (V.length+1) K->E "AttributeError" H):
  ∀(c0 j:ak) (B:St) (p:Int×AV),K.length < c0+j->j<=V.length->It B U s j K->J j B->Fr (With D U) df B->iV b ((V.zip K).drop j) p=iV b ((V.zip K).drop 1) p0->
  WP (oQ F T d b c0 (.obj U) (ae p)) B a0 E:=by
 intro n;induction n with
 |zero=>
  intro j B p hm A I l w R;have:=ko.le;lia
 |succ c0 ih=>
  rintro j B ⟨k,v⟩ hm A I l w R;obtain O:=ko.le;obtain G:∀o,Fr (With D U) B (B.set U o):=λo=>Fr.set (Or.inr rfl);cases W:K[j]? with
  |none=>
   have Z:K.length<=j:=nq.mp W;refine av (zB I Z (aQ ?_));have f:j=K.length:=by exact AN (TT A O) (Z)
   subst f;have m:iV b ((V.zip K).drop K.length) (k,v)=(k,v):=by
    rw[kf (by rw[p3];exact MR)];rfl
   rw[m]at R;have:=q _ (w.trans (G (.iter ag 0))) (by exact AN (A) (O)) (ko.turn l d0) (de I.1) (g_ne (cC I.1 I.2 (by simp)) I.2);rw[<-R]at this;exact this
  |some x=>
   refine av (v5 I W ?_);obtain Z:j < K.length:=(cF.mp W).1;have L:=I.turn (k:=j+1);obtain S:=ko.turn (o:=.iter (ae s) (j+1)) l d0;have N:=w.trans (G (.iter (ae s) (j+1)));generalize B.set U (.iter (ae s) (j+1))=a7 at L S N;refine av ((ko.call j x a7 W S).mono (λv2 M h=>?_) λk2 M h=>?_)
   ·obtain⟨r,X,rfl,Y,z⟩:=h;refine av (w_strict ?_);obtain hz:(V.zip K)[j]? =ae (r,x):=uv.mpr ⟨X,W⟩;rw[drop_cons hz]at R;exact ih (j+1) M _ (by lia) (ba X) (L.fr z d0 hs) Y (N.trans (z.mono λi u=>Or.inl u)) R
   ·obtain⟨rfl,X,h2,Y⟩:=h;subst X;exact e M (N.trans (Y.mono λi u=>Or.inl u)) Z h2 (L.fr Y d0 hs)
def Ta {JE:St->Prop}(ko:iU F T D J JE K V)(e:∀H,Fr D df H->V.length < K.length->JE H->E "AttributeError" H):
  ∀(ys:ah AV) (j:ak) (B:St) (a0:ah (Int×AV)->St->Prop),(∀H,Fr D df H->K.length=V.length->J K.length H->a0 ((V.zip K).drop j) H)->K.drop j=ys->j<=V.length->J j B->Fr D df B->WP (nE F T ys) B a0 E:=by
 intro l;induction l with
 |nil=>
  intro j B a0 q L Y U N;have M:=ko.le;have R:K.length<=j:=pV.mp L;have u:j=K.length:=by exact AN (TT Y M) (R)
  subst u;have:=q B N (by exact AN (Y) (M)) U;rw[kf (by rw[p3];exact MR)]at this;exact aQ this
 |cons y ys w=>
  intro j B a0 q L Y U N;have R:j < K.length:=by
   rcases IQ j K.length with h |h
   ·exact h
   ·rw[kf h]at L;cases L
  have O:=cy R;rw[drop_cons O]at L;injection L with I X;rw[I]at O;refine av ((ko.call j y B O U).mono (λo G h=>?_) λk2 G h=>?_)
  ·obtain⟨r,I,rfl,W,k⟩:=h;refine av (w_strict (av (w (j+1) G _ (λS A Z z=>?_) X (ba I) W (N.trans k))));have:=q S A Z z;have b:(V.zip K)[j]? =ae (r,y):=uv.mpr ⟨I,O⟩;rw[drop_cons b]at this;exact sM this
  ·obtain⟨rfl,I,X,W⟩:=h;exact e G (N.trans W) (by exact CF 0 0 1 0 1 0 (EL I) R rfl) X
def zF {a0:b8->St->Prop}(h:jP B T)(q:a0 () B):WP (isCallable T) B a0 E:=by
 obtain⟨i,a,e,F,D,rfl,h⟩:=h;exact av (eh (av (dj h (aQ q))))
theorem Tb {B:St}{d:AV}{a0:AV->St->Prop}(h:jP B T)(q:WP (bx (.obj U)) B (λo B=>∃v c0,o=ae (v,c0)/\WP (F T [v] []) B (λr B=>∃i,r= .int i/\WP (oQ F T d b 64 c0 (ae (i,v))) B a0 E) E) E):
  WP (eu ⟨F,O,I⟩ (.bi (if b then "max" else "min")) [.ref U] [(aq "default",d),(aq "key",T)]) B a0 E:=by
 refine mW (b:=.best b) (by cases b <;>rfl) (av (fF (av (sU (av (sU (av (e5 (av (eh (av (zF h (av (q.a5 λo B h=>?_))))))))))))));obtain⟨v,c0,rfl,h⟩:=h;refine av (h.a5 λr B h=>?_);obtain⟨i,rfl,h⟩:=h;exact av (w_strict h)
def Tc:∀(l:ah (Int×AV)) (p:Int×AV),iV b l p∈p :: l:=by
 intro D;induction D with
 |nil=>
  intro p;exact .head _
 |cons x l B=>
  intro p;show iV b l (if bg b x.1 p.1 then x else p)∈_;have:=B (if bg b x.1 p.1 then x else p);rcases bu.mp this with h |h
  ·rw[h];split
   ·exact .tail _ (.head _)
   ·exact .head _
  ·exact .tail _ (.tail _ h)
def Td {b c:AV}{o:ak}(q:QB az B):WP (dQ .Is (.dB a b c) (.ref o)) B QB E:=q
theorem Te {b:aB}{B:St}{JE:St->Prop}{c:ak}{a0:FL×ah (ax AV)->St->Prop}(ko:iU (FN (k0+3)) T D J JE K V)(c0:∀j B,J j B->jP B T)(j0: ¬ D A)(hs: ¬ D s)(hx:K≠[])(v0:K.length<=64)(ht:∀x∈K,∃a b c,x=AV.dB a b c)(hJ:J 0 B)(hG:Gv w B A s K)(n0:B[c]? =ae (.cell (ae T)))(q:∀v I H,pd b 1 D J w A s K V B v H->a0 (.ret v,I) H):
  WP (sq (yP b) ⟨FN (k0+3),[(aq "key",c)],[ae (.int 1),ae (.ref A),ag,ag,ag,ag,ag,ag,ag,ag,ag,ag,ag,ag,ag,ag,ag,ag,ag,ag,ag,ag,ag,ag,ag]⟩) B a0 (mU D JE w A s K V B):=by
 unfold yP;wtm_at "r";refine zD hG ?_;intros _ U l _ hI M i0;have o0:∀i,D i->i < B.length:=ko.inside 0 B hJ;have O: ¬ D U:=by
  cases w with
  |true=>rw[M rfl];exact j0
  |false=>rw[i0 rfl];exact λh=>by have:=o0 _ h;exact XX 1 0 this rfl
 have Z:∀i,i < B.length->With D U i->DG D w A i:=λi k h=>by
  rcases h with h |h
  ·exact .inl h
  ·cases w with
   |true=>exact .inr ⟨rfl,h.trans (M rfl)⟩
   |false=>have:=i0 rfl;exact XX 1 0 (CH 1 0 0 0 (CH 1 0 0 0 k (EG this)) (EG h)) rfl
 have d0:J 0 (B++l):=ko.app hJ;have o:(B++l)[c]? =ae (.cell (ae T)):=g_app n0;have f:Fr (DG D w A) B (B++l):=Fr.app;have F:w=az->s=A:=λe=>by subst e;exact hG.1
 generalize B++l=a7 at hI d0 o f;have f0:K.length≠0:=λh=>hx (nr.mp h);have w0:=ko.le;wtm_at "r";refine Sx ?_;have X:It (a7++[AO.obj]) U s 0 K:=hI.app;have S:J 0 (a7++[AO.obj]):=ko.app d0;have p0:(a7++[AO.obj])[c]? =ae (.cell (ae T)):=g_app o;have E:Fr (DG D w A) B (a7++[AO.obj]):=f.trans Fr.app;generalize a7++[AO.obj]=bF at X S p0 E;wtm_at "r";refine Tb (c0 _ _ S) ?_;have h0:=cy (show 0 < K.length by exact(NU f0 (ZZ)));refine v5 X h0 ⟨_,_,rfl,?_⟩;have R:=X.turn (k:=0+1);have g0:=ko.turn (o:=.iter (ae s) (0+1)) S O;have G:Fr (With D U) bF (bF.set U (.iter (ae s) (0+1))):=Fr.set (.inr rfl);generalize bF.set U (.iter (ae s) (0+1))=bk at R g0 G;refine(ko.call 0 _ bk h0 g0).mono (λv2 W h=>?_) λk2 W h=>?_
 ·obtain⟨r,u,rfl,h3,m⟩:=h;refine⟨r,rfl,?_⟩;have hz:(V.zip K)[0]? =ae (r,K[0]):=uv.mpr ⟨u,h0⟩;refine S9 ko O hs (df:=W) (p0:=(r,K[0])) (λz N e0 Y l0 u0=>?_) (λz N s0 Y L=>?_) 64 (0+1) W _ (by exact FI 0 64 1 65 v0 rfl) (ba u) (R.fr m O hs) h3 (Fr.refl _ _) rfl
  ·have m0:fy b 1 (V.zip K)=[iV b ((V.zip K).drop 1) (r,K[0])]:=by
    have e1:V.zip K=(r,K[0]) :: (V.zip K).drop 1:=by
     have:=drop_cons hz
     rwa [mq]at this
    rw[e1];exact SY _ _
   have hm:(iV b ((V.zip K).drop 1) (r,K[0])).2∈K:=by
    have hm:=Tc (b:=b) ((V.zip K).drop 1) (r,K[0]);have r0:iV b ((V.zip K).drop 1) (r,K[0])∈V.zip K:=by
     rcases bu.mp hm with h |h
     ·rw[h];exact cD hz
     ·exact wW h
    exact(rB (a:=(iV b ((V.zip K).drop 1) (r,K[0])).1) (b:=(iV b ((V.zip K).drop 1) (r,K[0])).2) r0).2
   obtain⟨a1,a2,a3,ha⟩:=ht _ hm;rw[ha];wtm_at "r";refine Td ?_;wtm_at "r";refine bp (by simp) ?_;refine q _ _ _ ⟨⟨z.length,rfl,?_,?_⟩,e0,ko.app Y,?_,jo.of (U:=U) M (.inr ⟨g_app l0,a4 _⟩) λe=>⟨F e,by rw[<-F e];exact g_app u0⟩⟩
   ·have:=E.len;have:=G.len;have:=m.len;have:=N.len;exact CF 0 0 0 0 0 0 (CH 0 0 0 0 (CH 0 0 0 0 E.len G.len) m.len) N.len rfl
   ·rw[m0];show _=ae (AO.list [(iV b ((V.zip K).drop 1) (r,K[0])).2]);rw[ha];exact g_last
   ·exact(E.old ((G.trans (m.mono λi k=>.inl k)).trans N) Z).trans Fr.app
  ·exact⟨rfl,s0,Y,E.old ((G.trans (m.mono λi k=>.inl k)).trans N) Z,jo.of (U:=U) M (.inl L) λe=>⟨F e,by rw[<-F e];exact L.2⟩⟩
 ·obtain⟨rfl,u,h2,h3⟩:=h;have L:=R.fr h3 O hs;exact⟨rfl,by exact CF 0 0 1 0 1 0 (EL u) (NU f0 (ZZ)) rfl,h2,E.old (G.trans (h3.mono λi k=>.inl k)) Z,jo.of (U:=U) M (.inl (by rw[u];exact L)) λe=>⟨F e,by rw[<-F e];exact L.2⟩⟩
def Tf {B:St}{a0:AV->St->Prop}(e:B[A]? =ae (.list l))(h4:l.length<=4)(h:jP B T)(q:WP (nE F T l) B (λks B=>WP (cz ((sortBy (λx y=>bg b x.1 y.1) ks).map (·.2))) B a0 E) E):
  WP (eu ⟨F,O,I⟩ (.bi "sorted") [.ref A] (if b then [(aq "key",T),(aq "reverse",.bool aj)]else [(aq "key",T)])) B a0 E:=by
 cases b with
 |false=>exact mW (b:=.sorted) rfl (av (fF (av (sU (av (zy (b:=az) (av (eh (av (fD e (av (bw h4 (av (zF h (av (q.a5 λks B h=>h))))))))))))))))
 |true=>exact mW (b:=.sorted) rfl (av (fF (av (sU (av (zy (b:=aj) (av (eh (av (fD e (av (bw h4 (av (zF h (av (q.a5 λks B h=>h))))))))))))))))
def Tg {c:ak}{a0:ah (au×AV)->St->Prop}(c0:B[c]? =ae (.cell (ae T)))(q:a0 (if b then [(aq "key",T),(aq "reverse",.bool aj)]else [(aq "key",T)]) B):
  WP (fV (if b then [(aq "key",(eC "key")),(aq "reverse",(eK (.bool aj)))]else [(aq "key",(eC "key"))]) ⟨F,[(aq "key",c)],I⟩) B a0 E:=by
 cases b with
 |false=>exact w_kws_cons (gp lk_here c0 (w_kws_nil q))
 |true=>exact w_kws_cons (gp lk_here c0 (w_kws_cons (w_K (w_kws_nil q))))
def zG {a0:ax Int->St->Prop}(h:a0 ag B):WP (oO ag) B a0 E:=h
def zH {j:Int}{a0:ax Int->St->Prop}(h:a0 (ae j) B):WP (oO (ae (.int j))) B a0 E:=h
def Fy {r:ah AV}{a b:ax Int}{a0:AV->St->Prop}(g:nD a=aj/\nD b=aj)(hl:l.length<=4096)(hr:(l.take (ix l.length l.length b)).drop (ix 0 l.length a)=r)(q:a0 (.ref B.length) (B++[.list r])):WP (uD l a b) B a0 E:=by
 subst hr;exact av (bw g (bp (by rw[IW,er];exact TT SB (TT MR hl)) q))
def zI {m:ak}(hm:m < 2 ^ 62):nD (ae (m:Int))=aj:=by
 unfold nD;rw[cW];exact⟨i7 (wq m),i7 (by lia)⟩
def FA {m:ak}{α:Type}{l:ah α}:l.take (min m l.length)=l.take m:=by
 by_cases h:m<=l.length
 ·rw[m8 h]
 ·rw[tM (by exact FI 1 0 0 0 (NG h) rfl),gy (a4 _),gy (by exact FI 1 0 0 0 (NG h) rfl)]
def FC {m:ak}{a0:AV->St->Prop}(e:B[i]? =ae (.list l))(hl:l.length<=4096)(hm:m < 2 ^ 62)(q:a0 (.ref B.length) (B++[.list (l.take m)])):WP (km (.ref i) ag (ae (.int m))) B a0 E:=by
 obtain D:(m:Int).toNat=m:=eD m;obtain F:=zI hm;clear hm;generalize (m:Int)=j at *;subst D;exact av (zG (av (zH (av (fD e (Fy ⟨rfl,F⟩ hl FA q))))))
def Th {I:ah (ax AV)}{B:St}{JE:St->Prop}{c:ak}{a0:FL×ah (ax AV)->St->Prop}(ko:iU F T D J JE K V)(c0:∀j B,J j B->jP B T)(hs: ¬ D A)(h4:n<=4)(hn:K.length<=n)(f0:I[0]? =ae (ae (.int n)))(e0:I[1]? =ae (ae (.ref A)))(hJ:J 0 B)(hG:B[A]? =ae (.list K))(d0:B[c]? =ae (.cell (ae T)))(q:∀v I H,pd b n D J az A A K V B v H->a0 (.ret v,I) H):
  WP (bL (yQ b) ⟨F,[(aq "key",c)],I⟩) B a0 (mU D JE az A A K V B):=by
 unfold yQ;refine x_Ret (w_Slice (w_Call (w_K (w_evs_cons (aM e0 (w_evs_nil (Tg d0 (Tf hG (by exact TT hn h4) (c0 _ _ hJ) ?_))))))));obtain R:∀i,D i->DG D az A i:=λi h=>.inl h;refine Ta ko (df:=B) (λH L M S=>⟨rfl,M,S,L.mono R,rfl,L.get hG hs⟩) K 0 B _ (λH L E N=>?_) rfl (cZ _) hJ (Fr.refl _ _);rw[mq,SX (b:=b) (lt:=bg b) rfl];have O:(V.zip K).length=K.length:=by rw[p3];exact AN (MR) ((LO ((EL E))))
 rw[<-v8 (n:=n) (by exact TT (EL O) hn)];have G:((fy b n (V.zip K)).map (·.2)).length<=n:=by rw[aO,Fq];exact ML
 refine bp (by exact CF 0 0 0 4 0 4096 G h4 rfl) (w_optE_none (w_optE_some (aM f0 (FC g_last (by exact CF 0 0 0 4 0 4096 G h4 rfl) (by exact FI 0 4 1 4611686018427387904 h4 rfl) ?_))));refine q _ _ _ ⟨⟨_,rfl,?_,?_⟩,E,ko.app (ko.app N),((L.mono R).trans Fr.app).trans Fr.app,rfl,g_app (g_app (L.get hG hs))⟩
 ·rw[bK];have:=L.len;exact TT this AL
 ·rw[gy G];exact g_last
def Ti {a0:AS->St->Prop}(h:I[i]? =ae (ae (.int z)))(h4:z<=0)(h5: -4<=z)(q:a0 (.range 0 0 (stepI b)) B):
  WP (iT (if b then [(eK (.int 0)),(iR (eL i)),(iR (eK (.int 1)))]else [(eL i)]) ⟨F,O,I⟩) B a0 E:=by
 cases b with
 |false=>
  refine w_rRange (w_evs_cons (aM h (w_evs_nil (pj (by lia) (by lia) ?_))));rw[show z.toNat=0 by lia];exact q
 |true=>
  refine w_rRange (w_evs_cons (w_K (w_evs_cons (w_Neg (aM h (w_strict (w_evs_cons (w_Neg (w_K (w_strict (w_evs_nil (EY (by lia) (by lia) ?_))))))))))));rw[show(- -z).toNat=0 by lia];exact q
def Tj {JE:St->Prop}{c:ak}(ko:iU (FN (k0+3)) T D J JE K V)(hz:z<=0)(a0: -4<=z)(hJ:J 0 B)(hG:Gv w B A s K):
  WP (sq (qv b) ⟨FN (k0+3),[(aq "key",c)],[ae (.int z),ae (.ref A),ag,x3,ag,x5,x6,ag,ag,ag,ag,ag,ag,ag,ag,ag,ag,ag,ag,ag,ag,ag,ag,ag,ag]⟩) B
   (λx H=>WP (eQ x.1) H (vO J B) E) E:=by
 unfold qv;wtm_at "r";refine zD hG λU l G F I=>?_;wtm_at "r";refine iF (cs:=[(aq "key",c)]) (L:=[ag,ag,ag,ag]) (by decide +kernel) (by kernel_rfl) (λu=>by kernel_rfl) rfl ?_;wtm_at "r";refine Ti rfl hz a0 ?_;wtm_at "r";refine vU G.1 ⟨rfl,v7 (Fv ⟨rfl,?_⟩)⟩;refine bp (by simp) ?_;wtm_at "r";refine px g_last ?_;refine t_t ?_;wtm_at "r";exact⟨⟨_,rfl,by rw[bK];exact AL,g_last⟩,ko.app (ko.app hJ),Fr.app.trans Fr.app⟩
theorem Tn {b:aB}{B:St}{JE:St->Prop}{c0:AV->St->Prop}(ko:iU (FN (k0+3)) T D J JE K V)(d0:∀j B,J j B->jP B T)(f0: ¬ D A)(hs: ¬ D s)(hx:K≠[])(h0:K.length<=64)(ht:∀x∈K,∃a b c,x=AV.dB a b c)(hz: -1<=z)(p0:z<=4)(hJ:J 0 B)(hG:Gv w B A s K)(q0:z<=0->∀v H,vO J B v H->c0 v H)(q1:0 < z->∀v H,pd b z.toNat D J w A s K V B v H->c0 v H)(e1:0 < z->∀k H,mU D JE w A s K V B k H->E k H):
  WP (FN (k0+4) (.fn (aq (if b then "nlargest" else "nsmallest"))) [.int z,.ref A] [(aq "key",T)]) B c0 E:=by
 have l0: ¬ D B.length:=λh=>by have:=ko.inside 0 B hJ _ h;exact XX 1 0 this rfl
 have Y:(B++[AO.cell (ae T)])[B.length]? =ae (.cell (ae T)):=g_last;have S:J 0 (B++[AO.cell (ae T)]):=ko.app hJ;have N:∀D',Fr D' B (B++[AO.cell (ae T)]):=λD'=>Fr.app;have O:Gv w (B++[AO.cell (ae T)]) A s K:=by
  cases w with
  |true=>exact It.app hG
  |false=>exact⟨hG.1,g_app hG.2⟩
 have n0:K.length≠0:=λh=>hx (nr.mp h);have R:∀{n v H},pd b n D J w A s K V (B++[AO.cell (ae T)]) v H->pd b n D J w A s K V B v H:=λq=>by
  obtain⟨⟨r,L,U,f⟩,m,o,h6,h7⟩:=q;exact⟨⟨r,L,dW (N (λy=>dm)).len U,f⟩,m,o,(N _).trans h6,h7⟩
 have G:∀{k H},mU D JE w A s K V (B++[AO.cell (ae T)]) k H->mU D JE w A s K V B k H:=λq=>by
  obtain⟨L,U,f,m,o⟩:=q;exact⟨L,U,f,(N _).trans m,o⟩
 have X:∀{v H},vO J (B++[AO.cell (ae T)]) v H->vO J B v H:=λq=>by
  obtain⟨⟨r,L,U,f⟩,m,o⟩:=q;exact⟨⟨r,L,dW (N (λy=>dm)).len U,f⟩,m,(N _).trans o⟩
 obtain⟨i0,a0,e0,o0,m0,hk,-⟩:=d0 _ _ hJ;generalize g0:B++[AO.cell (ae T)]=a7 at *;have W:∀F,Body (qw b F) ⟨FN (k0+3),[(aq "key",B.length)],[ae (.int z),ae (.ref A),ag,ag,ag,ag,ag,ag,ag,ag,ag,ag,ag,ag,ag,ag,ag,ag,ag,ag,ag,ag,ag,ag,ag]⟩ a7 c0 E:=by
  intro F;unfold qw;have j0:∀Z,z≠1->WP (sq (qv b) ⟨FN (k0+3),[(aq "key",B.length)],[ae (.int z),ae (.ref A),ag,ag,ag,ag,Z,ag,ag,ag,ag,ag,ag,ag,ag,ag,ag,ag,ag,ag,ag,ag,ag,ag,ag]⟩) a7 (λx B=>WP (eQ x.1) B c0 E) E:=by
   intro Z M;by_cases u:z<=0
   ·exact(Tj (D:=D) ko u (by lia) S O).a5 λx H h=>h.a5 λv H h=>q0 u v H (X h)
   ·have l:z=((z.toNat:ak):Int):=by lia
    have:=S8 (b:=b) (n:=z.toNat) (x3:=ag) (x5:=ag) (x6:=Z) ko d0 f0 hs l0 (by lia) (by lia) hx h0 S O Y;rw[<-l]at this;exact this.mono (λx H h=>h.mono (λv H h=>q1 (by lia) v H (R h)) λk H h=>e1 (by lia) k H (G h)) λk H h=>e1 (by lia) k H (G h)
  have cont:∀Z,z≠1->WP (sq (yR b F) ⟨FN (k0+3),[(aq "key",B.length)],[ae (.int z),ae (.ref A),ag,ag,ag,ag,Z,ag,ag,ag,ag,ag,ag,ag,ag,ag,ag,ag,ag,ag,ag,ag,ag,ag,ag]⟩) a7 (λx B=>WP (eQ x.1) B c0 E) E:=by
   intro Z M;unfold yR;wtm_at "r";refine zA ?_;subst hk;refine t_f ?_;wtm_at "r";exact j0 Z M
  wtm_at "r";refine mY ⟨λL=>?_,λL=>?_⟩
  ·have L:z=1:=eq_of_beq L;subst L;refine(Te (b:=b) (a0:=jO _ _) ko d0 f0 hs hx h0 ht S O Y (λv I H h=>n_ret (r_ret (q1 (by lia) v H (R h))))).mono (λy y h=>h) λk H h=>e1 (by lia) k H (G h)
  ·have M:z≠1:=IY L;wtm_at "r";cases w with
   |true=>
    have hI:It a7 A s 0 K:=O;refine Sv hI.1 ⟨rfl,?_⟩;wtm_at "r";exact cont _ M
   |false=>
    obtain⟨rfl,FD⟩:s=A/\a7[A]? =ae (.list K):=O;refine f_len FD ?_;wtm_at "r";refine⟨λU=>?_,λU=>?_⟩
    ·have U:(K.length:Int)<=z:=gx U;have l:z=((z.toNat:ak):Int):=by lia
     refine x_sq ((Th (n:=z.toNat) (c:=B.length) ko d0 hs (by lia) (by lia) (by rw[<-l];rfl) rfl S FD Y (λv I H h=>n_ret (n_ret (n_ret (r_ret (q1 (by lia) v H (R h))))))).mono (λy y h=>h) λk H h=>e1 (by lia) k H (G h))
    ·wtm_at "r";exact cont _ M
 cases b with
 |false=>
  obtain⟨F,hK⟩:=Sz;exact RN (by rw[hK,g0];exact W F)
 |true=>
  obtain⟨F,hK⟩:=SA;exact RO (by rw[hK,g0];exact W F)
def To:(qz.all λmods=>modS.all λs=>(mods.contains s || pf mods s) == (jq s).any λx=>mods.contains x)=aj:=by decide +kernel
def Tp:(pe.all λds=>sA.all λs=>sC ds s == (kW s).any λx=>ds.contains x)=aj:=by decide +kernel
def FE:(qz.all λmods=>mods.length<=3 && mods.all λx=>x.length<=8)=aj:=by decide +kernel
def FF:(pe.all λmods=>mods.length<=3 && mods.all λx=>x.length<=8)=aj:=by decide +kernel
def Tq:(modS.all λs=>(aU s (sO ".")).length<=3 && s.length<=8 && cY s && ((dz 4).all λk=>pE (sO ".") ((aU s (sO ".")).take k)) && ((jq s).all cY)
 && decide ((m4 s (l5 s (sO ".") 0 s.length (s.length+1)) (sO ".").length).length<=4096))=aj:=by decide +kernel
def Ts:(sA.all λs=>(aU s (sO "/")).length<=4 && s.length<=16 && cY s && ((dz 5).all λk=>pE (sO "/") ((aU s (sO "/")).take k)) && ((kW s).all cY)
 && decide ((m4 s (l5 s (sO "/") 0 s.length (s.length+1)) (sO "/").length).length<=4096))=aj:=by decide +kernel
def Tt:((qz++pe).all λl=>l.all cY)=aj:=by decide +kernel
def Tu (h:fz r):r.1.length<=3/\∀x∈r.1,x.length<=8:=by
 have:=bW.mp FE _ h.1;simp only[cW,ft,bW]at this;exact this
def FG (h:fz r):r.2.length<=3/\∀x∈r.2,x.length<=8:=by
 have:=bW.mp FF _ h.2;simp only[cW,ft,bW]at this;exact this
def FH {l:ah (au×AV)}{a0:ak×ah (au×AV)->St->Prop}(h1:B[i]? =ae (.inst d))(h2:B[d]? =ae (.bc l))(q:a0 (d,l) B):WP (uE i) B a0 E:=av (dj h1 (av (dj h2 (aQ q))))
def zJ {a0:AV->St->Prop}{a:ak}{l:ah (au×AV)}{x:aI}(h1:B[a]? =ae (.inst d))(h2:B[d]? =ae (.bc l))(hx:sO x∈p5)(hl:l.lookup (sO x)=ae v)(hv:xA v=aj)(q:a0 v B):WP (mA (.ref a) (aq x)) B a0 E:=
 av (bw hx (av (eh (av (FH h1 h2 (av (dU hl (av (bw hv (aQ q))))))))))
def Tv {g:ak}{D:ah ((au ⊕ Int)×AV)}{x:AV}{k:au ⊕ Int}(h:B[g]? =ae (.dict D))(hk:gC x=ae k)(q:QB (eF D k).isSome B):WP (dQ .In x (.ref g)) B QB E:=
 av (dj h (av (dU hk (aQ q))))
def Tw {l:ah au}{x:AV}(hk:keyOk x=aj)(q:QB (inSet l x) B):WP (dQ .In x (.cL l)) B QB E:=av (bw hk (aQ q))
def Tz {a0:AV->St->Prop}{g:ak}{D:ah ((au ⊕ Int)×AV)}{x:AV}{k:au ⊕ Int}(h:B[g]? =ae (.dict D))(hk:gC x=ae k)(hv:eF D k=ae v)(q:a0 v B):WP (ik (.ref g) x) B a0 E:=
 av (dj h (av (dU hk (dU hv q))))
def sY {g:ak}{D:ah ((au ⊕ Int)×AV)}{x:AV}{k:au ⊕ Int}{a0:b8->St->Prop}(h:B[g]? =ae (.dict D))(hk:gC x=ae k)(hl:D.length<=64)(q:a0 () (B.set g (.dict (putD D k v)))):WP (oP (.ref g) x v) B a0 E:=
 av (eh (av (dj h (av (dU hk (av (bw hl (k8 q))))))))
def zK {a0:AV->St->Prop}{x y:au}(hl:x.length+y.length<=4096)(q:a0 (.str (x++y)) B):WP (gc .Add (.str x) (.str y)) B a0 E:=av (bw rfl (av (qE (av (bw hl (aQ q))))))
def FJ {a0:AV->St->Prop}{x y:au}(q:a0 (.bool (pD x y)) B):WP (e9 F (.str x) .startswith [.str y] []) B a0 E:=av (qE (av (fF (av (e5 (av (qE (aQ q))))))))
def nX {x:au}{a0:b8->St->Prop}(h:mm= .startswith\/mm= .split\/mm= .join)(q:a0 () B):WP (lH (.str x) mm) B a0 E:=bw h q
def fA.mods {a0:AV->St->Prop}{a g:ak}{D:ah ((au ⊕ Int)×AV)}(h:fA B a d dd g r D)(q:a0 (.cL r.1) B):WP (mA (.ref a) (aq "_mods")) B a0 E:=
 zJ h.inst h.bc (by decide +kernel) (by kernel_rfl) rfl q
def fA.TA {a0:AV->St->Prop}{a g:ak}{D:ah ((au ⊕ Int)×AV)}(h:fA B a d dd g r D)(q:a0 (.ref dd) B):WP (mA (.ref a) (aq "_dirs")) B a0 E:=
 zJ h.inst h.bc (by decide +kernel) (by kernel_rfl) rfl q
def fA.pz {a0:AV->St->Prop}{a g:ak}{D:ah ((au ⊕ Int)×AV)}(h:fA B a d dd g r D)(q:a0 (.ref g) B):WP (mA (.ref a) (aq "_ignore")) B a0 E:=
 zJ h.inst h.bc (by decide +kernel) (by kernel_rfl) rfl q
def TB {l l':ah au}{a0:au->aB}(h:l'.Perm l):l'.any a0=l.any a0:=by
 rw[qW];simp only[ur];exact⟨λ⟨x,B,D⟩=>⟨x,h.mem_iff.mp B,D⟩,λ⟨x,B,D⟩=>⟨x,h.mem_iff.mpr B,D⟩⟩
def FO {α:Type}{l:ah α}{x:α}{a0:α->aB}(hx:l[k]? =ae x)(h:(l.take k).any a0=az)(hf:a0 x=az):(l.take (k+1)).any a0=az:=by
 rw[take_snoc hx,BC,h]
 simpa using hf
def eg.str (h:eg m):EF m:=by
 rcases h with h |⟨s,-,h⟩
 ·exact .inl h
 ·exact .inr ⟨s,h⟩
def f5.str (h:f5 m):EH m:=by
 rcases h with h |⟨s,-,h⟩
 ·exact .inl h
 ·exact .inr ⟨s,h⟩
theorem zL {a0:AV->St->Prop}{a g:ak}{D:ah ((au ⊕ Int)×AV)}{T:au ⊕ Int}(h:fA B a d dd g r D)(hl:D.length<=64)(hm:EF m)(hp:EH p)(hr:fz r)(hk:gC m=ae T)(q1:∀v,eF D T=ae v->a0 v B)(q2:eF D T=ag->(m= .int 7->r.1=[])->a0 (.int (b2i (dv r p m))) (B.set g (.dict (putD D T (.int (b2i (dv r p m)))))))(e:eF D T=ag->m= .int 7->r.1≠[]->E "AttributeError" B):
  WP (FN (k+1) (.fn (aq "_Ignore.names")) [.ref a,p,m] []) B a0 E:=by
 have U:=Tu hr;have V:=FG hr;have A:keyOk m=aj:=by
  rcases hm with rfl |⟨s,rfl⟩<;>rfl
 refine RK ?_;unfold yZ;wtm_at "r";refine h.pz (Tv h.dict hk ⟨λc=>?_,λc=>?_⟩)
 ·obtain⟨v,K⟩:=Bt.mp c;wtm_at "r";refine h.pz ?_;wtm_at "r";refine Tz h.dict hk K ?_;wtm_at "r";exact q1 v K
 have J:eF D T=ag:=by
  cases w:eF D T with
  |none=>rfl
  |some v=>rw[w]at c;cases c
 wtm_at "r";refine h.mods (Tw A ⟨λM=>?_,λM=>?_⟩)
 ·have R:dv r p m=aj:=by
   rcases hm with rfl |⟨s,rfl⟩
   ·cases M
   ·have M:r.1.contains s=aj:=M;show((r.1.contains s || pf r.1 s) || qA r.2 p)=aj;rw[M];rfl
  wtm_at "r";refine h.pz ?_;wtm_at "r";refine sY h.dict hk hl ?_;wtm_at "r";rw[R]at q2;refine q2 J λj=>?_;subst j;cases M
 wtm_at "r";refine h.mods (Ru ?_);intros _ W _ F;refine⟨rfl,?_⟩;have cont:(m= .int 7->r.1=[])->sD r.1 m=az->∀O,WP (sq [
 bJ (aR .Is (eL 1) (eK .none)) [
  aE (dM (iy (eL 0) "_ignore") (eL 2)) (eK (.int 1)),
  bL (eK (.int 1))] [],
 fx az (pL 4) (iA (iy (eL 0) "_dirs")) [
  bJ (tV (bX (eL 1) .startswith [(aY .Add (eL 4) (eK (vS "/")))] [])) [
   aE (dM (iy (eL 0) "_ignore") (eL 2)) (eK (.int 1)),
   bL (eK (.int 1))] []],
 aE (dM (iy (eL 0) "_ignore") (eL 2)) (eK (.int 0)),
 bL (eK (.int 0))] ⟨FN k,[],[ae (.ref a),ae p,ae m,O,ag,ag]⟩) B (λx B=>WP (eQ x.1) B a0 E) E:=by
  intro u l;intros _ O;have R:dv r p m=qA r.2 p:=by unfold dv;rw[l];rfl
  have q2:=q2 J u;wtm_at "r";refine zA ?_;rcases hp with rfl |⟨ps,rfl⟩
  ·refine t_t ?_;wtm_at "r";refine h.pz ?_;wtm_at "r";refine sY h.dict hk hl ?_;wtm_at "r";rw[R]at q2;exact q2
  ·refine t_f ?_;have R:dv r (.str ps) m=sC r.2 ps:=R;rw[R]at q2;wtm_at "r";refine h.TA (fg h.fO ⟨rfl,?_⟩);refine k9 (G:=λH=>H=B) (c0:=λk2 I H=>H=B/\(r.2.take k2).any (λx=>pD ps (x++sO "/"))=az/\∃X,I=[ae (.ref a),ae (.str ps),ae m,O,X,ag]) (K:=r.2.map .str)
    (Yl.gK λH e=>by rw[e];exact h.fO) (by rw[aO];exact FI 0 3 1 128 V.1 rfl) (λz z z h=>h.1) ⟨rfl,rfl,_,rfl⟩ ?_ ?_
   ·rintro k2 v _ H K ⟨rfl,G,X,rfl⟩;rw[dA]at K;cases L:r.2[k2]? with
    |none=>rw[L]at K;cases K
    |some x=>
     rw[L]at K;cases K;have Z:=V.2 x (cD L);wtm_at "r";refine⟨(λh=>nomatch h.1),nX (.inl rfl) ?_⟩;wtm_at "r";refine zK (by have:(aq "/").length=1:=(by decide +kernel);lia) ?_;wtm_at "r";refine FJ ?_;wtm_at "r";refine⟨λN=>?_,λN=>?_⟩
     ·wtm_at "r";refine h.pz ?_;wtm_at "r";refine sY h.dict hk hl ?_;wtm_at "r";have:sC r.2 ps=aj:=ur.mpr ⟨x,cD L,N⟩;rw[this]at q2;exact q2
     ·wtm_at "r";exact⟨rfl,FO L G N,_,rfl⟩
   ·rintro _ H ⟨rfl,G,X,rfl⟩;rw[aO,j5]at G;wtm_at "r";refine h.pz ?_;wtm_at "r";refine sY h.dict hk hl ?_;wtm_at "r";have:sC r.2 ps=az:=G;rw[this]at q2;exact q2
 rcases hm with rfl |⟨s,rfl⟩
 ·-- the number 7
  match W,F with
  | [],F=>
   refine sR (aQ ⟨rfl,n_next ?_⟩);exact cont (λz=>F.symm.eq_nil) rfl _
  |y :: W,F=>
   refine vY (aQ ⟨rfl,?_⟩);refine cu rfl (x_sq (w_qIf (w_tV (EV (l:=[(aY .Add (eL 3) (eK (vS ".")))]) (ks:=[]) (by decide) (aM (v:=.int 7) rfl ⟨λz=>e J rfl (λh=>?_),λh=>absurd ⟨rfl,rfl⟩ h⟩)))));rw[h]at F;exact absurd F.eq_nil (by simp)
 ·refine k9 (G:=λz=>eN) (c0:=λk2 I H=>H=B/\(W.take k2).any (λx=>pD s (x++sO "."))=az/\∃O,I=[ae (.ref a),ae p,ae (.str s),O,ag,ag]) (K:=W.map .str)
    Yl.set (by rw[aO,F.length_eq];exact FI 0 3 1 128 U.1 rfl) (λz z z z=>trivial) ⟨rfl,rfl,_,rfl⟩ ?_ ?_
  ·rintro k2 v _ H K ⟨rfl,G,O,rfl⟩;rw[dA]at K;cases L:W[k2]? with
   |none=>rw[L]at K;cases K
   |some x=>
    rw[L]at K;cases K;have S:=F.mem_iff.mp (cD L);have Z:=U.2 x S;wtm_at "r";refine⟨(λh=>nomatch h.1),nX (.inl rfl) ?_⟩;wtm_at "r";refine zK (by have:(aq ".").length=1:=(by decide +kernel);lia) ?_;wtm_at "r";refine FJ ?_;wtm_at "r";refine⟨λN=>?_,λN=>?_⟩
    ·wtm_at "r";refine h.pz ?_;wtm_at "r";refine sY h.dict hk hl ?_;wtm_at "r";have:dv r p (.str s)=aj:=by
      have Y:pf r.1 s=aj:=ur.mpr ⟨x,S,N⟩;show((r.1.contains s || pf r.1 s) || qA r.2 p)=aj;rw[Y,rq];rfl
     rw[this]at q2;exact q2 J (λh=>nomatch h)
    ·wtm_at "r";exact⟨rfl,FO L G N,_,rfl⟩
  ·rintro _ H ⟨rfl,G,O,rfl⟩;rw[aO,j5,TB F]at G;refine n_next (cont (λh=>nomatch h) ?_ _);have Y:pf r.1 s=az:=G;have M:r.1.contains s=az:=M;show(r.1.contains s || pf r.1 s)=az;rw[Y,M];rfl
def v9 {n:aS}{m':AV}:dw (n++[(m,p)]) m'=(dw n m').or (if m=m' then ae p else ag):=by
 unfold dw;rw[IZ];cases B:n.find? (λq=>decide (q.1=m'))with
 |some q=>rfl
 |none=>
  by_cases e:m=m'
  ·simp[e]
  ·simp[e]
def getD_snoc {D:ah ((au ⊕ Int)×AV)}{k k':au ⊕ Int}(h:eF D k=ag):eF (putD D k v) k'=if k=k' then ae v else eF D k':=by
 have B:D.any (λp=>p.1=k)=az:=by
  unfold eF at h;rw[A6,List.find?_eq_none]at h;rw[HG];exact λx E=>h x E
 unfold putD;rw[B];show eF (D++[(k,v)]) k'=_;unfold eF;rw[IZ];by_cases e:k=k'
 ·subst e;unfold eF at h;rw[A6]at h;rw[h];simp
 ·rw[aK e];cases F:D.find? (λp=>decide (p.1=k'))with
  |some q=>rfl
  |none=>simp[e]
def TC {m':AV}{k:au ⊕ Int}(h:gC m=ae k)(h':gC m'=ae k):m=m':=by
 cases m <;>cases h <;>cases m' <;>cases h' <;>rfl
def TF {D:ah ((au ⊕ Int)×AV)}{k:au ⊕ Int}:(putD D k v).length<=D.length+1:=by
 unfold putD;split
 ·rw[aO];exact gP _
 ·rw[bK];simp
def kY.old {n:aS}{D:ah ((au ⊕ Int)×AV)}{q:AV}(h:kY r n D)(hm:eg m)(hp:f5 p)(hf:dw n m=ae q):kY r (n++[(m,p)]) D:=by
 obtain⟨K,J,H,I⟩:=h;have T:∀B,dw (n++[(m,p)]) B=dw n B:=by
  intro B;rw[v9];by_cases e:m=B
  ·subst e;rw[hf];rfl
  ·rw[aK e];cases dw n B <;>rfl
 refine⟨by rw[bK];simp;lia,λB k F G=>by rw[T];exact J B k F G,λq E=>?_,λh=>by rw[T];exact I h⟩;rcases dX.mp E with E |E
 ·exact H q E
 ·rw[aJ.mp E];exact⟨hp,hm⟩
theorem kY.new {n:aS}{D:ah ((au ⊕ Int)×AV)}{k:au ⊕ Int}(h:kY r n D)(hm:eg m)(hp:f5 p)(hk:gC m=ae k)(h7:m= .int 7->r.1=[])(hf:dw n m=ag):
  kY r (n++[(m,p)]) (putD D k (.int (b2i (dv r p m)))):=by
 obtain⟨N,I,L,M⟩:=h;have J:eF D k=ag:=by rw[I m k hm hk,hf];rfl
 refine⟨by have:=TF (D:=D) (k:=k) (v:=.int (b2i (dv r p m)));rw[bK];simp;lia,λF H G B=>?_,λq E=>?_,λh=>?_⟩
 ·rw[getD_snoc J,v9];by_cases e:m=F
  ·subst e;have:k=H:=by rw[hk]at B;exact dp B
   rw[aN this,aN rfl,hf];rfl
  ·have: ¬ k=H:=λK=>e (TC hk (by rw[K];exact B));rw[aK this,aK e,I F H G B];cases dw n F <;>rfl
 ·rcases dX.mp E with E |E
  ·exact L q E
  ·rw[aJ.mp E];exact⟨hp,hm⟩
 ·rw[v9,M h];by_cases e:m= .int 7
  ·exact absurd (h7 e) h
  ·rw[aK e];rfl
def wa {g:ak}(h:B[g]? =ae o):B.set g o=B:=by
 obtain⟨E,D⟩:=cF.mp h;rw[<-D,Bv]
def FP {a0:AV->St->Prop}{a g:ak}{D:ah ((au ⊕ Int)×AV)}{n:aS}(h:fA B a d dd g r D)(ok:kY r n D)(hl:n.length<=60)(hm:eg m)(hp:f5 p)(hr:fz r)(q:∀D',(m= .int 7->r.1=[])->kY r (n++[(m,p)]) D'->a0 (.int (b2i (dv r ((dw n m).getD p) m))) (B.set g (.dict D')))(e:m= .int 7->r.1≠[]->E "AttributeError" B):
  WP (FN (k+1) (.fn (aq "_Ignore.names")) [.ref a,p,m] []) B a0 E:=by
 have I:∃T,gC m=ae T:=by
  rcases hm with rfl |⟨s,-,rfl⟩
  ·exact⟨_,rfl⟩
  ·exact⟨_,rfl⟩
 obtain⟨T,I⟩:=I;have F:=ok.get m T hm I;refine zL h (by have:=ok.len;lia) hm.str hp.str hr I (λv N=>?_) (λL H=>?_) λu H J=>e H J
 ·rw[N]at F;cases G:dw n m with
  |none=>rw[G]at F;cases F
  |some M=>
   rw[G]at F;have F:v= .int (b2i (dv r M m)):=dp F;have:=q D (λH=>by
    cases K:r.1 with
    |nil=>rfl
    |cons x l=>
     have:=ok.EI (by rw[K];simp);rw[H,this]at G;cases G) (ok.old hm hp G)
   rw[G,wa h.dict]at this;rw[F];exact this
 ·rw[L]at F;cases G:dw n m with
  |some M=>rw[G]at F;cases F
  |none=>
   have:=q _ H (ok.new hm hp I H G);rw[G]at this;exact this
def bG.dict:∀{B:St} {X:ah eY} {M:ah Rd} {ns:ah aS} {q:eY},bG B X M ns->q∈X->∃D,B[q.g]? =ae (.dict D)
 |_,[],_,_,_,_,hq=>nomatch hq
 |_,_ :: _,[],_,_,h,_=>h.elim
 |_,_ :: _,_ :: _,[],_,h,_=>h.elim
 |_,q :: X,r :: M,n :: ns,q',h,hq=>by
  rcases bu.mp hq with rfl |hq
  ·obtain⟨⟨D,E,-⟩,-⟩:=h;exact⟨D,E.dict⟩
  ·exact bG.dict h.2 hq
def bG.nY {ns:ah aS}(h:bG B X M ns)(hi:B[i]? =ae o)(ho:∀D,o≠ .dict D): ¬ gs X i:=by
 rintro⟨q,hq,rfl⟩;obtain⟨D,E⟩:=h.dict hq;rw[hi]at E;exact ho D (dp E)
def fA.fr {P:ak->Prop}{a g:ak}{D:ah ((au ⊕ Int)×AV)}(h:fA B a d dd g r D)(a0:Fr P B H)(h1: ¬ P a)(h2: ¬ P d)(h3: ¬ P dd)(h4: ¬ P g):fA H a d dd g r D:=
 ⟨a0.get h.inst h1,a0.get h.bc h2,a0.get h.fO h3,a0.get h.dict h4⟩
def bG.fr {P:ak->Prop}(a0:Fr P B H):∀{X:ah eY} {M:ah Rd} {ns:ah aS},bG B X M ns->(∀q∈X,¬ P q.a/\¬ P q.d/\¬ P q.dd/\¬ P q.g)->bG H X M ns
 | [],[],[],_,_=>trivial
 |_ :: _,[],_,h,_=>h.elim
 |_ :: _,_ :: _,[],h,_=>h.elim
 | [],_ :: _,_,h,_=>h.elim
 | [],[],_ :: _,h,_=>h.elim
 |q :: X,r :: M,n :: ns,⟨⟨D,h1,h2⟩,h3⟩,hp=>
  have:=hp q (.head _)
  ⟨⟨D,h1.fr a0 this.1 this.2.1 this.2.2.1 this.2.2.2,h2⟩,bG.fr a0 h3 λF E=>hp F (.tail _ E)⟩
def bG.at:∀{B:St} {X:ah eY} {M:ah Rd} {ns:ah aS} {q:eY},bG B X M ns->q∈X->∃r D,fA B q.a q.d q.dd q.g r D:=by
 intro F I;induction I generalizing F with
 |nil=>
  intro _ _ _ _ E;exact nomatch E
 |cons q X K=>
  intro H;cases H with
  |nil=>
   intro _ _ h _;exact h.elim
  |cons r M=>
   intro J;cases J with
   |nil=>
    intro _ h _;exact h.elim
   |cons n ns=>
    intro L h E;rcases bu.mp E with rfl |E
    ·obtain⟨⟨D,G,-⟩,-⟩:=h;exact⟨r,D,G⟩
    ·exact K h.2 E
def bG.other {ns:ah aS}{g:ak}{D0 D':ah ((au ⊕ Int)×AV)}(h:bG B X M ns)(hg:B[g]? =ae (.dict D0))(a0:∀q∈X,q.g≠g):bG (B.set g (.dict D')) X M ns:=
 bG.fr (P:=λi=>i=g) (Fr.set rfl) h λq F=>by
  obtain⟨r,D,E⟩:=h.at F;exact⟨cC E.inst hg (by simp),cC E.bc hg (by simp),cC E.fO hg (by simp),a0 q F⟩
def TG {a:ak}{l:ah (au×AV)}{a0:b8->St->Prop}(h1:B[a]? =ae (.inst d))(h2:B[d]? =ae (.bc l))(h3:(l.lookup (aq "names")).isNone=aj)(q:a0 () B):WP (lH (.ref a) .names) B a0 E:=
 av (dj h1 (av (dj h2 (bw ⟨rfl,h3⟩ q))))
def wb {a:ak}{a0:AV->St->Prop}(q:WP (F (.fn (aq "_Ignore.names")) (.ref a :: args) []) B a0 E):WP (e9 F (.ref a) .names args []) B a0 E:=av (eh (av (e5 q)))
def fA.has {a g:ak}{D:ah ((au ⊕ Int)×AV)}{a0:b8->St->Prop}(h:fA B a d dd g r D)(q:a0 () B):WP (lH (.ref a) .names) B a0 E:=TG h.inst h.bc (by kernel_rfl) q
def zM {x:AV}{a0:ax (AV×AI)->St->Prop}(h:B[s]? =ae (.list K))(hx:K[j]? =ae x)(q:a0 (ae (x,.list (ae s) (j+1))) B):WP (bx (.list (ae s) j)) B a0 E:=by
 refine av (fD h ?_);rw[hx];exact aQ q
def FQ {a0:ax (AV×AI)->St->Prop}(h:B[s]? =ae (.list K))(hx:K[j]? =ag)(q:a0 ag B):WP (bx (.list (ae s) j)) B a0 E:=by
 refine av (fD h ?_);rw[hx];exact aQ q
def TH {p:AV}{a0 ct:ak}{rl:ah AV}{pl:AV}(hm:eg m)(hp:f5 p):∀(X:ah eY) (M:ah Rd) (ns:ah aS) (j d0:ak) (B:St) (e0:ah AV) (x0 x1 x2:ax AV) (c0:ah AV->St->Prop) (E:aI->St->Prop),
  (∀r∈M,fz r)->(∀n∈ns,n.length<=60)->bG B X M ns->X.Pairwise (λp q=>p.g≠q.g)->B[a0]? =ae (.list rl)->rl.drop j=X.map (λq=>.ref q.a)->X.length < d0->e0.length+X.length<=4096->B[ct]? =ae (.cell (ae (.dB p m pl)))->
  (∀(il:ah Int) H,(b7 M ns m p).1=ae il.sum->il.length=X.length->bG H X M (b7 M ns m p).2->Fr (gs X) B H->c0 (e0++il.map .int) H)->
  (∀H,(b7 M ns m p).1=ag->bG H X M (b7 M ns m p).2->Fr (gs X) B H->E "AttributeError" H)->
  WP (cw zg [] (pL 1) d0 (.list (ae a0) j) ⟨FN (k+1),[(aq "thing",ct)],[x0,x1,x2]⟩ e0) B c0 E:=by
 intro X;induction X with
 |nil=>
  intro M ns j d0 B e0 x0 x1 x2 c0 E W Z h J S O U b hc q e;rcases d0 with _ |d0
  ·exact XX 1 0 (CH 1 0 0 0 U ZZ) rfl
  rcases M with _ |⟨_,_⟩
  ·rcases ns with _ |⟨_,_⟩
   ·refine v7 (FQ S (rI (pV.mp O)) ⟨rfl,?_⟩);have:=q [] B rfl rfl trivial (Fr.refl _ _);rw[ua,fT]at this;exact this
   ·exact h.elim
  ·exact h.elim
 |cons q0 X ih=>
  intro M ns j d0 B e0 x0 x1 x2 c0 E W Z h J S O U b hc q e;rcases d0 with _ |d0
  ·exact XX 1 0 (CH 1 0 0 0 U ZZ) rfl
  rcases M with _ |⟨r,M⟩
  ·exact h.elim
  rcases ns with _ |⟨n,ns⟩
  ·exact h.elim
  have h0:=h;obtain⟨⟨D,F,h2⟩,h3⟩:=h;have hj:rl[j]? =ae (.ref q0.a):=by
   have:(rl.drop j)[0]? =ae (.ref q0.a):=by rw[O];rfl
   rwa [xm,xn]at this
  have oX:rl.drop (j+1)=X.map (λq=>.ref q.a):=by
   have:=drop_cons hj;rw[this]at O;injection O
  have qm:e0.length+(X.length+1)<=4096:=b;have zN:X.length+1 < d0+1:=U;obtain⟨z,u⟩:=lE.mp J;refine Fu (zM S hj ⟨rfl,?_⟩);wtm_at "r";refine qH ?_;refine t_t ?_;refine⟨by exact TT AL b,?_⟩;unfold zg;wtm_at "r";refine⟨(λh=>nomatch h.2),F.has ?_⟩;wtm_at "r";refine sW (by decide) rfl rfl ?_;wtm_at "r";refine sW (by decide) rfl rfl ?_;wtm_at "r";refine wb (FP F h2 (Z n (.head _)) hm hp (W r (.head _)) (λI h7 T=>?_) λe7 Y=>?_)
  ·have K:b7 (r :: M) (n :: ns) m p=((b7 M ns m p).1.map λi=>b2i (dv r ((dw n m).getD p) m)+i,(n++[(m,p)]) :: (b7 M ns m p).2):=aK λc=>c.2 (h7 c.1);have w:Fr (gs (q0 :: X)) B (B.set q0.g (.dict I)):=Fr.set ⟨q0,.head _,rfl⟩;have FR:∀q∈X,q.g≠q0.g:=λq N=>(z q N).symm;have wc:=h3.other (D':=I) F.dict FR;have wd:fA (B.set q0.g (.dict I)) q0.a q0.d q0.dd q0.g r I:=
    ⟨g_ne (cC F.dict F.inst (by simp)) F.inst,g_ne (cC F.dict F.bc (by simp)) F.bc,g_ne (cC F.dict F.fO (by simp)) F.fO,de F.dict⟩
   have G:∀{H:St},Fr (gs X) (B.set q0.g (.dict I)) H->fA H q0.a q0.d q0.dd q0.g r I/\Fr (gs (q0 :: X)) B H:=λf=>
    ⟨wd.fr f (wc.nY wd.inst (by simp)) (wc.nY wd.bc (by simp)) (wc.nY wd.fO (by simp)) (λ⟨q,N,e⟩=>FR q N e.symm),w.trans (f.mono λi ⟨q,N,e⟩=>⟨q,.tail _ N,e⟩)⟩
   refine ih M ns (j+1) d0 _ _ _ _ _ c0 E (λr V=>W r (.tail _ V)) (λn A=>Z n (.tail _ A)) wc u (g_ne (cC F.dict S (by simp)) S) oX (by exact FI 2 1 1 0 zN rfl) (by rw[bK,uw];lia) (g_ne (cC F.dict hc (by simp)) hc) (λil H l o L f=>?_) λH l L f=>?_
   ·have:=q (b2i (dv r ((dw n m).getD p) m) :: il) H (by rw[K,l];rfl) (by rw[fq,o];rfl) (by rw[K];exact⟨⟨I,(G f).1,T⟩,L⟩) (G f).2;rw[jY];exact this
   ·exact e H (by rw[K,l];rfl) (by rw[K];exact⟨⟨I,(G f).1,T⟩,L⟩) (G f).2
  ·have K:b7 (r :: M) (n :: ns) m p=(ag,n :: ns):=aN ⟨e7,Y⟩;exact e B (by rw[K]) (by rw[K];exact h0) (Fr.refl _ _)
def TJ:(mP.map λd=>cE d.2.2 40 d.2.1)=ae sE:=by kernel_rfl
theorem TK {cR cA:ak}{t:AV}{a:fh}{e:aH}{sc:bN}{a0:AV->St->Prop}(hl:mP=ae (a,e,sc))(h:B[i]? =ae (.lam a e sc [(sO "readers",cR),(sO "asks",cA)]))(q:WP (sE ⟨FN k,[(sO "thing",B.length),(sO "readers",cR),(sO "asks",cA)],[ag,ag,ag,ag]⟩) (B++[.cell (ae t)]) a0 E):WP (FN (k+1) (.ref i) [t] []) B a0 E:=by
 have D:(mP.map λd=>P.guard (fb d.2.2=aj)>>=λu=>P.opt (fW d.1 [t] [])>>=λb=>cP (FN k) d.2.2 [(sO "readers",cR),(sO "asks",cA)] b)
  =ae (P.alloc (.cell ag)>>=λi=>kn (sO "thing") t ⟨FN k,[(sO "thing",i),(sO "readers",cR),(sO "asks",cA)],[ag,ag,ag,ag]⟩>>=λI=>P.pure ⟨FN k,[(sO "thing",i),(sO "readers",cR),(sO "asks",cA)],I⟩):=by kernel_rfl
 have F:=TJ;rw[hl]at D F;have D:=dp D;have F:cE sc 40 e=sE:=dp F;have H:WP (P.guard (fb sc=aj)>>=λu=>P.opt (fW a [t] [])>>=λb=>cP (FN k) sc [(sO "readers",cR),(sO "asks",cA)] b) B (λQ B=>WP (sE Q) B a0 E) E:=by
  have TL:(P.guard (fb sc=aj)>>=λu=>P.opt (fW a [t] [])>>=λb=>cP (FN k) sc [(sO "readers",cR),(sO "asks",cA)] b)=_:=D;rw[TL];exact av (eJ (av (nW (x:="thing") (v':=ag) lk_here Bu (by rw[zu];exact aQ q))))
 show WP (P.load i>>=λo=>match o with
  |.lam a e sc cs=>P.guard (fb sc=aj)>>=λu=>P.opt (fW a [t] [])>>=λb=>cP (FN k) sc cs b>>=λQ=>cE sc 40 e Q
  |_=>P.fail) B a0 E
 refine av (dj h ?_);show WP (P.guard (fb sc=aj)>>=λu=>P.opt (fW a [t] [])>>=λb=>cP (FN k) sc [(sO "readers",cR),(sO "asks",cA)] b>>=λQ=>cE sc 40 e Q) B a0 E;have G:(P.guard (fb sc=aj)>>=λu=>P.opt (fW a [t] [])>>=λb=>cP (FN k) sc [(sO "readers",cR),(sO "asks",cA)] b>>=λQ=>cE sc 40 e Q)
  =((P.guard (fb sc=aj)>>=λu=>P.opt (fW a [t] [])>>=λb=>cP (FN k) sc [(sO "readers",cR),(sO "asks",cA)] b)>>=λQ=>cE sc 40 e Q):=by
  unfold P.guard;cases fW a [t] []<;>split <;>rfl
 rw[G,F];exact av H
def Good.mono {x:eO}{ns:ah aS}(G:Good x M ns as B)(h:∀i,eZ x i->H[i]? =B[i]?):Good x M ns as H:=by
 obtain⟨I,R,O,Q,⟨a,e,K,L,J⟩,W⟩:=G;refine⟨by rw[h _ (.inl rfl)];exact I,by rw[h _ (.inr (.inl rfl))];exact R,by rw[h _ (.inr (.inr (.inl rfl)))];exact O,by rw[h _ (.inr (.inr (.inr (.inl rfl))))];exact Q,
  ⟨a,e,K,L,by rw[h _ (.inr (.inr (.inr (.inr (.inl rfl)))))];exact J⟩,?_⟩
 have T:∀(X:ah eY) (M:ah Rd) (ns:ah aS),(∀q∈X,q∈x.qs)->bG B X M ns->bG H X M ns:=by
  intro X;induction X with
  |nil=>intro M ns _ h;match M,ns,h with | [],[],h=>exact trivial
  |cons q X V=>
   intro M ns F S
   match M,ns,S with
   |r :: M,n :: ns,⟨⟨D,ha,hb⟩,hc⟩=>
    obtain f:∀i,(i=q.a\/i=q.d\/i=q.dd\/i=q.g)->H[i]? =B[i]? :=λi N=>h i (.inr (.inr (.inr (.inr (.inr ⟨q,F q (.head _),N⟩)))));exact⟨⟨D,⟨by rw[f _ (.inl rfl)];exact ha.inst,by rw[f _ (.inr (.inl rfl))];exact ha.bc,by rw[f _ (.inr (.inr (.inl rfl)))];exact ha.fO,by rw[f _ (.inr (.inr (.inr rfl)))];exact ha.dict⟩,hb⟩,V M ns (λU E=>F U (.tail _ E)) hc⟩
 exact T _ _ _ (λu h=>h) W
def Good.app {x:eO}{ns:ah aS}{l:St}(G:Good x M ns as B):Good x M ns as (B++l)/\∀i,eZ x i->i < B.length:=by
 have F:∀i,eZ x i->i < B.length:=by
  intro i E;rcases E with rfl |rfl |rfl |rfl |rfl |⟨q,hq,E⟩
  ·exact ba G.cA
  ·exact ba G.A
  ·exact ba G.cR
  ·exact ba G.R
  ·obtain⟨_,_,_,_,h⟩:=G.lm;exact ba h
  ·obtain⟨r,D,h⟩:=G.jQ.at hq;rcases E with rfl |rfl |rfl |rfl
   ·exact ba h.inst
   ·exact ba h.bc
   ·exact ba h.fO
   ·exact ba h.dict
 exact⟨G.mono λi E=>lz (F i E),F⟩
def zO {x:eO}(h:gs x.qs i):eZ x i:=by
 obtain⟨q,B,rfl⟩:=h;exact .inr (.inr (.inr (.inr (.inr ⟨q,B,.inr (.inr (.inr rfl))⟩))))
def Good.rd {x:eO}{ns c0:ah aS}(G:Good x M ns as B)(a0:Fr (gs x.qs) B H)(h:bG H x.qs M c0):Good x M c0 as H:=by
 obtain⟨a,e,F,E,D⟩:=G.lm;exact⟨a0.get G.cA (G.jQ.nY G.cA (by simp)),a0.get G.A (G.jQ.nY G.A (by simp)),a0.get G.cR (G.jQ.nY G.cR (by simp)),a0.get G.R (G.jQ.nY G.R (by simp)),⟨a,e,F,E,a0.get D (G.jQ.nY D (by simp))⟩,h⟩
def Good.ask {x:eO}{ns:ah aS}{a0:ah AV}(ok:x.Ok)(G:Good x M ns as B):Good x M ns a0 (B.set x.A (.list a0)):=by
 obtain⟨a,e,J,I,E⟩:=G.lm;refine⟨g_ne (cC G.A G.cA (by simp)) G.cA,de G.A,g_ne (cC G.A G.cR (by simp)) G.cR,g_ne ok.ar G.R,⟨a,e,J,I,g_ne (cC G.A E (by simp)) E⟩,?_⟩;refine bG.fr (P:=λi=>i=x.A) (Fr.set rfl) G.jQ λq H=>?_;obtain⟨r,D,F⟩:=G.jQ.at H;exact⟨cC F.inst G.A (by simp),cC F.bc G.A (by simp),λh=>ok.ad q H h.symm,cC F.dict G.A (by simp)⟩
def vq:∀{l:ah Int},intsOf (l.map .int)=ae l:=by
 intro l;induction l with
 |nil=>
  exact rfl
 |cons x l B=>
  show(intsOf (l.map .int)).map (x :: ·)=_;rw[B];rfl
def FT {l:ah Int}{a0:AV->St->Prop}(h:B[i]? =ae (.list (l.map .int)))(q:a0 (.int l.sum) B):WP (eu ⟨F,O,I⟩ (.bi "sum") [.ref i] []) B a0 E:=by
 exact mW rfl (av (fF (av (e5 (av (eh (av (fD h (av (dU vq (aQ q)))))))))))
def TM {x:eO}{ns:ah aS}{pl:AV}{c0:AV->St->Prop}(ok:x.Ok)(G:Good x M ns as B)(hm:eg m)(hp:f5 p)(hr:∀r∈M,fz r)(hn:∀n∈ns,n.length<=60)(hq:x.qs.length<=60)(has:as.length<=4096)(q:∀s H,(b7 M ns m p).1=ae s->Good x M (b7 M ns m p).2 (as++[pl]) H->Fr (eZ x) B H->c0 (.int s) H)(e:∀H,(b7 M ns m p).1=ag->Good x M (b7 M ns m p).2 (as++[pl]) H->Fr (eZ x) B H->E "AttributeError" H):
  WP (FN (k+2) (.ref x.lm) [.dB p m pl] []) B c0 E:=by
 obtain⟨z,b,A,j,T⟩:=G.lm;refine TK j T ?_;obtain L:(B++[AO.cell (ae (.dB p m pl))])[B.length]? =ae (.cell (ae (.dB p m pl))):=g_last;obtain J:Good x M ns as (B++[AO.cell (ae (.dB p m pl))]):=G.app.1;obtain l:Fr (eZ x) B (B++[AO.cell (ae (.dB p m pl))]):=Fr.app;generalize W:B.length=ct at *;generalize B++[AO.cell (ae (.dB p m pl))]=a7 at *;unfold sE;obtain o:=J.cA;obtain Y:=J.cR;wtm_at "r";refine⟨(λh=>nomatch h.2),hU J.A (.inl rfl) ?_⟩;wtm_at "r";refine sW (by decide) rfl rfl ?_;wtm_at "r";refine js J.A has ?_;obtain I:=J.ask ok (a0:=as++[pl]);obtain O:(a7.set x.A (.list (as++[pl])))[ct]? =ae (.cell (ae (.dB p m pl))):=g_ne (cC J.A L (by simp)) L;obtain V:Fr (eZ x) B (a7.set x.A (.list (as++[pl]))):=l.trans (Fr.set (.inr (.inl rfl)));generalize a7.set x.A (.list (as++[pl]))=bF at *;obtain Y:=I.cR;wtm_at "r";refine iF (cs:=[(aq "thing",ct)]) (L:=[ag,ag,ag]) (by decide +kernel) (by kernel_rfl) (λv=>by kernel_rfl) rfl ?_;wtm_at "r";refine fg I.R ⟨rfl,?_⟩;refine TH (pl:=pl) hm hp x.qs M ns 0 128 bF [] ag ag ag _ _ hr hn I.jQ ok.sep I.R rfl (by exact FI 0 60 1 128 hq rfl) (by simp;exact FI 0 60 0 4096 hq rfl) O (λK D R U F f=>?_) λD R F f=>?_
 ·obtain u:=I.rd f F;obtain w:=V.trans (f.mono λi S=>zO S);rw[mo];refine bp (by rw[aO];exact CF 0 0 0 60 0 4096 (EL U) hq rfl) ?_;obtain Z:=(u.app (l:=[AO.list (K.map .int)])).1;obtain X:Fr (eZ x) B (D++[AO.list (K.map .int)]):=w.trans Fr.app;obtain N:(D++[AO.list (K.map .int)])[D.length]? =ae (AO.list (K.map .int)):=g_last;generalize D++[AO.list (K.map .int)]=cO at *;wtm_at "r";refine FT N ?_;wtm_at "r";refine bp (by simp) ?_;wtm_at "r";refine lW g_last (by decide) rfl ?_;exact q _ _ R Z.app.1 (X.trans Fr.app)
 ·exact e D R (I.rd f F) (V.trans (f.mono λi S=>zO S))
def sZ {ns:ah aS}{t:Thing}{i:Int}(h:(b7 M ns t.2.1 t.1).1=ae i):bM M ns (t :: R)=(i :: (bM M (b7 M ns t.2.1 t.1).2 R).1,(bM M (b7 M ns t.2.1 t.1).2 R).2):=by
 rw[bM];rw[show b7 M ns t.2.1 t.1=(ae i,(b7 M ns t.2.1 t.1).2) from qX h rfl]
def s7 {ns:ah aS}{t:Thing}(h:(b7 M ns t.2.1 t.1).1=ag):bM M ns (t :: R)=([],(b7 M ns t.2.1 t.1).2):=by
 rw[bM];rw[show b7 M ns t.2.1 t.1=(ag,(b7 M ns t.2.1 t.1).2) from qX h rfl]
def we:∀{ns:ah aS} {R:ah Thing},(bM M ns R).1.length<=R.length:=by
 intro ns l;induction l generalizing ns with
 |nil=>
  exact a4 _
 |cons t R B=>
  cases h:(b7 M ns t.2.1 t.1).1 with
  |none=>rw[s7 h];exact cZ _
  |some i=>rw[sZ h];exact Av B
def TN {b:ak}:∀{M:ah Rd} {ns:ah aS},(∀n∈ns,n.length<=b)->∀n∈(b7 M ns m p).2,n.length<=b+1:=by
 intro G;induction G with
 |nil=>
  intro D;cases D with
  |nil=>
   intro _ _ B;exact nomatch B
  |cons _ _=>
   intro _ _ B;exact nomatch B
 |cons r M F=>
  intro D;cases D with
  |nil=>
   intro _ _ B;exact nomatch B
  |cons n ns=>
   intro h E B;have B:E∈(if m= .int 7/\r.1≠[]then ((ag:ax Int),n :: ns)else ((b7 M ns m p).1.map λi=>b2i (dv r ((dw n m).getD p) m)+i,(n++[(m,p)]) :: (b7 M ns m p).2)).2:=B;split at B
   ·exact xo (h E B)
   ·rcases bu.mp B with rfl |B
    ·rw[bK];have:=h n (.head _);simp;exact this
    ·exact F (λn B=>h n (.tail _ B)) E B
def TP {x:eO}(ok:x.Ok)(hr:∀r∈M,fz r)(hq:x.qs.length<=60)(ht:∀t∈R,iC t)(hb:b0+R.length<=60)(has:gB.length+R.length<=4096):
  iU (FN (k+2)) (.ref x.lm) (eZ x) (KJ x M dI gB R b0) (EJ x M dI gB R) (R.map tA) (bM M dI R).1 where
 call j y B hy:=by
  rintro⟨ns,G,ha,hn,hj⟩;rw[dA]at hy;cases E:R[j]? with
  |none=>rw[E]at hy;cases hy
  |some t=>
   rw[E]at hy;cases hy;have T:=ba E;obtain⟨U,S⟩:=ht t (cD E);have K:gB++gn (R.take (j+1))=(gB++gn (R.take j))++[.int t.2.2]:=by
    rw[take_snoc E];unfold gn;rw[dH,<-jY];rfl
   rw[drop_cons E]at ha;have L:(gB++gn (R.take j)).length<=4096:=by
    unfold gn;rw[bK,aO,er];lia
   refine TM ok G S U hr (λn J=>by have:=hn n J;lia) hq L (λs H N O f=>?_) λH N O f=>?_
   ·rw[sZ N]at ha;have D:s :: (bM M (b7 M ns t.2.1 t.1).2 (R.drop (j+1))).1=(bM M dI R).1.drop j:=(lD ha).1;have F:(bM M (b7 M ns t.2.1 t.1).2 (R.drop (j+1))).2=(bM M dI R).2:=(lD ha).2;have I:(bM M dI R).1[j]? =ae s:=by
     have:((bM M dI R).1.drop j)[0]? =ae s:=by rw[<-D];rfl
     rwa [xm,xn]at this
    refine⟨s,I,rfl,⟨_,by rw[K];exact O,?_,λn J=>?_,ba I⟩,f⟩
    ·rw[drop_cons I]at D;injection D with _ D;exact qX D F
    ·have:=TN hn n J;lia
   ·rw[s7 N]at ha;have D:[]=(bM M dI R).1.drop j:=(lD ha).1;have F:(b7 M ns t.2.1 t.1).2=(bM M dI R).2:=(lD ha).2;have Q:(bM M dI R).1.length=j:=by have:=pV.mp D.symm;exact AN (this) (hj)
    refine⟨rfl,Q,?_,f⟩;unfold EJ;rw[Q,K,<-F];exact O
 zf j B H:=by
  rintro⟨ns,G,h⟩ _ I;exact⟨ns,G.mono I,h⟩
 QD B H G _ I:=Good.mono G I
 inside j B:=by
  rintro⟨ns,G,h⟩ i hi;exact(G.app (l:=[])).2 i hi
 le:=by rw[aO];exact we
def TQ {x:eO}(j:ak)(B:St)(h:KJ x M dI gB R b0 j B):jP B (.ref x.lm):=by
 obtain⟨ns,G,h⟩:=h;obtain⟨a,e,E,F,D⟩:=G.lm;exact⟨_,a,e,E,_,rfl,D⟩
def TR {x:eO}(G:Good x M dI gB B)(hb:∀n∈dI,n.length<=b0):KJ x M dI gB R b0 0 B:=
 ⟨dI,by unfold gn;rw[uh,ua,fT];exact G,by rw[mq,mq],hb,cZ _⟩
def yG {x:eO}(h:KJ x M dI gB R b0 R.length B):Good x M (bM M dI R).2 (gB++gn R) B:=by
 obtain⟨ns,G,h,-⟩:=h;rw[kf (a4 _)]at h;have:ns=(bM M dI R).2:=(lD h).2;rw[<-this];rw[j5]at G;exact G
def Ex.g (h:Ex B H)(hi:B[i]? =ae o):H[i]? =ae o:=Fr.get h hi id
def Ex.any (h:Ex B H):Fr D B H:=Fr.mono h λu h=>h.elim
def Ex.nZ (h:Ex B H)(hi:B.length<=i):Ex B (H.set i o):=Fr.old h (Fr.set (D:=λj=>j=i) rfl) λj D e=>by exact XX 1 0 (CH 0 0 1 0 (CH 0 0 0 0 hi (EG e)) D) rfl
def l3 {s:au}(h:cY s=aj):a8 n B (.str s)=ae (.str s):=by
 have e:a8 n B (.str s)=if cY s then ae (.str s)else ag:=by cases n <;>rfl
 rw[e,aN h]
def zP:∀{l:ah au},(∀s∈l,cY s=aj)->c8 (a8 n B) (l.map .str)=ae (l.map .str):=by
 intro l;induction l with
 |nil=>
  intro _;exact rfl
 |cons s l E=>
  intro h;obtain D:a8 n B (.str s)=ae (.str s):=l3 (h s (.head _));show(match a8 n B (.str s),c8 (a8 n B) (l.map .str)with |some d,ae ds=>ae (d :: ds) |_,_=>bq)=_;rw[D,E λs F=>h s (.tail _ F)];rfl
def qI {i:Int}:a8 n B (.int i)=ae (.int i):=by cases n <;>rfl
def zQ:∀{l:ah Int},c8 (a8 n B) (l.map .int)=ae (l.map .int):=by
 intro l;induction l with
 |nil=>
  exact rfl
 |cons i l D=>
  show(match a8 n B (.int i),c8 (a8 n B) (l.map .int)with |some d,ae ds=>ae (d :: ds) |_,_=>bq)=_;rw[qI,D];rfl
def l4 {ds:ah hV}(h:B[i]? =ae (.list l))(hd:c8 (a8 n B) l=ae ds):a8 (n+1) B (.ref i)=ae (.list ds):=by
 show((B[i]?.bind listOf).bind λl=>(c8 (a8 n B) l).map I9)=_;rw[h];show(c8 (a8 n B) l).map I9=_;rw[hd];rfl
def s8 {b:AV}{x y:hV}(h1:a8 8 B a=ae x)(h2:a8 8 B b=ae y)(q:QB (!bY x y) B):WP (dQ .NotEq a b) B QB E:=by
 show WP (lG a b>>=λc=>th (!c)) B QB E;exact av (zE h1 h2 (sM q))
def w_eq {b:AV}{x y:hV}(h1:a8 8 B a=ae x)(h2:a8 8 B b=ae y)(q:QB (bY x y) B):WP (dQ .Eq a b) B QB E:=by
 show WP (lG a b) B QB E;exact zE h1 h2 q
def zR {ds:ah hV}(h:B[i]? =ae (.list l))(hd:c8 (a8 7 B) l=ae ds)(hj:B[j]? =ae (.list []))(q:QB (!l.isEmpty) B):WP (dQ .NotEq (.ref i) (.ref j)) B QB E:=by
 refine s8 (l4 h hd) (l4 hj (ds:=[]) rfl) ?_;have:bY (.list ds) (.list [])=l.isEmpty:=by
  rw[bY];cases l with
  |nil=>cases hd;rw[lF];rfl
  |cons x l=>
   have:c8 (a8 7 B) (x :: l)=(match a8 7 B x,c8 (a8 7 B) l with |some d,ae ds=>ae (d :: ds) |_,_=>bq):=rfl;rw[this]at hd;cases F:a8 7 B x with
   |none=>rw[F]at hd;cases hd
   |some d=>
    rw[F]at hd;cases D:c8 (a8 7 B) l with
    |none=>rw[D]at hd;cases hd
    |some G=>rw[D]at hd;cases hd;rw[lF];rfl
 rw[this];exact q
def FU {l:ah au}{s:au}(h:B[i]? =ae (.list (l.map .str)))(hs:cY s=aj)(hl:∀s∈l,cY s=aj)(q:QB (l.contains s) B):WP (dQ .In (.str s) (.ref i)) B QB E:=by
 refine av (dj h ?_);show WP (xx (.str s) (l.map .str)) B QB E;refine av (w_get ?_);obtain D:a8 8 B (.str s)=ae (.str s):=l3 hs;rw[D,zP hl];refine aQ ?_;have e:((l.map PyData.str).any λy=>bY y (.str s))=l.contains s:=by
  rw[List.any_map,List.contains_eq_any_beq]
  congr 1
  funext x
  show bY (.str x) (.str s)=_;rw[bY];rw[qW,bU,bU];exact eq_comm
 rw[e];exact q
def m_split {a0:AV->St->Prop}{s c:au}(hc:(c.length == 0)=az)(hl:s.length<=4096)(hp:(m4 s (l5 s c 0 s.length (s.length+1)) c.length).length<=4096)(c0:(aU s c).length<=4096)(q:a0 (.ref B.length) (B++[.list ((aU s c).map .str)])):WP (e9 F (.str s) .split [.str c] []) B a0 E:=
 av (qE (av (fF (av (e5 (av (qE (av (bw ⟨hc,hl,hp⟩ (bp (by rw[aO];exact c0) q))))))))))
def sm:∀{l:ah au},strsOf (l.map .str)=ae l:=by
 intro l;induction l with
 |nil=>
  exact rfl
 |cons x l B=>
  show(strsOf (l.map .str)).map (x :: ·)=_;rw[B];rfl
def zS {a0:AV->St->Prop}{s:au}{l:ah au}(h:B[i]? =ae (.list (l.map .str)))(hj:pE s l=aj)(q:a0 (.str (jv s l)) B):WP (e9 F (.str s) .join [.ref i] []) B a0 E:=
 av (qE (av (fF (av (e5 (av (eh (av (fD h (av (dU sm (av (bw hj (aQ q))))))))))))))
def wg:∀{n k:ak} {c:Int} {v:AV},(mR 1 n c)[k]? =ae v->v= .int (c+k)/\k < n:=by
 intro G;induction G with
 |zero=>
  intro _ _ _ h;exact nomatch h
 |succ n F=>
  intro E;cases E with
  |zero=>
   intro c v h;cases h;exact⟨by simp,Bg _⟩
  |succ k=>
   intro c v h;obtain⟨D,B⟩:=F (k:=k) (c:=c+1) h;refine⟨?_,by exact FI 1 0 2 1 B rfl⟩;rw[D];congr 1;lia
def qJ {d:Int}:∀{n:ak} {c:Int},(mR d n c).length=n:=by
 intro n;induction n with
 |zero=>
  intro _;exact rfl
 |succ n B=>
  intro c;show(mR d n (c+d)).length+1=_;rw[B]
def wh {a0:AV->St->Prop}(e:B[i]? =ae (.list l))(hl:l.length<=4096)(hz:z=k)(hk:k<=8192)(q:a0 (.ref B.length) (B++[.list (l.take k)])):WP (km (.ref i) ag (ae (.int z))) B a0 E:=by
 subst hz;exact FC e hl (by exact FI 0 8192 1 4611686018427387904 hk rfl) q
def FV (h:fz r):(∀s∈r.1,cY s=aj)/\∀s∈r.2,cY s=aj:=by
 have:=bW.mp Tt;exact⟨bW.mp (this _ (gM _ h.1)),bW.mp (this _ (hW _ h.2))⟩
theorem zT {s:au}(h:s∈modS):vP s (sO ".") 3 (jq s):=by
 have:=bW.mp Tq s h;simp only[cW,ft,bW,nu]at this;obtain⟨⟨⟨⟨⟨E,D⟩,H⟩,I⟩,G⟩,F⟩:=this;exact⟨E,by exact FI 0 8 0 16 D rfl,H,λk B=>I k (by exact FI 0 3 1 4 B rfl),G,F⟩
theorem FW {s:au}(h:s∈sA):vP s (sO "/") 4 (kW s):=by
 have:=bW.mp Ts s h;simp only[cW,ft,bW,nu]at this;obtain⟨⟨⟨⟨⟨E,D⟩,H⟩,I⟩,G⟩,F⟩:=this;exact⟨E,by exact D,H,λk B=>I k (by exact FI 0 4 1 5 B rfl),G,F⟩
def TS {s:au}(h:fz r)(hs:s∈modS):sD r.1 (.str s)=(jq s).any λx=>r.1.contains x:=by
 have:=bW.mp (bW.mp To _ h.1) s hs;exact eq_of_beq this
def TU {s:au}(h:fz r)(hs:s∈sA):qA r.2 (.str s)=(kW s).any λx=>r.2.contains x:=by
 have:=bW.mp (bW.mp Tp _ h.2) s hs;exact eq_of_beq this
def TV {α:Type}{l:ah α}{a0:α->aB}:(!(l.filter a0).isEmpty)=l.any a0:=by
 rw[qW];simp[ur,ub,Ja]
def s9 {α:Type}{l:ah α}{x:α}{a0:α->aB}(hx:l[k]? =ae x):(l.take (k+1)).filter a0=(l.take k).filter a0++(if a0 x then [x]else []):=by
 rw[take_snoc hx,List.filter_append]
 congr 1
 by_cases h:a0 x
 ·rw[aN h,Jb h];rfl
 ·rw[aK h,Jc h];rfl
def qK {a0:aB->St->Prop}{t:DT}(h:WP (t Q) B a0 E):mQ Q a0 E [t] B:=h
theorem TX {a0:ah AV->St->Prop}{c pi:ak}{s:au}(fs:vP s (sO ".") 3 (jq s))(hc:B[c]? =ae (.cell (ae (.ref pi))))(hp:B[pi]? =ae (.list ((aU s (sO ".")).map .str)))(q:∀H,Ex B H->a0 ((jq s).map .str) H):
  WP (cw (bX (eK (vS ".")) .join [(fw (eC "parts") ag (ae (aY .Add (eL 1) (eK (.int 1)))))] []) [] (pL 1) 128 (.range 0 (aU s (sO ".")).length 1) ⟨F,[(aq "parts",c)],[ag,ag,ag]⟩ []) B a0 E:=by
 obtain D:=fs.len;refine lZ (G:=λu=>eN) (a0:=λj J I H=>J=((jq s).take j).map .str/\Ex B H/\mT I) (K:=mR 1 (aU s (sO ".")).length 0)
  Yl.range (by rw[qJ];exact FI 0 3 1 128 D rfl) (λu u u u u=>trivial) ⟨rfl,Fr.refl _ _,mT.mk⟩ ?_ ?_
 ·intros _ j v J R H _ N L;obtain⟨rfl,G,M⟩:=L;obtain (⟨T,S,U,rfl⟩):=M;obtain⟨rfl,K⟩:=wg N;obtain TY:=G.g hc;obtain qG:=G.g hp;wtm_at "r";refine qH ?_;refine t_t ?_;refine⟨by rw[aO,er];exact TT ML (CF 1 0 0 3 0 4096 K D rfl),?_⟩;wtm_at "r";refine⟨(λh=>nomatch h.1),nX (.inr (.inr rfl)) ?_⟩;wtm_at "r";refine wh (k:=j+1) qG (by rw[aO];exact FI 0 3 0 4096 D rfl) (by lia) (by exact CF 1 0 0 3 1 8192 K D rfl) ?_;wtm_at "r";rw[<-rJ];refine zS g_last (fs.join _ (by exact TT K D)) ?_;refine⟨?_,G.trans Fr.app,mT.mk⟩;have O:(jq s)[j]? =ae (jv (sO ".") ((aU s (sO ".")).take (j+1))):=by
   unfold jq;rw[dA,Jd K];rfl
  rw[take_snoc O,dH];rfl
 ·rintro J I H ⟨rfl,G,-⟩;rw[qJ,gy (by unfold jq;rw[aO,wQ];exact a4 _)];exact q H G
theorem TZ {a0:ah AV->St->Prop}{c ai:ak}{L c0:ah au}(hL:L.length<=16)(d0:∀x∈L,cY x=aj)(e0:∀x∈c0,cY x=aj)(hc:B[c]? =ae (.cell (ae (.ref mi))))(hm:B[mi]? =ae (.list (c0.map .str)))(ha:B[ai]? =ae (.list (L.map .str)))(q:a0 ((L.filter λx=>c0.contains x).map .str) B):
  WP (cw (eL 1) [(aR .In (eL 1) (eC "modules"))] (pL 1) 128 (.list (ae ai) 0) ⟨F,[(aq "modules",c)],[ag,ag,ag]⟩ []) B a0 E:=by
 refine lZ (G:=λH=>H=B) (a0:=λj D I H=>D=((L.take j).filter λx=>c0.contains x).map .str/\H=B/\mT I) (K:=L.map .str)
  (Yl.gK λH e=>by rw[e];exact ha) (by rw[aO];exact FI 0 16 1 128 hL rfl) (λu u u u h=>h.2.1) ⟨rfl,rfl,mT.mk⟩ ?_ ?_
 ·intros _ j v D R H _ J N;obtain⟨rfl,rfl,O⟩:=N;obtain (⟨T,S,U,rfl⟩):=O;rw[dA]at J;cases G:L[j]? with
  |none=>rw[G]at J;cases J
  |some x=>
   intros x _ G;rw[G]at J;cases J;wtm_at "r";refine qK ?_;wtm_at "r";refine FU hm (d0 x (cD G)) e0 ⟨λK=>?_,λK=>?_⟩
   ·refine⟨?_,?_⟩
    ·rw[aO];have:=pF (λx=>c0.contains x) (L.take j);rw[er]at this;exact TT this (CF 0 0 0 16 0 4096 MR hL rfl)
    ·wtm_at "r";refine⟨?_,rfl,mT.mk⟩;rw[s9 G,aN K,dH];rfl
   ·refine⟨?_,rfl,mT.mk⟩;rw[s9 G,aK (by rw[K];simp),fT]
 ·rintro D I H ⟨rfl,rfl,-⟩;rw[aO,j5];exact q
theorem T4 {a0:ah AV->St->Prop}{c cd pi:ak}{s:au}{c0:ah au}(fs:vP s (sO "/") 4 (kW s))(e0:∀x∈c0,cY x=aj)(hc:B[c]? =ae (.cell (ae (.ref pi))))(hp:B[pi]? =ae (.list ((aU s (sO "/")).map .str)))(d0:B[cd]? =ae (.cell (ae (.ref di))))(hd:B[di]? =ae (.list (c0.map .str)))(q:∀H (l:ah Int),Ex B H->(!l.isEmpty)=(kW s).any (λx=>c0.contains x)->l.length<=16->a0 (l.map .int) H):
  WP (cw (eL 1) [(aR .In (bX (eK (vS "/")) .join [(fw (eC "steps") ag (ae (eL 1)))] []) (eC "directories"))] (pL 1) 128 (.range 0 (aU s (sO "/")).length 1) ⟨F,[(aq "steps",c),(aq "directories",cd)],[ag,ag,ag,ag]⟩ []) B a0 E:=by
 obtain D:=fs.len;refine lZ (G:=λy=>eN) (a0:=λj N I H=>(∃l:ah Int,N=l.map .int/\(!l.isEmpty)=((kW s).take j).any (λx=>c0.contains x)/\l.length<=j)/\Ex B H/\jn I) (K:=mR 1 (aU s (sO "/")).length 0)
  Yl.range (by rw[qJ];exact FI 0 4 1 128 D rfl) (λy y y y y=>trivial) ⟨⟨[],rfl,rfl,a4 _⟩,Fr.refl _ _,jn.mk⟩ ?_ ?_
 ·intros _ j v N Z H _ Y S;obtain⟨U,K,T⟩:=S;obtain (⟨k,A,u,w,rfl⟩):=T;obtain (⟨l,rfl,O,J⟩):=U;obtain⟨rfl,R⟩:=wg Y;obtain TY:=K.g hc;obtain qG:=K.g hp;wtm_at "r";refine qK ?_;wtm_at "r";refine⟨(λh=>nomatch h.1),nX (.inr (.inr rfl)) ?_⟩;wtm_at "r";refine wh (k:=j) qG (by rw[aO];exact FI 0 4 0 4096 D rfl) (by lia) (by exact CF 1 0 0 4 0 8192 R D rfl) ?_;wtm_at "r";rw[<-rJ];refine zS g_last (fs.join _ (by exact CF 1 0 0 4 0 4 R D rfl)) ?_;obtain G:Ex B (H++[AO.list (((aU s (sO "/")).take j).map .str)]):=K.trans Fr.app;obtain Wt:=G.g d0;obtain oX:=G.g hd;have V:(kW s)[j]? =ae (jv (sO "/") ((aU s (sO "/")).take j)):=by
   unfold kW;rw[dA,Jd R];rfl
  wtm_at "r";refine FU oX (fs.EK _ (cD V)) e0 ⟨λL=>?_,λL=>?_⟩
  ·refine⟨by rw[aO];exact TT J (CF 1 0 0 4 0 4096 R D rfl),?_⟩;wtm_at "r";refine⟨⟨l++[0+(j:Int)],by rw[dH];rfl,?_,by simp;exact J⟩,G,jn.mk⟩;obtain L:c0.contains (jv (sO "/") ((aU s (sO "/")).take j))=aj:=L;rw[take_snoc V,BC,pK,L];simp
  ·refine⟨⟨l,rfl,?_,by exact FI 0 0 0 1 J rfl⟩,G,jn.mk⟩;obtain L:c0.contains (jv (sO "/") ((aU s (sO "/")).take j))=az:=L;rw[take_snoc V,BC,pK,L,O];simp
 ·intros _ N I H _ X;obtain⟨W,K,-⟩:=X;obtain (⟨l,rfl,O,J⟩):=W;rw[qJ]at O J;rw[gy (by unfold kW;rw[aO,wQ];exact a4 _)]at O;exact q H l K O (by exact CF 0 0 0 4 0 16 J D rfl)
theorem T5 {a0:AV->St->Prop}(hr:fz r)(hm:eg m)(hp:f5 p)(d0:B[mi]? =ae (.list (r.1.map .str)))(l0:B[di]? =ae (.list (r.2.map .str)))(q:∀H,Ex B H->a0 (.bool (dv r p m)) H):WP (FN (k+1) (.fn (aq "_law_to_be_left_out")) [p,m,.ref mi,.ref di] []) B a0 E:=by
 obtain V:=FV hr;refine RP ?_;obtain hM:(B++[AO.cell (ae (.ref mi)),.cell (ae (.ref di)),.cell ag,.cell ag])[B.length]? =ae (.cell (ae (.ref mi))):=qD;obtain hD:(B++[AO.cell (ae (.ref mi)),.cell (ae (.ref di)),.cell ag,.cell ag])[B.length+1]? =ae (.cell (ae (.ref di))):=iX;obtain hP:(B++[AO.cell (ae (.ref mi)),.cell (ae (.ref di)),.cell ag,.cell ag])[B.length+2]? =ae (.cell ag):=iX;obtain hS:(B++[AO.cell (ae (.ref mi)),.cell (ae (.ref di)),.cell ag,.cell ag])[B.length+3]? =ae (.cell ag):=iX;obtain W:Ex B (B++[AO.cell (ae (.ref mi)),.cell (ae (.ref di)),.cell ag,.cell ag]):=Fr.app;generalize B++[AO.cell (ae (.ref mi)),.cell (ae (.ref di)),.cell ag,.cell ag]=a7 at *;have cont:∀(D:St) (ai:ak) (L:ah au) (x5:ax AV),Ex B D->D[B.length]? =ae (.cell (ae (.ref mi)))->D[B.length+1]? =ae (.cell (ae (.ref di)))->D[B.length+3]? =ae (.cell ag)->D[ai]? =ae (.list (L.map .str))->
   L.length<=16->(∀x∈L,cY x=aj)->sD r.1 m=L.any (λx=>r.1.contains x)->
   WP (sq [bJ (nS (aR .Is (eL 0) (eK .none)) (aR .NotEq (d9 (eH [(".0",.local),("name",.local),("modules",.free)]) az (iA (eL 4)) (pL 1) [(aR .In (eL 1) (eC "modules"))] (eL 1)) (eList []))) [
  bL (eK (.bool aj))] [],
 aE (pC "steps") (bX (eL 0) .split [(eK (vS "/"))] []),
 bL (lR .NotEq (d9 (eH [(".0",.local),("k",.local),("directories",.free),("steps",.free)]) az (iS (iT [(aX (eK (.bi "len")) [(eC "steps")] [])])) (pL 1) [(aR .In (bX (eK (vS "/")) .join [(fw (eC "steps") ag (ae (eL 1)))] []) (eC "directories"))] (eL 1)) (eList []))]
   ⟨FN k,[(aq "steps",B.length+3),(aq "parts",B.length+2),(aq "directories",B.length+1),(aq "modules",B.length)],[ae p,ae m,ag,ag,ae (.ref ai),x5,ag,ag,ag]⟩) D (λx B=>WP (eQ x.1) B a0 E) E:=by
  intros _ D ai L x5 _ W hM hD hS S hL Z A;wtm_at "r";refine zA ?_;rcases hp with rfl |⟨ps,FX,rfl⟩
  ·refine t_t ?_;wtm_at "r";have:dv r .none m=aj:=by unfold dv qA;rw[rq]
   rw[this]at q;exact q _ W
  ·refine t_f ?_;obtain G:=FW FX;wtm_at "r";refine iF (cs:=[(aq "modules",B.length)]) (L:=[ag,ag,ag]) (by decide +kernel) (by kernel_rfl) (λv=>by kernel_rfl) rfl ?_;wtm_at "r";refine fg S ⟨rfl,TZ hL Z V.1 hM (W.g d0) S ?_⟩;obtain c0:(L.filter λx=>r.1.contains x).length<=L.length:=pF _ _;refine bp (by rw[aO];exact CF 0 0 0 16 0 4096 c0 hL rfl) ?_;wtm_at "r";refine bp (by simp) ?_;refine zR (g_app g_last) (zP λs b=>Z s ((A3.mp b).1)) g_last ?_;have e1:(!((L.filter λx=>r.1.contains x).map AV.str).isEmpty)=sD r.1 m:=by
    rw[A,<-TV,BD]
   rw[e1];obtain u:Ex B (D++[AO.list ((L.filter λx=>r.1.contains x).map .str)]++[AO.list []]):=(W.trans Fr.app).trans Fr.app;obtain j0:(D++[AO.list ((L.filter λx=>r.1.contains x).map .str)]++[AO.list []])[B.length+1]? =ae (.cell (ae (.ref di))):=g_app (g_app hD);obtain z:(D++[AO.list ((L.filter λx=>r.1.contains x).map .str)]++[AO.list []])[B.length+3]? =ae (.cell ag):=g_app (g_app hS);generalize D++[AO.list ((L.filter λx=>r.1.contains x).map .str)]++[AO.list []]=bk at *;refine⟨λc1=>?_,λc1=>?_⟩
   ·wtm_at "r";have:dv r (.str ps) m=aj:=by unfold dv;rw[c1];rfl
    rw[this]at q;exact q _ u
   ·have M:dv r (.str ps) m=(kW ps).any λx=>r.2.contains x:=by
     unfold dv;rw[c1,TU hr FX];rfl
    rw[M]at q;obtain F:=G.len;wtm_at "r";refine⟨(λh=>nomatch h.1),nX (.inr (.inl rfl)) ?_⟩;wtm_at "r";refine m_split (by decide +kernel) (by have:=G.short;exact FI 0 16 0 4096 this rfl) G.parts (dW F (by decide)) ?_;obtain h0:(bk++[AO.list ((aU ps (sO "/")).map .str)])[B.length+3]? =ae (.cell ag):=g_app z;wtm_at "r";obtain K:Ex B ((bk++[AO.list ((aU ps (sO "/")).map .str)]).set (B.length+3) (.cell (ae (.ref bk.length)))):=Ex.nZ (u.trans Fr.app) (by exact RR 0 3 rfl);obtain N:((bk++[AO.list ((aU ps (sO "/")).map .str)]).set (B.length+3) (.cell (ae (.ref bk.length))))[B.length+3]? =ae (.cell (ae (.ref bk.length))):=de h0;obtain O:((bk++[AO.list ((aU ps (sO "/")).map .str)]).set (B.length+3) (.cell (ae (.ref bk.length))))[B.length+1]? =ae (.cell (ae (.ref di))):=g_ne (by exact NT (gP _)) (g_app j0);obtain J:((bk++[AO.list ((aU ps (sO "/")).map .str)]).set (B.length+3) (.cell (ae (.ref bk.length))))[bk.length]? =ae (.list ((aU ps (sO "/")).map .str)):=g_ne (by have:=ba z;exact NE (this)) g_last;generalize (bk++[AO.list ((aU ps (sO "/")).map .str)]).set (B.length+3) (.cell (ae (.ref bk.length)))=dZ at *;refine iF (cs:=[(aq "steps",B.length+3),(aq "directories",B.length+1)]) (L:=[ag,ag,ag,ag]) (by decide +kernel) (by kernel_rfl) (λv=>by kernel_rfl) rfl ?_;wtm_at "r";refine f_len J ?_;wtm_at "r";rw[aO];refine pj (by exact KN (by decide)) (by exact JC 4096 (FI 0 4 1 4096 G.len rfl)) ?_;rw[eD];wtm_at "r";refine⟨rfl,T4 G V.2 N J O (K.g l0) λX l I hl i0=>?_⟩;refine bp (by rw[aO];exact FI 0 16 0 4096 i0 rfl) ?_;wtm_at "r";refine bp (by simp) ?_;refine zR (g_app g_last) zQ g_last ?_;rw[BD,hl];wtm_at "r";exact q _ (((K.trans I).trans Fr.app).trans Fr.app)
 unfold y3;wtm_at "r";refine bp (by simp) ?_;obtain R:(a7++[AO.list []])[B.length]? =ae (.cell (ae (.ref mi))):=g_app hM;obtain w:(a7++[AO.list []])[B.length+1]? =ae (.cell (ae (.ref di))):=g_app hD;obtain T:(a7++[AO.list []])[B.length+2]? =ae (.cell ag):=g_app hP;obtain U:(a7++[AO.list []])[B.length+3]? =ae (.cell ag):=g_app hS;obtain Y:Ex B (a7++[AO.list []]):=W.trans Fr.app;obtain f0:(a7++[AO.list []])[a7.length]? =ae (.list []):=g_last;generalize a7++[AO.list []]=D at *;wtm_at "r";rcases hm with rfl |⟨s,b,rfl⟩
 ·refine s8 qI qI ?_;have:(!bY (.int 7) (.int 7))=az:=by rw[bY];rfl
  rw[this];refine t_f (x_nil (n_next ?_));exact cont D a7.length [] ag Y R w U f0 (cZ _) (λv h=>nomatch h) rfl
 ·obtain G:=zT b;obtain h1:a8 8 D (.str s)=ae (.str s):=l3 G.ok;refine s8 h1 qI ?_;have:(!bY (.str s) (.int 7))=aj:=by rw[bY];rfl
  rw[this];refine t_t ?_;obtain F:=G.len;wtm_at "r";refine⟨(λh=>nomatch h.1),nX (.inr (.inl rfl)) ?_⟩;wtm_at "r";refine m_split (by decide +kernel) (by have:=G.short;exact FI 0 16 0 4096 this rfl) G.parts (dW F (by decide)) ?_;obtain e0:(D++[AO.list ((aU s (sO ".")).map .str)])[B.length+2]? =ae (.cell ag):=g_app T;obtain g0:=ba T;wtm_at "r";obtain K:Ex B ((D++[AO.list ((aU s (sO ".")).map .str)]).set (B.length+2) (.cell (ae (.ref D.length)))):=Ex.nZ (Y.trans Fr.app) (by exact RR 0 2 rfl);obtain f:((D++[AO.list ((aU s (sO ".")).map .str)]).set (B.length+2) (.cell (ae (.ref D.length))))[B.length+2]? =ae (.cell (ae (.ref D.length))):=de e0;obtain o:((D++[AO.list ((aU s (sO ".")).map .str)]).set (B.length+2) (.cell (ae (.ref D.length))))[B.length]? =ae (.cell (ae (.ref mi))):=g_ne (by exact NT (gP _)) (g_app R);obtain O:((D++[AO.list ((aU s (sO ".")).map .str)]).set (B.length+2) (.cell (ae (.ref D.length))))[B.length+1]? =ae (.cell (ae (.ref di))):=g_ne (by exact NT (a4 _)) (g_app w);obtain N:((D++[AO.list ((aU s (sO ".")).map .str)]).set (B.length+2) (.cell (ae (.ref D.length))))[B.length+3]? =ae (.cell ag):=g_ne (by exact NE (a4 _)) (g_app U);obtain J:((D++[AO.list ((aU s (sO ".")).map .str)]).set (B.length+2) (.cell (ae (.ref D.length))))[D.length]? =ae (.list ((aU s (sO ".")).map .str)):=g_ne (by exact NE (g0)) g_last;generalize (D++[AO.list ((aU s (sO ".")).map .str)]).set (B.length+2) (.cell (ae (.ref D.length)))=dZ at *;refine iF (cs:=[(aq "parts",B.length+2)]) (L:=[ag,ag,ag]) (by decide +kernel) (by kernel_rfl) (λv=>by kernel_rfl) rfl ?_;wtm_at "r";refine f_len J ?_;wtm_at "r";rw[aO];refine pj (by exact KN (by decide)) (by exact JC 4096 (FI 0 3 1 4096 G.len rfl)) ?_;rw[eD];wtm_at "r";refine⟨rfl,TX G f J λX I=>?_⟩;have j:(jq s).length<=16:=by unfold jq;rw[aO,wQ];exact dW F (by decide)
  refine bp (by rw[aO];exact FI 0 16 0 4096 j rfl) ?_;refine cu rfl (n_next (x_nil (n_next ?_)));exact cont _ X.length (jq s) ag ((K.trans I).trans Fr.app) (g_app (I.g o)) (g_app (I.g O)) (g_app (I.g N)) g_last j G.EK (TS hr b)
def dO.fr (a0:Fr D B H):∀{is:ah ak} {ns:ah aS},dO B is ns->(∀i∈is,¬ D i)->dO H is ns:=by
 intro I;induction I with
 |nil=>
  intro E;cases E with
  |nil=>
   intro _ _;exact trivial
  |cons _ _=>
   intro h _;exact h.elim
 |cons i is G=>
  intro E;cases E with
  |nil=>
   intro h _;exact h.elim
  |cons n ns=>
   rintro⟨h1,h2⟩ hd;exact⟨a0.get h1 (hd i (.head _)),G h2 λj F=>hd j (.tail _ F)⟩
def fe.fr (a0:Fr D B H):∀{X:ah (ak×ak)} {M:ah Rd},fe B X M->(∀q∈X,¬ D q.1/\¬ D q.2)->fe H X M:=by
 intro I;induction I with
 |nil=>
  intro E;cases E with
  |nil=>
   intro _ _;exact trivial
  |cons _ _=>
   intro h _;exact h.elim
 |cons q X G=>
  intro E;cases E with
  |nil=>
   intro h _;exact h.elim
  |cons r M=>
   rintro⟨h1,h2⟩ hd;exact⟨⟨a0.get h1.1 (hd q (.head _)).1,a0.get h1.2 (hd q (.head _)).2⟩,G h2 λj F=>hd j (.tail _ F)⟩
def dO.at:∀{B:St} {is:ah ak} {ns:ah aS} {i:ak},dO B is ns->i∈is->∃n,B[i]? =ae (.list (nA n)):=by
 intro E J;induction J generalizing E with
 |nil=>
  intro _ _ _ h;exact nomatch h
 |cons i is I=>
  intro H;cases H with
  |nil=>
   intro _ h _;exact h.elim
  |cons n ns=>
   rintro j ⟨G,F⟩ D;rcases bu.mp D with rfl |D
   ·exact⟨n,G⟩
   ·exact(I F) D
def FY (h:eg m):∃d,a8 8 B m=ae d/\(m= .int 7/\d= .int 7\/∃s,m= .str s/\d= .str s):=by
 rcases h with rfl |⟨s,hs,rfl⟩
 ·exact⟨_,qI,.inl ⟨rfl,rfl⟩⟩
 ·exact⟨.str s,l3 (zT hs).ok,.inr ⟨s,rfl,rfl⟩⟩
theorem FZ {b:AV}(ha:eg a)(hb:eg b)(q:QB (decide (a=b)) B):WP (dQ .Eq a b) B QB E:=by
 obtain⟨x,F,D⟩:=FY (B:=B) ha;obtain⟨y,H,G⟩:=FY (B:=B) hb;refine w_eq F H ?_;have:bY x y=decide (a=b):=by
  rcases D with ⟨rfl,rfl⟩ |⟨s,rfl,rfl⟩<;>rcases G with ⟨rfl,rfl⟩ |⟨t,rfl,rfl⟩
  ·rw[bY,i7 rfl];rfl
  ·rw[bY,pJ (λh=>nomatch h)]
  ·rw[bY,pJ (λh=>nomatch h)]
  ·rw[bY];rw[qW,bU,decide_eq_true_iff];exact⟨λh=>by rw[h],λh=>by injection h⟩
 rw[this];exact q
theorem T6 {c ai:ak}{n:aS}{a0:ah AV->St->Prop}(hl:n.length<=100)(hn:∀q∈n,eg q.1)(hm:eg m)(hc:B[c]? =ae (.cell (ae m)))(ha:B[ai]? =ae (.list (nA n)))(q:a0 ((n.filter λq=>decide (q.1=m)).map (·.2)) B):
  WP (cw (eL 2) [(aR .Eq (eL 1) (eC "module"))] (cx [(pL 1),(pL 2)]) 128 (.list (ae ai) 0) ⟨F,[(aq "module",c)],[ag,ag,ag,ag]⟩ []) B a0 E:=by
 refine lZ (G:=λH=>H=B) (a0:=λj D I H=>D=((n.take j).filter λq=>decide (q.1=m)).map (·.2)/\H=B/\jn I) (K:=nA n)
  (Yl.gK λH e=>by rw[e];exact ha) (by unfold nA;rw[aO];exact FI 0 100 1 128 hl rfl) (λu u u u h=>h.2.1) ⟨rfl,rfl,jn.mk⟩ ?_ ?_
 ·intros _ j v D N H _ G L;obtain⟨rfl,rfl,M⟩:=L;obtain (⟨S,O,T,R,rfl⟩):=M;unfold nA at G;rw[dA]at G;cases J:n[j]? with
  |none=>rw[J]at G;cases G
  |some x=>
   intros x _ J;rw[J]at G;cases G;wtm_at "r";refine qK ?_;wtm_at "r";refine FZ (hn x (cD J)) hm ⟨λK=>?_,λK=>?_⟩
   ·refine⟨?_,?_⟩
    ·rw[aO];have:=pF (λq:AV×AV=>decide (q.1=m)) (n.take j);rw[er]at this;exact TT this (CF 0 0 0 100 0 4096 MR hl rfl)
    ·wtm_at "r";refine⟨?_,rfl,jn.mk⟩;rw[s9 J,aN K,dH];rfl
   ·refine⟨?_,rfl,jn.mk⟩;rw[s9 J,aK (by rw[K];simp),fT]
 ·rintro D I H ⟨rfl,rfl,-⟩;unfold nA;rw[aO,j5];exact q
def T7 {n:aS}:(((n++[(m,p)]).filter λq=>decide (q.1=m)).map (·.2))[0]? =ae ((dw n m).getD p):=by
 have h:dw (n++[(m,p)]) m=ae ((dw n m).getD p):=by
  rw[v9,aN rfl];cases dw n m <;>rfl
 rw[<-h];unfold dw;rw[dA,<-List.head?_eq_getElem?,List.head?_filter]
def T8 {l:ah au}(h:B[i]? =ae (.list (l.map .str)))(hl:∀s∈l,cY s=aj)(hj:B[j]? =ae (.list []))(q:QB (!l.isEmpty) B):WP (dQ .NotEq (.ref i) (.ref j)) B QB E:=
 zR h (zP hl) hj (by rw[BD];exact q)
def T9 {t:ak}{ys:ah AV}{x y:AV}{a0:ax (AV×AI)->St->Prop}(h:B[s]? =ae (.list K))(hx:K[j]? =ae x)(h':B[t]? =ae (.list ys))(hy:ys[k]? =ae y)(q:a0 (ae (.pair x y,.zip (.list (ae s) (j+1)) (.list (ae t) (k+1)))) B):
  WP (bx (.zip (.list (ae s) j) (.list (ae t) k))) B a0 E:=av (zM h hx (av (zM h' hy (aQ q))))
def Ua {b:AI}{a0:ax (AV×AI)->St->Prop}(h:B[s]? =ae (.list K))(hx:K[j]? =ag)(q:a0 ag B):WP (bx (.zip (.list (ae s) j) b)) B a0 E:=av (FQ h hx (aQ q))
def F3 {α β:Type}{l:ah α}{a0:β->α}{x:β}{K:ah β}(h:l.drop j=(x :: K).map a0):l[j]? =ae (a0 x)/\l.drop (j+1)=K.map a0:=by
 have B:l[j]? =ae (a0 x):=by
  have:(l.drop j)[0]? =ae (a0 x):=by rw[h];rfl
  rwa [xm,xn]at this
 refine⟨B,?_⟩;rw[drop_cons B]at h;injection h
def g7.snoc {n:aS}(h:g7 n)(hm:eg m)(hp:f5 p):g7 (n++[(m,p)]):=λq B=>by
 rcases dX.mp B with B |B
 ·exact h q B
 ·rw[aJ.mp B];exact⟨hm,hp⟩
def Ub {n:aS}(h:g7 n)(hp:f5 p):f5 ((dw n m).getD p):=by
 unfold dw;cases B:n.find? (λq=>decide (q.1=m))with
 |none=>exact hp
 |some q=>exact(h q (II B)).2
def Uc {cm:ak}{o0 A0:ah AV}(hm:eg m)(hp:f5 p)(g0 x5 x6:ax AV):∀(d0:ah ak) (a9:ah (ak×ak)) (M:ah Rd) (ns:ah aS) (j c0:ak) (B:St) (e0:Int) (x8 x9 fU bS f Y:ax AV) (a0:FL×ah (ax AV)->St->Prop) (E:aI->St->Prop),
  d0.length=a9.length->(∀r∈M,fz r)->(∀n∈ns,n.length<=60/\g7 n)->dO B d0 ns->fe B a9 M->d0.Nodup->(∀i∈d0,∀q∈a9,q.1≠i/\q.2≠i)->B[NP]? =ae (.list o0)->B[LP]? =ae (.list A0)->NP∉d0->LP∉d0->
  o0.drop j=d0.map .ref->A0.drop j=a9.map pM->d0.length < c0->B[cm]? =ae (.cell (ae m))->
  (∀(s:Int) H (x8 x9 fU bS f Y:ax AV),(b7 M ns m p).1=ae s->dO H d0 (b7 M ns m p).2->Fr (· ∈d0) B H->a0 (.next,[g0,ae (.ref NP),ae (.ref LP),ae (.ref rp),ae p,x5,x6,ae (.int (e0+s)),x8,x9,fU,bS,f,Y]) H)->
  (∀H I,(b7 M ns m p).1=ag->dO H d0 (b7 M ns m p).2->Fr (· ∈d0) B H->a0 (.ret (.ref rp),I) H)->
  WP (forA (sq sy) (cx [(pL 8),(cx [(pL 9),(pL 10)])]) c0 (.zip (.list (ae NP) j) (.list (ae LP) j)) ⟨FN (k+1),[(aq "module",cm)],[g0,ae (.ref NP),ae (.ref LP),ae (.ref rp),ae p,x5,x6,ae (.int e0),x8,x9,fU,bS,f,Y]⟩) B a0 E:=by
 intro d0;induction d0 with
 |nil=>
  intro a9 M ns j c0 B e0 x8 x9 fU bS f Y a0 E L hr hn o hL B0 K V j0 b h0 S X hf hc q e;rcases c0 with _ |c0
  ·exact XX 1 0 (CH 1 0 0 0 hf ZZ) rfl
  rcases a9 with _ |⟨_,_⟩
  ·rcases M with _ |⟨_,_⟩
   ·rcases ns with _ |⟨_,_⟩
    ·refine sR (Ua V (rI (pV.mp S)) ⟨rfl,?_⟩);have:=q 0 B x8 x9 fU bS f Y rfl trivial (Fr.refl _ _);rw[BE]at this;exact this
    ·exact o.elim
   ·exact hL.elim
  ·simp at L
 |cons i d0 ih=>
  intro a9 M ns j c0 B e0 x8 x9 fU bS f Y a0 E L hr hn o hL B0 K V j0 b h0 S X hf hc q e;rcases c0 with _ |c0
  ·exact XX 1 0 (CH 1 0 0 0 hf ZZ) rfl
  rcases a9 with _ |⟨md,a9⟩
  ·simp at L
  rcases M with _ |⟨r,M⟩
  ·exact hL.elim
  rcases ns with _ |⟨n,ns⟩
  ·exact o.elim
  have U0:=o;obtain⟨hi,o⟩:=o;obtain⟨⟨w0,S0⟩,hL⟩:=hL;obtain⟨E0,S⟩:=F3 S;obtain⟨G0,X⟩:=F3 X;have s0:=hr r (.head _);have L0:=FV s0;obtain⟨O,z⟩:=hn n (.head _);obtain⟨T,z0⟩:=pN.mp B0;have zN:d0.length+1 < c0+1:=hf;refine vY (T9 V E0 j0 G0 ⟨rfl,?_⟩);unfold pM;wtm_at "r";have cont:∀J,¬ (m= .int 7/\r.1≠[])->Ex B J->WP (sq [
   b9 (bX (eL 8) .append [(gI [(eC "module"),(eL 4)])] []),
   aE (pL 11) (bz (d9 (eH [(".0",.local),("name",.local),("where",.local),("module",.free)]) aj (iA (eL 8)) (cx [(pL 1),(pL 2)]) [(aR .Eq (eL 1) (eC "module"))] (eL 2)) (eK (.int 0))),
   bJ (tV (aX (eK (.fn (aq "_law_to_be_left_out"))) [(eL 11),(eC "module"),(eL 9),(eL 10)] [])) [
    o8 (pL 7) (eL 7) .Add (eK (.int 1))] []] ⟨FN (k+1),[(aq "module",cm)],[g0,ae (.ref NP),ae (.ref LP),ae (.ref rp),ae p,x5,x6,ae (.int e0),ae (.ref i),ae (.ref md.1),ae (.ref md.2),bS,f,Y]⟩) J
    (Left (λI B=>WP (forA (sq sy) (cx [(pL 8),(cx [(pL 9),(pL 10)])]) c0 (.zip (.list (ae NP) (j+1)) (.list (ae LP) (j+1))) ⟨FN (k+1),[(aq "module",cm)],I⟩) B a0 E) a0) E:=by
   intro J R0 U;have e1:b7 (r :: M) (n :: ns) m p=((b7 M ns m p).1.map λi=>b2i (dv r ((dw n m).getD p) m)+i,(n++[(m,p)]) :: (b7 M ns m p).2):=aK R0;have v0:=U.g hc;have Z:=U.g hi;wtm_at "r";refine⟨(λh=>nomatch h.2),hU Z (.inl rfl) ?_⟩;wtm_at "r";refine js Z (by unfold nA;rw[aO];exact FI 0 60 0 4096 O rfl) ?_;have F0:Fr (· ∈i :: d0) B (J.set i (.list (nA n++[.pair m p]))):=U.any.trans (Fr.set (.head _));have l0:(J.set i (.list (nA n++[.pair m p])))[cm]? =ae (.cell (ae m)):=g_ne (cC Z v0 (by simp)) v0;have m0:(J.set i (.list (nA n++[.pair m p])))[i]? =ae (.list (nA (n++[(m,p)]))):=by
    rw[de Z];unfold nA;rw[dH];rfl
   have G:Fr (λa=>a=i) B (J.set i (.list (nA n++[.pair m p]))):=U.any.trans (Fr.set rfl);have H0:=o.fr G λa R e=>T (e ▸ R);have I0:=hL.fr G λq hq=>K i (.head _) q (.tail _ hq);have p0:=G.get w0 (K i (.head _) md (.head _)).1;have n0:=G.get S0 (K i (.head _) md (.head _)).2;have y0:=G.get V λe=>b (e ▸ .head _);have C0:=G.get j0 λe=>h0 (e ▸ .head _);generalize J.set i (.list (nA n++[.pair m p]))=bF at *;wtm_at "r";refine iF (cs:=[(aq "module",cm)]) (L:=[ag,ag,ag,ag]) (by decide +kernel) (by kernel_rfl) (λy=>by kernel_rfl) rfl ?_;wtm_at "r";refine fg m0 ⟨rfl,T6 (by rw[bK,uw];exact FI 0 60 1 100 O rfl) (λq hq=>(z.snoc hm hp q hq).1) hm l0 m0 ?_⟩;have u0:=pF (λq:AV×AV=>decide (q.1=m)) (n++[(m,p)]);rw[bK (as:=n),uw]at u0;refine bp (by rw[aO];exact CF 0 1 0 60 0 4096 u0 O rfl) ?_;refine w_K (lW g_last (by decide) T7 ?_);have W:Ex bF (bF++[AO.list (((n++[(m,p)]).filter λq=>decide (q.1=m)).map (·.2))]):=Fr.app;generalize bF++[AO.list (((n++[(m,p)]).filter λq=>decide (q.1=m)).map (·.2))]=bk at *;have V0:=W.g l0;wtm_at "r";refine T5 s0 hm (Ub z hp) (W.g p0) (W.g n0) λu P0=>?_;have F:Ex bF u:=W.trans P0;have w:Fr (· ∈i :: d0) B u:=F0.trans F.any;have r0:=F.g m0;have step:∀(v:Int),v=b2i (dv r ((dw n m).getD p) m)->∀A,WP (forA (sq sy) (cx [(pL 8),(cx [(pL 9),(pL 10)])]) c0 (.zip (.list (ae NP) (j+1)) (.list (ae LP) (j+1))) ⟨FN (k+1),[(aq "module",cm)],[g0,ae (.ref NP),ae (.ref LP),ae (.ref rp),ae p,x5,x6,ae (.int (e0+v)),ae (.ref i),ae (.ref md.1),ae (.ref md.2),A,f,Y]⟩) u a0 E:=by
    intro v hv A;refine ih a9 M ns (j+1) c0 u (e0+v) _ _ _ _ _ _ a0 E (by simpa using L) (λr K0=>hr r (.tail _ K0)) (λn Q0=>hn n (.tail _ Q0)) (H0.fr F λy y h=>h) (I0.fr F λy y=>⟨id,id⟩) z0
     (λa R q hq=>K a (.tail _ R) q (.tail _ hq)) (F.g y0) (F.g C0) (λh=>b (.tail _ h)) (λh=>h0 (.tail _ h)) S X (by exact FI 2 1 1 0 zN rfl) (F.g l0) (λs i0 y8 y9 O0 A J0 N0 R f0 D=>?_) λi0 I R f0 D=>?_
    ·have:=q (v+s) i0 y8 y9 O0 A J0 N0 (by rw[e1,R,hv];rfl) (by rw[e1];exact⟨D.get r0 T,f0⟩) (w.trans (D.mono λa R=>.tail _ R));rw[Int.add_assoc];exact this
    ·exact e i0 I (by rw[e1,R];rfl) (by rw[e1];exact⟨D.get r0 T,f0⟩) (w.trans (D.mono λa R=>.tail _ R))
   wtm_at "r";refine⟨λN=>?_,λN=>?_⟩
   ·wtm_at "r";exact step 1 (by rw[N];rfl) _
   ·wtm_at "r";have:=step 0 (by rw[N];rfl) (ae ((dw n m).getD p));rw[BE]at this;exact this
  unfold sy;wtm_at "r";refine FZ hm (.inl rfl) ⟨λN=>?_,λN=>?_⟩
  ·have N:m= .int 7:=gx N;wtm_at "r";refine bp (by simp) ?_;refine T8 (g_app w0) L0.1 g_last ⟨λc2=>?_,λc2=>?_⟩
   ·have M0:r.1≠[]:=λh=>by rw[h]at c2;cases c2
    have e1:b7 (r :: M) (n :: ns) m p=(ag,n :: ns):=aN ⟨N,M0⟩;wtm_at "r";have hx:Ex B (B++[AO.list []]):=Fr.app;exact e _ _ (by rw[e1]) (by rw[e1];exact dO.fr hx U0 λy y h=>h) hx.any
   ·refine x_nil (n_next (cont _ (λh=>h.2 ?_) Fr.app));cases T0:r.1 with
    |nil=>rfl
    |cons x l=>rw[T0]at c2;cases c2
  ·have N:m≠ .int 7:=jE N;exact t_f (x_nil (n_next (cont B (λh=>N h.1) (Fr.refl _ _))))
def F4 {b:ak}(hm:eg m)(hp:f5 p):∀{M:ah Rd} {ns:ah aS},(∀n∈ns,n.length<=b/\g7 n)->∀n∈(b7 M ns m p).2,n.length<=b+1/\g7 n:=by
 intro G;induction G with
 |nil=>
  intro D;cases D with
  |nil=>
   intro _ _ B;exact nomatch B
  |cons _ _=>
   intro _ _ B;exact nomatch B
 |cons r M F=>
  intro D;cases D with
  |nil=>
   intro _ _ B;exact nomatch B
  |cons n ns=>
   intro h E B;unfold b7 at B;split at B
   ·exact⟨xo (h E B).1,(h E B).2⟩
   ·rcases bu.mp B with rfl |B
    ·have:=h n (.head _);exact⟨by rw[bK];simp;exact this.1,this.2.snoc hm hp⟩
    ·exact F (λn B=>h n (.tail _ B)) E B
def sF.mk:sF row NP LP rp [ae (.ref row),ae (.ref NP),ae (.ref LP),ae (.ref rp),x4,x5,x6,x7,x8,x9,fU,bS,f,Y]:=⟨_,_,_,_,_,_,_,_,_,_,rfl⟩
theorem F5 {ns:ah aS}{c0:ah ak}{a0:AV->St->Prop}(u0:c0.length=a9.length)(hr:∀r∈M,fz r)(ht:∀t∈R,iC t)(hn:∀n∈ns,n.length<=b0/\g7 n)(hb:b0+R.length<=60)(hN:dO B c0 ns)(hL:fe B a9 M)(V0:c0.Nodup)(d0:∀i∈c0,∀q∈a9,q.1≠i/\q.2≠i)(I0:c0.length<=60)(M0:B[NP]? =ae (.list (c0.map .ref)))(S0:B[LP]? =ae (.list (a9.map pM)))(f0:B[row]? =ae (.list (R.map tA)))(o0:NP∉c0)(s0:LP∉c0)(E0:row∉c0)(q:∀H rp,dO H c0 (bM M ns R).2->Fr (· ∈c0) B H->B.length<=rp->H[rp]? =ae (.list ((bM M ns R).1.map .int))->a0 (.ref rp) H):
  WP (FN (k+2) (.fn (aq "_law_ranks")) [.ref row,.ref NP,.ref LP] []) B a0 E:=by
 refine RQ ?_;obtain B0:(B++[AO.cell ag])[B.length]? =ae (.cell ag):=g_last;obtain hx:Ex B (B++[AO.cell ag]):=Fr.app;obtain F:B.length < (B++[AO.cell ag]).length:=ba B0;generalize hc:B.length=cm at *;generalize B++[AO.cell ag]=a7 at *;unfold y4;wtm_at "r";refine bp (by simp) ?_;obtain r0:(a7++[AO.list []])[cm]? =ae (.cell ag):=g_app B0;obtain h0:Ex B (a7++[AO.list []]):=hx.trans Fr.app;obtain w0:(a7++[AO.list []])[a7.length]? =ae (.list []):=g_last;generalize a7++[AO.list []]=bF at *;generalize a7.length=rp at *;obtain j0:=h0.g f0;obtain old:∀{i o},B[i]? =ae o->i < cm:=λh=>by have:=ba h;exact TT this (EL hc)
 obtain X:∀i∈c0,i < cm:=λi l=>by obtain⟨n,h⟩:=hN.at l;exact old h
 obtain V:rp∉c0:=λh=>by have:=X _ h;exact XX 2 0 (CH 1 0 1 0 F this) rfl
 obtain e0:cm∉c0:=λh=>by have:=X _ h;exact XX 1 0 this rfl
 wtm_at "r";obtain G0:(bM M ns R).1.length<=R.length:=we;refine fg j0 ⟨rfl,?_⟩;refine k9 (G:=λH=>H[row]? =ae (.list (R.map tA))) (c0:=λj I H=>(∃L,dO H c0 L/\bM M L (R.drop j)=((bM M ns R).1.drop j,(bM M ns R).2)/\∀n∈L,n.length<=b0+j/\g7 n)/\j<=(bM M ns R).1.length/\H[rp]? =ae (.list (((bM M ns R).1.take j).map .int))/\(∃v,H[cm]? =ae (.cell v))/\Fr (· ∈c0) B H/\
   sF row NP LP rp I) (K:=R.map tA)
  (Yl.gK λH e=>e) (by rw[aO];exact CF 0 0 0 60 1 128 AR hb rfl) (λx x x h=>h.2.2.2.2.1.get f0 E0)
  ⟨⟨ns,hN.fr h0 λx x h=>h,by rw[mq,mq],hn⟩,cZ _,w0,⟨_,r0⟩,h0.any,sF.mk⟩ ?_ ?_
 ·intros _ j v c1 J _ hv Q0;obtain⟨L0,hj,O,R0,i0,F0⟩:=Q0;obtain (⟨x4,x5,x6,x7,x8,x9,p0,n0,f,Y,rfl⟩):=F0;obtain (⟨L,u,Z,v0⟩):=L0;obtain (⟨cv,A0⟩):=R0;rw[dA]at hv;cases S:R[j]? with
  |none=>rw[S]at hv;cases hv
  |some t=>
   intros t _ S;rw[S]at hv;cases hv;obtain K0:=ba S;obtain⟨hp,hm⟩:=ht t (cD S);rw[drop_cons S]at Z;unfold tA;wtm_at "r";obtain w:(J.set cm (.cell (ae t.2.1)))[cm]? =ae (.cell (ae t.2.1)):=de A0;obtain W:Fr (· ∈c0) B (J.set cm (.cell (ae t.2.1))):=i0.old (Fr.set (D:=λi=>i=cm) rfl) λi l e=>by exact XX 1 0 (CH 0 0 1 0 (CH 0 0 0 0 (EL hc) (EG e)) l) rfl
   obtain b:Fr (λi=>i=cm) J (J.set cm (.cell (ae t.2.1))):=Fr.set rfl;obtain T0:=u.fr b λi l e=>e0 (e ▸ l);obtain m:=b.get O (by exact NT (F));generalize J.set cm (.cell (ae t.2.1))=cO at *;obtain z:=W.get M0 o0;obtain g0:=W.get S0 s0;obtain J0:=hL.fr W λq hq=>⟨λh=>(d0 _ h q hq).1 rfl,λh=>(d0 _ h q hq).2 rfl⟩;wtm_at "r";refine fg z ?_;wtm_at "r";refine fg g0 ⟨rfl,?_⟩;refine Uc hm hp (ae (.ref row)) x5 (ae (.int t.2.2)) c0 a9 M L 0 128 cO 0 x8 x9 p0 n0 f Y _ _ u0 hr (λn l0=>by have:=v0 n l0;exact⟨by lia,this.2⟩) T0 J0 V0 d0 z g0 o0 s0 rfl rfl (by exact FI 0 60 1 128 I0 rfl) w (λs T y8 y9 a1 b1 Y0 Z0 h1 A D=>?_) λT I h1 A D=>?_
   ·obtain G:=D.get m V;obtain z0:=D.get w e0;obtain U0:=W.trans D;rw[sZ h1]at Z;obtain N:=(lD Z).1;obtain U:=(lD Z).2;have hs:(bM M ns R).1[j]? =ae s:=by
     have:((bM M ns R).1.drop j)[0]? =ae s:=by rw[<-N];rfl
     rwa [xm,xn]at this
    rw[ux];wtm_at "r";refine⟨(λh=>nomatch h.2),hU G (.inl rfl) ?_⟩;wtm_at "r";refine js G (by rw[aO,er];exact CF 1 0 0 60 0 4096 (CH 1 0 0 0 (CH 0 0 1 0 ML K0) AR) hb rfl) ?_;obtain K:Fr (λi=>i=rp) T (T.set rp (.list (((bM M ns R).1.take j).map .int++[.int s]))):=Fr.set rfl;have y0:(T.set rp (.list (((bM M ns R).1.take j).map .int++[.int s])))[rp]? =ae (.list (((bM M ns R).1.take (j+1)).map .int)):=by
     rw[de G,take_snoc hs,dH];rfl
    obtain O0:Fr (· ∈c0) B (T.set rp (.list (((bM M ns R).1.take j).map .int++[.int s]))):=U0.old K λi l e=>by exact XX 2 0 (CH 1 0 1 0 (CH 1 0 0 0 (CH 0 0 1 0 (EL hc) F) (EG e)) l) rfl
    obtain m0:=K.get z0 (by exact NE (F));obtain H0:=A.fr K λi l e=>V (e ▸ l);refine n_next (x_nil (l_next ⟨⟨_,H0,?_,λn l0=>?_⟩,ba hs,y0,⟨_,m0⟩,O0,sF.mk⟩))
    ·rw[drop_cons hs]at N;injection N with _ N;exact qX N U
    ·have:=F4 hm hp v0 n l0;exact⟨by lia,this.2⟩
   ·rw[s7 h1]at Z;obtain N:=(lD Z).1;obtain U:=(lD Z).2;have hl:(bM M ns R).1.length=j:=by have:=pV.mp N.symm;exact AN (this) (hj)
    wtm_at "r";rw[U]at A;obtain G:=D.get m V;rw[gy (by exact(EL hl))]at G;exact q T rp A (W.trans D) (by exact FI 1 0 0 0 F rfl) G
 ·intros _ W0 J _ C0;obtain⟨N0,hj,O,-,i0,P0⟩:=C0;obtain (⟨x4,x5,x6,x7,x8,x9,p0,n0,f,Y,rfl⟩):=P0;obtain (⟨L,u,Z,-⟩):=N0;rw[aO]at *;rw[Ih]at Z;obtain U:L=(bM M ns R).2:=(lD Z).2;wtm_at "r";rw[gy (by exact G0)]at O;rw[U]at u;exact q J rp u i0 (by exact FI 1 0 0 0 F rfl) O
def Ud (h:bf b x y=aj):bf b y x=az:=by
 cases B:bf b y x with
 |false=>rfl
 |true=>
  have:=lX h B;rw[vZ]at this;cases this
def Ue:∀{S:ah Tr} {k:ak},gJ b S->S.filter (λt=>decide (fB b S t=k))=S[k]?.toList:=by
 intro l;induction l with
 |nil=>
  intro k _;exact rfl
 |cons a S H=>
  intro k h;obtain⟨E,G⟩:=lE.mp h;have F:fB b (a :: S) a=0:=by
   unfold fB;rw[List.countP_eq_zero];intro u D;rcases bu.mp D with rfl |D
   ·rw[vZ];simp
   ·rw[Ud (E u D)];simp
  have B:∀t∈S,fB b (a :: S) t=fB b S t+1:=by
   intro t B;unfold fB;exact List.countP_cons_of_pos (p:=λu=>bf b u t) (E t B)
  cases k with
  |zero=>
   rw[Jb (by rw[F];rfl)];have:S.filter (λt=>decide (fB b (a :: S) t=0))=[]:=by
    rw[Ja];intro t h;rw[B t h];simp
   rw[this];rfl
  |succ k=>
   rw[Jc (by rw[F];simp)];have:S.filter (λt=>decide (fB b (a :: S) t=k+1))=S.filter (λt=>decide (fB b S t=k)):=by
    apply List.filter_congr;intro t h;rw[B t h];simp
   rw[this,H G];rfl
def Ug {a0:ah Tr}(h:a0.Perm S)(hs:gJ b S)(k:ak):a0.filter (λt=>decide (fB b a0 t=k))=S[k]?.toList:=by
 have e:(λt=>decide (fB b a0 t=k))=λt=>decide (fB b S t=k):=by
  funext t
  unfold fB;rw[h.countP_eq]
 rw[e];obtain B:=h.filter λt=>decide (fB b S t=k);rw[Ue hs]at B;cases D:S[k]? with
 |none=>rw[D]at B;exact B.eq_nil
 |some t=>rw[D]at B;exact List.perm_singleton.mp B
def Uh {α:Type}{S:ah α}:∀{w:ak},(dz w).flatMap (λk=>S[k]?.toList)=S.take w:=by
 intro n;induction n with
 |zero=>
  exact rfl
 |succ w B=>
  rw[wO,BF,B,AP];simp
def F6 {x:Int×AV}:∀{S:ah (Int×AV)} {n:ak},(bV b x (S.take n)).take n=(bV b x S).take n
 |_,0=>by simp
 | [],n+1=>rfl
 |y :: S,n+1=>by
  show(if bg b x.1 y.1 then x :: y :: S.take n else y :: bV b x (S.take n)).take (n+1)=(if bg b x.1 y.1 then x :: y :: S else y :: bV b x S).take (n+1);split
  ·show x :: (y :: S.take n).take n=x :: (y :: S).take n
   congr 1
   cases n with
   |zero=>rfl
   |succ n=>
    show y :: (S.take (n+1)).take n=y :: S.take n;rw[List.take_take,m8 (gP n)]
  ·show y :: (bV b x (S.take n)).take n=y :: (bV b x S).take n;rw[F6]
def Ui:∀(ys S:ah (Int×AV)),ys.foldl (λS x=>(bV b x S).take n) (S.take n)=(ys.foldl (λS x=>bV b x S) S).take n:=by
 intro l;induction l with
 |nil=>
  intro _;exact rfl
 |cons y ys B=>
  intro S;show ys.foldl _ ((bV b y (S.take n)).take n)=(ys.foldl _ (bV b y S)).take n;rw[F6,B]
def F7:fy b n ys=(ys.foldl (λS x=>bV b x S) []).take n:=by
 have:=Ui (b:=b) (n:=n) ys [];rw[A5]at this;exact this
def Uj {w:ak}(hl:V.length=K.length):(dz w).flatMap (lU b (dh b 0 V K))=(fy b w (V.zip K)).map (·.2):=by
 obtain⟨S,E,B,D,-⟩:=view (b:=b) (V:=V) (K:=K) V.length (a4 _) (by exact(EL hl));rw[gy (by rw[sX];exact ML)]at B;rw[gy (by rw[p3];exact ML)]at D;have e:lU b (dh b 0 V K)=λk=>(S[k]?.toList).map (·.2.2):=by
  funext k
  unfold lU;rw[Ug B E]
 rw[e,F7,<-D,<-rJ,oL,<-Uh,List.map_flatMap];rfl
theorem Uk {r:Int}{x:AV}:∀{V:ah Int} {K:ah AV} {i:ak},V.length<=K.length->fB b (dh b i V K) (tr b j r x)=V.countP (λr'=>bg b r' r)+(V.take (j - i)).countP (λr'=>r' == r):=by
 intro I;induction I with
 |nil=>
  intro K i _;rw[A5];cases K <;>rfl
 |cons B V E=>
  intros B V _ E;intro H;cases H with
  |nil=>
   intro _ h;simp at h
  |cons G K=>
   intro i h;have E:=E (K:=K) (i:=i+1) (by simpa using h);have F:bf b (tr b i B G) (tr b j r x)=(bg b B r || (B == r && decide (i < j))):=by
    unfold bf fM tr bg;cases b with
    |false=>
     by_cases e:B=r
     ·simp[e]
     ·simp[e]
    |true=>
     by_cases e:B=r
     ·simp[e]
     ·have: ¬ r=B:=λh=>e h.symm;simp[e,this]
   unfold fB at E |-;show(tr b i B G :: dh b (i+1) V K).countP _=_;rw[uj,E,uj,F];by_cases D:i < j
   ·rw[show j - i=(j - (i+1))+1 from (GB (Nat.sub_pos_of_lt D)).symm,List.take_succ_cons,uj];simp only[D,decide_true,Bool.and_true];by_cases e:B=r
    ·subst e;have:bg b B B=az:=by unfold bg;cases b <;>simp
     simp[this];exact qL _ _ _
    ·have:(B == r)=az:=by simpa using e
     rw[this];simp;exact Ae _ _ _
   ·rw[show j - i=0 from Je (oa.mp D),show j - (i+1)=0 from Je (xo (oa.mp D)),uh,uh];simp only[D,decide_false,w6,AX];simp
def wi:∀{K:ah AV} {n:Int} {k:ak} {v:AV},(mS n K)[k]? =ae v->∃x,K[k]? =ae x/\v= .pair (.int (n+k)) x:=by
 intro G;induction G with
 |nil=>
  intro _ _ _ h;exact nomatch h
 |cons x K F=>
  intro n E;cases E with
  |zero=>
   intro v h;cases h;exact⟨x,rfl,by simp⟩
  |succ k=>
   intro v h;obtain⟨y,D,B⟩:=F (n:=n+1) (k:=k) h;refine⟨y,D,?_⟩;rw[B];congr 2;lia
def n5:∀{K:ah AV} {n:Int},(mS n K).length=K.length:=by
 intro l;induction l with
 |nil=>
  intro _;exact rfl
 |cons x K B=>
  intro n;show(mS (n+1) K).length+1=_;rw[B];rfl
def Ul {cg cr cj:ak}{a r:Int}(hg:O.lookup (sO "greatest")=ae cg)(hr:O.lookup (sO "ranks")=ae cr)(hj:O.lookup (sO "j")=ae cj)(h1:B[cg]? =ae (.cell (ae (.bool b))))(h2:B[cr]? =ae (.cell (ae (.ref ri))))(h3:B[cj]? =ae (.cell (ae (.int j))))(h4:B[ri]? =ae (.list (V.map .int)))(h5:V[j]? =ae r)(a0:V.length<=64)(h6:I[2]? =ae (ae (.int a)))(q:QB (bg b a r) B):
  WP (yL (tV (eC "greatest")) (aR .Gt (eL 2) (bz (eC "ranks") (eC "j"))) (aR .Lt (eL 2) (bz (eC "ranks") (eC "j"))) ⟨F,O,I⟩) B QB E:=by
 obtain D:=ba h5;refine w_tIf (w_tV (gp hg h1 (tr_bool ⟨λc=>?_,λc=>?_⟩)))
 ·subst c;exact w_tCmp (aM h6 (w_Idx (gp hr h2 (gp hj h3 (lW h4 ⟨by exact JP,by exact JC (2 ^ 62) (CF 1 0 0 64 1 4611686018427387904 D a0 rfl)⟩ (v:=.int r) (by rw[eD,dA,h5];rfl) (c_gt q))))))
 ·subst c;exact w_tCmp (aM h6 (w_Idx (gp hr h2 (gp hj h3 (lW h4 ⟨by exact JP,by exact JC (2 ^ 62) (CF 1 0 0 64 1 4611686018427387904 D a0 rfl)⟩ (v:=.int r) (by rw[eD,dA,h5];rfl) (c_lt q))))))
theorem F8 {a0:ah AV->St->Prop}{li:ak}{l:ah Int}{c0:Int->aB}{t:DT}(e0:l.length<=64)(hl:B[li]? =ae (.list (l.map .int)))(ht:∀(I:ah (ax AV)) (a:Int) (QB:aB->St->Prop),I.length=n->I[2]? =ae (ae (.int a))->QB (c0 a) B->WP (t ⟨F,cs,I⟩) B QB E)(hn:3<=n)(L:ah (ax AV))(hL:L.length=n)(q:∀d0,d0.length=l.countP c0->a0 d0 B):
  WP (cw (eL 1) [t] (cx [(pL 1),(pL 2)]) 128 (.enum 0 (.list (ae li) 0)) ⟨F,cs,L⟩ []) B a0 E:=by
 refine lZ (G:=λH=>H=B) (a0:=λj d0 I H=>d0.length=(l.take j).countP c0/\H=B/\I.length=n) (K:=mS 0 (l.map .int))
    (Yl.enum (Yl.gK λH e=>by rw[e];exact hl)) (by rw[n5,aO];exact FI 0 64 1 128 e0 rfl) (λu u u u h=>h.2.1) ⟨rfl,rfl,hL⟩ ?_ ?_
 ·intros _ j v d0 I H _ O N;obtain⟨D,rfl,K⟩:=N;obtain (⟨x,M,rfl⟩):=wi O;rw[dA]at M;cases J:l[j]? with
  |none=>rw[J]at M;cases M
  |some a=>
   intros a _ J;rw[J]at M;cases M;refine vR rfl rfl (x_put_cons (cu rfl (x_put_cons (cu rfl (x_put_nil ?_)))));have G:((I.set 1 (ae (.int (0+j)))).set 2 (ae (.int a))).length=n:=by rw[eM,eM];exact K
   refine qK (ht _ a _ G (l9 (by rw[eM];exact TT hn (EG K))) ⟨λc=>?_,λc=>?_⟩)
   ·refine⟨?_,?_⟩
    ·have:=BG (p:=c0) (l:=l.take j);rw[er]at this;exact CF 0 0 0 64 0 4096 (CH 0 0 0 0 (CH 0 0 0 0 (EL D) this) MR) e0 rfl
    ·refine aM (v:=.int (0+j)) (by rw[jz (by decide),l9 (by lia)]) ⟨?_,rfl,G⟩;rw[take_snoc J,Jf,bK,D];simp[c]
   ·refine⟨?_,rfl,G⟩;rw[take_snoc J,Jf,D];simp[c]
 ·rintro d0 I H ⟨D,rfl,-⟩;rw[n5,aO,j5]at D;exact q d0 D
def sG.mk {fp:ak}:sG row fp z [ae (.ref row),ag,ae (.int z),ag,ae (.ref fp),x5,x6,x7,x8,x9,fU,bS,f]:=⟨_,_,_,_,_,_,_,_,rfl⟩
def qB.mk {fp:ak}{w:Int}:qB row fp z w [ae (.ref row),ag,ae (.int z),ag,ae (.ref fp),ae (.int w),x6,x7,x8,x9,fU,bS,f]:=⟨_,_,_,_,_,_,_,rfl⟩
theorem Um {a0:AV->St->Prop}(hz: -1<=z)(Y0:z<=4)(c0:K.length<=64)(hl:0 < z->V.length=K.length)(g0:B[row]? =ae (.list K))(d0:B[ri]? =ae (.list (V.map .int)))(q:∀H fp,Ex B H->B.length<=fp->H[fp]? =ae (.list ((dz z.toNat).flatMap (lU b (dh b 0 V K))))->a0 (.ref fp) H):
  WP (FN (k+1) (.fn (aq "_law_few")) [.ref row,.ref ri,.int z,.bool b] []) B a0 E:=by
 refine RU ?_;obtain h0:(B++[AO.cell (ae (.ref ri)),.cell (ae (.bool b)),.cell ag])[B.length]? =ae (.cell (ae (.ref ri))):=qD;obtain h1:(B++[AO.cell (ae (.ref ri)),.cell (ae (.bool b)),.cell ag])[B.length+1]? =ae (.cell (ae (.bool b))):=iX;obtain h2:(B++[AO.cell (ae (.ref ri)),.cell (ae (.bool b)),.cell ag])[B.length+2]? =ae (.cell ag):=iX;obtain hx:Ex B (B++[AO.cell (ae (.ref ri)),.cell (ae (.bool b)),.cell ag]):=Fr.app;obtain f0:=ba h2;generalize B++[AO.cell (ae (.ref ri)),.cell (ae (.bool b)),.cell ag]=a7 at *;unfold za;wtm_at "r";refine bp (by simp) ?_;obtain H0:Ex B (a7++[AO.list []]):=hx.trans Fr.app;obtain W0:(a7++[AO.list []])[B.length]? =ae (.cell (ae (.ref ri))):=g_app h0;obtain U0:(a7++[AO.list []])[B.length+1]? =ae (.cell (ae (.bool b))):=g_app h1;obtain E0:(a7++[AO.list []])[B.length+2]? =ae (.cell ag):=g_app h2;obtain N0:(a7++[AO.list []])[a7.length]? =ae (.list []):=g_last;generalize a7++[AO.list []]=bF at *;generalize a7.length=fp at *;wtm_at "r";refine pj (by lia) (by lia) ?_;wtm_at "r";refine⟨rfl,?_⟩;have V0:(dh b 0 V K).length<=64:=by rw[sX];exact TT MR c0
 obtain O0:∀k,(lU b (dh b 0 V K) k).length<=64:=λk=>by
  unfold lU;rw[aO];exact dW (pF _ _) V0
 have z0:∀w,((dz w).flatMap (lU b (dh b 0 V K))).length<=w * 64:=by
  intro w;induction w with
  |zero=>simp
  |succ w ih=>
   rw[wO,BF,bK];have:=O0 w;simp only[List.flatMap_cons,List.flatMap_nil,fT]
   lia
 refine k9 (G:=λy=>eN) (c0:=λw I H=>H[fp]? =ae (.list ((dz w).flatMap (lU b (dh b 0 V K))))/\H[B.length]? =ae (.cell (ae (.ref ri)))/\H[B.length+1]? =ae (.cell (ae (.bool b)))/\(∃v,H[B.length+2]? =ae (.cell v))/\Ex B H/\
   sG row fp z I) (K:=mR 1 z.toNat 0)
  Yl.range (by rw[qJ];lia) (λy y y y=>trivial) ⟨N0,W0,U0,⟨_,E0⟩,H0,sG.mk⟩ ?_ ?_
 ·intros _ w v a1 w0 _ hv P0;obtain⟨u,L0,C0,I0,m,Q0⟩:=P0;obtain (⟨x5,x6,x7,x8,x9,m0,l0,f,rfl⟩):=Q0;obtain (⟨cv,K0⟩):=I0;obtain⟨rfl,hw⟩:=wg hv;obtain G:=hl (by lia);obtain n0:=m.g g0;wtm_at "r";refine fg n0 ⟨rfl,?_⟩;refine k9 (G:=λH=>H[row]? =ae (.list K)) (c0:=λj I H=>H[fp]? =ae (.list ((dz w).flatMap (lU b (dh b 0 V K))++(((dh b 0 V K).take j).filter λt=>decide (fB b (dh b 0 V K) t=w)).map (·.2.2)))/\H[B.length]? =ae (.cell (ae (.ref ri)))/\H[B.length+1]? =ae (.cell (ae (.bool b)))/\(∃v,H[B.length+2]? =ae (.cell v))/\Ex B H/\
   qB row fp z (0+w) I) (K:=mS 0 K)
    (Yl.enum (Yl.gK λH e=>e)) (by rw[n5];exact FI 0 64 1 128 c0 rfl) (λy y y h=>h.2.2.2.2.1.g g0) ⟨by rw[uh,HB,ua,fT];exact u,L0,C0,⟨_,K0⟩,m,qB.mk⟩ ?_ ?_
  ·intros _ j v Z0 R _ hv T0;obtain⟨W,o0,p0,R0,u0,M0⟩:=T0;obtain (⟨x6,x7,x8,x9,m0,l0,f,rfl⟩):=M0;obtain (⟨cv,o⟩):=R0;obtain (⟨x,A0,rfl⟩):=wi hv;obtain hj:=ba A0;obtain r0:=cy (show j < V.length by exact TT hj (EG G));obtain hT:=zC (b:=b) (i:=0) r0 A0;rw[ke]at hT;obtain j0:=Uk (b:=b) (r:=V[j]'(by exact TT hj (EG G))) (x:=x) (j:=j) (V:=V) (K:=K) (i:=0) (by exact(EL G));rw[Nat.sub_zero]at j0;generalize V[j]'(by exact TT hj (EG G))=r at *;wtm_at "r";obtain L:Ex B (R.set (B.length+2) (.cell (ae (.int (0+j))))):=Ex.nZ u0 (by exact RR 0 2 rfl);obtain T:Fr (λi=>i=B.length+2) R (R.set (B.length+2) (.cell (ae (.int (0+j))))):=Fr.set rfl;obtain O:(R.set (B.length+2) (.cell (ae (.int (0+j)))))[B.length+2]? =ae (.cell (ae (.int (0+j)))):=de o;obtain X:=T.get o0 (by exact NE (gP _));obtain l:=T.get p0 (by exact NE (a4 _));obtain S0:=T.get W (cC W o (by simp));generalize R.set (B.length+2) (.cell (ae (.int (0+j))))=dZ at *;rw[ux]at O;wtm_at "r";refine iF (cs:=[(aq "ranks",B.length),(aq "j",B.length+2),(aq "greatest",B.length+1)]) (L:=[ag,ag,ag,ag,ag,ag]) (by decide +kernel) (by kernel_rfl) (λy=>by kernel_rfl) rfl ?_;wtm_at "r";refine fg (L.g d0) ⟨rfl,F8 (n:=6) (c0:=λa=>bg b a r) (by exact TT (EL G) c0) (L.g d0) (λI a QB y h qq=>Ul (by wtm_at "cel") (by wtm_at "cel") (by wtm_at "cel") l X O (L.g d0) r0 (by exact TT (EL G) c0) h qq) (by decide) _ rfl λM i0=>?_⟩;obtain G0:=BG (p:=λa=>bg b a r) (l:=V);refine bp (by exact CF 0 0 0 64 0 4096 (CH 0 0 0 0 (CH 0 0 0 0 (EL i0) G0) (EL G)) c0 rfl) ?_;obtain S:Ex dZ (dZ++[AO.list M]):=Fr.app;obtain s0:(dZ++[AO.list M])[dZ.length]? =ae (.list M):=g_last;generalize dZ++[AO.list M]=fR at *;generalize dZ.length=i8 at *;obtain J0:=S.g X;obtain F0:=S.g O;wtm_at "r";refine iF (cs:=[(aq "ranks",B.length),(aq "j",B.length+2)]) (L:=[ag,ag,ag,ag,ag]) (by decide +kernel) (by kernel_rfl) (λy=>by kernel_rfl) rfl ?_;wtm_at "r";refine wh (k:=j) (S.g (L.g d0)) (by rw[aO];exact CF 0 0 0 64 0 4096 (EL G) c0 rfl) rfl (by exact CF 1 0 0 64 0 8192 hj c0 rfl) ?_;wtm_at "r";rw[<-rJ];obtain U:Ex fR (fR++[AO.list ((V.take j).map .int)]):=Fr.app;obtain y0:(fR++[AO.list ((V.take j).map .int)])[fR.length]? =ae (.list ((V.take j).map .int)):=g_last;generalize fR++[AO.list ((V.take j).map .int)]=dk at *;generalize fR.length=i9 at *;refine fg y0 ⟨rfl,F8 (n:=5) (c0:=λa=>a == r) (by rw[er];exact TT ML (CF 1 0 0 64 0 64 hj c0 rfl)) y0 (λI a QB y h qq=>?_) (by decide) _ rfl λF Y=>?_⟩
   ·refine w_tCmp (aM h (w_Idx (gp (by wtm_at "cel") (U.g J0) (gp (by wtm_at "cel") (U.g F0) (lW (U.g (S.g (L.g d0))) ⟨by exact JP,by exact JC (2 ^ 62) (CF 1 0 0 64 1 4611686018427387904 hj c0 rfl)⟩ (v:=.int r) (by rw[eD,dA,r0];rfl) (mY qq))))))
   obtain e0:=BG (p:=λa:Int=>a == r) (l:=V.take j);rw[er]at e0;refine bp (by exact CF 1 0 0 64 0 4096 (CH 0 0 1 0 (CH 0 0 0 0 (CH 0 0 0 0 (EL Y) e0) ML) hj) c0 rfl) ?_;obtain B0:Ex dk (dk++[AO.list F]):=Fr.app;obtain v0:(dk++[AO.list F])[dk.length]? =ae (.list F):=g_last;obtain A:=B0.g (U.g s0);generalize dk++[AO.list F]=gq at *;generalize dk.length=Wu at *;obtain D:Ex dZ gq:=(S.trans U).trans B0;wtm_at "r";refine f_len A ?_;wtm_at "r";refine f_len v0 ?_;wtm_at "r";refine mY ?_;have N:((dh b 0 V K).take (j+1)).filter (λt=>decide (fB b (dh b 0 V K) t=w))=((dh b 0 V K).take j).filter (λt=>decide (fB b (dh b 0 V K) t=w))++(if M.length+F.length=w then [tr b j r x]else []):=by
    rw[s9 hT,j0,<-i0,<-Y];simp
   obtain J:=D.g S0;refine⟨λc=>?_,λc=>?_⟩
   ·have c:M.length+F.length=w:=by have:=eq_of_beq c;lia
    rw[aN c]at N;wtm_at "r";refine⟨(λh=>nomatch h.2),hU J (.inl rfl) ?_⟩;wtm_at "r";refine js J ?_ ?_
    ·rw[bK,aO];obtain h1:=z0 w;obtain h2:=pF (λt=>decide (fB b (dh b 0 V K) t=w)) ((dh b 0 V K).take j);rw[er]at h2;have:w<=4:=by lia
     have:w * 64<=256:=by lia
     exact TT (SS (TT h1 this) (TT h2 (TT ML (TT (nz hj) c0)))) (by decide)
    have Z:B.length<=fp:=by exact FI 3 0 0 0 f0 rfl
    refine n_next (x_nil (n_next (x_nil (l_next ?_))));refine⟨?_,?_,?_,⟨ae (.int j),?_⟩,Ex.nZ (L.trans D) Z,qB.mk⟩
    ·rw[N,dH,<-jY];exact de J
    ·exact g_ne (cC J (D.g X) (by simp)) (D.g X)
    ·exact g_ne (cC J (D.g l) (by simp)) (D.g l)
    ·exact g_ne (cC J (D.g O) (by simp)) (D.g O)
   ·obtain c: ¬ M.length+F.length=w:=λh=>by
     have:=IY c;lia
    rw[aK c,fT]at N;wtm_at "r";exact⟨by rw[N];exact J,D.g X,D.g l,⟨_,D.g O⟩,L.trans D,qB.mk⟩
  ·rintro _ R ⟨W,o0,p0,o,u0,x6,x7,x8,x9,m0,l0,f,rfl⟩;rw[n5,gy (by rw[sX];exact MR)]at W;refine n_next (x_nil (l_next ⟨?_,o0,p0,o,u0,sG.mk⟩));rw[W,wO,BF];simp[lU]
 ·rintro _ w0 ⟨u,-,-,-,m,x5,x6,x7,x8,x9,m0,l0,f,rfl⟩;rw[qJ]at u;wtm_at "r";exact q w0 fp m (by exact FI 3 0 0 0 f0 rfl) u
def F9 {a b:au}(ha:cY a=aj)(hb:cY b=aj)(q:QB (a == b) B):WP (dQ .Eq (.str a) (.str b)) B QB E:=w_eq (l3 ha) (l3 hb) (by rw[bY];exact q)
def zU {a b:au}(ha:cY a=aj)(hb:cY b=aj)(q:QB (!(a == b)) B):WP (dQ .NotEq (.str a) (.str b)) B QB E:=s8 (l3 ha) (l3 hb) (by rw[bY];exact q)
def zV {a0:AV->St->Prop}{s:au}{lo hi:ax AV}{a b:ax Int}(hl:s.length<=4096)(ha:oO lo=P.pure a)(hb:oO hi=P.pure b)(q:a0 (.str (lh s a b)) B):WP (km (.str s) lo hi) B a0 E:=by
 unfold km;rw[ha,hb];exact av (bw hl (aQ q))
def Un {a0:AV->St->Prop}{t:AV}(h:gb t=ae l)(q:a0 (.int l.length) B):WP (eu ⟨F,O,I⟩ (.bi "len") [t] []) B a0 E:=by
 refine mW rfl (av (fF (av (e5 ?_))));rw[h];exact aQ q
def Uo {a0:AV->St->Prop}{s:au}(q:a0 (.ty "str") B):WP (eu ⟨F,O,I⟩ (.ty "type") [.str s] []) B a0 E:=mX rfl (av (fF (av (e5 (aQ q)))))
def Up {a0:AV->St->Prop}{i:Int}(q:a0 (.ty "int") B):WP (eu ⟨F,O,I⟩ (.ty "type") [.int i] []) B a0 E:=mX rfl (av (fF (av (e5 (aQ q)))))
def Ga {a b:aI}(q:QB (a == b) B):WP (dQ .Is (.ty a) (.ty b)) B QB E:=q
def Uq {a0:AV->St->Prop}(e:B[i]? =ae (.list l))(hv:l.getLast? =ae v)(q:a0 v (B.set i (.list l.dropLast))):WP (e9 F (.ref i) .pop [] []) B a0 E:=
 av (eh (av (zv (av (e5 (av (fD e (av (dU hv (av (k8 (aQ q))))))))))))
def Gb {a0:AV->St->Prop}(e:B[i]? =ae (.list l))(hl:0 < l.length)(hv:l[l.length - 1]? =ae v)(q:a0 v B):WP (ik (.ref i) (.int (-1))) B a0 E:=by
 refine av (dj e (av (w_strict (av (bw (by decide) (dU ?_ q))))));rw[aK (by decide),show(-1+(l.length:Int))=((l.length - 1:ak):Int) from (Int.add_comm _ _).trans (IL hl).symm,aN JP];exact hv
def Ur:lV.all EM=aj:=by decide +kernel
theorem Us {s:au}(h:s∈lV):NF s:=by
 have:=bW.mp Ur s h;unfold EM at this;simp only[cW,ft,bW,wX,bU]at this;obtain⟨⟨⟨⟨⟨⟨⟨⟨⟨⟨G,F⟩,J⟩,K⟩,I⟩,H⟩,L⟩,E⟩,M⟩,B⟩,D⟩:=this;exact⟨G,F,J,K,I,H,L,E,M,B,D⟩
def Ut {s:au}{a0:AV->St->Prop}(q:a0 (.str (aq "")) B):WP (FN (k+1) (.fn (aq "_kind")) [a,.str s] []) B a0 E:=by
 refine RF ?_;unfold yU;wtm_at "r";refine Uo ?_;wtm_at "r";refine Ga ?_;refine t_t ?_;wtm_at "r";exact q
def Uu {s:au}{a0:AV->St->Prop}(c0:NF s)(q:a0 (.dB (vS "") (vS "/") (.str (bT s))) B):WP (FN (k+1) (.fn (aq "_splitroot")) [.str s] []) B a0 E:=by
 have D:cY (sO "/")=aj:=by decide +kernel
 obtain F:=c0.len;refine RH ?_;unfold yW;wtm_at "r";refine zV (a:=ag) (b:=ae 1) (by exact FI 0 100 0 4096 F rfl) rfl rfl ?_;rw[c0.s1];wtm_at "r";refine zU D D ?_;rw[ID];refine t_f ?_;wtm_at "r";refine zV (a:=ae 1) (b:=ae 2) (by exact FI 0 100 0 4096 F rfl) rfl rfl ?_;wtm_at "r";refine zU c0.QG D ?_;rw[c0.s2];refine t_t ?_;wtm_at "r";refine zV (a:=ae 1) (b:=ag) (by exact FI 0 100 0 4096 F rfl) rfl rfl ?_;wtm_at "r";exact q
def Uv {kw:ak}{b c:AV}{s:au}{a0:AV->St->Prop}(hk:B[kw]? =ae (.dict []))(q:a0 (.str s) B):WP (FN (k+2) (.fn (aq "_c_path")) [a,b,c,.one (.str s),.ref kw] []) B a0 E:=by
 refine RG ?_;unfold yV;wtm_at "r";refine Un rfl ?_;wtm_at "r";refine mY ?_;refine t_t ?_;wtm_at "r";refine Sy hk ?_;refine t_t ?_;wtm_at "r";refine sW (by decide) rfl rfl ?_;wtm_at "r";refine Ut ?_;wtm_at "r";refine sV (by decide +kernel) ?_;rw[show(aq "").length=0 by decide +kernel];refine t_f ?_;wtm_at "r";exact q
def Uw:(lV.all λs=>decide (0 < (iD s).length) && decide ((iD s).length<=100))=aj:=by decide +kernel
def Ux {nc:ah au}{c x:au}(h:x∈dx nc c):x∈nc\/x=c:=by
 unfold dx at h;split at h
 ·exact .inl h
 ·split at h
  ·rcases dX.mp h with h |h
   ·exact .inl h
   ·exact .inr (aJ.mp h)
  ·exact .inl (List.dropLast_subset _ h)
def Uy {nc:ah au}{c:au}:(dx nc c).length<=nc.length+1:=by
 unfold dx;split
 ·exact gP _
 ·split
  ·simp
  ·rw[List.length_dropLast];exact dW (GA _ _) (gP _)
theorem Uz {ni:ak}{nc:ah au}{c:au}{a0:FL×ah (ax AV)->St->Prop}(hn:B[ni]? =ae (.list (nc.map .str)))(hc:cY c=aj)(e0:c.length<=100)(d0:∀x∈nc,cY x=aj)(hl:nc.length<=100)(q:∀c0,(c0= .next\/c0= .cont)->a0 (c0,[x0,ae (vS "/"),ae (vS "."),ae (vS ".."),x4,ae (vS "/"),x6,ae (.ref ni),ae (.str c),x9]) (B.set ni (.list ((dx nc c).map .str)))):
  WP (sq yX ⟨F,[],[x0,ae (vS "/"),ae (vS "."),ae (vS ".."),x4,ae (vS "/"),x6,ae (.ref ni),ae (.str c),x9]⟩) B a0 E:=by
 have T:cY (sO ".")=aj:=by decide +kernel
 have O:cY (sO "..")=aj:=by decide +kernel
 unfold yX;wtm_at "r";refine sV (by exact FI 0 100 0 4096 e0 rfl) ?_;have skip:(c.length == 0 || c == sO ".")=aj->dx nc c=nc:=λh=>by unfold dx;rw[aN h]
 by_cases S:c.length=0
 ·have U:(c.length == 0)=aj:=by rw[S];rfl
  show vN _ _ _ _ (!(c.length != 0)) _;rw[show(!(c.length != 0))=aj by rw[S];rfl];refine t_t ?_;refine t_t ?_;wtm_at "r";have:=q .cont (.inr rfl);rw[skip (by rw[U];rfl),wa hn]at this;exact this
 have U:(c.length == 0)=az:=by simpa using S
 show vN _ _ _ _ (!(c.length != 0)) _;rw[show(!(c.length != 0))=az by simpa using S];refine t_f ?_;wtm_at "r";refine F9 hc T ⟨λM=>?_,λM=>?_⟩
 ·wtm_at "r";have:=q .cont (.inr rfl);rw[skip (by have M:(c == sO ".")=aj:=M;rw[M,rq]),wa hn]at this;exact this
 have R:(c.length == 0 || c == sO ".")=az:=by
  obtain M:(c == sO ".")=az:=M;rw[U,M];rfl
 wtm_at "r";have app:dx nc c=nc++[c]->WP (sq [b9 (bX (eL 7) .append [(eL 8)] [])] ⟨F,[],[x0,ae (vS "/"),ae (vS "."),ae (vS ".."),x4,ae (vS "/"),x6,ae (.ref ni),ae (.str c),x9]⟩) B a0 E:=by
  intro e;wtm_at "r";refine⟨(λh=>nomatch h.2),hU hn (.inl rfl) ?_⟩;wtm_at "r";refine js hn (by rw[aO];exact FI 0 100 0 4096 hl rfl) ?_;have:=q .next (.inl rfl);rw[e,dH]at this;exact n_next (x_nil this)
 have K:∀{y H},a0 y H->jO (λI B=>WP (sq [] ⟨F,[],I⟩) B a0 E) a0 y H:=λ{y H} h=>by
  obtain⟨c0,l⟩:=y;cases c0 <;>exact h
 refine zU hc O ⟨λJ=>?_,λJ=>?_⟩
 ·refine t_t ((app ?_).a5 λu u h=>K h);unfold dx;have J:(!(c == sO ".."))=aj:=J;rw[R,J];rfl
 have J:(!(c == sO ".."))=az:=J;wtm_at "r";refine sV (by decide +kernel) ?_;rw[show((aq "/").length != 0)=aj by decide +kernel];refine t_f ?_;refine t_f ?_;wtm_at "r";refine px hn ?_
 match nc,hn,d0,hl,q,skip,app with
 | [],hn,d0,hl,q,skip,app=>
  refine t_f ?_;wtm_at "r";refine px hn ?_;refine t_f ?_;have:=q .next (.inl rfl);have e:dx [] c=[]:=by
   unfold dx;rw[R,J];rfl
  rw[e,wa hn]at this;exact x_nil (n_next (x_nil (K this)))
 |a :: nc,hn,d0,hl,q,skip,app=>
  refine t_t ?_;wtm_at "r";have D:=List.getLast?_eq_some_getLast (show a :: nc≠[] by simp);obtain L:=List.getLast_mem (show a :: nc≠[] by simp);generalize (a :: nc).getLast (by simp)=z at D L;have G:((a :: nc).map AV.str)[((a :: nc).map AV.str).length - 1]? =ae (.str z):=by
   rw[aO,dA,<-List.getLast?_eq_getElem?,D];rfl
  refine Gb hn (by simp) G ?_;wtm_at "r";refine F9 (d0 z L) O ⟨λN=>?_,λN=>?_⟩
  ·refine(app ?_).a5 λu u h=>K h;have N:(z == sO "..")=aj:=N;unfold dx;rw[R,J,D,eq_of_beq N];simp
  ·wtm_at "r";refine px hn ?_;refine t_t ?_;wtm_at "r";refine⟨(λh=>nomatch h.2),hU hn (.inr (.inr (.inl rfl))) ?_⟩;wtm_at "r";refine Uq hn (by rw[List.getLast?_map,D];rfl) ?_;have:=q .next (.inl rfl);have e:dx (a :: nc) c=(a :: nc).dropLast:=by
    obtain N:(z == sO "..")=az:=N;unfold dx;rw[R,J,D];have:(ae z == ae (sO ".."))=az:=N;rw[this];simp
   rw[e,List.map_dropLast]at this;exact n_next (x_nil (n_next (x_nil (K this))))
def bj.app {l:St}(h:bj B)(hl:l.all (λo=>!jg o)=aj):bj (B++l):=by
 unfold bj at *;rw[List.all_append,h,hl];rfl
def bj.set (h:bj B)(ho:jg o=az):bj (B.set i o):=by
 unfold bj at *;rw[bW]at *;intro x D;rcases Jg D with D |rfl
 ·exact h x D
 ·rw[ho];rfl
def sH.mk {ni:ak}:sH ni [x0,ae (vS "/"),ae (vS "."),ae (vS ".."),x4,ae (vS "/"),x6,ae (.ref ni),x8,x9]:=⟨_,_,_,_,_,rfl⟩
theorem UA {s:au}{a0:AV->St->Prop}(hs:s∈lV)(q:∀H,Ex B H->(bj B->bj H)->a0 (.str (iD s)) H):WP (FN (k+2) (.fn (aq "_normpath")) [.str s] []) B a0 E:=by
 obtain f:=Us hs;obtain u:=bW.mp Uw s hs;simp only[cW,ft]at u;obtain h1:=f.pos;obtain h2:=f.len;refine RI ?_;unfold yY;wtm_at "r";refine sV (by exact FI 0 100 0 4096 h2 rfl) ?_;rw[show(s.length != 0)=aj by simp;lia];refine t_f ?_;wtm_at "r";refine Uu f ?_;wtm_at "r";obtain h3:=f.EN;obtain z:=f.QH;refine⟨(λh=>nomatch h.1),nX (.inr (.inl rfl)) ?_⟩;wtm_at "r";refine m_split (by decide +kernel) (by exact FI 0 100 0 4096 h3 rfl) f.parts (dW z (by decide)) ?_;obtain W:Ex B (B++[AO.list ((aU (bT s) (aq "/")).map .str)]):=Fr.app;obtain O:(B++[AO.list ((aU (bT s) (aq "/")).map .str)])[B.length]? =ae (.list ((aU (bT s) (aq "/")).map .str)):=g_last;obtain Z:bj B->bj (B++[AO.list ((aU (bT s) (aq "/")).map .str)]):=λh=>h.app rfl;generalize B++[AO.list ((aU (bT s) (aq "/")).map .str)]=a7 at *;wtm_at "r";refine bp (by simp) ?_;obtain b:Ex B (a7++[AO.list []]):=W.trans Fr.app;obtain R:(a7++[AO.list []])[B.length]? =ae (.list ((aU (bT s) (aq "/")).map .str)):=g_app O;obtain X:(a7++[AO.list []])[a7.length]? =ae (.list []):=g_last;obtain T:=ba O;obtain w:bj B->bj (a7++[AO.list []]):=λh=>(Z h).app rfl;generalize a7++[AO.list []]=bF at *;generalize a7.length=ni at *;wtm_at "r";refine fg R ⟨rfl,?_⟩;refine k9 (G:=λH=>H[B.length]? =ae (.list ((aU (bT s) (aq "/")).map .str))) (c0:=λj I H=>H[ni]? =ae (.list ((((aU (bT s) (sO "/")).take j).foldl dx []).map .str))/\H[B.length]? =ae (.list ((aU (bT s) (aq "/")).map .str))/\Ex B H/\(bj B->bj H)/\
   (∀x∈((aU (bT s) (sO "/")).take j).foldl dx [],cY x=aj)/\(((aU (bT s) (sO "/")).take j).foldl dx []).length<=j/\sH ni I) (K:=(aU (bT s) (aq "/")).map .str)
  (Yl.gK λH e=>e) (by rw[aO];exact wI z (by decide)) (λy y y h=>h.2.1) ⟨X,R,b,w,(λy h=>nomatch h),a4 _,_,_,_,_,_,rfl⟩ ?_ ?_
 ·intros _ j v e0 G _ S Y;obtain⟨F,l,K,J,M,N,o⟩:=Y;obtain (⟨x0,x4,x6,x8,x9,rfl⟩):=o;rw[dA]at S;cases L:(aU (bT s) (aq "/"))[j]? with
  |none=>rw[L]at S;cases S
  |some c=>
   intros c _ L;rw[L]at S;cases S;obtain⟨hc,V⟩:=f.QI c (cD L);obtain hj:j < (aU (bT s) (sO "/")).length:=ba L;refine cu rfl ?_;obtain A:(aU (bT s) (sO "/")).take (j+1)=(aU (bT s) (sO "/")).take j++[c]:=take_snoc L;refine Uz F hc V M (by exact TT N (CF 1 0 0 10 0 100 hj z rfl)) λfl hf=>?_;rw[show dx (((aU (bT s) (sO "/")).take j).foldl dx []) c=((aU (bT s) (sO "/")).take (j+1)).foldl dx [] by rw[A,uu];rfl];have D:(G.set ni (.list ((((aU (bT s) (sO "/")).take (j+1)).foldl dx []).map .str)))[ni]? =ae (.list ((((aU (bT s) (sO "/")).take (j+1)).foldl dx []).map .str))/\(G.set ni (.list ((((aU (bT s) (sO "/")).take (j+1)).foldl dx []).map .str)))[B.length]? =ae (.list ((aU (bT s) (aq "/")).map .str))/\Ex B (G.set ni (.list ((((aU (bT s) (sO "/")).take (j+1)).foldl dx []).map .str)))/\
    (∀x∈((aU (bT s) (sO "/")).take (j+1)).foldl dx [],cY x=aj)/\(((aU (bT s) (sO "/")).take (j+1)).foldl dx []).length<=j+1:=by
    refine⟨de F,g_ne (by exact NT (T)) l,Ex.nZ K (by exact FI 1 0 0 0 T rfl),?_,?_⟩
    ·intros _ x _ U;rw[A,uu]at U;rcases Ux U with h |rfl
     ·exact M x h
     ·exact hc
    ·rw[A,uu];exact dW Uy (by exact FI 0 0 1 1 N rfl)
   rcases hf with rfl |rfl
   ·exact⟨D.1,D.2.1,D.2.2.1,(λh=>(J h).set rfl),D.2.2.2.1,D.2.2.2.2,sH.mk⟩
   ·exact⟨D.1,D.2.1,D.2.2.1,(λh=>(J h).set rfl),D.2.2.2.1,D.2.2.2.2,sH.mk⟩
 ·intros _ d0 G _ c0;obtain⟨F,-,K,J,-,-,m⟩:=c0;obtain (⟨x0,x4,x6,x8,x9,rfl⟩):=m;rw[aO,show(aU (bT s) (sO "/")).take (aU (bT s) (aq "/")).length=aU (bT s) (sO "/") from j5]at F;wtm_at "r";refine⟨(λh=>nomatch h.1),nX (.inr (.inr rfl)) ?_⟩;wtm_at "r";refine zS F f.join ?_;have h6:(aq "/").length<=1:=by decide +kernel
  refine zK (dW (GD h6 f.QJ) (by decide)) ?_;wtm_at "r";obtain e:aq "/"++jv (aq "/") ((aU (bT s) (sO "/")).foldl dx [])=iD s:=rfl;rw[e];obtain h7:(iD s).length<=4096:=dW u.2 (by decide)
  with_reducible refine sV h7 ?_
  rw[show((iD s).length != 0)=aj from qS.mpr (Nat.pos_iff_ne_zero.mp u.1)];refine t_t ?_;wtm_at "r";exact q _ K J
def UB {a0:AV->St->Prop}(h:Body sx ⟨FN k,[],[ae (.one v),ae (.ref B.length),ag,ag]⟩ (B++[.dict []]) a0 E):WP (FN (k+1) (.fn (aq "normpath")) [v] []) B a0 E:=by
 obtain F:∀i,((defOf jJ).map λd=>cP (FN k) d.2.2 [] [(aq "args",.one v),(aq "kwargs",.ref i)])=ae (P.pure ⟨FN k,[],[ae (.one v),ae (.ref i),ag,ag]⟩):=λi=>by kernel_rfl
 obtain e:(defOf jJ).map (λq=>ew (cS q.2.2 20) q.2.1)=ae (sq sx):=Q6;have G:FN (k+1) (.fn (aq "normpath")) [v] []=oU (FN k) [v] []:=by kernel_rfl
 rw[G];unfold oU;cases D:defOf jJ with
 |none=>rw[D]at e;cases e
 |some d=>
  rw[D]at e;obtain e:ew (cS d.2.2 20) d.2.1=sq sx:=dp e;refine av (eJ (av ?_));have:=F B.length;rw[D]at this;have this:=dp this;rw[show cP (FN k) d.2.2 [] [(aq "args",.one v),(aq "kwargs",.ref B.length)]=_ from this];refine aQ (av ?_);show WP (ew (cS d.2.2 20) d.2.1 _) _ _ _;rw[e];exact h
def UC {s:au}{a0:AV->St->Prop}(hs:s∈lV)(q:∀H,Ex B H->(bj B->bj H)->a0 (.str (iD s)) H):WP (FN (k+3) (.fn (aq "normpath")) [.str s] []) B a0 E:=by
 refine UB ?_;unfold sx;wtm_at "r";refine Uv g_last ?_;wtm_at "r";refine UA hs λH D F=>?_;wtm_at "r";exact q _ (Fr.app.trans D) λh=>F (h.app rfl)
def zW {l:ah (au×AV)}{x:aI}{a0:b8->St->Prop}(h1:B[i]? =ae (.inst d))(h2:B[d]? =ae (.bc l))(hx:sO x∈p5)(hl:l.length<=64)(q:a0 () (B.set d (.bc (putField l (sO x) v)))):WP (p6 (.ref i) (aq x) v) B a0 E:=
 av (bw hx (av (eh (av (FH h1 h2 (av (bw hl (k8 q))))))))
def UD {a0:AV->St->Prop}(q:a0 (.cL []) B):WP (eu ⟨F,O,I⟩ (.ty "set") [] []) B a0 E:=mX rfl (av (e5 (aQ q)))
def UE {a0:AV->St->Prop}{l:ah au}(h:B[i]? =ae (.list (l.map .str)))(hn:l.Nodup/\l.length<=3)(q:a0 (.cL l) B):WP (eu ⟨F,O,I⟩ (.ty "set") [.ref i] []) B a0 E:=
 mX rfl (av (e5 (av (fF (av (eh (av (fD h (av (dU sm (av (bw hn (aQ q)))))))))))))
def UG {a0:AV->St->Prop}{b:AV}(h:Body vF ⟨FN k,[],[ae (.ref (B.length+1)),ae a,ae b,ag]⟩ (B++[.bc [],.inst B.length]) (λv c0=>v= .none/\a0 (.ref (B.length+1)) c0) E):WP (FN (k+1) (.fn (aq "_Ignore")) [a,b] []) B a0 E:=by
 have G:FN (k+1) (.fn (aq "_Ignore")) [a,b] []=qc (FN k) [a,b] []:=by kernel_rfl
 obtain F:∀i,FN (k+1) (.fn (aq "_Ignore.__init__")) [.ref i,a,b] []=lM (FN k) nJ [.ref i,a,b] []:=λi=>by kernel_rfl
 rw[G];refine av (eJ (av (eJ (av ?_))));rw[<-F];rw[jY,bK];refine(RJ (k:=k) (E:=E) h).a5 λr c0 D=>?_;obtain⟨rfl,D⟩:=D;exact aQ D
def UH:(pe.all λds=>decide (ds.map iD=ds))=aj:=by decide +kernel
def UI:(qz.all λl=>decide (l.Nodup) && decide (l.length<=3))=aj:=by decide +kernel
def UJ:kY r [] D0 where
 len:=a4 _
 get m T hm hk:=by
  rcases hm with rfl |⟨s,hs,rfl⟩
  ·cases hk;rfl
  ·cases hk;have:(modS.all λs=>decide (eF D0 (.inl s)=ag))=aj:=by decide +kernel
   exact gx (bW.mp this s hs)
 ok q hq:=nomatch hq
 EI _:=rfl
theorem UK {ds:ah au}{a0:ah AV->St->Prop}(c0:∀s∈ds,s∈lV)(hl:ds.length<=3)(d0:B[di]? =ae (.list (ds.map .str)))(q:∀H,Ex B H->(bj B->bj H)->a0 ((ds.map iD).map .str) H):
  WP (cw (aX (eK (.fn (aq "normpath"))) [(eL 1)] []) [] (pL 1) 128 (.list (ae di) 0) ⟨FN (k+3),[],[ag,ag,ag]⟩ []) B a0 E:=by
 refine lZ (G:=λH=>H[di]? =ae (.list (ds.map .str))) (a0:=λj G I H=>G=((ds.take j).map iD).map .str/\Ex B H/\(bj B->bj H)/\∃S R T,I=[S,R,T]) (K:=ds.map .str)
  (Yl.gK λH e=>e) (by rw[aO];exact FI 0 3 1 128 hl rfl) (λu u u u h=>h.2.1.g d0) ⟨rfl,Fr.refl _ _,id,_,_,_,rfl⟩ ?_ ?_
 ·intros _ j v G U H _ J L;obtain⟨rfl,N,F,M⟩:=L;obtain (⟨S,R,T,rfl⟩):=M;rw[dA]at J;cases D:ds[j]? with
  |none=>rw[D]at J;cases J
  |some c=>
   intros c _ D;rw[D]at J;cases J;refine cu rfl (qH (t_t ⟨by rw[aO,aO,er];exact CF 0 0 0 3 0 4096 MR hl rfl,?_⟩));wtm_at "r";refine UC (c0 c (cD D)) λV K O=>⟨?_,N.trans K,(λh=>O (F h)),_,_,_,rfl⟩;rw[take_snoc D,dH,dH];rfl
 ·rintro G _ H ⟨rfl,N,F,-⟩;rw[aO,j5];exact q H N F
def UL {a0:AV->St->Prop}{mods:ah au}(c0:B[mi]? =ae (.list (mods.map .str)))(d0:mods.Nodup/\mods.length<=3)(hl:I[1]? =ae (ae (.ref mi)))(q:a0 (.cL mods) B):
  WP (gH (gm (tV (eL 1))) (aX (eK (.ty "set")) [] []) (aX (eK (.ty "set")) [(eL 1)] []) ⟨F,[],I⟩) B a0 E:=by
 refine w_If (w_tNot (w_tV (aM hl (px c0 ⟨λc=>?_,λc=>?_⟩))))
 ·cases mods with
  |nil=>exact w_Call (w_K (w_evs_nil (w_kws_nil (UD q))))
  |cons x l=>cases c
 ·exact w_Call (w_K (w_evs_cons (aM hl (w_evs_nil (w_kws_nil (UE c0 d0 q))))))
def UM {a0:AV->St->Prop}{ds:ah au}(c0:B[di]? =ae (.list (ds.map .str)))(e0:∀s∈ds,s∈lV)(d0:ds.length<=3)(hl:I[2]? =ae (ae (.ref di)))(q:∀H dd,Ex B H->(bj B->bj H)->B.length<=dd->H[dd]? =ae (.list ((ds.map iD).map .str))->a0 (.ref dd) H):
  WP (gH (gm (tV (eL 2))) (eList []) (d9 (eH [(".0",.local),("d",.local),("normpath",.globalImplicit)]) az (iA (eL 2)) (pL 1) [] (aX (eK (.fn (aq "normpath"))) [(eL 1)] [])) ⟨FN (k+3),[],I⟩) B a0 E:=by
 refine w_If (w_tNot (w_tV (aM hl (px c0 ⟨λc=>?_,λc=>?_⟩))))
 ·cases ds with
  |nil=>exact w_List (w_evs_nil (bp (by simp) (q _ _ Fr.app (λh=>h.app rfl) (a4 _) g_last)))
  |cons x l=>cases c
 ·refine iF (cs:=[]) (L:=[ag,ag,ag]) (by decide +kernel) (by kernel_rfl) (λu=>by kernel_rfl) rfl ?_;refine w_iA (aM hl (fg c0 ⟨rfl,UK e0 d0 c0 λH F D=>?_⟩));exact bp (by rw[aO,aO];exact FI 0 3 0 4096 d0 rfl) (q _ _ (F.trans Fr.app) (λh=>(D h).app rfl) F.len g_last)
def w_dict {a0:AV->St->Prop}(q:a0 (.ref B.length) (B++[.dict D0])):WP (Eg (vS "<string>") (.int 1) Q) B a0 E:=
 av (dU rfl (av (dU rfl (av (dU rfl (av (eJ (aQ q))))))))
def Gc {mods ds:ah au}{a0:AV->St->Prop}(hm:mods∈qz)(g0:∀s∈ds,s∈lV)(hl:ds.length<=3)(c0:B[mi]? =ae (.list (mods.map .str)))(j0:B[di]? =ae (.list (ds.map .str)))(q:∀H i d dd g,Ex B H->(bj B->bj H)->B.length<=i->B.length<=d->B.length<=dd->B.length<=g->fA H i d dd g (mods,ds.map iD) D0->a0 (.ref i) H):
  WP (FN (k+4) (.fn (aq "_Ignore")) [.ref mi,.ref di] []) B a0 E:=by
 obtain l:=bW.mp UI mods hm;simp only[cW,ft]at l;refine UG ?_;obtain T:(B++[AO.bc [],.inst B.length])[B.length]? =ae (.bc []):=qD;obtain U:(B++[AO.bc [],.inst B.length])[B.length+1]? =ae (.inst B.length):=iX;obtain O:Ex B (B++[AO.bc [],.inst B.length]):=Fr.app;obtain z:bj B->bj (B++[AO.bc [],.inst B.length]):=λh=>h.app rfl;generalize B++[AO.bc [],.inst B.length]=a7 at *;unfold vF;refine x_sq (w_Set (UL (O.g c0) l rfl (x_pAttr (aM rfl (zW U T (by decide +kernel) (by decide) (n_next ?_))))));obtain L:Fr (λj=>j=B.length) a7 (a7.set B.length (.bc (putField [] (sO "_mods") (.cL mods)))):=Fr.set rfl;obtain Y:Ex B (a7.set B.length (.bc (putField [] (sO "_mods") (.cL mods)))):=Ex.nZ O (a4 _);obtain V:(a7.set B.length (.bc (putField [] (sO "_mods") (.cL mods))))[B.length]? =ae (.bc [(sO "_mods",.cL mods)]):=de T;obtain N:=L.get U (by exact NT (a4 _));obtain m:bj B->bj (a7.set B.length (.bc (putField [] (sO "_mods") (.cL mods)))):=λh=>(z h).set rfl;generalize a7.set B.length (.bc (putField [] (sO "_mods") (.cL mods)))=bF at *;refine x_sq (w_Set (UM (Y.g j0) g0 hl rfl λF dd J Z M b=>x_pAttr (aM rfl (zW (J.g N) (J.g V) (by decide +kernel) (by simp) (n_next ?_)))));obtain G:=ba N;obtain e0:∀v,putField [(sO "_mods",.cL mods)] (sO "_dirs") v=[(sO "_mods",.cL mods),(sO "_dirs",v)]:=λv=>by kernel_rfl
 rw[e0];obtain I:Fr (λj=>j=B.length) F (F.set B.length (.bc [(sO "_mods",.cL mods),(sO "_dirs",.ref dd)])):=Fr.set rfl;obtain f:Ex B (F.set B.length (.bc [(sO "_mods",.cL mods),(sO "_dirs",.ref dd)])):=Ex.nZ (Y.trans J) (a4 _);obtain d0:(F.set B.length (.bc [(sO "_mods",.cL mods),(sO "_dirs",.ref dd)]))[B.length]? =ae (.bc [(sO "_mods",.cL mods),(sO "_dirs",.ref dd)]):=de (J.g V);obtain A:=I.get (J.g N) (by exact NT (a4 _));obtain X:=I.get b (by exact NT (CF 2 0 0 0 1 0 G M rfl));obtain w:bj B->bj (F.set B.length (.bc [(sO "_mods",.cL mods),(sO "_dirs",.ref dd)])):=λh=>(Z (m h)).set rfl;generalize F.set B.length (.bc [(sO "_mods",.cL mods),(sO "_dirs",.ref dd)])=cO at *;refine x_sq (w_Set (w_dict ?_));obtain W:(cO++[AO.dict D0])[B.length+1]? =ae (.inst B.length):=g_app A;obtain R:(cO++[AO.dict D0])[B.length]? =ae (.bc [(sO "_mods",.cL mods),(sO "_dirs",.ref dd)]):=g_app d0;obtain o:Ex B (cO++[AO.dict D0]):=f.trans Fr.app;obtain h0:(cO++[AO.dict D0])[cO.length]? =ae (.dict D0):=g_last;obtain u:(cO++[AO.dict D0])[dd]? =ae (.list ((ds.map iD).map .str)):=g_app X;obtain K:=ba A;obtain i0:bj B->bj (cO++[AO.dict D0]):=λh=>(w h).app rfl;generalize cO++[AO.dict D0]=dZ at *;generalize cO.length=g at *;refine x_pAttr (aM rfl (zW W R (by decide +kernel) (by simp) (n_next ?_)));obtain S:∀v,putField [(sO "_mods",.cL mods),(sO "_dirs",.ref dd)] (sO "_ignore") v=[(sO "_mods",.cL mods),(sO "_dirs",.ref dd),(sO "_ignore",v)]:=λv=>by kernel_rfl
 rw[S];obtain D:Fr (λj=>j=B.length) dZ (dZ.set B.length (.bc [(sO "_mods",.cL mods),(sO "_dirs",.ref dd),(sO "_ignore",.ref g)])):=Fr.set rfl;obtain f0:Ex B (dZ.set B.length (.bc [(sO "_mods",.cL mods),(sO "_dirs",.ref dd),(sO "_ignore",.ref g)])):=Ex.nZ o (a4 _);refine x_nil (r_next ⟨rfl,?_⟩);exact q _ (B.length+1) B.length dd g f0 (λh=>(i0 h).set rfl) (by exact gP _) (a4 _) (by exact CF 2 0 0 0 0 0 G M rfl) (by exact FI 2 0 0 0 K rfl) ⟨D.get W (by exact NT (a4 _)),de R,D.get u (by exact NT (CF 2 0 0 0 1 0 G M rfl)),D.get h0 (by exact NT (FI 2 0 1 0 K rfl))⟩
def bG.one {q:eY}{n:aS}(h:bG B [q] [r] [n]):∃D,fA B q.a q.d q.dd q.g r D/\kY r n D:=h.1
def bG.get:∀{B:St} {X:ah eY} {M:ah Rd} {ns:ah aS} {k:ak} {q:eY},bG B X M ns->X[k]? =ae q->∃r n,M[k]? =ae r/\ns[k]? =ae n/\bG B [q] [r] [n]:=by
 intro E H;induction H generalizing E with
 |nil=>
  intro _ _ _ _ _ D;exact nomatch D
 |cons q X K=>
  intro F;cases F with
  |nil=>
   intro _ _ _ h _;exact h.elim
  |cons r M=>
   intro J;cases J with
   |nil=>
    intro _ _ h _;exact h.elim
   |cons n ns=>
    intro G;cases G with
    |zero=>
     intro I h D;cases D;exact⟨r,n,rfl,rfl,h.1,trivial⟩
    |succ k=>
     intro I h D;exact K (k:=k) h.2 D
def bG.UN {g:ak}{D0:ah ((au ⊕ Int)×AV)}{ns:ah aS}(h:bG B X M ns)(hg:B[g]? =ae (.dict D0))(c0:∀q∈X,q.g≠g)(a0:Fr (λi=>i=g) B H):bG H X M ns:=
 bG.fr a0 h λq F=>by
  obtain⟨r,D,E⟩:=h.at F;exact⟨cC E.inst hg (by simp),cC E.bc hg (by simp),cC E.fO hg (by simp),c0 q F⟩
def bG.upd:∀{B H:St} {X:ah eY} {M:ah Rd} {ns:ah aS} {k:ak} {q:eY} {r:Rd} {n':aS},bG B X M ns->X[k]? =ae q->M[k]? =ae r->X.Pairwise (λp q=>p.g≠q.g)->Fr (λi=>i=q.g) B H->bG H [q] [r] [n']->bG H X M (ns.set k n'):=by
 intro B H V;induction V generalizing B H with
 |nil=>
  intro _ _ _ _ _ _ _ E _ _ _ _;exact nomatch E
 |cons q X Y=>
  intro S;cases S with
  |nil=>
   intro _ _ _ _ _ h _ _ _ _ _;exact h.elim
  |cons r M=>
   intro U;cases U with
   |nil=>
    intro _ _ _ _ h _ _ _ _ _;exact h.elim
   |cons n ns=>
    intro T;cases T with
    |zero=>
     intro Q R n' h E I J f N;cases E;cases I;obtain⟨⟨D,G,-⟩,K⟩:=h;exact⟨N.1,K.UN G.dict (λp W=>((lE.mp J).1 p W).symm) f⟩
    |succ k=>
     intro Q R n' h E I J f N;obtain E:X[k]? =ae Q:=E;obtain I:M[k]? =ae R:=I;obtain Z:=h;obtain⟨⟨D,G,L⟩,K⟩:=h;obtain⟨A,F⟩:=K.dict (cD E);obtain O:=(lE.mp J).1 Q (cD E);exact⟨⟨D,G.fr f (cC G.inst F (by simp)) (cC G.bc F (by simp)) (cC G.fO F (by simp)) O,L⟩,(Y K) E I (lE.mp J).2 f N⟩
def dO.get:∀{B:St} {is:ah ak} {ns:ah aS} {k i:ak},dO B is ns->is[k]? =ae i->∃n,ns[k]? =ae n/\dO B [i] [n]:=by
 intro E J;induction J generalizing E with
 |nil=>
  intro _ _ _ _ D;exact nomatch D
 |cons i is I=>
  intro G;cases G with
  |nil=>
   intro _ _ h _;exact h.elim
  |cons n ns=>
   intro H;cases H with
   |zero=>
    intro F h D;cases D;exact⟨n,rfl,h.1,trivial⟩
   |succ k=>
    intro F h D;exact I (k:=k) h.2 D
def dO.upd:∀{B H:St} {is:ah ak} {ns:ah aS} {k i:ak} {n':aS},dO B is ns->is[k]? =ae i->is.Nodup->Fr (· ∈[i]) B H->dO H [i] [n']->dO H is (ns.set k n'):=by
 intro B H J;induction J generalizing B H with
 |nil=>
  intro _ _ _ _ _ D _ _ _;exact nomatch D
 |cons i is M=>
  intro I;cases I with
  |nil=>
   intro _ _ _ h _ _ _ _;exact h.elim
  |cons n ns=>
   intro L;cases L with
   |zero=>
    intro G n' h D E f F;cases D;refine⟨F.1,h.2.fr f λj K e=>?_⟩;rw[aJ]at e;subst e;exact(pN.mp E).1 K
   |succ k=>
    intro G n' h D E f F;obtain D:is[k]? =ae G:=D;refine⟨f.get h.1 λe=>?_,(M h.2) D (pN.mp E).2 f F⟩;rw[aJ]at e;subst e;exact(pN.mp E).1 (cD D)
def fe.get:∀{B:St} {X:ah (ak×ak)} {M:ah Rd} {k:ak} {q:ak×ak},fe B X M->X[k]? =ae q->∃r,M[k]? =ae r/\fe B [q] [r]:=by
 intro E J;induction J generalizing E with
 |nil=>
  intro _ _ _ _ D;exact nomatch D
 |cons q X I=>
  intro F;cases F with
  |nil=>
   intro _ _ h _;exact h.elim
  |cons r M=>
   intro H;cases H with
   |zero=>
    intro G h D;cases D;exact⟨r,rfl,h.1,trivial⟩
   |succ k=>
    intro G h D;exact I (k:=k) h.2 D
def Gd {n:aS}(h: ¬ (m= .int 7/\r.1≠[])):jR r n m=([b2i (dv r ((dw n m).getD .none) m)],[n++[(m,.none)]]):=by
 have B:b7 [r] [n] m .none=(ae (b2i (dv r ((dw n m).getD .none) m)+0),[n++[(m,.none)]]):=aK h;unfold jR;rw[sZ (i:=b2i (dv r ((dw n m).getD .none) m)+0) (by rw[B]),B];rw[BE];rfl
def Ge {n:aS}(h:m= .int 7/\r.1≠[]):jR r n m=([],[n]):=by
 obtain B:b7 [r] [n] m .none=(ag,[n]):=aN h;unfold jR;rw[s7 (by rw[B]),B]
def UO {x:eY}{n:aS}{a0:AV->St->Prop}(h:bG B [x] [r] [n])(hl:n.length<=60)(hm:eg m)(hr:fz r)(q:∀H i,bG H [x] [r] (jR r n m).2->Fr (λi=>i=x.g) B H->B.length<=i->H[i]? =ae (.list ((jR r n m).1.map .int))->a0 (.ref i) H):
  WP (FN (k+2) (.fn (aq "_law_says")) [.ref x.a,m] []) B a0 E:=by
 have R:=h;obtain⟨D,F,T⟩:=h.one;refine RM ?_;unfold zb;wtm_at "r";refine⟨(λh=>nomatch h.2),F.has ?_⟩;wtm_at "r";refine wb (FP F T hl hm (.inl rfl) hr (λI U N=>?_) λS L=>?_)
 ·have M:jR r n m=_:=Gd λc=>c.2 (U c.1);rw[M]at q;have O:Fr (λi=>i=x.g) B (B.set x.g (.dict I)):=Fr.set rfl;have J:bG (B.set x.g (.dict I)) [x] [r] [n++[(m,.none)]]:=
   ⟨⟨I,⟨g_ne (cC F.dict F.inst (by simp)) F.inst,g_ne (cC F.dict F.bc (by simp)) F.bc,g_ne (cC F.dict F.fO (by simp)) F.fO,de F.dict⟩,N⟩,trivial⟩
  have G:B.length<=(B.set x.g (.dict I)).length:=O.len;generalize B.set x.g (.dict I)=bF at *;wtm_at "r";refine Up ?_;wtm_at "r";refine Ga ?_;refine t_t ?_;wtm_at "r";refine bp (by simp) ?_;refine n_ret (r_ret ?_);have K:Ex bF (bF++[AO.list [.int (b2i (dv r ((dw n m).getD .none) m))]]):=Fr.app;exact q _ _ (J.fr K λu u=>⟨id,id,id,id⟩) (O.trans Fr.app) G g_last
 ·have M:jR r n m=_:=Ge ⟨S,L⟩;rw[M]at q;refine⟨rfl,?_⟩;wtm_at "r";refine bp (by simp) ?_;refine n_ret (r_ret ?_);have K:Ex B (B++[AO.list []]):=Fr.app;exact q _ _ (R.fr K λu u=>⟨id,id,id,id⟩) Fr.app (a4 _) g_last
def UP {l:ah Int}{a0:AV->St->Prop}(h:Body vM ⟨FN 11,dc,ae (.gR l) :: zi⟩ [.cell ag,.cell ag,.cell ag,.cell ag,.cell ag] a0 E):WP (FN 12 (.fn (aq "law")) [.gR l] []) [] a0 E:=
 fE (c0:=P.alloc (.cell ag)>>=λa=>P.alloc (.cell ag)>>=λb=>P.alloc (.cell ag)>>=λc=>P.alloc (.cell ag)>>=λd=>P.alloc (.cell ag)>>=λe=>P.pure ⟨FN 11,[(sO "readers",e),(sO "asks",d),(sO "wish",c),(sO "k",b),(sO "total",a)],ae (.gR l) :: zi⟩) Rf (by decide +kernel) (by kernel_rfl)
  (av (eJ (av (eJ (av (eJ (av (eJ (av (eJ (aQ h)))))))))))
def wj {a0:FL×ah (ax AV)->St->Prop}:∀{l1 l2:ah DS} {I:ah (ax AV)} {B:St},WP (sq l1 ⟨F,O,I⟩) B (jO (λc0 B=>WP (sq l2 ⟨F,O,c0⟩) B a0 E) a0) E->WP (sq (l1++l2) ⟨F,O,I⟩) B a0 E:=by
 intro D;induction D with
 |nil=>
  intro l2 I B h;exact h
 |cons s l1 G=>
  intro l2 I B h;refine x_sq ?_;have h:WP (s ⟨F,O,I⟩>>=λx=>match x with
   |(.next,I)=>sq l1 { (⟨F,O,I⟩:RT)with loc:=I }
   |x=>P.pure x) B (jO (λc0 B=>WP (sq l2 ⟨F,O,c0⟩) B a0 E) a0) E:=h
  refine P.mono _ (λr H x=>?_) h;cases r with
  |err k=>exact x
  |ok y=>
   obtain⟨f,c0⟩:=y;cases f with
   |next=>exact G (l2:=l2) x
   |brk=>exact x
   |cont=>exact x
   |ret v=>exact x
def UQ {a b:Int}{a0:AV->St->Prop}(g:0<=b/\b<=60/\a.natAbs < 2 ^ 62)(h:a0 (.int (a ^ b.toNat)) B):WP (gc .Pow (.int a) (.int b)) B a0 E:=av (w_strict (av (bw g (aQ h))))
def UR {l':ah AV}{a0:AV->St->Prop}(h:B[i]? =ae (.list l))(h':B[j]? =ae (.list l'))(hl:(l++l').length<=4096)(q:a0 (.ref B.length) (B++[.list (l++l')])):WP (gc .Add (.ref i) (.ref j)) B a0 E:=
 av (bw rfl (av (eh (av (fD h (av (fD h' (bp hl q))))))))
def Gf {l:ah Int}{a0:AV->St->Prop}(q:a0 (.ref B.length) (B++[.list ((l.take 6).map .int)])):WP (km (.gR l) ag (ae (.int 6))) B a0 E:=by
 refine av (zG (av (zH (av (bw ⟨rfl,zI (m:=6) (by decide)⟩ ?_)))));show WP (cz ((l.map AV.int).take (min 6 (l.map AV.int).length))) B a0 E;rw[FA,<-rJ];exact bp (by rw[aO,er];exact dW (tm _ _) (by decide)) q
def US {a0:AV->St->Prop}(hn:bj B)(q:∀a e sc,mP=ae (a,e,sc)->a0 (.ref B.length) (B++[.lam a e sc [(sO "readers",4),(sO "asks",3)]])):WP (Ei mP ⟨F,dc,I⟩) B a0 E:=by
 obtain G:∀F I,(mP.map λd=>fL ⟨F,dc,I⟩ d.2.2.names [])=ae (ae [(sO "readers",4),(sO "asks",3)]):=λF I=>by kernel_rfl
 cases D:mP with
 |none=>have:=G F I;rw[D]at this;cases this
 |some d=>
  obtain⟨a,e,sc⟩:=d;have:=G F I;rw[D]at this;have this:fL ⟨F,dc,I⟩ sc.names []=_:=dp this;exact av (w_get (av (bw hn (av (dU this (av (eJ (aQ (q a e sc D)))))))))
def cl_readers:dc.lookup (aq "readers")=ae 4:=by kernel_rfl
def cl_asks:dc.lookup (aq "asks")=ae 3:=by kernel_rfl
def cl_wish:dc.lookup (aq "wish")=ae 2:=by kernel_rfl
def cl_k:dc.lookup (aq "k")=ae 1:=by kernel_rfl
def cl_total:dc.lookup (aq "total")=ae 0:=by kernel_rfl
def Gg {c:ak}{a0 x:Int}(hc:O.lookup (sO "total")=ae c)(ht:B[c]? =ae (.cell (ae (.int a0))))(he:∀c0:AV->St->Prop,c0 (.int x) B->WP (e ⟨F,O,I⟩) B c0 E)(hx:0<=x/\x<=20)(q:∀b,QB b B):
  WP (aR .Eq (aY .Mod (aY .FloorDiv (eC "total") (aY .Pow (eK (.int 2)) e)) (eK (.int 2))) (eK (.int 1)) ⟨F,O,I⟩) B QB E:=by
 have D:∀n:Fin 21,0 < (2:Int) ^ n.val/\(2:Int) ^ n.val < 2 ^ 29:=by decide +kernel
 refine w_tCmp (w_Bin (w_Bin (gp hc ht (w_Bin (w_K (he _ (UQ ⟨hx.1,by lia,by decide⟩ (pn (D ⟨x.toNat,by lia⟩) (w_K (pq (by decide) (w_K (mY (q _)))))))))))))
theorem Gh {li:ak}{x y z:au}{t:DT}{a0:ah AV->St->Prop}(hl:B[li]? =ae (.list [.str x,.str y,.str z]))(ht:∀(I:ah (ax AV)) (i:ak) (QB:aB->St->Prop),i < 3->I[1]? =ae (ae (.int i))->(∀b,QB b B)->WP (t ⟨F,cs,I⟩) B QB E)(q:∀sub,sub∈subs x y z->a0 (sub.map .str) B):
  WP (cw (eL 2) [t] (cx [(pL 1),(pL 2)]) 128 (.enum 0 (.list (ae li) 0)) ⟨F,cs,[ag,ag,ag,ag,ag]⟩ []) B a0 E:=by
 refine lZ (G:=λH=>H=B) (a0:=λj D I H=>(∃sub,sub∈zj [x,y,z] j/\D=sub.map .str/\sub.length<=j)/\H=B/\lS I) (K:=mS 0 ([x,y,z].map .str))
  (Yl.enum (Yl.gK λH e=>by rw[e];exact hl)) (by rw[n5];simp) (λa a a a h=>h.2.1) ⟨⟨[],.head _,rfl,a4 _⟩,rfl,lS.mk⟩ ?_ ?_
 ·intros _ j v D T H _ S M;obtain⟨N,rfl,O⟩:=M;obtain (⟨X,V,Y,W,U,rfl⟩):=O;obtain (⟨sub,J,rfl,G⟩):=N;obtain (⟨u,K,rfl⟩):=wi S;rw[dA]at K;cases L:[x,y,z][j]? with
  |none=>rw[L]at K;cases K
  |some w=>
   intros w _ L;rw[L]at K;cases K;have R:j < 3:=ba L;wtm_at "r";refine qK (ht _ j _ R (by rw[ux];rfl) λb=>⟨λa=>?_,λa=>?_⟩)
   ·refine⟨by rw[aO];exact CF 0 0 1 3 0 4096 G R rfl,?_⟩;wtm_at "r";refine⟨⟨sub++[w],?_,by rw[dH];rfl,by simp;exact G⟩,rfl,lS.mk⟩;refine hW _ (mv.mpr ⟨sub,J,?_⟩);rw[L];rfl
   ·exact⟨⟨sub,gM _ J,rfl,by exact FI 0 0 0 1 G rfl⟩,rfl,lS.mk⟩
 ·rintro D I H ⟨⟨sub,J,rfl,-⟩,rfl,-⟩;rw[n5]at J;exact q sub J
def fe.snoc:∀{B:St} {X:ah (ak×ak)} {M:ah Rd} {q:ak×ak} {r:Rd},fe B X M->B[q.1]? =ae (.list (r.1.map .str))->B[q.2]? =ae (.list (r.2.map .str))->fe B (X++[q]) (M++[r]):=by
 intro G I;induction I generalizing G with
 |nil=>
  intro F;cases F with
  |nil=>
   intro _ _ _ E D;exact⟨⟨E,D⟩,trivial⟩
  |cons _ _=>
   intro _ _ h _ _;exact h.elim
 |cons J K H=>
  intro F;cases F with
  |nil=>
   intro _ _ h _ _;exact h.elim
  |cons _ _=>
   intro _ _ h E D;exact⟨h.1,(H h.2) E D⟩
def fe.len:∀{B:St} {X:ah (ak×ak)} {M:ah Rd},fe B X M->X.length=M.length:=by
 intro E G;induction G generalizing E with
 |nil=>
  intro D;cases D with
  |nil=>
   intro _;exact rfl
  |cons _ _=>
   intro h;exact h.elim
 |cons H I F=>
  intro D;cases D with
  |nil=>
   intro h;exact h.elim
  |cons _ _=>
   intro h;rw[fq,fq,(F h.2)]
def fe.lt:∀{B:St} {X:ah (ak×ak)} {M:ah Rd},fe B X M->∀q∈X,q.1 < B.length/\q.2 < B.length:=by
 intro E I;induction I generalizing E with
 |nil=>
  intro _ _ _ D;exact nomatch D
 |cons q X H=>
  intro F;cases F with
  |nil=>
   intro h _ _;exact h.elim
  |cons r M=>
   intro h G D;rcases bu.mp D with rfl |D
   ·exact⟨ba h.1.1,ba h.1.2⟩
   ·exact(H h.2) G D
def UT {l:ah Int}{a0:AV->St->Prop}(hl:I[0]? =ae (ae (.gR l)))(q:∀H n1 (nums:ah Int),Ex B H->(bj B->bj H)->B.length<=n1->H[n1]? =ae (.list (nums.map .int))->1<=nums.length/\nums.length<=16->a0 (.ref n1) H):
  WP (aY .Add (fw (eL 0) ag (ae (eK (.int 6)))) (eList [(eK (.int 1728)),(eK (.int 1466)),(eK (.int 48)),(eK (.int 34)),(eK (.int 41)),(eK (.int 787)),(eK (.int 42)),(eK (.int 1536)),(eK (.int 55)),(eK (.int 33))]) ⟨F,O,I⟩) B a0 E:=by
 have G:(l.take 6).length<=6:=by rw[er];exact ML
 refine w_Bin (w_Slice (aM hl (w_optE_none (w_optE_some (w_K (Gf ?_))))));wtm_at "r";refine bp (by simp) ?_;refine UR (l:=(l.take 6).map .int) (l':=[1728,1466,48,34,41,787,42,1536,55,33].map .int) (g_app g_last) g_last (by rw[bK,aO,aO];simp;exact FI 0 6 0 4086 ML rfl) ?_;rw[<-dH];refine q _ _ _ ((Fr.app.trans Fr.app).trans Fr.app) (λD=>((D.app rfl).app rfl).app rfl) ?_ g_last ?_
 ·rw[bK,bK];exact TT AL AL
 ·rw[bK];simp;exact ML
def UU {l:ah Int}{c0:AV->St->Prop}(hl:I[0]? =ae (ae (.gR l)))(q:∀H a0,Ex B H->(bj B->bj H)->c0 (.int a0) H):
  WP (aY .Add (aX (eK (.bi "sum")) [(fw (eL 0) ag (ae (eK (.int 6))))] []) (eK (.int 84104)) ⟨F,O,I⟩) B c0 E:=by
 refine w_Bin (w_Call (w_K (w_evs_cons (w_Slice (aM hl (w_optE_none (w_optE_some (w_K (Gf ?_)))))))));refine w_evs_nil (w_kws_nil (FT g_last (w_K (b_add ?_))));exact q _ _ Fr.app λh=>h.app rfl
theorem UW {l:ah Int}{a0:FL×ah (ax AV)->St->Prop}(q:∀H n1 LP a9 M c0 x5 x6,zk H n1 LP a9 M c0->a9.length=3->a0 (.next,[ae (.gR l),ae (.ref n1),ag,ae (.ref LP),ag,x5,x6,ag,ag,ag,ag,ag,ag,ag,ag,ag,ag,ag,ag,ag,ag,ag,ag,ag,ag,ag,ag,ag,ag,ag,ag,ag,ag,ag,ag,ag,ag,ag,ag,ag,ag,ag,ag]) H):
  WP (sq sz ⟨FN 11,dc,ae (.gR l) :: zi⟩) [.cell ag,.cell ag,.cell ag,.cell ag,.cell ag] a0 E:=by
 show WP (sq sz ⟨FN 11,dc,[ae (.gR l),ag,ag,ag,ag,ag,ag,ag,ag,ag,ag,ag,ag,ag,ag,ag,ag,ag,ag,ag,ag,ag,ag,ag,ag,ag,ag,ag,ag,ag,ag,ag,ag,ag,ag,ag,ag,ag,ag,ag,ag,ag,ag]⟩) _ a0 E;obtain h0:([.cell ag,.cell ag,.cell ag,.cell ag,.cell ag]:St)[0]? =ae (.cell ag):=rfl;obtain h1:([.cell ag,.cell ag,.cell ag,.cell ag,.cell ag]:St)[1]? =ae (.cell ag):=rfl;obtain h2:([.cell ag,.cell ag,.cell ag,.cell ag,.cell ag]:St)[2]? =ae (.cell ag):=rfl;obtain h3:([.cell ag,.cell ag,.cell ag,.cell ag,.cell ag]:St)[3]? =ae (.cell ag):=rfl;obtain h4:([.cell ag,.cell ag,.cell ag,.cell ag,.cell ag]:St)[4]? =ae (.cell ag):=rfl;obtain hn:bj [.cell ag,.cell ag,.cell ag,.cell ag,.cell ag]:=rfl;generalize ([.cell ag,.cell ag,.cell ag,.cell ag,.cell ag]:St)=B at *;obtain k:=ba h4;unfold sz;refine x_sq (w_Set (UT rfl ?_));intros _ r1 n1 c0 _ T0 K0 l0 A0 i1;refine cu rfl (n_next ?_);simp only[gz,gA];refine x_sq (w_Set (UU rfl ?_));intros _ N T _ d0 B0;obtain U:Ex B N:=T0.trans d0;obtain V0:bj N:=B0 (K0 hn);obtain f0:=d0.g A0;obtain o1:=U.g h0;wtm_at "r";obtain F:Fr (λi=>i=0) N (N.set 0 (.cell (ae (.int T)))):=Fr.set rfl;obtain R0:bj (N.set 0 (.cell (ae (.int T)))):=V0.set rfl;obtain P0:(N.set 0 (.cell (ae (.int T))))[0]? =ae (.cell (ae (.int T))):=de o1;obtain H0:=F.get (U.g h1) (by decide);obtain N0:=F.get (U.g h2) (by decide);obtain G0:=F.get (U.g h3) (by decide);obtain Y0:=F.get (U.g h4) (by decide);obtain Y:=F.get f0 (by exact NT (CF 5 0 0 0 1 0 k l0 rfl));obtain q1:=F.len;obtain t1:=U.len;generalize N.set 0 (.cell (ae (.int T)))=bk at *;refine bp (by simp) ?_;wtm_at "r";refine bp (by simp) ?_;refine fg g_last ⟨rfl,?_⟩;obtain b1:(bk++[AO.list []]++[AO.list ([.int 0,.int 6,.int 12])])[bk.length]? =ae (.list []):=g_app g_last;obtain w0:(bk++[AO.list []]++[AO.list ([.int 0,.int 6,.int 12])])[(bk++[AO.list []]).length]? =ae (.list [.int 0,.int 6,.int 12]):=g_last;obtain V:Ex bk (bk++[AO.list []]++[AO.list ([.int 0,.int 6,.int 12])]):=Fr.app.trans Fr.app;obtain l1:bj (bk++[AO.list []]++[AO.list ([.int 0,.int 6,.int 12])]):=(R0.app rfl).app rfl;have f:bk.length < (bk++[AO.list []]).length:=by rw[bK];simp
 generalize (bk++[AO.list []]).length=ki at *;generalize bk++[AO.list []]++[AO.list ([.int 0,.int 6,.int 12])]=cO at *;obtain I0:=V.g P0;obtain J0:=V.g H0;obtain O0:=V.g N0;obtain c1:=V.g G0;obtain Q0:=V.g Y0;obtain j0:=V.g Y;obtain u:=ba Y;have L:5<=bk.length:=by exact CF 5 0 1 0 5 0 (CH 5 0 0 0 k l0) u rfl
 generalize bk.length=LP at *;refine k9 (G:=λH=>H[ki]? =ae (.list [.int 0,.int 6,.int 12])) (c0:=λj I H=>H[ki]? =ae (.list [.int 0,.int 6,.int 12])/\H[0]? =ae (.cell (ae (.int T)))/\(∃a9 M,zk H n1 LP a9 M c0/\a9.length=j)/\ki < H.length/\∃x5 x6,I=[ae (.gR l),ae (.ref n1),ag,ae (.ref LP),ag,x5,x6,ag,ag,ag,ag,ag,ag,ag,ag,ag,ag,ag,ag,ag,ag,ag,ag,ag,ag,ag,ag,ag,ag,ag,ag,ag,ag,ag,ag,ag,ag,ag,ag,ag,ag,ag,ag]) (K:=[.int 0,.int 6,.int 12])
  (Yl.gK λH e=>e) (by decide) (λy y y h=>h.1) ⟨w0,I0,⟨[],[],⟨⟨_,J0⟩,O0,c1,Q0,j0,i1,b1,trivial,(λy h=>nomatch h),(λy h=>nomatch h),⟨L,by exact TT k l0⟩,u,l1⟩,rfl⟩,ba w0,_,_,rfl⟩ ?_ ?_
 ·intros _ j v v1 K _ m Z0;obtain⟨C0,W0,M0,f1,a1⟩:=Z0;obtain (⟨x5,x6,rfl⟩):=a1;obtain (⟨a9,M,A,w⟩):=M0;obtain⟨kk,rfl,Wv,Ww⟩:∃kk:Int,v= .int kk/\0<=kk/\kk<=12:=by
   match j,m with
   | 0,m=>cases m;exact⟨0,rfl,by decide,by decide⟩
   | 1,m=>cases m;exact⟨6,rfl,by decide,by decide⟩
   | 2,m=>cases m;exact⟨12,rfl,by decide,by decide⟩
  obtain m0:=ba m;obtain m0:j < 3:=m0;obtain⟨cv,L0⟩:=A.c1;wtm_at "r";obtain F:Fr (λi=>i=1) K (K.set 1 (.cell (ae (.int kk)))):=Fr.set rfl;obtain e0:(K.set 1 (.cell (ae (.int kk))))[1]? =ae (.cell (ae (.int kk))):=de L0;obtain i0:=F.get W0 (by decide);obtain F0:bj (K.set 1 (.cell (ae (.int kk)))):=A.EP.set rfl;obtain z:=F.len;generalize K.set 1 (.cell (ae (.int kk)))=fR at *;refine iF (cs:=[(aq "total",0),(aq "k",1)]) (L:=[ag,ag,ag,ag,ag]) (by decide +kernel) (by kernel_rfl) (λy=>by kernel_rfl) rfl ?_;wtm_at "r";refine bp (by simp) ?_;wtm_at "r";obtain b:Ex fR (fR++[AO.list [vS "a",vS "a.b",vS "b"]]):=Fr.app;obtain e1:bj (fR++[AO.list [vS "a",vS "a.b",vS "b"]]):=F0.app rfl;obtain r0:(fR++[AO.list [vS "a",vS "a.b",vS "b"]])[fR.length]? =ae (.list [vS "a",vS "a.b",vS "b"]):=g_last;generalize fR++[AO.list [vS "a",vS "a.b",vS "b"]]=dk at *;refine fg r0 ⟨rfl,Gh r0 (λI i QB hi g0 qq=>Gg (by wtm_at "cel") (b.g i0) (x:=kk+i) (λa0 S=>?_) (by lia) qq) λmods X=>?_⟩
  ·exact w_Bin (gp (by wtm_at "cel") (b.g e0) (aM g0 (b_add S)))
  obtain p0:=(bW.mp FE mods X);simp only[cW,ft]at p0;refine bp (by rw[aO];exact FI 0 3 0 4096 p0.1 rfl) ?_;obtain z0:Ex fR (dk++[AO.list (mods.map .str)]):=b.trans Fr.app;obtain j1:bj (dk++[AO.list (mods.map .str)]):=e1.app rfl;obtain U0:(dk++[AO.list (mods.map .str)])[dk.length]? =ae (.list (mods.map .str)):=g_last;obtain v0:=b.len;generalize dk++[AO.list (mods.map .str)]=gq at *;wtm_at "r";refine iF (cs:=[(aq "total",0),(aq "k",1)]) (L:=[ag,ag,ag,ag,ag]) (by decide +kernel) (by kernel_rfl) (λy=>by kernel_rfl) rfl ?_;wtm_at "r";refine bp (by simp) ?_;wtm_at "r";obtain o:Ex fR (gq++[AO.list [vS "/l",vS "/l/a",vS "/w"]]):=z0.trans Fr.app;obtain p1:bj (gq++[AO.list [vS "/l",vS "/l/a",vS "/w"]]):=j1.app rfl;obtain E0:(gq++[AO.list [vS "/l",vS "/l/a",vS "/w"]])[gq.length]? =ae (.list [vS "/l",vS "/l/a",vS "/w"]):=g_last;obtain m1:(gq++[AO.list [vS "/l",vS "/l/a",vS "/w"]])[dk.length]? =ae (.list (mods.map .str)):=g_app U0;obtain s1:=z0.len;obtain n0:=o.len;generalize gq++[AO.list [vS "/l",vS "/l/a",vS "/w"]]=fS at *;refine fg E0 ⟨rfl,Gh E0 (λI i QB hi g0 qq=>Gg (by wtm_at "cel") (o.g i0) (x:=kk+3+i) (λa0 S=>?_) (by lia) qq) λJ Z=>?_⟩
  ·exact w_Bin (w_Bin (gp (by wtm_at "cel") (o.g e0) (w_K (b_add (aM g0 (b_add S))))))
  obtain u0:=(bW.mp FF J Z);simp only[cW,ft]at u0;refine bp (by rw[aO];exact FI 0 3 0 4096 u0.1 rfl) ?_;obtain W:Ex fR (fS++[AO.list (J.map .str)]):=o.trans Fr.app;obtain y0:bj (fS++[AO.list (J.map .str)]):=p1.app rfl;obtain o0:(fS++[AO.list (J.map .str)])[fS.length]? =ae (.list (J.map .str)):=g_last;obtain s0:(fS++[AO.list (J.map .str)])[dk.length]? =ae (.list (mods.map .str)):=g_app m1;generalize fS++[AO.list (J.map .str)]=zX at *;obtain G:Fr (λi=>i=1) K zX:=F.trans W.any;obtain O:=G.get A.lp (by have:=A.fP;exact NT (FI 5 0 2 0 L rfl));obtain R:=ba A.lp;wtm_at "r";refine⟨(λh=>nomatch h.2),hU O (.inl rfl) ?_⟩;wtm_at "r";refine js O (by rw[aO];exact CF 0 0 1 3 0 4096 (EL w) m0 rfl) ?_;obtain D:Fr (λi=>i=LP) zX (zX.set LP (.list (a9.map pM++[.pair (.ref dk.length) (.ref fS.length)]))):=Fr.set rfl;refine n_next (x_nil (l_next ⟨?_,D.get (W.g i0) (by exact NE (FI 5 0 1 0 L rfl)),⟨a9++[(dk.length,fS.length)],M++[(mods,J)],?_,by rw[bK,w];rfl⟩,?_,_,_,rfl⟩))
  ·exact D.get (G.get C0 (by exact NT (CF 5 0 1 0 2 0 L f rfl))) (by exact NT (f))
  ·refine⟨⟨_,D.get (W.g e0) (by exact NE (FI 5 0 2 0 L rfl))⟩,D.get (G.get A.c2 (by exact NT (a4 _))) (by exact NE (FI 5 0 3 0 L rfl)),D.get (G.get A.c3 (by exact NT (gP _))) (by exact NE (FI 5 0 4 0 L rfl)),D.get (G.get A.c4 (by exact NT (RR 2 4 rfl))) (by exact NE (L)),D.get (G.get A.num (by have:=A.fP;exact NT (FI 5 0 2 0 this.2 rfl))) ?_,A.nl,?_,?_,?_,?_,A.fP,A.EO,y0.set rfl⟩
   ·have:=A.EO;exact NE (u)
   ·rw[de O,dH];rfl
   ·refine fe.snoc ((A.at_.fr G λq S=>?_).fr D λq S=>?_) (D.get s0 (by exact NT (TT R (TT z v0)))) (D.get o0 (by exact NT (TT R (TT z n0))))
    ·exact⟨NT (CF 5 0 1 0 2 0 A.fP.1 (A.low q S).1 rfl),NT (CF 5 0 1 0 2 0 A.fP.1 (A.low q S).2 rfl)⟩
    ·have:=A.low q S;exact⟨NT (this.1),NT (this.2)⟩
   ·intro r hr;rcases dX.mp hr with hr |hr
    ·exact A.ok r hr
    ·rw[aJ.mp hr];exact⟨X,Z⟩
   ·intro q S;rcases dX.mp S with S |S
    ·exact A.low q S
    ·rw[aJ.mp S];exact⟨by show LP < dk.length;exact TT R (TT z v0),by show LP < fS.length;exact TT R (TT z n0)⟩
  ·have:=D.len;have:=G.len;exact TT f1 (TT this Jx)
 ·intros _ u1 K _ g1;obtain⟨-,-,d1,-,S0⟩:=g1;obtain (⟨x5,x6,rfl⟩):=S0;obtain (⟨a9,M,A,w⟩):=d1;exact n_next (x_nil (q K n1 LP a9 M c0 x5 x6 A w))
def bG.snoc:∀{B:St} {X:ah eY} {M:ah Rd} {ns:ah aS} {q:eY} {r:Rd} {n:aS},bG B X M ns->bG B [q] [r] [n]->bG B (X++[q]) (M++[r]) (ns++[n]):=by
 intro F H;induction H generalizing F with
 |nil=>
  intro D;cases D with
  |nil=>
   intro E;cases E with
   |nil=>
    intro _ _ _ _ h;exact h
   |cons _ _=>
    intro _ _ _ h _;exact h.elim
  |cons _ _=>
   intro _ _ _ _ h _;exact h.elim
 |cons J K G=>
  intro D;cases D with
  |nil=>
   intro _ _ _ _ h _;exact h.elim
  |cons _ _=>
   intro E;cases E with
   |nil=>
    intro _ _ _ h _;exact h.elim
   |cons _ _=>
    intro _ _ _ h I;exact⟨h.1,(G h.2) I⟩
def bG.ex {ns:ah aS}(h:bG B X M ns)(a0:Ex B H):bG H X M ns:=h.fr a0 λu u=>⟨id,id,id,id⟩
def bG.lt {ns:ah aS}{q:eY}(h:bG B X M ns)(hq:q∈X):q.g < B.length:=by
 obtain⟨D,h⟩:=h.dict hq;exact ba h
def UX:(pe.all λds=>ds.all λs=>lV.contains s)=aj:=by decide +kernel
theorem UY {a0:ah AV->St->Prop}(e0:B[LP]? =ae (.list (a9.map pM)))(c0:fe B a9 M)(d0:∀r∈M,fz r)(hl:a9.length<=60)(q:∀H X,Ex B H->(bj B->bj H)->bG H X M (M.map λc=>[])->X.Pairwise (λp q=>p.g≠q.g)->(∀q∈X,Behind B.length q)->X.length=a9.length->a0 (X.map λq=>.ref q.a) H):
  WP (cw (aX (eK (.fn (aq "_Ignore"))) [(eL 1),(eL 2)] []) [] (cx [(pL 1),(pL 2)]) 128 (.list (ae LP) 0) ⟨FN (k+4),[],[ag,ag,ag,ag]⟩ []) B a0 E:=by
 obtain i0:=c0.len;refine lZ (G:=λH=>H[LP]? =ae (.list (a9.map pM))) (a0:=λj N I H=>(∃X:ah eY,N=X.map (λq=>.ref q.a)/\bG H X (M.take j) ((M.take j).map λx=>[])/\X.Pairwise (λp q=>p.g≠q.g)/\(∀q∈X,Behind B.length q)/\X.length=j)/\Ex B H/\(bj B->bj H)/\∃x0 x1 x2 x3,I=[x0,x1,x2,x3]) (K:=a9.map pM)
  (Yl.gK λH e=>e) (by rw[aO];exact FI 0 60 1 128 hl rfl) (λx x x x h=>h.2.1.g e0) ⟨⟨[],rfl,trivial,Bz,(λx h=>nomatch h),rfl⟩,Fr.refl _ _,id,_,_,_,_,rfl⟩ ?_ ?_
 ·intros _ j v N m0 H _ U Z;obtain⟨h0,S,O,w⟩:=Z;obtain (⟨x0,x1,x2,x3,rfl⟩):=w;obtain (⟨X,rfl,R,T,Y,F⟩):=h0;rw[dA]at U;cases D:a9[j]? with
  |none=>rw[D]at U;cases U
  |some md=>
   intros md _ D;rw[D]at U;cases U;obtain hj:=ba D;obtain (⟨r,hr,z⟩):=c0.get D;obtain⟨⟨l,f⟩,-⟩:=z;have K:=d0 r (cD hr);obtain m:=FG K;obtain A:r.2.map iD=r.2:=gx (bW.mp UH r.2 K.2);obtain g0:∀s∈r.2,s∈lV:=λs T=>Ax.mp (bW.mp (bW.mp UX r.2 K.2) s T);unfold pM;wtm_at "r";refine qH ?_;refine t_t ?_;refine⟨by rw[aO];exact TT (EL F) (CF 1 0 0 60 0 4096 hj hl rfl),?_⟩;wtm_at "r";refine Gc K.1 g0 m.1 (S.g l) (S.g f) λj0 i d dd g V W hi hd u hg L=>?_;rw[A]at L;obtain J:=S.len;refine⟨⟨X++[⟨i,d,dd,g⟩],by rw[dH];rfl,?_,?_,?_,by rw[bK,F];rfl⟩,S.trans V,λh=>W (O h),_,_,_,_,rfl⟩
   ·rw[take_snoc hr,dH];exact(R.ex V).snoc ⟨⟨D0,L,UJ⟩,trivial⟩
   ·rw[xl];refine⟨T,By ..,λa ha b Y=>?_⟩;rw[aJ.mp Y];have:=R.lt ha;show a.g≠g;exact NE (TT this hg)
   ·intro q' G;rcases dX.mp G with G |G
    ·exact Y q' G
    ·rw[aJ.mp G];exact⟨by show B.length<=i;exact TT J hi,by show B.length<=d;exact TT J hd,by show B.length<=dd;exact TT J u,by show B.length<=g;exact TT J hg⟩
 ·intros _ N l0 H _ f0;obtain⟨o,S,O,-⟩:=f0;obtain (⟨X,rfl,R,T,Y,F⟩):=o;rw[aO]at R F;rw[gy (by exact(EG i0))]at R;exact q H X S O R T Y F
def UZ {a g:ak}(h:fA B a d dd g ([],[sO "/w"]) D0)(hl:I[7]? =ae (ae (.ref a)))(q:∀H D,Ex (B.set g (.dict D)) H->(bj B->bj H)->QB az H):
  WP (aR .NotEq (eList [(bX (eL 7) .names [(eK (vS "/w/q.py")),(eK (vS "q"))] []),(bX (eL 7) .names [(eK (vS "/wx/q.py")),(eK (vS "r"))] [])]) (eList [(eK (.int 1)),(eK (.int 0))]) ⟨FN (k+1),dc,I⟩) B QB E:=by
 have M:fz ([],[sO "/w"]):=by
  constructor
  ·exact .head _
  ·have:(pe.contains [sO "/w"])=aj:=by decide +kernel
   exact Ax.mp this
 have Q:eF D0 (.inl (sO "q"))=ag:=by decide +kernel
 have L:eF (putD D0 (.inl (sO "q")) (.int (b2i (dv ([],[sO "/w"]) (vS "/w/q.py") (vS "q"))))) (.inl (sO "r"))=ag:=by decide +kernel
 have G:b2i (dv ([],[sO "/w"]) (vS "/w/q.py") (vS "q"))=1:=by decide +kernel
 have O:b2i (dv ([],[sO "/w"]) (vS "/wx/q.py") (vS "r"))=0:=by decide +kernel
 refine w_tCmp (w_List (w_evs_cons (v3 (by decide) (aM hl ⟨(λh=>nomatch h.2),h.has ?_⟩))));wtm_at "r";refine wb (zL (T:=.inl (sO "q")) h (by decide) (.inr ⟨_,rfl⟩) (.inr ⟨_,rfl⟩) M rfl (λv F=>?_) (λu u=>?_) λu e u=>nomatch e)
 ·rw[Q]at F;cases F
 rw[G];have R:fA (B.set g (.dict (putD D0 (.inl (sO "q")) (.int 1)))) a d dd g ([],[sO "/w"]) (putD D0 (.inl (sO "q")) (.int 1)):=
  ⟨g_ne (cC h.dict h.inst (by simp)) h.inst,g_ne (cC h.dict h.bc (by simp)) h.bc,g_ne (cC h.dict h.fO (by simp)) h.fO,de h.dict⟩
 obtain S:bj B->bj (B.set g (.dict (putD D0 (.inl (sO "q")) (.int 1)))):=λJ=>J.set rfl;obtain K:∀D,(B.set g (.dict (putD D0 (.inl (sO "q")) (.int 1)))).set g (.dict D)=B.set g (.dict D):=λD=>oM ..;generalize B.set g (.dict (putD D0 (.inl (sO "q")) (.int 1)))=bF at *;refine w_evs_cons (v3 (by decide) (aM hl ⟨(λh=>nomatch h.2),R.has ?_⟩));wtm_at "r";refine wb (zL (T:=.inl (sO "r")) R (by decide +kernel) (.inr ⟨_,rfl⟩) (.inr ⟨_,rfl⟩) M rfl (λv F=>?_) (λu u=>?_) λu e u=>nomatch e)
 ·rw[G]at L;rw[L]at F;cases F
 rw[O,K];obtain N:bj B->bj (B.set g (.dict (putD (putD D0 (.inl (sO "q")) (.int 1)) (.inl (sO "r")) (.int 0)))):=λJ=>J.set rfl;wtm_at "r";refine bp (by simp) ?_;wtm_at "r";refine bp (by simp) ?_;refine s8 (l4 (ds:=[.int 1,.int 0]) (g_app g_last) (zQ (l:=[1,0]))) (l4 (ds:=[.int 1,.int 0]) g_last (zQ (l:=[1,0]))) ?_;rw[show(!bY (.list [.int 1,.int 0]) (.list [.int 1,.int 0]))=az by simp[bY,lF]];exact q _ _ (Fr.app.trans Fr.app) λJ=>((N J).app rfl).app rfl
theorem U2 {n1:ak}{d0:ah Int}{c0:FL×ah (ax AV)->St->Prop}(a0:zk B n1 LP a9 M d0)(h3:a9.length=3)(q:∀H x x7,ER B.length H x n1 LP a9 M d0->c0 (.next,[x0,ae (.ref n1),ag,ae (.ref LP),ag,x5,x6,x7,ae (.ref x.lm),ag,ag,ag,ag,ag,ag,ag,ag,ag,ag,ag,ag,ag,ag,ag,ag,ag,ag,ag,ag,ag,ag,ag,ag,ag,ag,ag,ag,ag,ag,ag,ag,ag,ag]) H):
  WP (sq vG ⟨FN 11,dc,[x0,ae (.ref n1),ag,ae (.ref LP),ag,x5,x6,ag,ag,ag,ag,ag,ag,ag,ag,ag,ag,ag,ag,ag,ag,ag,ag,ag,ag,ag,ag,ag,ag,ag,ag,ag,ag,ag,ag,ag,ag,ag,ag,ag,ag,ag,ag]⟩) B c0 E:=by
 obtain⟨cv,K0⟩:=a0.c1;have e0:=ba a0.lp;have R0:=ba a0.num;have K:=ba a0.c4;unfold vG;wtm_at "r";refine iF (cs:=[]) (L:=[ag,ag,ag,ag]) (by decide +kernel) (by kernel_rfl) (λv=>by kernel_rfl) rfl ?_;wtm_at "r";refine fg a0.lp ⟨rfl,UY a0.lp a0.at_ a0.ok (by exact FI 0 3 0 60 (EL h3) rfl) ?_⟩;intros _ S X _ j0 E0 hq hs hb u0;refine bp (by rw[aO];exact CF 0 0 0 3 0 4096 (EL u0) (EL h3) rfl) ?_;have h0:Ex B (S++[AO.list (X.map λq=>.ref q.a)]):=j0.trans Fr.app;have H0:bj (S++[AO.list (X.map λq=>.ref q.a)]):=(E0 a0.EP).app rfl;have z0:bG (S++[AO.list (X.map λq=>.ref q.a)]) X M (M.map λv=>[]):=hq.ex Fr.app;have O0:(S++[AO.list (X.map λq=>.ref q.a)])[S.length]? =ae (.list (X.map λq=>.ref q.a)):=g_last;have w:=j0.len;generalize S++[AO.list (X.map λq=>.ref q.a)]=bF at *;generalize Y0:S.length=R at *;have J0:=h0.g a0.c4;wtm_at "r";have O:Fr (λi=>i=4) bF (bF.set 4 (.cell (ae (.ref R)))):=Fr.set rfl;have L0:(bF.set 4 (.cell (ae (.ref R))))[4]? =ae (.cell (ae (.ref R))):=de J0;have F0:bj (bF.set 4 (.cell (ae (.ref R)))):=H0.set rfl;have k:Fr (λi=>i=4) B (bF.set 4 (.cell (ae (.ref R)))):=h0.any.trans O;have m:bG (bF.set 4 (.cell (ae (.ref R)))) X M (M.map λv=>[]):=z0.fr O λq G=>by
  have:=hb q G;obtain⟨l,f,h3,h4⟩:=this;exact⟨NT (TT K l),⟨NT (TT K f),⟨NT (TT K h3),NT (TT K h4)⟩⟩⟩
 have n0:=O.get O0 (by exact NT (TT K w));generalize bF.set 4 (.cell (ae (.ref R)))=bk at *;refine bp (by simp) ?_;wtm_at "r";refine bp (by simp) ?_;wtm_at "r";have r0:Ex bk (bk++[AO.list []]++[AO.list [vS "/l/../w//"]]):=Fr.app.trans Fr.app;have T0:bj (bk++[AO.list []]++[AO.list [vS "/l/../w//"]]):=(F0.app rfl).app rfl;refine Gc (mods:=[]) (ds:=[sO "/l/../w//"]) (.head _) (λs hs=>by rw[aJ.mp hs];exact .tail _ (.tail _ (.tail _ (.head _)))) (by decide) (g_app g_last) g_last ?_;intros _ m0 a d dd g _ M0 u ha hd V0 hg g0;have hw:[sO "/l/../w//"].map iD=[sO "/w"]:=by decide +kernel
 rw[hw]at g0;have u:=u T0;have s0:Ex bk m0:=r0.trans M0;have W0:=r0.len;have i0:=k.len;refine cu rfl (n_next ?_);simp only[gz,gA];refine x_sq (w_qIf (UZ g0 rfl ?_));intros _ F D _ B0 j;refine t_f (x_nil (n_next ?_));have I0:Fr (λi=>i=g) m0 F:=(Fr.set (D:=λi=>i=g) rfl).trans B0.any;have Y:Ex bk F:=s0.old I0 λi hi e=>by exact XX 3 0 (CH 2 0 1 0 (CH 1 0 1 0 (CH 0 0 1 0 (CH 0 0 0 0 hg (EG e)) hi) LJ) LJ) rfl
 have j:=j u;wtm_at "r";refine bp (by simp) ?_;have V:Ex bk (F++[AO.list []]):=Y.trans Fr.app;have Q0:bj (F++[AO.list []]):=j.app rfl;have A0:(F++[AO.list []])[F.length]? =ae (.list []):=g_last;have N:=Y.len;generalize F++[AO.list []]=dk at *;have y0:=V.g (k.get a0.c3 (by decide));wtm_at "r";have I:Fr (λi=>i=3) dk (dk.set 3 (.cell (ae (.ref F.length)))):=Fr.set rfl;have C0:(dk.set 3 (.cell (ae (.ref F.length))))[3]? =ae (.cell (ae (.ref F.length))):=de y0;have S0:bj (dk.set 3 (.cell (ae (.ref F.length)))):=Q0.set rfl;have w0:=I.get A0 (by exact NT (CF 5 0 0 0 4 0 (CH 5 0 0 0 K i0) N rfl));have P0:=I.get (V.g n0) (by exact NT (CF 5 0 0 0 4 0 K w rfl));have G0:=I.get (V.g L0) (by decide);have N0:bG (dk.set 3 (.cell (ae (.ref F.length)))) X M (M.map λv=>[]):=(m.ex V).fr I λq G=>by
  obtain⟨l,f,h3,h4⟩:=hb q G
  lia
 have f0:Fr (λi=>i=3\/i=4) B (dk.set 3 (.cell (ae (.ref F.length)))):=((k.trans V.any).mono λi h=>.inr h).trans (I.mono λi h=>.inl h);generalize dk.set 3 (.cell (ae (.ref F.length)))=gq at *;refine US S0 ?_;intros _ o b z _ l0;have W:Ex gq (gq++[AO.lam o b z [(sO "readers",4),(sO "asks",3)]]):=Fr.app;have Z:(gq++[AO.lam o b z [(sO "readers",4),(sO "asks",3)]])[gq.length]? =ae (.lam o b z [(sO "readers",4),(sO "asks",3)]):=g_last;have U:Fr (λi=>i=3\/i=4) B (gq++[AO.lam o b z [(sO "readers",4),(sO "asks",3)]]):=f0.trans Fr.app;have J:=ba Z;generalize gq++[AO.lam o b z [(sO "readers",4),(sO "asks",3)]]=fS at *;have L:=ba w0;have p0:=f0.len;wtm_at "r";have v0:∀q∈X,q.a < bk.length/\q.d < bk.length/\q.dd < bk.length/\q.g < bk.length:=λq G=>by
  obtain⟨r,D',h⟩:=m.at G;exact⟨ba h.inst,ba h.bc,ba h.fO,ba h.dict⟩
 have U0:=Y.len;have o0:=ba n0;have T:=q fS ⟨3,F.length,4,R,gq.length,X⟩ (ae (.ref a)) ⟨⟨W.g C0,W.g w0,W.g G0,W.g P0,⟨o,b,z,l0,Z⟩,N0.ex W⟩,⟨hs,by show F.length≠R;exact NT (TT o0 N),λq G=>by
   have:=(v0 q G).2.2.1;show F.length≠q.dd;exact NT (TT this N)⟩,?_,by rw[<-h3];exact u0,⟨_,U.get K0 (by decide)⟩,U.get a0.c2 (by decide),U.get a0.num (by have:=a0.fP;exact NO (NT (FI 5 0 4 0 a0.fP.2 rfl)) (NT (a0.fP.2))),a0.nl,U.get a0.lp (by have:=a0.fP;exact NO (NT (FI 5 0 4 0 a0.fP.1 rfl)) (NT (a0.fP.1))),a0.at_.fr U λq G=>by exact⟨NO (NT (CF 5 0 1 0 4 0 a0.fP.1 (a0.low q G).1 rfl)) (NT (CF 5 0 1 0 5 0 a0.fP.1 (a0.low q G).1 rfl)),NO (NT (CF 5 0 1 0 4 0 a0.fP.1 (a0.low q G).2 rfl)) (NT (CF 5 0 1 0 5 0 a0.fP.1 (a0.low q G).2 rfl))⟩,a0.ok,λq' G=>?_,?_,U.len,rfl,rfl⟩
 ·exact T
 ·rintro i (rfl |rfl |rfl |rfl |rfl |⟨q',G,hi⟩)
  ·exact .inl rfl
  ·exact .inr (.inr (by show B.length<=F.length/\F.length < _;exact⟨TT i0 N,CF 1 0 1 0 1 0 L J rfl⟩))
  ·exact .inr (.inl rfl)
  ·exact .inr (.inr ⟨by exact w,by exact CF 2 0 1 0 1 0 (CH 1 0 1 0 (CH 1 0 0 0 o0 N) L) J rfl⟩)
  ·exact .inr (.inr (by show B.length<=gq.length/\gq.length < _;exact⟨p0,J⟩))
  ·obtain⟨l,f,h3,h4⟩:=hb q' G;obtain⟨k1,k2,k3,k4⟩:=v0 q' G;rcases hi with rfl |rfl |rfl |rfl
   ·exact .inr (.inr (by exact⟨l,CF 2 0 1 0 1 0 (CH 1 0 1 0 (CH 1 0 0 0 k1 N) L) J rfl⟩))
   ·exact .inr (.inr (by exact⟨f,CF 2 0 1 0 1 0 (CH 1 0 1 0 (CH 1 0 0 0 k2 N) L) J rfl⟩))
   ·exact .inr (.inr (by exact⟨h3,CF 2 0 1 0 1 0 (CH 1 0 1 0 (CH 1 0 0 0 k3 N) L) J rfl⟩))
   ·exact .inr (.inr (by exact⟨h4,CF 2 0 1 0 1 0 (CH 1 0 1 0 (CH 1 0 0 0 k4 N) L) J rfl⟩))
 ·have l:=a0.low q' G;have f:=a0.at_.lt q' G;exact⟨TT a0.fP.1 (nz l.1),TT a0.fP.1 (nz l.2),f⟩
 ·have:=a0.fP;exact⟨this.1,⟨this.2,⟨e0,R0⟩⟩⟩
def g8.fr (a0:Fr D B H):∀{is:ah ak} {ns:ah (ah Thing)},g8 B is ns->(∀i∈is,¬ D i)->g8 H is ns:=by
 intro I;induction I with
 |nil=>
  intro E;cases E with
  |nil=>
   intro _ _;exact trivial
  |cons _ _=>
   intro h _;exact h.elim
 |cons i is G=>
  intro E;cases E with
  |nil=>
   intro h _;exact h.elim
  |cons n ns=>
   rintro⟨h1,h2⟩ hd;exact⟨a0.get h1 (hd i (.head _)),G h2 λj F=>hd j (.tail _ F)⟩
def g8.snoc:∀{B:St} {is:ah ak} {ns:ah (ah Thing)} {i:ak} {n:ah Thing},g8 B (is++[i]) (ns++[n])↔g8 B is ns/\B[i]? =ae (.list (n.map tA)):=by
 intro B G;induction G generalizing B with
 |nil=>
  intro D;cases D with
  |nil=>
   intro i n;exact⟨λh=>⟨trivial,h.1⟩,λh=>⟨h.2,trivial⟩⟩
  |cons F ns=>
   intro i n;exact⟨λh=>by cases ns <;>exact h.2.elim,λh=>h.1.elim⟩
 |cons H is E=>
  intro D;cases D with
  |nil=>
   intro i n;exact⟨λh=>by cases is <;>exact h.2.elim,λh=>h.1.elim⟩
  |cons F ns=>
   intro i n;constructor
   ·rintro⟨h1,h2⟩;have:=E.mp h2;exact⟨⟨h1,this.1⟩,this.2⟩
   ·rintro⟨⟨h1,h2⟩,h3⟩;exact⟨h1,E.mpr ⟨h2,h3⟩⟩
def g8.len:∀{B:St} {is:ah ak} {ns:ah (ah Thing)},g8 B is ns->is.length=ns.length:=by
 intro E G;induction G generalizing E with
 |nil=>
  intro D;cases D with
  |nil=>
   intro _;exact rfl
  |cons _ _=>
   intro h;exact h.elim
 |cons H I F=>
  intro D;cases D with
  |nil=>
   intro h;exact h.elim
  |cons _ _=>
   intro h;rw[fq,fq,(F h.2)]
def g8.get:∀{B:St} {is:ah ak} {ns:ah (ah Thing)} {k i:ak},g8 B is ns->is[k]? =ae i->∃n,ns[k]? =ae n/\B[i]? =ae (.list (n.map tA)):=by
 intro E J;induction J generalizing E with
 |nil=>
  intro _ _ _ _ D;exact nomatch D
 |cons i is I=>
  intro G;cases G with
  |nil=>
   intro _ _ h _;exact h.elim
  |cons n ns=>
   intro H;cases H with
   |zero=>
    intro F h D;cases D;exact⟨n,rfl,h.1⟩
   |succ k=>
    intro F h D;exact I (k:=k) h.2 D
def zY {a:ah (ah Thing)}{t:ah Thing}:total (a++[t])=total a+t.length:=by
 unfold total;rw[dH,Jh];simp
def U3 (h:R∈bR):R.length<=total bR:=by
 induction bR with
 |nil=>cases h
 |cons a l B=>
  obtain e:total (a :: l)=a.length+total l:=rfl;rcases bu.mp h with rfl |h
  ·exact TT AL (EG e)
  ·have:=B h;exact TT this (TT AR (EG e))
def zZ {x n:Int}(hn:0 < n):0<=x.fmod n/\x.fmod n < n:=⟨Int.fmod_nonneg_of_pos x hn,Int.fmod_lt_of_pos x hn⟩
def pick {j:Int}{P:AV->Prop}{a0:AV->St->Prop}(h:B[i]? =ae (.list l))(hj:0<=j/\j < l.length)(hl:l.length<=16)(hP:∀v∈l,P v)(q:∀v,P v->a0 v B):WP (ik (.ref i) (.int j)) B a0 E:=by
 have D:j.toNat < l.length:=by lia
 exact lW h ⟨hj.1,by lia⟩ (cy D) (q _ (hP _ (pY D)))
def Gi (h:∀R∈bR,R≠[]):bR.length<=total bR:=by
 induction bR with
 |nil=>exact cZ _
 |cons a l D=>
  obtain E:a.length≠0:=λe=>h a (.head _) (nr.mp e);have:=D λR B=>h R (.tail _ B);obtain e:total (a :: l)=a.length+total l:=rfl;rw[fq];lia
theorem U4 {RW OD:ak}{c0:ah ak}{d0:ah Int}{a0:FL×ah (ax AV)->St->Prop}(C:LawC b0 B RW OD c0 bR d0 j)(hj:j < 16)(e0:b0<=B.length)(q:∀H ip lp U lt U5,QK b0 H RW OD ip lp U lt U5 j->Fr (λi=>b0<=i) B H->a0 (.next,[x0,x1,ag,x3,ag,x5,x6,x7,x8,ae (.ref RW),ae (.ref OD),ae (.int j),ae (.int z),Y,ag,ag,ag,ag,ag,ag,ag,ag,ag,ag,ag,ag,ag,ag,ag,ag,ag,ag,ag,ag,ag,ag,ag,ag,ag,ag,ag,ag,ag]) H):
  WP (zc ⟨F,dc,[x0,x1,ag,x3,ag,x5,x6,x7,x8,ae (.ref RW),ae (.ref OD),ae (.int j),ae (.int z),Y,ag,ag,ag,ag,ag,ag,ag,ag,ag,ag,ag,ag,ag,ag,ag,ag,ag,ag,ag,ag,ag,ag,ag,ag,ag,ag,ag,ag,ag]⟩) B a0 E:=by
 have M:=C.at_.len;obtain w:=Gi λR V=>(C.ok R V).1;have K:=C.iE;have N:=C.qC;have app:WP (sq [b9 (bX (eL 9) .append [(eList [])] []),b9 (bX (eL 10) .append [(aY .FloorDiv (eL 12) (eK (.int 96)))] [])] ⟨F,dc,[x0,x1,ag,x3,ag,x5,x6,x7,x8,ae (.ref RW),ae (.ref OD),ae (.int j),ae (.int z),Y,ag,ag,ag,ag,ag,ag,ag,ag,ag,ag,ag,ag,ag,ag,ag,ag,ag,ag,ag,ag,ag,ag,ag,ag,ag,ag,ag,ag,ag]⟩) B a0 E:=by
  obtain S:=ba C.od;obtain Z:=ba C.jr;wtm_at "r";refine⟨(λh=>nomatch h.2),hU C.jr (.inl rfl) ?_⟩;wtm_at "r";refine bp (by simp) ?_;have L:Ex B (B++[AO.list []]):=Fr.app;obtain m:(B++[AO.list []])[B.length]? =ae (.list []):=g_last;generalize A:B++[AO.list []]=a7 at *;have o:a7.length=B.length+1:=by rw[<-A,bK];rfl
  wtm_at "r";refine js (L.g C.jr) (by rw[aO];exact CF 0 0 1 16 0 4096 (CH 0 0 0 0 (CH 0 0 0 0 (EL M) w) (EL K)) hj rfl) ?_;have G:Fr (λi=>i=RW) a7 (a7.set RW (.list (c0.map .ref++[.ref B.length]))):=Fr.set rfl;have X:(a7.set RW (.list (c0.map .ref++[.ref B.length])))[RW]? =ae (.list ((c0++[B.length]).map .ref)):=by
   rw[de (L.g C.jr),dH];rfl
  have J:=G.get (L.g C.od) (by exact NT (N.2));generalize a7.set RW (.list (c0.map .ref++[.ref B.length]))=bF at *;refine n_next ?_;wtm_at "r";refine⟨(λh=>nomatch h.2),hU J (.inl rfl) ?_⟩;wtm_at "r";refine pn (by decide) ?_;wtm_at "r";refine js J (by rw[aO];have:=C.len;exact CF 0 0 1 16 0 4096 (CH 0 0 0 0 (CH 0 0 0 0 (CH 0 0 0 0 (EG this) (EL M)) w) (EL K)) hj rfl) ?_;have D:Fr (λi=>i=OD) bF (bF.set OD (.list (d0.map .int++[.int (z.fdiv 96)]))):=Fr.set rfl;have u:Fr (λi=>i=RW\/i=OD) B (bF.set OD (.list (d0.map .int++[.int (z.fdiv 96)]))):=(L.any.trans (G.mono λi h=>.inl h)).trans (D.mono λi h=>.inr h);refine n_next (x_nil (q _ c0 B.length bR [] (d0++[z.fdiv 96]) ⟨?_,?_,?_,?_,?_,C.ok,(λv h=>nomatch h),by simpa using K,?_,?_,N⟩ (u.mono λi h=>by lia)))
  ·exact D.get X (by exact NE (N.2))
  ·rw[de J,dH];rfl
  ·exact C.at_.fr u λi W=>by have:=C.low i W;lia
  ·exact D.get (G.get m (by exact NT (Z))) (by exact NT (S))
  ·rw[bK,C.len];rfl
  ·rw[tE];refine⟨C.nd,by simp,λa ha b hb=>?_⟩;rw[aJ.mp hb];obtain⟨k,hk⟩:=Ji ha;obtain⟨n,-,h⟩:=C.at_.get hk;have:=ba h;exact NE (this)
  ·intro i W;rcases dX.mp W with W |W
   ·exact C.low i W
   ·rw[aJ.mp W];exact⟨e0,S⟩
 obtain g0:∀{y H},a0 y H->jO (λI B=>WP (sq [] ⟨F,dc,I⟩) B a0 E) a0 y H:=λ{y H} h=>by
  obtain⟨f,l⟩:=y;cases f <;>exact h
 unfold zc;wtm_at "r";refine mY ⟨λc1=>?_,λc1=>?_⟩
 ·exact t_t app
 ·obtain f0:j≠0:=λe=>by
   subst e;cases c1
  wtm_at "r";refine pn (by decide) ?_;wtm_at "r";refine pq (by decide) ?_;wtm_at "r";refine mY ⟨λc2=>app,λc2=>?_⟩;refine x_nil ?_;have T:c0≠[]:=λe=>by
   subst e;have:bR=[]:=nr.mp M.symm;subst this;exact f0 K.symm
  have O:bR≠[]:=λe=>by
   subst e;exact T (nr.mp M)
  have e1:=BA T;have e2:=BA O;generalize c0.dropLast=ip at e1;generalize c0.getLast T=lp at e1;generalize bR.dropLast=U at e2;generalize bR.getLast O=lt at e2;subst e1 e2;obtain⟨h1,h2⟩:=g8.snoc.mp C.at_;exact q B ip lp U lt d0 ⟨C.jr,C.od,h1,h2,by have:=C.len;rw[bK]at this;exact this,λR V=>C.ok R (gM _ V),(C.ok lt (hW _ (.head _))).2,by rw[<-zY];exact K,C.nd,C.low,N⟩ (Fr.refl _ _)
def Gj:∀v∈[vS "a",vS "a.b",vS "ab",vS "b.a",vS "a",vS "a.b",vS "ab",.int 7],eg v:=by
 intro v B;simp only[bu,pO,tW]at B;rcases B with rfl |rfl |rfl |rfl |rfl |rfl |rfl |rfl
 ·exact .inr ⟨_,.head _,rfl⟩
 ·exact .inr ⟨_,.tail _ (.head _),rfl⟩
 ·exact .inr ⟨_,.tail _ (.tail _ (.head _)),rfl⟩
 ·exact .inr ⟨_,.tail _ (.tail _ (.tail _ (.head _))),rfl⟩
 ·exact .inr ⟨_,.head _,rfl⟩
 ·exact .inr ⟨_,.tail _ (.head _),rfl⟩
 ·exact .inr ⟨_,.tail _ (.tail _ (.head _)),rfl⟩
 ·exact .inl rfl
def U6:∀v∈[vS "/l/x.py",vS "/l/a/x.py",vS "/w/x.py",.none],f5 v:=by
 intro v B;simp only[bu,pO,tW]at B;rcases B with rfl |rfl |rfl |rfl
 ·exact .inr ⟨_,.head _,rfl⟩
 ·exact .inr ⟨_,.tail _ (.head _),rfl⟩
 ·exact .inr ⟨_,.tail _ (.tail _ (.head _)),rfl⟩
 ·exact .inl rfl
theorem U7 {n1:ak}{c0:ah Int}{a0:FL×ah (ax AV)->St->Prop}(hn:B[n1]? =ae (.list (c0.map .int)))(f0:1<=c0.length/\c0.length<=16)(q:∀H RW OD e0 bR d0 bS f Y,Ex B H->LawC B.length H RW OD e0 bR d0 c0.length->a0 (.next,[x0,ae (.ref n1),ag,x3,ag,x5,x6,x7,x8,ae (.ref RW),ae (.ref OD),bS,f,Y,ag,ag,ag,ag,ag,ag,ag,ag,ag,ag,ag,ag,ag,ag,ag,ag,ag,ag,ag,ag,ag,ag,ag,ag,ag,ag,ag,ag,ag]) H):
  WP (sq vH ⟨FN 11,dc,[x0,ae (.ref n1),ag,x3,ag,x5,x6,x7,x8,ag,ag,ag,ag,ag,ag,ag,ag,ag,ag,ag,ag,ag,ag,ag,ag,ag,ag,ag,ag,ag,ag,ag,ag,ag,ag,ag,ag,ag,ag,ag,ag,ag,ag]⟩) B a0 E:=by
 unfold vH;wtm_at "r";refine bp (by simp) ?_;wtm_at "r";refine bp (by simp) ?_;have k:Ex B (B++[AO.list []]++[AO.list []]):=Fr.app.trans Fr.app;have j0:(B++[AO.list []]++[AO.list []])[B.length]? =ae (.list []):=g_app g_last;have g0:(B++[AO.list []]++[AO.list []])[(B++[AO.list []]).length]? =ae (.list []):=g_last;have W:B.length < (B++[AO.list []]).length:=by rw[bK];simp
 generalize (B++[AO.list []]).length=OD at *;generalize B++[AO.list []]++[AO.list []]=a7 at *;wtm_at "r";refine fg (k.g hn) ⟨rfl,?_⟩;refine k9 (G:=λH=>H[n1]? =ae (.list (c0.map .int))) (c0:=λj I H=>(∃e0 bR d0,LawC B.length H B.length OD e0 bR d0 j)/\Ex B H/\∃bS f Y,I=[x0,ae (.ref n1),ag,x3,ag,x5,x6,x7,x8,ae (.ref B.length),ae (.ref OD),bS,f,Y,ag,ag,ag,ag,ag,ag,ag,ag,ag,ag,ag,ag,ag,ag,ag,ag,ag,ag,ag,ag,ag,ag,ag,ag,ag,ag,ag,ag,ag]) (K:=mS 0 (c0.map .int))
  (Yl.enum (Yl.gK λH e=>e)) (by rw[n5,aO];exact FI 0 16 1 128 f0.2 rfl) (λy y y h=>h.2.1.g hn) ⟨⟨[],[],[],⟨j0,g0,trivial,rfl,(λy h=>nomatch h),rfl,GJ,(λy h=>nomatch h),⟨a4 _,W⟩⟩⟩,k,_,_,_,rfl⟩ ?_ ?_
 ·intros _ j v y0 w _ hv p0;obtain⟨i0,K,r0⟩:=p0;obtain (⟨bS,f,Y,rfl⟩):=r0;obtain (⟨e0,bR,d0,C⟩):=i0;obtain (⟨u,b,rfl⟩):=wi hv;rw[dA]at b;cases o:c0[j]? with
  |none=>rw[o]at b;cases b
  |some z=>
   intros z _ o;rw[o]at b;cases b;have hj:=ba o;rw[show(0:Int)+(j:Int)=j from ux _];refine vR rfl rfl (x_put_cons (cu rfl (x_put_cons (cu rfl (x_put_nil ?_)))));simp only[gz,gA];refine x_sq (U4 C (by exact TT hj f0.2) K.len ?_);intros _ D ip lp U lt S _ F l0;refine n_next ?_;have m0:Ex B D:=K.old l0 λi X h=>by exact XX 1 0 (CH 0 0 1 0 h X) rfl
   wtm_at "r";refine bp (by simp) ?_;have O:Ex D (D++[AO.list [vS "a",vS "a.b",vS "ab",vS "b.a",vS "a",vS "a.b",vS "ab",.int 7]]):=Fr.app;have o0:(D++[AO.list [vS "a",vS "a.b",vS "ab",vS "b.a",vS "a",vS "a.b",vS "ab",.int 7]])[D.length]? =ae (.list [vS "a",vS "a.b",vS "ab",vS "b.a",vS "a",vS "a.b",vS "ab",.int 7]):=g_last;generalize D++[AO.list [vS "a",vS "a.b",vS "ab",vS "b.a",vS "a",vS "a.b",vS "ab",.int 7]]=cO at *;wtm_at "r";refine pq (by decide) ?_;refine pick (P:=eg) o0 (by have:=zZ (x:=z) (n:=8) (by decide);simpa using this) (by simp) Gj ?_;intros _ m _ hm;have l:=O.g F.jr;have T:=O.g F.last;wtm_at "r";refine Gb l (by simp) (v:=.ref lp) (by rw[aO,dA,bK];simp) ?_;refine⟨(λh=>nomatch h.2),hU T (.inl rfl) ?_⟩;wtm_at "r";refine bp (by simp) ?_;have N:Ex D (cO++[AO.list [vS "/l/x.py",vS "/l/a/x.py",vS "/w/x.py",.none]]):=O.trans Fr.app;have h0:(cO++[AO.list [vS "/l/x.py",vS "/l/a/x.py",vS "/w/x.py",.none]])[cO.length]? =ae (.list [vS "/l/x.py",vS "/l/a/x.py",vS "/w/x.py",.none]):=g_last;generalize cO++[AO.list [vS "/l/x.py",vS "/l/a/x.py",vS "/w/x.py",.none]]=dZ at *;wtm_at "r";refine pn (by decide) ?_;wtm_at "r";refine pq (by decide) ?_;refine pick (P:=f5) h0 (by have:=zZ (x:=z.fdiv 8) (n:=4) (by decide);simpa using this) (by simp) U6 ?_;intros _ p _ hp;wtm_at "r";have Z:=F.iE;refine js (N.g F.last) (by rw[aO];exact CF 1 0 0 16 0 4096 (CH 0 0 1 0 (CH 0 0 0 0 AR (EL Z)) hj) f0.2 rfl) ?_;have M:Fr (λi=>i=lp) dZ (dZ.set lp (.list (lt.map tA++[.dB p m (.int j)]))):=Fr.set rfl;have L:Fr (λi=>i=lp) D (dZ.set lp (.list (lt.map tA++[.dB p m (.int j)]))):=N.any.trans M;have G:=F.low lp (hW _ (.head _));have A:=F.qC;have v0:=(tE.mp F.nd).2.2;refine n_next (x_nil (l_next ⟨⟨ip++[lp],U++[lt++[(p,m,(j:Int))]],S,⟨L.get F.jr (by exact NE (CF 1 0 1 0 1 0 W G.2 rfl)),L.get F.od (by exact NE (G.2)),g8.snoc.mpr ⟨F.at_.fr L λi X e=>v0 i X lp (.head _) e,?_⟩,?_,?_,?_,F.nd,F.low,A⟩⟩,m0.old L λi X e=>by exact XX 1 0 (CH 0 0 1 0 (CH 0 0 0 0 G.1 (EG e)) X) rfl,_,_,_,rfl⟩))
   ·rw[de (N.g F.last),dH];rfl
   ·rw[bK];exact F.len
   ·intro R J;rcases dX.mp J with J |J
    ·exact F.ok R J
    ·rw[aJ.mp J];refine⟨by simp,λt V=>?_⟩;rcases dX.mp V with V |V
     ·exact F.QM t V
     ·rw[aJ.mp V];exact⟨hp,hm⟩
   ·rw[zY,bK];simp;lia
 ·intros _ w0 w _ u0;obtain⟨s0,K,n0⟩:=u0;obtain (⟨bS,f,Y,rfl⟩):=n0;obtain (⟨e0,bR,d0,C⟩):=s0;rw[n5,aO]at C;exact n_next (x_nil (q w B.length OD e0 bR d0 _ _ _ K C))
def Good.fr {x:eO}{ns:ah aS}(G:Good x M ns as B)(a0:Fr D B H)(h:∀i,eZ x i->¬ D i):Good x M ns as H:=
 G.mono λi E=>a0.keep i ((G.app (l:=[])).2 i E) (h i E)
theorem asked {x:eO}{ns:ah aS}{a0:AV->St->Prop}(f0:x.Ok)(hr:∀r∈M,fz r)(hq:x.qs.length<=60)(ht:∀t∈R,iC t)(e0:R≠[])(c0:R.length<=16)(hn:∀n∈ns,n.length<=b0)(hb:b0+R.length<=60)(has:as.length+R.length<=4096)(hz: -1<=z)(g0:z<=4)(G:Good x M ns as B)(hG:Gv w B A s (R.map tA))(d0: ¬ eZ x A)(hs: ¬ eZ x s)(q:∀v H,zl x M ns as R b z w A s B v H->v≠ .none->a0 v H)(e:∀H,zl x M ns as R b z w A s B .none H->E "AttributeError" H):
  WP (FN 11 (.fn (aq (if b then "nlargest" else "nsmallest"))) [.int z,.ref A] [(aq "key",.ref x.lm)]) B a0 E:=by
 obtain ko:=TP (k:=8) (x:=x) (M:=M) (dI:=ns) (gB:=as) (R:=R) (b0:=b0) f0 hr hq ht hb has;have D:(R.map tA).length=R.length:=aO ..;refine Tn (k0:=7) (b:=b) ko TQ d0 hs (by simpa using e0) (by exact CF 0 0 0 16 0 64 (EL D) c0 rfl) (λy V=>?_) hz g0 (TR G hn) hG (λI v H h=>?_) (λI v H h=>?_) λI k H h=>?_
 ·obtain⟨t,-,rfl⟩:=mv.mp V;exact⟨_,_,_,rfl⟩
 ·have F:cB M ns R z=([],ns):=aK (by lia);have O:ff M ns R z=[]:=aK (by lia);obtain Z:jS M ns R z w=R.map tA:=aK (by lia);obtain⟨⟨r,rfl,N,L⟩,⟨X,j,W,-,-⟩,f⟩:=h;rw[mq,mq]at W;obtain U8:Good x M ns as H:=G.mono λi Y=>f.keep i ((G.app (l:=[])).2 i Y) id;refine q _ _ ⟨by rw[F,O,fT];exact U8,Ex.any f,⟨0,?_,λu=>by rw[Z,mq],λu u=>cZ _⟩,.inr ⟨by lia,r,rfl,N,?_⟩⟩ (by simp)
  ·cases w with
   |true=>exact .inl (It.fr (D:=λu=>dm) hG f id id)
   |false=>exact⟨hG.1,f.get hG.2 id⟩
  ·rw[L];unfold nU;rw[F];rfl
 ·have F:cB M ns R z=bM M ns R:=aN I;have U:(bM M ns R).1.length=R.length:=by rw[<-h.len,D]
  have O:ff M ns R z=gn R:=by
   unfold ff;rw[aN I,F,U,gy (by exact gP _)]
  obtain⟨⟨r,rfl,N,L⟩,-,S,f,J⟩:=h;rw[D]at S J;refine q _ _ ⟨by rw[F,O];exact yG S,f,⟨R.length,J,λT=>?_,λu u=>a4 _⟩,.inr ⟨by rw[F];exact NB (DN ((EG U))),r,rfl,N,?_⟩⟩ (by simp)
  ·unfold jS;rw[aN ⟨T,I⟩,F,U,kf (by exact(EL D)),kf (by exact FI 0 0 0 1 (EL D) rfl)]
  ·rw[L];unfold nU;rw[F]
 ·have F:cB M ns R z=bM M ns R:=aN I;have O:ff M ns R z=gn (R.take ((bM M ns R).1.length+1)):=by
   unfold ff;rw[aN I,F]
  obtain⟨rfl,K,S,f,J⟩:=h;rw[D]at K;refine e _ ⟨by rw[F,O];exact S,f,⟨_,J,λT=>?_,λu u=>by exact K⟩,.inl ⟨I,by rw[F];exact K,rfl⟩⟩;unfold jS;rw[aN ⟨T,I⟩,F]
def U9 {m:ak}{a0:AV->St->Prop}(h:jo w B A s m K)(hl:K.length<=4096)(hm:w=aj->qx B A s m K->m<=K.length)(q:∀H i,Fr (λj=>w=aj/\j=A) B H->B.length<=i->H[i]? =ae (.list (if w then K.drop m else K))->a0 (.ref i) H):WP (eu ⟨F,O,I⟩ (.ty "list") [.ref A] []) B a0 E:=by
 cases w with
 |false=>
  refine mX rfl (av (fF (av (e5 (av (eh (av (dj h.2 (bp hl (q _ _ Fr.app (a4 _) g_last))))))))))
 |true=>
  obtain h:qx B A s m K:=h;obtain hm:=hm rfl h;rcases h with h |⟨h1,h2⟩
  ·refine mX rfl (av (fF (av (e5 (av (eh (av (dj h.1 (av (fD h.2 (av (bw ⟨hm,hl⟩ (av (k8 (bp ?_ ?_)))))))))))))))
   ·rw[IW];exact TT SB hl
   ·exact q _ _ (Fr.trans (Fr.set ⟨rfl,rfl⟩) Fr.app) (by rw[eM];exact a4 _) g_last
  ·refine mX rfl (av (fF (av (e5 (av (eh (av (dj h1 (bp (by simp) ?_)))))))));refine q _ _ Fr.app (a4 _) ?_;rw[show(if (aj=aj)then K.drop m else K)=[] from kf h2];exact g_last
def Gk {o:Int}(h:I[19]? =ae (ae (.int o)))(q:QB (iW o) B):WP (aR .Eq (aY .Mod (aY .FloorDiv (eL 19) (eK (.int 12))) (eK (.int 2))) (eK (.int 1)) ⟨F,dc,I⟩) B QB E:=
 w_tCmp (w_Bin (w_Bin (aM h (w_K (pn (by decide) (w_K (pq (by decide) (w_K (mY q)))))))))
def U' {a0:AV->St->Prop}{o:Int}(h:I[19]? =ae (ae (.int o)))(c0:I[18]? =ae (ae (.ref rp)))(hr:B[rp]? =ae (.list K))(hl:K.length<=4096)(q:∀H A s,Gv (iW o) H A s K->Ex B H->B.length<=A->(s=A\/s=rp)->a0 (.ref A) H):
  WP (gH (aR .Eq (aY .Mod (aY .FloorDiv (eL 19) (eK (.int 12))) (eK (.int 2))) (eK (.int 1))) (aX (eK (.bi "iter")) [(eL 18)] []) (aX (eK (.ty "list")) [(eL 18)] []) ⟨F,dc,I⟩) B a0 E:=by
 refine w_If (Gk h ⟨λc=>?_,λc=>?_⟩)
 ·refine w_Call (w_K (w_evs_cons (aM c0 (w_evs_nil (w_kws_nil (Ft hr ?_))))));rw[c]at q;exact q _ _ rp ⟨g_last,g_app hr⟩ Fr.app (a4 _) (.inr rfl)
 ·refine w_Call (w_K (w_evs_cons (aM c0 (w_evs_nil (w_kws_nil (mX rfl (av (fF (av (e5 (av (eh (av (dj hr (bp hl ?_)))))))))))))));rw[c]at q;exact q _ _ B.length ⟨rfl,g_last⟩ Fr.app (a4 _) (.inl rfl)
def z9 (h:B[2]? =ae (.cell (ae (.int z))))(hc:O.lookup (sO "wish")=ae 2)(q:QB (decide (0 < z)) B):WP (aR .Gt (eC "wish") (eK (.int 0)) ⟨F,O,I⟩) B QB E:=
 w_tCmp (gp hc h (w_K (c_gt q)))
def Va {a0:AV->St->Prop}{ns:ah aS}{c0:ah ak}(p0:I[18]? =ae (ae (.ref row)))(h0:I[14]? =ae (ae (.ref NP)))(h3:I[3]? =ae (ae (.ref LP)))(hw:B[2]? =ae (.cell (ae (.int z))))(e0:c0.length=a9.length)(hr:∀r∈M,fz r)(ht:∀t∈R,iC t)(hn:∀n∈ns,n.length<=b0/\g7 n)(hb:b0+R.length<=60)(hN:dO B c0 ns)(hL:fe B a9 M)(j0:c0.Nodup)(f0:∀i∈c0,∀q∈a9,q.1≠i/\q.2≠i)(o0:c0.length<=60)(m0:B[NP]? =ae (.list (c0.map .ref)))(n0:B[LP]? =ae (.list (a9.map pM)))(d0:B[row]? =ae (.list (R.map tA)))(l0:NP∉c0)(i0:LP∉c0)(g0:row∉c0)(q:∀H ri,dO H c0 (cB M ns R z).2->Fr (· ∈c0) B H->B.length<=ri->H[ri]? =ae (.list ((cB M ns R z).1.map .int))->a0 (.ref ri) H):
  WP (gH (aR .Gt (eC "wish") (eK (.int 0))) (aX (eK (.fn (aq "_law_ranks"))) [(eL 18),(eL 14),(eL 3)] []) (eList []) ⟨FN 11,dc,I⟩) B a0 E:=by
 refine w_If (z9 hw cl_wish ⟨λc=>?_,λc=>?_⟩)
 ·obtain F:0 < z:=gx c;obtain D:cB M ns R z=bM M ns R:=aN F;rw[D]at q;refine w_Call (w_K (w_evs_cons (aM p0 (w_evs_cons (aM h0 (w_evs_cons (aM h3 (w_evs_nil (w_kws_nil (f_fn ?_))))))))));exact F5 e0 hr ht hn hb hN hL j0 f0 o0 m0 n0 d0 l0 i0 g0 q
 ·obtain F: ¬ 0 < z:=jE c;obtain D:cB M ns R z=([],ns):=aK F;rw[D]at q;obtain G:Ex B (B++[AO.list []]):=Fr.app;exact w_List (w_evs_nil (bp (by simp) (q _ _ (hN.fr G λu u h=>h) G.any (a4 _) g_last)))
theorem Vb {li:ak}{us:ah Thing}{QL:ah AV->St->Prop}(hl:B[li]? =ae (.list (us.map tA)))(a0:us.length<=64)(hw:B[2]? =ae (.cell (ae (.int z))))(q:QL (if 0 < z then gn us else []) B):
  WP (cw (eL 3) [(aR .Gt (eC "wish") (eK (.int 0)))] (cx [(pL 1),(pL 2),(pL 3)]) 128 (.list (ae li) 0) ⟨F,[(aq "wish",2)],[ag,ag,ag,ag,ag]⟩ []) B QL E:=by
 refine lZ (G:=λH=>H=B) (a0:=λj D I H=>D=(if 0 < z then gn (us.take j)else [])/\H=B/\lS I) (K:=us.map tA)
  (Yl.gK λH e=>by rw[e];exact hl) (by rw[aO];exact FI 0 64 1 128 a0 rfl) (λw w w w h=>h.2.1) ⟨by split <;>rfl,rfl,lS.mk⟩ ?_ ?_
 ·intros _ j v D N H _ G L;obtain⟨rfl,rfl,M⟩:=L;obtain (⟨S,Q,T,R,O,rfl⟩):=M;rw[dA]at G;cases J:us[j]? with
  |none=>rw[J]at G;cases G
  |some u=>
   intros u _ J;rw[J]at G;cases G;have U:=ba J;unfold tA;wtm_at "r";refine qK (z9 hw lk_here ⟨λc=>?_,λc=>?_⟩)
   ·have K:0 < z:=gx c;rw[aN K,aN K];refine⟨by unfold gn;rw[aO,er];exact CF 0 0 0 64 0 4096 MR a0 rfl,?_⟩;wtm_at "r";refine⟨?_,rfl,lS.mk⟩;rw[take_snoc J];unfold gn;rw[dH];rfl
   ·have K: ¬ 0 < z:=jE c;rw[aK K,aK K];exact⟨rfl,rfl,lS.mk⟩
 ·rintro D _ H ⟨rfl,rfl,-⟩;rw[aO,j5];exact q
def Vc {a0:AV->St->Prop}{m:ak}{y:Int}(e:B[i]? =ae (.list l))(hl:l.length<=4096)(hy:y=m)(hm:m<=8192)(q:a0 (.ref B.length) (B++[.list (l.drop m)])):WP (km (.ref i) (ae (.int y)) ag) B a0 E:=by
 have D:y.toNat=m:=by rw[hy];exact eD m
 have F:nD (ae y)=aj:=by rw[hy];exact zI (by lia)
 refine av (zH (av (zG (av (fD e (Fy ⟨F,rfl⟩ hl ?_ q))))));show(l.take l.length).drop (min y.toNat l.length)=l.drop m;rw[j5,D];by_cases h:m<=l.length
 ·rw[m8 h]
 ·rw[tM (by exact FI 1 0 0 0 (NG h) rfl),kf (a4 _),kf (by exact FI 1 0 0 0 (NG h) rfl)]
def Vd {a0:AV->St->Prop}{ns:ah aS}{o:Int}{V:ah AV}(e0:I[18]? =ae (ae (.ref row)))(i0:I[24]? =ae (ae (.ref ri)))(j0:I[19]? =ae (ae (.int o)))(hw:B[2]? =ae (.cell (ae (.int z))))(c0:B[row]? =ae (.list (R.map tA)))(g0:B[ri]? =ae (.list V))(f0:R.length<=64)(d0:V.length=(cB M ns R z).1.length)(h0:V.length<=64)(q:∀H li,Ex B H->(B.length<=li\/li=row)->H[li]? =ae (.list (jS M ns R z (iW o)))->a0 (.ref li) H):
  WP (gH (jN (aR .Gt (eC "wish") (eK (.int 0))) (aR .Eq (aY .Mod (aY .FloorDiv (eL 19) (eK (.int 12))) (eK (.int 2))) (eK (.int 1)))) (fw (eL 18) (ae (aY .Add (aX (eK (.bi "len")) [(eL 24)] []) (eK (.int 1)))) ag) (eL 18) ⟨F,dc,I⟩) B a0 E:=by
 have G: ¬ (iW o=aj/\0 < z)->WP (eL 18 ⟨F,dc,I⟩) B a0 E:=λh=>by
  have e:jS M ns R z (iW o)=R.map tA:=aK h;rw[e]at q;exact aM e0 (q B row (Fr.refl _ _) (.inr rfl) c0)
 refine w_If (w_tAnd (z9 hw cl_wish ⟨λc=>Gk j0 ⟨λD=>?_,λD=>G λh=>absurd (D.symm.trans h.1) (by decide)⟩,λc=>t_f (G λh=>jE c h.2)⟩));obtain e:jS M ns R z (iW o)=(R.map tA).drop ((cB M ns R z).1.length+1):=aN ⟨D,gx c⟩;rw[e]at q;refine w_Slice (aM e0 (w_optE_some (w_Bin (w_Call (w_K (w_evs_cons (aM i0 (w_evs_nil (w_kws_nil (f_len g0 (w_K (b_add (w_optE_none ?_)))))))))))));exact Vc c0 (by rw[aO];exact FI 0 64 0 4096 f0 rfl) (m:=(cB M ns R z).1.length+1) (by rw[d0];lia) (by exact CF 0 0 0 64 1 8192 (EG d0) h0 rfl) (q _ _ Fr.app (.inl (a4 _)) g_last)
def Ve {a0:AV->St->Prop}{lm:ak}(d0:I[21]? =ae (ae (.bool b)))(c0:I[22]? =ae (ae (.ref A)))(h8:I[8]? =ae (ae (.ref lm)))(hw:B[2]? =ae (.cell (ae (.int z))))(h:WP (F (.fn (aq (if b then "nlargest" else "nsmallest"))) [.int z,.ref A] [(aq "key",.ref lm)]) B a0 E):
  WP (gH (tV (eL 21)) (aX (eK (.fn (aq "nlargest"))) [(eC "wish"),(eL 22)] [(aq "key",(eL 8))]) (aX (eK (.fn (aq "nsmallest"))) [(eC "wish"),(eL 22)] [(aq "key",(eL 8))]) ⟨F,dc,I⟩) B a0 E:=by
 refine w_If (w_tV (aM d0 (tr_bool ⟨λc=>?_,λc=>?_⟩)))
 ·subst c;exact w_Call (w_K (w_evs_cons (gp cl_wish hw (w_evs_cons (aM c0 (w_evs_nil (w_kws_cons (aM h8 (w_kws_nil (f_fn h))))))))))
 ·subst c;exact w_Call (w_K (w_evs_cons (gp cl_wish hw (w_evs_cons (aM c0 (w_evs_nil (w_kws_cons (aM h8 (w_kws_nil (f_fn h))))))))))
def Vf {a0:AV->St->Prop}{ns:ah aS}{V:ah AV}(g0:I[18]? =ae (ae (.ref row)))(d0:I[24]? =ae (ae (.ref ri)))(hw:B[2]? =ae (.cell (ae (.int z))))(c0:B[row]? =ae (.list (R.map tA)))(f0:B[ri]? =ae (.list V))(e0:V.length=(cB M ns R z).1.length)(q:a0 (.bool (nV M ns R z)) B):WP (vC (lR .Gt (eC "wish") (eK (.int 0))) (lR .Lt (aX (eK (.bi "len")) [(eL 24)] []) (aX (eK (.bi "len")) [(eL 18)] [])) ⟨F,dc,I⟩) B a0 E:=by
 refine w_And (w_Cmp (gp cl_wish hw (w_K (c_gt (tr_bool ⟨λc=>?_,λc=>?_⟩)))))
 ·refine w_Cmp (w_Call (w_K (w_evs_cons (aM d0 (w_evs_nil (w_kws_nil (f_len f0 (w_Call (w_K (w_evs_cons (aM g0 (w_evs_nil (w_kws_nil (f_len c0 (c_lt ?_)))))))))))))));obtain c:decide (0 < z)=aj:=c;have e:nV M ns R z=decide ((V.length:Int) < ((R.map tA).length:Int)):=by
   unfold nV;rw[c,Bool.true_and,e0,aO];simp
  rw[<-e];exact q
 ·obtain c:decide (0 < z)=az:=c;have e:nV M ns R z=az:=by unfold nV;rw[c];rfl
  rw[e]at q;show a0 (.bool (decide (0 < z))) B;rw[c];exact q
def Vg {ns:ah aS}(h: ¬ 0 < z):nU b M ns R z=[]:=by
 unfold nU;rw[show z.toNat=0 by lia];have:fy b 0 ((cB M ns R z).1.zip (R.map tA))=[]:=nr.mp (by rw[Fq];exact AN (ML) (ZZ));rw[this];rfl
def Vh {a0:AV->St->Prop}{ns:ah aS}(f0:I[18]? =ae (ae (.ref row)))(i0:I[24]? =ae (ae (.ref ri)))(g0:I[21]? =ae (ae (.bool b)))(d0:I[26]? =ae (ae (.bool (nV M ns R z))))(hw:B[2]? =ae (.cell (ae (.int z))))(hz: -1<=z)(j0:z<=4)(e0:R.length<=64)(c0:B[row]? =ae (.list (R.map tA)))(h0:B[ri]? =ae (.list ((cB M ns R z).1.map .int)))(q:∀v H,Ex B H->((0 < z/\(cB M ns R z).1.length < R.length/\v= .none)\/(¬ (0 < z/\(cB M ns R z).1.length < R.length)/\∃r,v= .ref r/\B.length<=r/\H[r]? =ae (.list (nU b M ns R z))))->a0 v H):
  WP (gH (tV (eL 26)) (eK .none) (aX (eK (.fn (aq "_law_few"))) [(eL 18),(eL 24),(eC "wish"),(eL 21)] []) ⟨FN 11,dc,I⟩) B a0 E:=by
 refine w_If (w_tV (aM d0 (tr_bool ⟨λc=>?_,λc=>?_⟩)))
 ·unfold nV at c;rw[cW,ft,ft]at c;exact w_K (q _ _ (Fr.refl _ _) (.inl ⟨c.1,c.2,rfl⟩))
 ·have K: ¬ (0 < z/\(cB M ns R z).1.length < R.length):=by
   unfold nV at c;rw[Bool.and_eq_false_iff,Jj,Jj]at c
   lia
  have F:0 < z->(cB M ns R z).1.length=(R.map tA).length:=λh=>by
   have J:cB M ns R z=bM M ns R:=aN h;have:=we (M:=M) (ns:=ns) (R:=R);rw[J]at K;rw[aO,J];lia
  refine w_Call (w_K (w_evs_cons (aM f0 (w_evs_cons (aM i0 (w_evs_cons (gp cl_wish hw (w_evs_cons (aM g0 (w_evs_nil (w_kws_nil (f_fn ?_))))))))))));refine Um hz j0 (by rw[aO];exact e0) F c0 h0 λH L N G O=>q _ _ N (.inr ⟨K,L,rfl,G,?_⟩);rw[O];by_cases D:0 < z
  ·rw[Uj (F D)];rfl
  ·rw[Vg D,show z.toNat=0 by lia];rfl
def wk {i:Int}:∃d,(∀n B,a8 n B (.int i)=ae d)/\bY d d=aj:=⟨.int i,λu u=>qI,by rw[bY];simp⟩
def Vi (h:eg m):∃d,(∀n B,a8 n B m=ae d)/\bY d d=aj:=by
 rcases h with rfl |⟨s,hs,rfl⟩
 ·exact wk
 ·exact⟨.str s,λu u=>l3 (zT hs).ok,by rw[bY];simp⟩
def Vj (h:f5 m):∃d,(∀n B,a8 n B m=ae d)/\bY d d=aj:=by
 rcases h with rfl |⟨s,hs,rfl⟩
 ·exact⟨.none,λn B=>by cases n <;>rfl,by rw[bY]⟩
 ·exact⟨.str s,λu u=>l3 (FW hs).ok,by rw[bY];simp⟩
def Aa {a0:AV->ax hV}{x:AV}{d:hV}{ds:ah hV}(h:a0 x=ae d)(k:c8 a0 l=ae ds):c8 a0 (x :: l)=ae (d :: ds):=by
 show(match a0 x,c8 a0 l with |some d,ae ds=>ae (d :: ds) |_,_=>bq)=_;rw[h,k]
def Vk {t:Thing}(h:iC t):∃d,(∀n B,a8 (n+1) B (tA t)=ae d)/\bY d d=aj:=by
 obtain⟨H,E,I⟩:=Vj h.1;obtain⟨L,F,G⟩:=Vi h.2;obtain⟨J,K,D⟩:=wk (i:=t.2.2);refine⟨.tuple [H,L,J],λn B=>?_,?_⟩
 ·show(c8 (a8 n B) [t.1,t.2.1,.int t.2.2]).map Jk=_;rw[Aa (E n B) (Aa (F n B) (Aa (K n B) rfl))];rfl
 ·simp[bY,lF,I,G,D]
def Gl (h:∀t∈R,iC t):Flat (R.map tA):=λv D=>by
 obtain⟨t,B,rfl⟩:=mv.mp D;exact Vk (h t B)
def Vl {l:ah Int}:Flat (l.map .int):=λv F=>by
 obtain⟨t,G,rfl⟩:=mv.mp F;obtain⟨d,E,D⟩:=wk (i:=t);exact⟨d,λn B=>E _ _,D⟩
def Flat.sub {l':ah AV}(h:Flat l)(hs:∀v∈l',v∈l):Flat l':=λv B=>h v (hs v B)
def Vm {x y:Int×AV}:∀{S:ah (Int×AV)},y∈bV b x S->y=x\/y∈S:=by
 intro l;induction l with
 |nil=>
  intro h;exact .inl (aJ.mp h)
 |cons a S B=>
  intro h;unfold bV at h;split at h
  ·rcases bu.mp h with h |h
   ·exact .inl h
   ·exact .inr h
  ·rcases bu.mp h with h |h
   ·exact .inr (h ▸ .head _)
   ·rcases B h with h |h
    ·exact .inl h
    ·exact .inr (.tail _ h)
def Vn {y:Int×AV}:∀{K S:ah (Int×AV)},y∈K.foldl (λS x=>bV b x S) S->y∈K\/y∈S:=by
 intro D;induction D with
 |nil=>
  intro S h;exact .inr h
 |cons x K B=>
  intro S h;rcases B h with h |h
  ·exact .inl (.tail _ h)
  ·rcases Vm h with rfl |h
   ·exact .inl (.head _)
   ·exact .inr h
def Vo {K:ah (Int×AV)}{y:Int×AV}(h:y∈fy b n K):y∈K:=by
 rw[F7]at h;rcases Vn (Hx h)with h |h
 ·exact h
 ·cases h
def Vp {ns:ah aS}(h:∀t∈R,iC t):Flat (nU b M ns R z):=
 (Gl h).sub λv B=>by
  obtain⟨y,D,rfl⟩:=mv.mp B;exact(rB (a:=y.1) (b:=y.2) (Vo D)).2
def Vq {ns:ah aS}(h:∀t∈R,iC t):Flat (jS M ns R z w):=
 (Gl h).sub λv B=>by
  unfold jS at B;split at B
  ·exact wW B
  ·exact B
def Gm (h:Flat l):∃ds,(∀n B,c8 (a8 (n+1) B) l=ae ds)/\lF ds ds=aj:=by
 induction l with
 |nil=>exact⟨[],λu u=>rfl,by rw[lF]⟩
 |cons v l G=>
  obtain⟨ds,E,D⟩:=G λv F=>h v (.tail _ F);obtain⟨d,H,I⟩:=h v (.head _);refine⟨d :: ds,λn B=>?_,by rw[lF,I,D];rfl⟩;show(match a8 (n+1) B v,c8 (a8 (n+1) B) l with |some d,ae ds=>ae (d :: ds) |_,_=>bq)=_;rw[E,H]
def k6.fr {w:AV}(h:k6 Z B v w)(a0:Fr D B H)(hd:∀i,Z i->¬ D i):k6 Z H v w:=by
 obtain⟨l,i,j,I,G,K,F,E,J,L⟩:=h;exact⟨l,i,j,I,G,K,F,E,a0.get J (hd i F),a0.get L (hd j E)⟩
theorem Item.fr {w:AV}(h:Item Z B v w)(a0:Fr D B H)(hd:∀i,Z i->¬ D i):Item Z H v w:=by
 rcases h with h |⟨a,a',c,c',h1,h2,h3,h4⟩
 ·exact .inl (h.fr a0 hd)
 ·exact .inr ⟨a,a',c,c',h1,h2,h3.fr a0 hd,h4.imp id λh=>h.fr a0 hd⟩
def k7.fr (a0:Fr D B H)(hd:∀i,Z i->¬ D i):∀{vs ws:ah AV},k7 Z B vs ws->k7 Z H vs ws
 | [],[],_=>trivial
 | [],_ :: _,h=>h.elim
 |_ :: _,[],h=>h.elim
 |_ :: _,_ :: _,h=>⟨h.1.fr a0 hd,h.2.fr a0 hd⟩
def k7.snoc:∀{vs ws:ah AV} {v w:AV},k7 Z B vs ws->Item Z B v w->k7 Z B (vs++[v]) (ws++[w]):=by
 intro F;induction F with
 |nil=>
  intro D;cases D with
  |nil=>
   intro _ _ _ h;exact⟨h,trivial⟩
  |cons _ _=>
   intro _ _ h _;exact h.elim
 |cons H I E=>
  intro D;cases D with
  |nil=>
   intro _ _ h _;exact h.elim
  |cons _ _=>
   intro _ _ h G;exact⟨h.1,(E h.2) G⟩
def k6.data {w:AV}(h:k6 Z B v w):∃d,(∀n,a8 (n+2) B v=ae d)/\(∀n,a8 (n+2) B w=ae d)/\bY d d=aj:=by
 obtain⟨l,i,j,E,rfl,rfl,-,-,G,I⟩:=h;obtain⟨F,D,H⟩:=Gm E;exact⟨.list F,λn=>l4 G (D n B),λn=>l4 I (D n B),by rw[bY];exact H⟩
theorem Item.data {w:AV}(h:Item Z B v w):∃d,a8 7 B v=ae d/\a8 7 B w=ae d/\bY d d=aj:=by
 rcases h with h |⟨a,a',c,c',rfl,rfl,E,h4⟩
 ·obtain⟨d,D,F,E⟩:=h.data;exact⟨d,D 5,F 5,E⟩
 ·obtain⟨G,N,K,L⟩:=E.data;have J:∃d,a8 6 B a=ae d/\a8 6 B a'=ae d/\bY d d=aj:=by
   rcases h4 with ⟨rfl,rfl⟩ |h4
   ·exact⟨.none,rfl,rfl,by rw[bY]⟩
   ·obtain⟨d,D,F,E⟩:=h4.data;exact⟨d,D 4,F 4,E⟩
  obtain⟨H,O,Q,M⟩:=J;obtain I:∀a c,a8 6 B a=ae H->a8 6 B c=ae G->a8 7 B (.pair a c)=ae (.tuple [H,G]):=λa c D F=>by
   show(c8 (a8 6 B) [a,c]).map Jk=_;simp only[c8,D,F];rfl
  exact⟨.tuple [H,G],I _ _ O (N 4),I _ _ Q (K 4),by simp[bY,lF,M,L]⟩
def k7.data:∀{vs ws:ah AV},k7 Z B vs ws->∃ds,c8 (a8 7 B) vs=ae ds/\c8 (a8 7 B) ws=ae ds/\lF ds ds=aj
 | [],[],_=>⟨[],rfl,rfl,by rw[lF]⟩
 | [],_ :: _,h=>h.elim
 |_ :: _,[],h=>h.elim
 |v :: vs,w :: ws,h=>by
  obtain⟨d,E,D,H⟩:=h.1.data;obtain⟨ds,I,G,F⟩:=h.2.data;refine⟨d :: ds,?_,?_,by rw[lF,H,F];rfl⟩
  ·show(match a8 7 B v,c8 (a8 7 B) vs with |some d,ae ds=>ae (d :: ds) |_,_=>bq)=_;rw[E,I]
  ·show(match a8 7 B w,c8 (a8 7 B) ws with |some d,ae ds=>ae (d :: ds) |_,_=>bq)=_;rw[D,G]
def Vr {a0:ak->ak}(h:∀k,k < n->a0 k<=a0 (k+1))(h1:i<=j):j<=n->a0 i<=a0 j:=by
 induction h1 with
 |refl=>exact λu=>a4 _
 |step _ D=>exact λB=>dW (D (nz B)) (h _ B)
def Gn {P:ak->Prop}(h0:P 0)(h1:P 1)(h2:P 2)(h3:P 3)(h4:P 4)(h5:P 5)(h6:P 6)(h7:P 7)(k:ak)(h:k < 8):P k:=
 k.casesAuxOn (motive:=λk=>k < 8->P k) (λu=>h0) (λk=>k.casesAuxOn (motive:=λk=>k+1 < 8->P (k+1)) (λu=>h1) λk=>k.casesAuxOn (motive:=λk=>k+2 < 8->P (k+2)) (λu=>h2) λk=>k.casesAuxOn (motive:=λk=>k+3 < 8->P (k+3)) (λu=>h3)
  λk=>k.casesAuxOn (motive:=λk=>k+4 < 8->P (k+4)) (λu=>h4) λk=>k.casesAuxOn (motive:=λk=>k+5 < 8->P (k+5)) (λu=>h5) λk=>k.casesAuxOn (motive:=λk=>k+6 < 8->P (k+6)) (λu=>h6) λk=>k.casesAuxOn (motive:=λk=>k+7 < 8->P (k+7)) (λu=>h7)
  λk h=>absurd h (oa.mpr (GC 8 k))) h
def Ad.Ok.c {a:Ad}(a0:a.Ok)(i j:ak)(h:(l7 i j && l7 j 8)=aj):a.at i<=a.at j:=by
 rw[cW,p4,p4]at h;exact Vr (a0:=a.at) (Gn a0.bs.1 a0.bs.2.1 a0.bs.2.2 a0.ord.1 (nz a0.ord.2.1) (nz a0.ord.2.2.1) (nz a0.ord.2.2.2.1) (nz a0.ord.2.2.2.2)) h.1 h.2
def Ad.Ok.t {a:Ad}(a0:a.Ok)(i j:ak)(h:(l7 4 i && l7 (i+1) j && l7 j 8)=aj):a.at i < a.at j:=by
 rw[cW,cW,p4,p4,p4]at h;refine gQ ?_ (a0.c (i+1) j (by rw[cW,p4,p4];exact⟨h.1.2,h.2⟩));exact Gn (P:=λk=>4<=k->a.at k < a.at (k+1)) (λh=>absurd h (by decide)) (λh=>absurd h (by decide)) (λh=>absurd h (by decide)) (λh=>absurd h (by decide)) (λu=>a0.ord.2.1) (λu=>a0.ord.2.2.1) (λu=>a0.ord.2.2.2.1) (λu=>a0.ord.2.2.2.2) i (gQ h.1.2 h.2) h.1.1
def Ad.Ok.pA {a:Ad}(a0:a.Ok)(h:i < a.bD\/a.NP<=i):i∉a.cQ:=λD=>by have:=a0.cQ i D;exact(h).elim (λB=>XX 1 0 (CH 0 0 1 0 this.1 B) rfl) (λB=>XX 1 0 (CH 0 0 1 0 B this.2) rfl)
def LS.fr {a:Ad}(a0:a.Ok)(S:LS a B)(c0:Fr D B H)(hd:∀i,i < a.bE->D i->a.iq i):LS a H:=by
 obtain⟨N,U,Q,R,L,O,V⟩:=S;obtain Y:=a0.ord;obtain X:=a0.lp;obtain Z:=a0.rows;obtain W:=a0.bs;obtain T:∀i,i < a.bE->¬ a.iq i->¬ D i:=λi E J h=>J (hd i E h);have I:∀{i},a.NP < i->(i < a.bA\/(a.bB<=i/\i < a.bD)\/i=a.NP)->dm:=λE h=>h.elim (λh=>dP _ (wH (gQ h (a0.c 1 4 rfl)) E)) λh=>h.elim (λh=>dP _ (wH (gQ h.2 (a0.c 3 4 rfl)) E)) λh=>dP _ (wI (EL h) E);have F:∀i,5<=i->(i < a.bA\/(a.bB<=i/\i < a.bD)\/i=a.NP)->¬ D i:=λi L h=>T i (by exact(h).elim (λK=>TT K (a0.c 1 8 rfl)) (λK=>(K).elim (λM=>TT M.2 (a0.c 3 8 rfl)) (λM=>CF 0 0 1 0 1 0 (EL M) (a0.t 4 8 rfl) rfl))) λJ=>by
  rcases J with g |g |g |g |g |g
  ·exact XX 6 5 (CH 5 0 1 5 L g) rfl
  ·exact h.elim (λh=>dP _ (gQ h g.1)) λh=>h.elim (λh=>dP _ (gQ g.2 h.1)) λh=>dP _ (gQ g.2 (TT (a0.c 2 4 rfl) (EG h)))
  ·have:=a0.cQ i g;exact h.elim (λh=>dP _ (gQ h (TT (a0.c 1 3 rfl) this.1))) λh=>h.elim (λh=>dP _ (gQ h.2 this.1)) λh=>dP _ (gQ this.2 (EG h))
  ·exact I (gQ (a0.t 4 5 rfl) (EG g)) h
  ·exact I (gQ (a0.t 4 6 rfl) (EG g)) h
  ·exact I (gQ (a0.t 4 7 rfl) (EG g)) h
 exact⟨c0.get N (F _ (by exact a0.lp.1) (by exact .inl (a0.lp.2))),U.fr c0 λq G=>⟨F _ (by have:=a0.a9 q G;exact this.1) (by have:=a0.a9 q G;exact .inl (this.2.1)),F _ (by have:=a0.a9 q G;exact this.2.2.1) (by have:=a0.a9 q G;exact .inl (this.2.2.2))⟩,c0.get Q (F _ (by exact TT (a0.c 0 2 rfl) a0.rows.1) (by exact .inr (.inl (⟨a0.rows.1,a0.rows.2.1⟩)))),c0.get R (F _ (by exact TT (a0.c 0 2 rfl) a0.rows.2.2.1) (by exact .inr (.inl (⟨a0.rows.2.2.1,a0.rows.2.2.2⟩)))),
  L.fr c0 λi E=>F _ (by have:=a0.fQ i E;exact TT (a0.c 0 2 rfl) this.1) (by have:=a0.fQ i E;exact .inr (.inl (⟨this.1,this.2⟩))),c0.get O (F _ (by exact(a0.c 0 4 rfl)) (by exact .inr (.inr (AN (a4 _) (a4 _))))),dW V c0.len⟩
def Gp:∀{R:ah Thing} {ns:ah aS} {b:ak},(∀t∈R,iC t)->(∀n∈ns,n.length<=b/\g7 n)->∀n∈(bM M ns R).2,n.length<=b+R.length/\g7 n:=by
 intro I;induction I with
 |nil=>
  intro ns b _ E;exact λn h=>E n h
 |cons t R H=>
  intro ns b F E;have D:=F4 (M:=M) (F t (.head _)).2 (F t (.head _)).1 E;cases h:(b7 M ns t.2.1 t.1).1 with
  |none=>
   rw[s7 h];exact λn B=>⟨dW (D n B).1 (by rw[fq];lia),(D n B).2⟩
  |some i=>
   rw[sZ h];intro n B;have:=H (λt G=>F t (.tail _ G)) D n B;exact⟨by rw[fq];lia,this.2⟩
def Vs {ns:ah aS}{b:ak}(ht:∀t∈R,iC t)(hn:∀n∈ns,n.length<=b/\g7 n):∀n∈(cB M ns R z).2,n.length<=b+R.length/\g7 n:=by
 unfold cB;split
 ·exact Gp ht hn
 ·exact λn h=>⟨by have:=(hn n h).1;exact TT this AL,(hn n h).2⟩
def Vt {ns:ah aS}:(cB M ns R z).1.length<=R.length:=by
 unfold cB;split
 ·exact we
 ·exact cZ _
def Vu {ns:ah aS}:(ff M ns R z).length<=R.length:=by
 unfold ff;split
 ·unfold gn;rw[aO,er];exact MR
 ·exact cZ _
def Flat.Vv {ns:ah aS}(h:Flat as):Flat (as++ff M ns R z):=λv D=>by
 rcases dX.mp D with D |D
 ·exact h v D
 ·unfold ff at D;split at D
  ·obtain⟨t,G,rfl⟩:=mv.mp D;obtain⟨d,F,E⟩:=wk (i:=t.2.2);exact⟨d,λn B=>F _ _,E⟩
  ·cases D
def Vw {a0:AV->St->Prop}{l':ah AV}(h:B[i]? =ae (.list l))(h':B[j]? =ae (.list l'))(c0:i≠j/\l.length<=4096/\l'.length<=4096)(q:a0 .none (B.set i (.list (l++l')))):WP (e9 F (.ref i) .extend [.ref j] []) B a0 E:=
 av (eh (av (fF (av (e5 (av (eh (av (fD h (av (fD h' (av (bw c0 (av (k8 (aQ q))))))))))))))))
theorem Vx {E0:ax AV}{L0:ax AV}{K0:ax AV}{a:Ad}{ns:ah aS}{o:Int}{d0:FL×ah (ax AV)->St->Prop}(c0:a.Ok)(a0:QN a df B ns as W u rp R b z (iW o) A s v)(l1:∀n∈ns,n.length<=b0/\g7 n)(N1:as.length<=b0)(p1:Flat as)(O0:b0+R.length<=60)(s1:W.length<=100)(m1:u.length<=100)(ht:∀t∈R,iC t)(hz: -1<=z)(r1:z<=4)(q:∀H t d E0 L0 K0,LM a H (cB a.rs ns R z).2 (as++ff a.rs ns R z) (W++[t]) (u++[d]) (b0+R.length)->Fr a.iq df H->d0 (.next,[x0,x1,ag,ae (.ref a.LP),ag,x5,x6,x7,ae (.ref a.x.lm),ae (.ref a.RW),ae (.ref a.OD),bS,f,Y,ae (.ref a.NP),ae (.ref a.TD),ae (.ref a.DU),ae (.ref a.ON),ae (.ref rp),ae (.int o),ag,ae (.bool b),ae (.ref A),ae v,E0,L0,K0,ag,ag,ag,ag,ag,ag,ag,ag,ag,ag,ag,ag,ag,ag,ag,ag]) H):
  WP (sq vI ⟨FN 11,dc,[x0,x1,ag,ae (.ref a.LP),ag,x5,x6,x7,ae (.ref a.x.lm),ae (.ref a.RW),ae (.ref a.OD),bS,f,Y,ae (.ref a.NP),ae (.ref a.TD),ae (.ref a.DU),ae (.ref a.ON),ae (.ref rp),ae (.int o),ag,ae (.bool b),ae (.ref A),ae v,E0,L0,K0,ag,ag,ag,ag,ag,ag,ag,ag,ag,ag,ag,ag,ag,ag,ag,ag]⟩) B d0 E:=by
 obtain o1:=c0.ord;obtain o2:=c0.lp;obtain o3:=c0.rows;obtain o4:=c0.bs;obtain w:=c0.fQ rp a0.QO;obtain o6:=a0.g9;obtain B1:=a0.ls.long;obtain S0:=Vt (M:=a.rs) (R:=R) (ns:=ns) (z:=z);obtain y0:=Vu (M:=a.rs) (R:=R) (ns:=ns) (z:=z);obtain f1:a.TD∉a.cQ:=c0.pA (by exact .inr (FI 1 0 0 0 (c0.t 4 5 rfl) rfl));obtain b1:a.DU∉a.cQ:=c0.pA (by exact .inr (FI 1 0 0 0 (c0.t 4 6 rfl) rfl));obtain N0:a.ON∉a.cQ:=c0.pA (by exact .inr (FI 1 0 0 0 (c0.t 4 7 rfl) rfl));obtain (⟨m,w1,z1,q1⟩):=a0.left;have O:R.length<=60:=by exact TT AR O0
 unfold vI;wtm_at "r";refine⟨(λh=>nomatch h.2),hU a0.td (.inl rfl) ?_⟩;wtm_at "r";refine U9 w1 (by rw[aO];exact FI 0 60 0 4096 O rfl) (λh1 h2=>by rw[aO];exact q1 h1 h2) ?_;intros _ e0 li _ i0 j0 v0;have v0:e0[li]? =ae (.list (jS a.rs ns R z (iW o))):=by
  rw[v0];by_cases hw:iW o=aj
  ·rw[aN hw,z1 hw]
  ·rw[aK hw];unfold jS;rw[aK λh=>hw h.1]
 obtain i0:Fr (λj=>j=A) B e0:=i0.mono λj h=>h.2;obtain A0:=i0.get a0.td (by exact NE (TT (c0.t 5 8 rfl) a0.g9.1));obtain H1:=ba v0;obtain F1:=i0.len;wtm_at "r";refine js A0 (by exact FI 0 100 0 4096 s1 rfl) ?_;obtain Z:Fr (λi=>i=a.TD) e0 (e0.set a.TD (.list (W++[.pair v (.ref li)]))):=Fr.set rfl;obtain g1:(e0.set a.TD (.list (W++[.pair v (.ref li)])))[a.TD]? =ae (.list (W++[.pair v (.ref li)])):=de A0;generalize e0.set a.TD (.list (W++[.pair v (.ref li)]))=bF at *;obtain V:Fr (λi=>i=A\/i=a.TD) B bF:=(i0.mono λi h=>.inl h).trans (Z.mono λi h=>.inr h);obtain U0:=Z.get v0 (by exact NT (TT (c0.t 5 8 rfl) (TT a0.ls.long j0)));obtain I1:=Z.len;obtain L:LS a bF:=a0.ls.fr c0 V λi F h=>by
  rcases h with h |h
  ·exact XX 1 0 (CH 0 0 1 0 (CH 0 0 0 0 a0.g9.1 (EG h)) F) rfl
  ·exact .inr (.inr (.inr (.inl h)))
 obtain n1:=a0.ph.fr V λi F h=>by have:=c0.cQ i F;exact(a0.val).elim (λI=>(h).elim (λD=>XX 2 0 (CH 1 0 1 0 (CH 1 0 0 0 (CH 1 0 0 0 (c0.t 4 8 rfl) a0.g9.1) (EG D)) this.2) rfl) (λD=>XX 2 0 (CH 1 0 1 0 (CH 1 0 0 0 (c0.t 4 5 rfl) (EG D)) this.2) rfl)) (λI=>(h).elim (λD=>XX 2 0 (CH 1 0 1 0 (CH 1 0 0 0 (CH 1 0 0 0 (c0.t 4 8 rfl) a0.g9.1) (EG D)) this.2) rfl) (λD=>XX 2 0 (CH 1 0 1 0 (CH 1 0 0 0 (c0.t 4 5 rfl) (EG D)) this.2) rfl))
 obtain o0:=V.get a0.row (by exact NO (NE (TT w.2 (TT (c0.c 3 8 rfl) a0.g9.1))) (NE (TT w.2 (c0.c 3 5 rfl))));obtain Q0:=V.get a0.c2 (by exact NO (NE (CF 5 0 0 0 3 0 (c0.c 0 8 rfl) a0.g9.1 rfl)) (NE (FI 5 0 3 0 (c0.c 0 5 rfl) rfl)));refine n_next ?_;refine x_sq (w_Set (Va (b0:=b0) rfl rfl rfl Q0 (c0.nl.trans c0.ml.symm) c0.zm ht l1 O0 n1 L.at_ c0.nd (λi F q hq=>by exact⟨NE (TT (c0.a9 q hq).2.1 (TT (c0.c 1 3 rfl) (c0.cQ i F).1)),NE (TT (c0.a9 q hq).2.2.2 (TT (c0.c 1 3 rfl) (c0.cQ i F).1))⟩) (by rw[c0.nl];decide) L.np L.lp o0 (c0.pA (by exact .inr (a4 _))) (c0.pA (by exact .inl (TT c0.lp.2 (c0.c 1 3 rfl)))) (c0.pA (by exact .inl (w.2))) ?_));intros _ S ri _ y1 G u1 M0;refine cu rfl (n_next ?_);simp only[gz,gA];obtain T:∀i∈a.cQ,a.bD<=i/\i < a.NP:=c0.cQ;obtain T0:∀{i},i < a.bD\/a.NP<=i->i∉a.cQ:=c0.pA;obtain l0:=G.get o0 (T0 (by exact .inl (w.2)));obtain Z0:=G.get Q0 (T0 (by exact .inl (FI 5 0 3 0 (c0.c 0 3 rfl) rfl)));obtain K1:=ba M0;obtain C1:=G.len;wtm_at "r";obtain h0:=G.get (V.get a0.on (by exact NO (NE (TT (c0.t 7 8 rfl) a0.g9.1)) (NT ((c0.t 5 7 rfl))))) N0;refine⟨(λh=>nomatch h.2),hU h0 (.inr (.inl rfl)) ?_⟩;wtm_at "r";refine iF (cs:=[(aq "wish",2)]) (L:=[ag,ag,ag,ag,ag]) (by decide +kernel) (by kernel_rfl) (λy=>by kernel_rfl) rfl ?_;wtm_at "r";refine f_len M0 ?_;wtm_at "r";refine wh (k:=(cB a.rs ns R z).1.length+1) l0 (by rw[aO];exact FI 0 60 0 4096 O rfl) (by rw[aO];lia) (by exact CF 0 0 0 60 1 8192 S0 O rfl) ?_;rw[<-rJ];obtain u0:Ex S (S++[AO.list ((R.take ((cB a.rs ns R z).1.length+1)).map tA)]):=Fr.app;obtain i1:(S++[AO.list ((R.take ((cB a.rs ns R z).1.length+1)).map tA)])[S.length]? =ae (.list ((R.take ((cB a.rs ns R z).1.length+1)).map tA)):=g_last;generalize S++[AO.list ((R.take ((cB a.rs ns R z).1.length+1)).map tA)]=cO at *;refine fg i1 ⟨rfl,Vb i1 (by rw[er];exact CF 0 0 0 60 0 64 MR O rfl) (u0.g Z0) ?_⟩;rw[show(if 0 < z then gn (R.take ((cB a.rs ns R z).1.length+1))else [])=ff a.rs ns R z from rfl];refine bp (by exact CF 0 0 0 60 0 4096 y0 O rfl) ?_;obtain s0:Ex S (cO++[AO.list (ff a.rs ns R z)]):=u0.trans Fr.app;obtain A1:(cO++[AO.list (ff a.rs ns R z)])[cO.length]? =ae (.list (ff a.rs ns R z)):=g_last;obtain L1:=u0.len;generalize cO++[AO.list (ff a.rs ns R z)]=dZ at *;wtm_at "r";refine Vw (s0.g h0) A1 ⟨by exact NE (CF 1 0 0 0 1 0 (CH 1 0 0 0 (CH 1 0 0 0 (c0.t 7 8 rfl) L.long) G.len) u0.len rfl),by lia,by exact CF 0 0 0 60 0 4096 y0 O rfl⟩ ?_;obtain n0:Fr (λi=>i=a.ON) dZ (dZ.set a.ON (.list (as++ff a.rs ns R z))):=Fr.set rfl;obtain j1:(dZ.set a.ON (.list (as++ff a.rs ns R z)))[a.ON]? =ae (.list (as++ff a.rs ns R z)):=de (s0.g h0);obtain E1:=s0.len;generalize dZ.set a.ON (.list (as++ff a.rs ns R z))=fR at *;obtain K:Fr (λi=>i=a.ON) S fR:=s0.any.trans n0;obtain U:=K.get l0 (by exact NE (TT w.2 (c0.c 3 7 rfl)));obtain G0:=K.get Z0 (by exact NE (FI 5 0 3 0 (c0.c 0 7 rfl) rfl));obtain f0:=K.get M0 (by exact NT (TT (c0.t 7 8 rfl) (TT L.long u1)));obtain G1:=n0.len;refine n_next ?_;refine x_sq (w_Set (Vd rfl rfl rfl G0 U f0 (by exact FI 0 60 0 64 O rfl) (aO ..) (by rw[aO];exact CF 0 0 0 60 0 64 S0 O rfl) ?_));intros _ M1 lj _ J C0 P0;refine cu rfl (n_next ?_);simp only[gz,gA];refine x_sq (w_Set (Vf rfl rfl (J.g G0) (J.g U) (J.g f0) (aO ..) (cu rfl (n_next ?_))));simp only[gz,gA];obtain p0:=K.get (G.get (V.get a0.du (by exact NO (NE (TT (c0.t 6 8 rfl) a0.g9.1)) (NT ((c0.t 5 6 rfl))))) b1) (by exact NE ((c0.t 6 7 rfl)));wtm_at "r";refine⟨(λh=>nomatch h.2),hU (J.g p0) (.inl rfl) ?_⟩;refine w_evs_cons (w_Tup (w_evs_cons (Vh rfl rfl rfl rfl (J.g G0) hz r1 (by exact FI 0 60 0 64 O rfl) (J.g U) (J.g f0) ?_)));intros _ v' g0 _ Y0 V0;wtm_at "r";obtain k:Ex fR g0:=J.trans Y0;refine js (k.g p0) (by exact FI 0 100 0 4096 m1 rfl) ?_;obtain X:Fr (λi=>i=a.DU) g0 (g0.set a.DU (.list (u++[.pair v' (.ref lj)]))):=Fr.set rfl;obtain R0:(g0.set a.DU (.list (u++[.pair v' (.ref lj)])))[a.DU]? =ae (.list (u++[.pair v' (.ref lj)])):=de (k.g p0);obtain D1:=k.len;generalize g0.set a.DU (.list (u++[.pair v' (.ref lj)]))=fS at *;obtain w0:Fr (λi=>i=a.DU) fR fS:=k.any.trans X;obtain z0:Fr (λi=>i=a.ON\/i=a.DU) S fS:=(K.mono λi h=>.inl h).trans (w0.mono λi h=>.inr h);obtain m0:Fr (λi=>i∈a.cQ\/i=a.ON\/i=a.DU) bF fS:=(G.mono λi h=>.inl h).trans (z0.mono λi h=>.inr h);obtain l:Fr (λi=>(i=A\/i=a.TD)\/i∈a.cQ\/i=a.ON\/i=a.DU) B fS:=(V.mono λi h=>.inl h).trans (m0.mono λi h=>.inr h);obtain r0:∀i,((i=A\/i=a.TD)\/i∈a.cQ\/i=a.ON\/i=a.DU)->i=A\/a.iq i:=λi h=>by
  rcases h with (h |h) |h |h |h
  ·exact .inl h
  ·exact .inr (.inr (.inr (.inr (.inl h))))
  ·exact .inr (.inr (.inr (.inl h)))
  ·exact .inr (.inr (.inr (.inr (.inr (.inr h)))))
  ·exact .inr (.inr (.inr (.inr (.inr (.inl h)))))
 obtain P1:∀i,i < a.bE->¬ a.iq i->¬ ((i=A\/i=a.TD)\/i∈a.cQ\/i=a.ON\/i=a.DU):=λi F hm h=>by
  rcases r0 i h with h |h
  ·exact XX 1 0 (CH 0 0 1 0 (CH 0 0 0 0 a0.g9.1 (EG h)) F) rfl
  ·exact hm h
 obtain N:∀{i},a.bE<=i->a.Fz i:=λ{i} F hm=>by
  rcases hm with h |h |h |h |h |h
  ·exact XX 6 5 (CH 5 0 1 5 (CH 5 0 0 0 (c0.c 0 8 rfl) F) h) rfl
  ·exact XX 1 0 (CH 0 0 1 0 (CH 0 0 0 0 (c0.c 2 8 rfl) F) h.2) rfl
  ·have:=T i h;exact XX 2 0 (CH 1 0 1 0 (CH 1 0 0 0 (c0.t 4 8 rfl) F) this.2) rfl
  ·exact XX 1 0 (CH 1 0 0 0 (CH 1 0 0 0 (c0.t 5 8 rfl) F) (EL h)) rfl
  ·exact XX 1 0 (CH 1 0 0 0 (CH 1 0 0 0 (c0.t 6 8 rfl) F) (EL h)) rfl
  ·exact XX 1 0 (CH 1 0 0 0 (CH 1 0 0 0 (c0.t 7 8 rfl) F) (EL h)) rfl
 obtain d1:a.Fz rp:=λhm=>by
  rcases hm with h |h |h |h |h |h
  ·exact XX 6 5 (CH 5 0 1 5 (CH 5 0 0 0 (c0.c 0 2 rfl) w.1) h) rfl
  ·exact XX 1 0 (CH 0 0 1 0 w.1 h.2) rfl
  ·have:=T _ h;exact XX 1 0 (CH 0 0 1 0 this.1 w.2) rfl
  ·exact XX 1 0 (CH 0 0 1 0 (CH 0 0 0 0 (c0.c 3 5 rfl) (EG h)) w.2) rfl
  ·exact XX 1 0 (CH 0 0 1 0 (CH 0 0 0 0 (c0.c 3 6 rfl) (EG h)) w.2) rfl
  ·exact XX 1 0 (CH 0 0 1 0 (CH 0 0 0 0 (c0.c 3 7 rfl) (EG h)) w.2) rfl
 obtain F0:∀i,eZ a.x i->¬ ((i=A\/i=a.TD)\/i∈a.cQ\/i=a.ON\/i=a.DU):=λi F h=>by
  obtain h1:=c0.foot i F;rcases h with (h |h) |h |h |h
  ·exact(h1).elim (λI=>XX 5 3 (CH 5 0 0 3 (CH 5 0 0 0 (CH 5 0 0 0 (c0.c 0 8 rfl) a0.g9.1) (EG h)) (EL I)) rfl) (λI=>(I).elim (λD=>XX 5 4 (CH 5 0 0 4 (CH 5 0 0 0 (CH 5 0 0 0 (c0.c 0 8 rfl) a0.g9.1) (EG h)) (EL D)) rfl) (λD=>XX 1 0 (CH 0 0 1 0 (CH 0 0 0 0 (CH 0 0 0 0 (c0.c 2 8 rfl) a0.g9.1) (EG h)) D.2) rfl))
  ·exact(h1).elim (λI=>XX 5 3 (CH 5 0 0 3 (CH 5 0 0 0 (c0.c 0 5 rfl) (EG h)) (EL I)) rfl) (λI=>(I).elim (λD=>XX 5 4 (CH 5 0 0 4 (CH 5 0 0 0 (c0.c 0 5 rfl) (EG h)) (EL D)) rfl) (λD=>XX 1 0 (CH 0 0 1 0 (CH 0 0 0 0 (c0.c 2 5 rfl) (EG h)) D.2) rfl))
  ·have:=T i h;exact(h1).elim (λI=>XX 5 3 (CH 5 0 0 3 (CH 5 0 0 0 (c0.c 0 3 rfl) this.1) (EL I)) rfl) (λI=>(I).elim (λD=>XX 5 4 (CH 5 0 0 4 (CH 5 0 0 0 (c0.c 0 3 rfl) this.1) (EL D)) rfl) (λD=>XX 1 0 (CH 0 0 1 0 (CH 0 0 0 0 (c0.c 2 3 rfl) this.1) D.2) rfl))
  ·exact(h1).elim (λI=>XX 5 3 (CH 5 0 0 3 (CH 5 0 0 0 (c0.c 0 7 rfl) (EG h)) (EL I)) rfl) (λI=>(I).elim (λD=>XX 5 4 (CH 5 0 0 4 (CH 5 0 0 0 (c0.c 0 7 rfl) (EG h)) (EL D)) rfl) (λD=>XX 1 0 (CH 0 0 1 0 (CH 0 0 0 0 (c0.c 2 7 rfl) (EG h)) D.2) rfl))
  ·exact(h1).elim (λI=>XX 5 3 (CH 5 0 0 3 (CH 5 0 0 0 (c0.c 0 6 rfl) (EG h)) (EL I)) rfl) (λI=>(I).elim (λD=>XX 5 4 (CH 5 0 0 4 (CH 5 0 0 0 (c0.c 0 6 rfl) (EG h)) (EL D)) rfl) (λD=>XX 1 0 (CH 0 0 1 0 (CH 0 0 0 0 (c0.c 2 6 rfl) (EG h)) D.2) rfl))
 obtain a1:∀i,i < 5->¬ ((i=A\/i=a.TD)\/i∈a.cQ\/i=a.ON\/i=a.DU):=λi F h=>by
  rcases h with (h |h) |h |h |h
  ·exact XX 6 5 (CH 5 0 1 5 (CH 5 0 0 0 (CH 5 0 0 0 (c0.c 0 8 rfl) a0.g9.1) (EG h)) F) rfl
  ·exact XX 6 5 (CH 5 0 1 5 (CH 5 0 0 0 (c0.c 0 5 rfl) (EG h)) F) rfl
  ·have:=T i h;exact XX 6 5 (CH 5 0 1 5 (CH 5 0 0 0 (c0.c 0 3 rfl) this.1) F) rfl
  ·exact XX 6 5 (CH 5 0 1 5 (CH 5 0 0 0 (c0.c 0 7 rfl) (EG h)) F) rfl
  ·exact XX 6 5 (CH 5 0 1 5 (CH 5 0 0 0 (c0.c 0 6 rfl) (EG h)) F) rfl
 obtain t1:=l.get a0.c2 (a1 2 (by decide));obtain⟨O1,v1⟩:=a0.c1;obtain W0:=m0.get U0 (by
  rintro (h |h |h)
  ·have:=T _ h;exact XX 2 0 (CH 1 0 1 0 (CH 1 0 0 0 (CH 1 0 0 0 (c0.t 4 8 rfl) a0.ls.long) j0) this.2) rfl
  ·exact XX 1 0 (CH 1 0 0 0 (CH 1 0 0 0 (CH 1 0 0 0 (c0.t 7 8 rfl) a0.ls.long) j0) (EL h)) rfl
  ·exact XX 1 0 (CH 1 0 0 0 (CH 1 0 0 0 (CH 1 0 0 0 (c0.t 6 8 rfl) a0.ls.long) j0) (EL h)) rfl)
 obtain e1:=X.get (Y0.g P0) (by exact(a0.val).elim (λI=>(C0).elim (λD=>NT (CF 1 0 0 0 1 0 (CH 1 0 0 0 (CH 1 0 0 0 (CH 1 0 0 0 (c0.t 6 8 rfl) L.long) G.len) K.len) D rfl)) (λD=>NE (CF 1 0 0 0 1 0 (CH 0 0 1 0 (EL D) w.2) (c0.c 3 6 rfl) rfl))) (λI=>(C0).elim (λD=>NT (CF 1 0 0 0 1 0 (CH 1 0 0 0 (CH 1 0 0 0 (CH 1 0 0 0 (c0.t 6 8 rfl) L.long) G.len) K.len) D rfl)) (λD=>NE (CF 1 0 0 0 1 0 (CH 0 0 1 0 (EL D) w.2) (c0.c 3 6 rfl) rfl))));have H0:a.Fz lj:=by
  rcases C0 with h |h
  ·exact N (by exact CF 0 0 0 0 0 0 (CH 0 0 0 0 (CH 0 0 0 0 L.long G.len) K.len) h rfl)
  ·rw[h];exact d1
 obtain I0:k6 a.Fz fS (.ref li) (.ref lj):=⟨_,li,lj,Vq ht,rfl,rfl,N (by exact TT a0.ls.long j0),H0,W0,e1⟩;obtain J1:=J.len;have J0:(v= .none/\v'= .none)\/k6 a.Fz fS v v':=by
  rcases a0.val with ⟨h1,h2,h3⟩ |⟨h1,r,h2,h3,h4,h5⟩
  ·rcases V0 with ⟨k1,k2,k3⟩ |⟨k1,k2⟩
   ·exact .inl ⟨h3,k3⟩
   ·exact absurd ⟨h1,h2⟩ k1
  ·rcases V0 with ⟨k1,k2,k3⟩ |⟨k1,r',k2,k3,k4⟩
   ·exact absurd ⟨k1,k2⟩ h1
   ·refine .inr ⟨_,r,r',Vp ht,h2,k2,N h3,N (by exact CF 0 0 0 0 0 0 (CH 0 0 0 0 (CH 0 0 0 0 (CH 0 0 0 0 L.long G.len) K.len) J.len) k3 rfl),l.get h5 ?_,X.get k4 (by exact NT (CF 1 0 0 0 1 0 (CH 1 0 0 0 (CH 1 0 0 0 (CH 1 0 0 0 (CH 1 0 0 0 (c0.t 6 8 rfl) L.long) G.len) K.len) J.len) k3 rfl))⟩;rintro ((h |h) |h |h |h)
    ·exact XX 1 0 (CH 1 0 0 0 (NV h4 ((EL h))) (EG h)) rfl
    ·exact XX 1 0 (CH 1 0 0 0 (CH 1 0 0 0 (c0.t 5 8 rfl) h3) (EL h)) rfl
    ·have:=T _ h;exact XX 2 0 (CH 1 0 1 0 (CH 1 0 0 0 (c0.t 4 8 rfl) h3) this.2) rfl
    ·exact XX 1 0 (CH 1 0 0 0 (CH 1 0 0 0 (c0.t 7 8 rfl) h3) (EL h)) rfl
    ·exact XX 1 0 (CH 1 0 0 0 (CH 1 0 0 0 (c0.t 6 8 rfl) h3) (EL h)) rfl
 obtain B0:Fr a.iq df fS:=a0.fr.old l λi F h=>by
  rcases r0 i h with h |h
  ·exact XX 1 0 (CH 0 0 1 0 (CH 0 0 0 0 a0.g9.2 (EG h)) F) rfl
  ·exact h
 refine n_next (x_nil (q fS (.pair v (.ref li)) (.pair v' (.ref lj)) _ _ _ ⟨a0.ls.fr c0 l λi F h=>?_,a0.good.fr l F0,y1.fr z0 λi F h=>?_,?_,R0,?_,(a0.items.fr B0 λi F h=>F h).snoc (.inr ⟨_,_,_,_,rfl,rfl,I0,J0⟩),⟨_,l.get v1 (a1 1 (by decide))⟩,⟨_,t1⟩,Vs ht l1,?_,p1.Vv⟩ B0))
 ·rcases r0 i h with h |h
  ·exact XX 1 0 (CH 0 0 1 0 (CH 0 0 0 0 a0.g9.1 (EG h)) F) rfl
  ·exact h
 ·have:=T i F;exact(a0.val).elim (λI=>(h).elim (λD=>XX 2 0 (CH 1 0 1 0 (CH 1 0 0 0 (c0.t 4 7 rfl) (EG D)) this.2) rfl) (λD=>XX 2 0 (CH 1 0 1 0 (CH 1 0 0 0 (c0.t 4 6 rfl) (EG D)) this.2) rfl)) (λI=>(h).elim (λD=>XX 2 0 (CH 1 0 1 0 (CH 1 0 0 0 (c0.t 4 7 rfl) (EG D)) this.2) rfl) (λD=>XX 2 0 (CH 1 0 1 0 (CH 1 0 0 0 (c0.t 4 6 rfl) (EG D)) this.2) rfl))
 ·refine m0.get g1 ?_;rintro (h |h |h)
  ·exact f1 h
  ·exact XX 1 0 (CH 1 0 0 0 (c0.t 5 7 rfl) (EG h)) rfl
  ·exact XX 1 0 (CH 1 0 0 0 (c0.t 5 6 rfl) (EG h)) rfl
 ·exact w0.get j1 (by exact NT ((c0.t 6 7 rfl)))
 ·rw[bK];lia
theorem Vy {i0:ax AV}{l0:ax AV}{j0:ax AV}{e0:ax AV}{g0:ax AV}{f0:ax AV}{a:Ad}{ns:ah aS}{o:Int}{d0:FL×ah (ax AV)->St->Prop}(c0:a.Ok)(a0:LM a B ns as W u b0)(m0:b0+R.length<=60)(z0:W.length<=100)(v0:u.length<=100)(r0:R∈a.bR)(p0:rp∈a.fQ)(h0:B[rp]? =ae (.list (R.map tA)))(q:∀H t d i0 l0 j0 e0 g0 f0,LM a H (cB a.rs ns R (jT o)).2 (as++ff a.rs ns R (jT o)) (W++[t]) (u++[d]) (b0+R.length)->Fr a.iq B H->d0 (.next,[x0,x1,ag,ae (.ref a.LP),ag,x5,x6,x7,ae (.ref a.x.lm),ae (.ref a.RW),ae (.ref a.OD),bS,f,Y,ae (.ref a.NP),ae (.ref a.TD),ae (.ref a.DU),ae (.ref a.ON),ae (.ref rp),ae (.int o),ag,i0,l0,j0,e0,g0,f0,ag,ag,ag,ag,ag,ag,ag,ag,ag,ag,ag,ag,ag,ag,ag,ag]) H):
  WP (sq vJ ⟨FN 11,dc,[x0,x1,ag,ae (.ref a.LP),ag,x5,x6,x7,ae (.ref a.x.lm),ae (.ref a.RW),ae (.ref a.OD),bS,f,Y,ae (.ref a.NP),ae (.ref a.TD),ae (.ref a.DU),ae (.ref a.ON),ae (.ref rp),ae (.int o),ag,i0,l0,j0,e0,g0,f0,ag,ag,ag,ag,ag,ag,ag,ag,ag,ag,ag,ag,ag,ag,ag,ag]⟩) B d0 E:=by
 obtain o1:=c0.ord;obtain o2:=c0.lp;obtain o3:=c0.rows;obtain o4:=c0.bs;obtain Z:=c0.fQ rp p0;obtain⟨m,ht⟩:=c0.tok R r0;obtain w:R.length<=16:=dW (U3 r0) c0.iE;obtain L0:=zZ (x:=o) (n:=6) (by decide);have hz: -1<=jT o:=by unfold jT;lia
 have o0:jT o<=4:=by unfold jT;lia
 obtain G0:=a0.s.long;obtain (⟨H0,B0⟩):=a0.c2;unfold vJ;wtm_at "r";refine pq (by decide) ?_;wtm_at "r";rw[show o.fmod 6 - 1=jT o from rfl];obtain D:Fr (λi=>i=2) B (B.set 2 (.cell (ae (.int (jT o))))):=Fr.set rfl;obtain u0:(B.set 2 (.cell (ae (.int (jT o)))))[2]? =ae (.cell (ae (.int (jT o)))):=de B0;generalize B.set 2 (.cell (ae (.int (jT o))))=a7 at *;refine pn (by decide) ?_;wtm_at "r";refine pq (by decide) ?_;wtm_at "r";refine mY (cu rfl (n_next ?_));simp only[gz,gA];generalize ((o.fdiv 6).fmod 2 == 1)=b;obtain j:=D.get h0 (by exact NT (CF 5 0 0 0 3 0 (c0.c 0 2 rfl) Z.1 rfl));refine x_sq (w_Set (U' rfl rfl j (by rw[aO];exact FI 0 16 0 4096 w rfl) ?_));intros _ U A s _ hG n0 J hs;refine cu rfl (n_next ?_);simp only[gz,gA];obtain K0:=D.len;obtain T:Fr (λi=>i=2) B U:=D.trans n0.any;obtain G2:Good a.x a.rs ns as U:=a0.good.fr T λi L e=>by have:=c0.foot i L;exact(this).elim (λO=>XX 3 2 (CH 3 0 0 2 (EG O) (EL e)) rfl) (λO=>(O).elim (λN=>XX 4 2 (CH 4 0 0 2 (EG N) (EL e)) rfl) (λN=>XX 5 2 (CH 5 0 0 2 (CH 5 0 0 0 (c0.c 0 1 rfl) N.1) (EL e)) rfl))
 obtain V: ¬ eZ a.x A:=λh=>by have:=c0.foot _ h;exact(this).elim (λO=>XX 5 3 (CH 5 0 0 3 (CH 5 0 0 0 (CH 5 0 0 0 (CH 5 0 0 0 (c0.c 0 8 rfl) a0.s.long) D.len) J) (EL O)) rfl) (λO=>(O).elim (λN=>XX 5 4 (CH 5 0 0 4 (CH 5 0 0 0 (CH 5 0 0 0 (CH 5 0 0 0 (c0.c 0 8 rfl) a0.s.long) D.len) J) (EL N)) rfl) (λN=>XX 1 0 (CH 0 0 1 0 (CH 0 0 0 0 (CH 0 0 0 0 (CH 0 0 0 0 (c0.c 2 8 rfl) a0.s.long) D.len) J) N.2) rfl))
 obtain E0: ¬ eZ a.x s:=λh=>by have w0:s < a.bB:=(c0.foot _ h).elim (λe=>CF 0 3 5 0 1 0 (EL e) (c0.c 0 2 rfl) rfl) λk=>k.elim (λe=>CF 0 4 5 0 1 0 (EL e) (c0.c 0 2 rfl) rfl) λk=>k.2;exact hs.elim (λe=>V (e ▸ h)) λe=>dP _ (TT w0 (TT Z.1 (EG e)))
 have F0:A < U.length:=by
  cases hw:iW o with
  |true=>rw[hw]at hG;exact ba hG.1
  |false=>rw[hw]at hG;exact ba hG.2
 obtain z:=n0.g u0;obtain I0:=a0.al;have cont:∀v G,zl a.x a.rs ns as R b (jT o) (iW o) A s U v G->WP (sq vI ⟨FN 11,dc,[x0,x1,ag,ae (.ref a.LP),ag,x5,x6,x7,ae (.ref a.x.lm),ae (.ref a.RW),ae (.ref a.OD),bS,f,Y,ae (.ref a.NP),ae (.ref a.TD),ae (.ref a.DU),ae (.ref a.ON),ae (.ref rp),ae (.int o),ag,ae (.bool b),ae (.ref A),ae v,e0,g0,f0,ag,ag,ag,ag,ag,ag,ag,ag,ag,ag,ag,ag,ag,ag,ag,ag]⟩) G d0 E:=by
  intros _ v G _ K;obtain S:=K.fr;obtain I:Fr (λi=>i=2\/DG (eZ a.x) (iW o) A i) B G:=(T.mono λi h=>.inl h).trans (S.mono λi h=>.inr h);obtain F:∀i,i < a.bE->i≠2->¬ (i=3\/i=4\/(a.bA<=i/\i < a.bB))->¬ (i=2\/DG (eZ a.x) (iW o) A i):=λi L l hf h=>by
   rcases h with h |h |h
   ·exact l h
   ·exact hf (c0.foot i h)
   ·have:=h.2;exact XX 1 0 (CH 0 0 1 0 (CH 0 0 0 0 (CH 0 0 0 0 (CH 0 0 0 0 a0.s.long D.len) J) (EG h.2)) L) rfl
  obtain (⟨J0,A0⟩):=a0.c1;obtain X:∀i,i < B.length->(i=2\/DG (eZ a.x) (iW o) A i)->a.iq i:=λi L h=>by
   rcases h with h |h |h
   ·exact .inl (by exact FI 0 2 1 5 (EL h) rfl)
   ·rcases c0.foot i h with h |h |h
    ·exact .inl (by exact FI 0 3 1 5 (EL h) rfl)
    ·exact .inl (by exact FI 0 4 1 5 (EL h) rfl)
    ·exact .inr (.inl h)
   ·have:=h.2;exact XX 1 0 (CH 0 0 1 0 (CH 0 0 0 0 (CH 0 0 0 0 D.len J) (EG h.2)) L) rfl
  refine Vx c0 (df:=B) ⟨a0.s.fr c0 I λi L h=>X i (by exact TT L a0.s.long) h,K.good,a0.ph.fr I λi L=>F i (by have:=c0.cQ i L;exact CF 1 0 1 0 1 0 this.2 (c0.t 4 8 rfl) rfl) (by have:=c0.cQ i L;exact NT (CF 5 0 0 0 3 0 (c0.c 0 3 rfl) this.1 rfl)) (by have:=c0.cQ i L;exact NO (NT (CF 5 0 0 0 4 0 (c0.c 0 3 rfl) this.1 rfl)) (NO (NT (TT (c0.c 0 3 rfl) this.1)) (NB (DN (TT (c0.c 2 3 rfl) this.1))))),I.get a0.td (F _ (by exact(c0.t 5 8 rfl)) (by exact NT (FI 5 0 3 0 (c0.c 0 5 rfl) rfl)) (by exact NO (NT (FI 5 0 4 0 (c0.c 0 5 rfl) rfl)) (NO (NT ((c0.c 0 5 rfl))) (NB (DN ((c0.c 2 5 rfl))))))),I.get a0.du (F _ (by exact(c0.t 6 8 rfl)) (by exact NT (FI 5 0 3 0 (c0.c 0 6 rfl) rfl)) (by exact NO (NT (FI 5 0 4 0 (c0.c 0 6 rfl) rfl)) (NO (NT ((c0.c 0 6 rfl))) (NB (DN ((c0.c 2 6 rfl))))))),I.get a0.on (F _ (by exact(c0.t 7 8 rfl)) (by exact NT (FI 5 0 3 0 (c0.c 0 7 rfl) rfl)) (by exact NO (NT (FI 5 0 4 0 (c0.c 0 7 rfl) rfl)) (NO (NT ((c0.c 0 7 rfl))) (NB (DN ((c0.c 2 7 rfl))))))),
   a0.items,⟨_,I.get A0 (F _ (by exact FI 5 0 2 0 (c0.c 0 8 rfl) rfl) (by exact NE (a4 _)) (by exact NO (NE (gP _)) (NO (NE (RR 2 4 rfl)) (NA (DM (FI 5 0 2 0 (c0.c 0 1 rfl) rfl))))))⟩,S.get z ?_,⟨by exact TT a0.s.long (TT D.len J),by exact TT D.len J⟩,K.left,?_,⟨dW T.len S.len,λi L hm=>I.keep i L λh=>hm (X i L h)⟩,I.get h0 (F _ (by exact TT Z.2 (c0.c 3 8 rfl)) (by exact NT (CF 5 0 0 0 3 0 (c0.c 0 2 rfl) Z.1 rfl)) (by exact NO (NT (CF 5 0 0 0 4 0 (c0.c 0 2 rfl) Z.1 rfl)) (NO (NT (TT (c0.c 0 2 rfl) Z.1)) (NB (DN (Z.1)))))),p0⟩ a0.nb a0.al a0.af m0 z0 v0 ht hz o0 (λH t d s0 C0 y0 h1 l=>q H t d _ _ _ s0 C0 y0 h1 l)
  ·rintro (h |h)
   ·have:=c0.foot _ h;exact(this).elim (λO=>XX 3 2 (EG O) rfl) (λO=>(O).elim (λN=>XX 4 2 (EG N) rfl) (λN=>XX 5 2 (CH 5 0 0 2 (c0.c 0 1 rfl) N.1) rfl))
   ·have:=h.2;exact XX 5 2 (CH 5 0 0 2 (CH 5 0 0 0 (CH 5 0 0 0 (CH 5 0 0 0 (c0.c 0 8 rfl) a0.s.long) D.len) J) (EG h.2)) rfl
  ·rcases K.val with h |⟨h,r,h1,l,h3⟩
   ·exact .inl h
   ·exact .inr ⟨h,r,h1,by exact TT a0.s.long (TT T.len l),by exact NT (TT F0 l),h3⟩
 refine x_sq (x_Try (Ve rfl rfl rfl z (asked (b0:=b0) c0.vQ c0.zm (by rw[c0.q3];decide) ht m w (λn hn=>(a0.nb n hn).1) m0 (by lia) hz o0 G2 hG V E0 (λv G K hv=>?_) λG K=>⟨rfl,?_⟩)))
 ·refine cu rfl (x_nil (n_next ?_));simp only[gz,gA];exact cont v G K
 ·refine w_Set (w_K (cu rfl (n_next ?_)));simp only[gz,gA];exact cont .none G K
def Vz:∀{K ys:ah AV} {k:ak} {v:AV},(pb K ys)[k]? =ae v->∃x y,K[k]? =ae x/\ys[k]? =ae y/\v= .pair x y:=by
 intro F;induction F with
 |nil=>
  intro B;cases B with
  |nil=>
   intro _ _ h;exact nomatch h
  |cons _ _=>
   intro _ _ h;exact nomatch h
 |cons x K E=>
  intro B;cases B with
  |nil=>
   intro _ _ h;exact nomatch h
  |cons y ys=>
   intro D;cases D with
   |zero=>
    intro v h;cases h;exact⟨x,y,rfl,rfl,rfl⟩
   |succ k=>
    intro v h;exact E (ys:=ys) (k:=k) h
def Gq:∀{K ys:ah AV},(pb K ys).length=min K.length ys.length:=by
 intro E;induction E with
 |nil=>
  intro B;cases B with
  |nil=>
   exact rfl
  |cons _ _=>
   exact(IT _).symm
 |cons x K D=>
  intro B;cases B with
  |nil=>
   exact(IU _).symm
  |cons y ys=>
   exact(bZ (· +1) D).trans (IV ..).symm
def VB {l:ah DS}{a0:FL×ah (ax AV)->St->Prop}(q:∀H,Ex B H->H.length=B.length+7->(H[B.length]? =ae (.list [])/\H[B.length+1]? =ae (.list [])/\H[B.length+2]? =ae (.list []))->H[B.length+3]? =ae (.list ([B.length,B.length+1,B.length+2].map .ref))->H[B.length+4]? =ae (.list [])->H[B.length+5]? =ae (.list [])->H[B.length+6]? =ae (.list [])->
   WP (sq l ⟨FN 11,dc,[x0,x1,ag,x3,ag,x5,x6,x7,x8,x9,fU,bS,f,Y,ae (.ref (B.length+3)),ae (.ref (B.length+4)),ae (.ref (B.length+5)),ae (.ref (B.length+6)),ag,ag,ag,ag,ag,ag,ag,ag,ag,ag,ag,ag,ag,ag,ag,ag,ag,ag,ag,ag,ag,ag,ag,ag,ag]⟩) H a0 E):
  WP (sq (aE (pL 14) (eList [(eList []),(eList []),(eList [])]) :: aE (pL 15) (eList []) :: aE (pL 16) (eList []) :: aE (pL 17) (eList []) :: l) ⟨FN 11,dc,[x0,x1,ag,x3,ag,x5,x6,x7,x8,x9,fU,bS,f,Y,ag,ag,ag,ag,ag,ag,ag,ag,ag,ag,ag,ag,ag,ag,ag,ag,ag,ag,ag,ag,ag,ag,ag,ag,ag,ag,ag,ag,ag]⟩) B a0 E:=by
 refine x_sq (w_Set (w_List (w_evs_cons (w_List (w_evs_nil (bp (by simp) (w_evs_cons (w_List (w_evs_nil (bp (by simp) (w_evs_cons (w_List (w_evs_nil (bp (by simp) (w_evs_nil (bp (by simp) (cu rfl (n_next ?_))))))))))))))))));refine x_sq (w_Set (w_List (w_evs_nil (bp (by simp) (cu rfl (n_next ?_))))));refine x_sq (w_Set (w_List (w_evs_nil (bp (by simp) (cu rfl (n_next ?_))))));refine x_sq (w_Set (w_List (w_evs_nil (bp (by simp) (cu rfl (n_next ?_))))));simp only[gz,gA,jY,bK,fq,q7,rC,mo,ke,xj];refine q _ Fr.app (by simp) ⟨qD,iX,iX⟩ iX iX iX iX
def VC (h:bR[k]? =ae R):total (bR.take (k+1))=total (bR.take k)+R.length:=by
 rw[take_snoc h,zY]
def Gr:total (bR.take k)<=total bR:=by
 have h:total bR=total (bR.take k)+total (bR.drop k):=by
  unfold total;rw[<-Jh,<-dH,Hw]
 exact TT AL (EG h)
def sL.mk {a:Ad}{a0 c0:ax AV}:sL x0 x1 x5 x6 x7 bS f Y a [x0,x1,ag,ae (.ref a.LP),ag,x5,x6,x7,ae (.ref a.x.lm),ae (.ref a.RW),ae (.ref a.OD),bS,f,Y,ae (.ref a.NP),ae (.ref a.TD),ae (.ref a.DU),ae (.ref a.ON),a0,c0,ag,ic,ie,ig,hZ,ia,ib,ag,ag,ag,ag,ag,ag,ag,ag,ag,ag,ag,ag,ag,ag,ag,ag]:=⟨_,_,_,_,_,_,_,_,rfl⟩
theorem VD {a:Ad}{d0:FL×ah (ax AV)->St->Prop}(a0:a.Ok)(c0:LM a B dI [] [] [] 0)(q:∀H ns as W u f0 e0 ic ie ig hZ ia ib,LM a H ns as W u 16->W.length<=16->u.length<=16->d0 (.next,[x0,x1,ag,ae (.ref a.LP),ag,x5,x6,x7,ae (.ref a.x.lm),ae (.ref a.RW),ae (.ref a.OD),bS,f,Y,ae (.ref a.NP),ae (.ref a.TD),ae (.ref a.DU),ae (.ref a.ON),f0,e0,ag,ic,ie,ig,hZ,ia,ib,ag,ag,ag,ag,ag,ag,ag,ag,ag,ag,ag,ag,ag,ag,ag,ag]) H):
  WP (sq [fx aj (cx [(pL 18),(pL 19)]) (o7 (g6 (eL 9)) (g6 (eL 10))) vJ] ⟨FN 11,dc,[x0,x1,ag,ae (.ref a.LP),ag,x5,x6,x7,ae (.ref a.x.lm),ae (.ref a.RW),ae (.ref a.OD),bS,f,Y,ae (.ref a.NP),ae (.ref a.TD),ae (.ref a.DU),ae (.ref a.ON),ag,ag,ag,ag,ag,ag,ag,ag,ag,ag,ag,ag,ag,ag,ag,ag,ag,ag,ag,ag,ag,ag,ag,ag,ag]⟩) B d0 E:=by
 have J:=c0.s.rows.len;have K:=Gi λR L=>(a0.tok R L).1;have n0:=a0.iE;wtm_at "r";refine fg c0.s.jr ?_;wtm_at "r";refine fg c0.s.od ⟨rfl,?_⟩;refine k9 (G:=λH=>LS a H) (c0:=λk I H=>(∃ns as W u,LM a H ns as W u (total (a.bR.take k))/\W.length=k/\u.length=k)/\sL x0 x1 x5 x6 x7 bS f Y a I) (K:=pb (a.fQ.map .ref) (a.k5.map .int))
  (Yl.zip (Yl.gK λH e=>e.jr) (Yl.gK λH e=>e.od)) (by rw[Gq,aO];exact CF 0 0 0 16 1 128 (CH 0 0 0 0 (CH 0 0 0 0 ML (EL J)) K) a0.iE rfl) (λy y y h=>by obtain⟨⟨_,_,_,_,h,_⟩,_⟩:=h;exact h.s) ⟨⟨dI,[],[],[],c0,rfl,rfl⟩,sL.mk⟩ ?_ ?_
 ·intros _ k v o0 O _ hv j;obtain⟨m,l⟩:=j;obtain (⟨f0,e0,ic,ie,ig,hZ,ia,ib,rfl⟩):=l;obtain (⟨ns,as,W,u,F,T,V⟩):=m;obtain (⟨D,w,S,U,rfl⟩):=Vz hv;rw[dA]at S U;cases G:a.fQ[k]? with
  |none=>rw[G]at S;cases S
  |some rp=>
   intros rp _ G;cases ho:a.k5[k]? with
   |none=>rw[ho]at U;cases U
   |some o=>
    intros o _ ho;rw[G]at S;rw[ho]at U;cases S;cases U;have hk:=ba G;obtain (⟨R,L,N⟩):=F.s.rows.get G;have e1:=VC L;have X:=Gr (bR:=a.bR) (k:=k+1);refine vR rfl rfl (x_put_cons (cu rfl (x_put_cons (cu rfl (x_put_nil ?_)))));simp only[gz,gA];refine Vy a0 F (by exact TT (EG e1) (CF 0 0 0 16 0 60 X a0.iE rfl)) (by exact CF 1 0 0 16 0 100 (CH 1 0 0 0 (CH 1 0 0 0 (CH 0 0 1 0 (EL T) hk) (EL J)) K) a0.iE rfl) (by exact CF 1 0 0 16 0 100 (CH 1 0 0 0 (CH 1 0 0 0 (CH 0 0 1 0 (EL V) hk) (EL J)) K) a0.iE rfl) (cD L) (cD G) N λH t d h0 i0 j0 g0 l0 p0 M3 hf=>?_;rw[<-e1]at M3;exact l_next ⟨⟨_,_,_,_,M3,by rw[bK,T];rfl,by rw[bK,V];rfl⟩,sL.mk⟩
 ·intros _ m0 O _ b;obtain⟨z,Z⟩:=b;obtain (⟨f0,e0,ic,ie,ig,hZ,ia,ib,rfl⟩):=Z;obtain (⟨ns,as,W,u,F,T,V⟩):=z;rw[Gq,aO,aO]at T V;have X:=Gr (bR:=a.bR) (k:=(pb (a.fQ.map .ref) (a.k5.map .int)).length);refine n_next (x_nil (q O ns as W u _ _ _ _ _ _ _ _ ⟨F.s,F.good,F.ph,F.td,F.du,F.on,F.items,F.c1,F.c2,λn hn=>?_,?_,F.af⟩ (by exact CF 0 0 0 16 0 16 (CH 0 0 0 0 (CH 0 0 0 0 (CH 0 0 0 0 (EL T) ML) (EL J)) K) a0.iE rfl) (by exact CF 0 0 0 16 0 16 (CH 0 0 0 0 (CH 0 0 0 0 (CH 0 0 0 0 (EL V) ML) (EL J)) K) a0.iE rfl)))
  ·have:=F.nb n hn;exact⟨by exact TT this.1 (TT X a0.iE),this.2⟩
  ·have:=F.al;exact TT F.al (TT X a0.iE)
def VE {a b c:ak}(h:M.length=3)(h1:B[a]? =ae (.list []))(h2:B[b]? =ae (.list []))(h3:B[c]? =ae (.list [])):dO B [a,b,c] (M.map λg=>[]):=by
 rcases M with _ |⟨_,_ |⟨_,_ |⟨_,_ |⟨_,_⟩⟩⟩⟩
 ·simp at h
 ·simp at h
 ·simp at h
 ·exact⟨h1,h2,h3,trivial⟩
 ·simp at h
def VF {bA n1:ak}{d0:St}{x:eO}{g0:ah Int}{RW OD:ak}{f0:ah ak}{e0:ah Int}{c0:FL×ah (ax AV)->St->Prop}(a0:ER bA d0 x n1 LP a9 M g0)(h5:5<=bA)(h3:a9.length=3)(hx:Ex d0 B)(C:LawC d0.length B RW OD f0 bR e0 g0.length)(h0:e0.length=f0.length)(q:∀(a:Ad) H ns as W u zo zp ic ie ig hZ ia ib,a.Ok->a.rs=M->a.x=x->LM a H ns as W u 16->W.length<=16->u.length<=16->c0 (.next,[x0,x1,ag,ae (.ref a.LP),ag,x5,x6,x7,ae (.ref a.x.lm),ae (.ref a.RW),ae (.ref a.OD),bS,f,Y,ae (.ref a.NP),ae (.ref a.TD),ae (.ref a.DU),ae (.ref a.ON),zo,zp,ag,ic,ie,ig,hZ,ia,ib,ag,ag,ag,ag,ag,ag,ag,ag,ag,ag,ag,ag,ag,ag,ag,ag]) H):
  WP (sq vK ⟨FN 11,dc,[x0,x1,ag,ae (.ref LP),ag,x5,x6,x7,ae (.ref x.lm),ae (.ref RW),ae (.ref OD),bS,f,Y,ag,ag,ag,ag,ag,ag,ag,ag,ag,ag,ag,ag,ag,ag,ag,ag,ag,ag,ag,ag,ag,ag,ag,ag,ag,ag,ag,ag,ag]⟩) B c0 E:=by
 unfold vK;refine VB λI G T K i0 j w o=>?_;obtain⟨j0,b,X⟩:=K;have F:Ex d0 I:=hx.trans G;obtain m:=hx.len;obtain L:=a0.fP;obtain l:=a0.bl;obtain R:=ba C.od;obtain O:=ba C.jr;obtain N:∀i∈f0,d0.length<=i/\i < B.length:=λi V=>by
  obtain⟨k,hk⟩:=Ji V;obtain⟨n,-,h⟩:=C.at_.get hk;exact⟨(C.low i V).1,ba h⟩
 obtain U:=C.qC;obtain z:=a0.at_.len;have A:(⟨x,bA,d0.length,B.length,B.length+7,LP,RW,OD,B.length+3,B.length+4,B.length+5,B.length+6,a9,f0,[B.length,B.length+1,B.length+2],M,bR,e0⟩:Ad).Ok:=
  ⟨a0.vQ,a0.foot,λq hq=>by have:=a0.low q hq;exact⟨this.1,this.2.2.1,this.2.1,this.2.2.2⟩,⟨L.1,L.2.2.1⟩,⟨U.1,O,by show d0.length<=OD;exact CF 0 0 1 0 0 0 C.qC.1 C.qC.2 rfl,R⟩,N,λi V=>by
   simp only[bu,pO,tW]at V;show B.length<=i/\i < B.length+3
   lia,⟨by show B.length<=B.length+3;exact RR 0 3 rfl,by show B.length+3 < B.length+4;exact a4 _,by show B.length+4 < B.length+5;exact a4 _,by show B.length+5 < B.length+6;exact a4 _,by show B.length+6 < B.length+7;exact a4 _⟩,⟨h5,l,m⟩,by simp,h3,rfl,a0.q3,a0.ok,C.ok,by show total bR<=16;rw[C.iE];exact a0.nl.2,h0.symm,a0.cc⟩
 have S:LS (⟨x,bA,d0.length,B.length,B.length+7,LP,RW,OD,B.length+3,B.length+4,B.length+5,B.length+6,a9,f0,[B.length,B.length+1,B.length+2],M,bR,e0⟩:Ad) I:=
  ⟨F.g a0.lp,a0.at_.fr F λv v=>⟨id,id⟩,G.g C.jr,G.g C.od,C.at_.fr G λv v h=>h,i0,by rw[T];exact a4 _⟩
 obtain⟨v0,Z⟩:=a0.c1;have J:dO I [B.length,B.length+1,B.length+2] (M.map λv=>[]):=by
  exact VE (z.symm.trans h3) j0 b X
 have D:LM (⟨x,bA,d0.length,B.length,B.length+7,LP,RW,OD,B.length+3,B.length+4,B.length+5,B.length+6,a9,f0,[B.length,B.length+1,B.length+2],M,bR,e0⟩:Ad) I (M.map λv=>[]) [] [] [] 0:=
  ⟨S,a0.good.fr F λv v=>id,J,j,w,o,trivial,⟨_,F.g Z⟩,⟨_,F.g a0.c2⟩,λn hn=>by
   obtain⟨r,-,rfl⟩:=mv.mp hn;exact⟨a4 _,λv h=>nomatch h⟩,a4 _,λv h=>nomatch h⟩
 exact VD A D λH ns as W u r0 s0 m0 n0 o0 l0 p0 u0 M' h1 h2=>q _ H ns as W u _ _ _ _ _ _ _ _ A rfl rfl M' h1 h2
def bG.len:∀{B:St} {X:ah eY} {M:ah Rd} {ns:ah aS},bG B X M ns->X.length=M.length:=by
 intro E H;induction H generalizing E with
 |nil=>
  intro D;cases D with
  |nil=>
   intro _ _;exact rfl
  |cons _ _=>
   intro _ h;exact h.elim
 |cons I J G=>
  intro D;cases D with
  |nil=>
   intro _ h;exact h.elim
  |cons _ _=>
   intro F;cases F with
   |nil=>
    intro h;exact h.elim
   |cons _ _=>
    intro h;rw[fq,fq,(G h.2)]
def VG (r:Rd)(n:aS)(m:AV):∃n',(jR r n m).2=[n']:=by
 by_cases h:m= .int 7/\r.1≠[]
 ·exact⟨n,by rw[Ge h]⟩
 ·exact⟨_,by rw[Gd h]⟩
def Ab {a0:AV->St->Prop}(h:B[i]? =ae (.list l))(hv:l[k]? =ae v)(hk:k < 4)(q:a0 v B):WP (ik (.ref i) (.int k)) B a0 E:=by
 refine lW h ?_ (v:=v) (by rw[eD];exact hv) q;generalize D:(k:Int)=j
 lia
theorem VH {a:Ad}{ns:ah aS}{b:ak}{U0 N0:ax AV}{d0:FL×ah (ax AV)->St->Prop}(c0:a.Ok)(a0:LM a B ns as W u b)(hk:k < 3)(J0:B[1]? =ae (.cell (ae (.int k))))(hb:b+1<=60)(hm:eg m)(m1:W.length<=100)(j1:u.length<=100)(q:∀H lT t d,LM a H lT as (W++[t]) (u++[d]) (b+1)->H[1]? =ae (.cell (ae (.int k)))->Fr (λi=>a.iq i/\i≠1) B H->d0 (.next,[x0,x1,ag,ae (.ref a.LP),ag,x5,x6,x7,ae (.ref a.x.lm),ae (.ref a.RW),ae (.ref a.OD),bS,f,ae m,ae (.ref a.NP),ae (.ref a.TD),ae (.ref a.DU),ae (.ref a.ON),U0,N0,ag,ic,ie,ig,hZ,ia,ib,ag,ag,ag,ag,ag,ag,ag,ag,ag,ag,ag,ag,ag,ag,ag,ag]) H):
  WP (sq zd ⟨FN 11,dc,[x0,x1,ag,ae (.ref a.LP),ag,x5,x6,x7,ae (.ref a.x.lm),ae (.ref a.RW),ae (.ref a.OD),bS,f,ae m,ae (.ref a.NP),ae (.ref a.TD),ae (.ref a.DU),ae (.ref a.ON),U0,N0,ag,ic,ie,ig,hZ,ia,ib,ag,ag,ag,ag,ag,ag,ag,ag,ag,ag,ag,ag,ag,ag,ag,ag]⟩) B d0 E:=by
 obtain o1:=c0.ord;obtain o2:=c0.lp;obtain o3:=c0.rows;obtain o4:=c0.bs;have h0:=c0.cQ;obtain w1:=a0.s.long;have T:=cy (show k < a.x.qs.length by rw[c0.q3];exact hk);have f0:=cy (show k < a.cQ.length by rw[c0.nl];exact hk);have m0:=cy (show k < a.a9.length by rw[c0.ml];exact hk);generalize a.x.qs[k]'(by rw[c0.q3];exact hk)=qd at T;generalize a.cQ[k]'(by rw[c0.nl];exact hk)=np at f0;generalize a.a9[k]'(by rw[c0.ml];exact hk)=md at m0;obtain⟨r,n,K0,w0,l1⟩:=a0.good.jQ.get T;obtain⟨n2,I,M0⟩:=a0.ph.get f0;rw[w0]at I;obtain I:=dp I;subst I;obtain⟨r2,V,R0⟩:=a0.s.at_.get m0;rw[K0]at V;obtain V:=dp V;subst V;obtain W0:=c0.zm r (cD K0);obtain L0:=a0.nb n (cD w0);obtain⟨n',Z⟩:=VG r n m;obtain r0:=cD f0;obtain f1:=cD m0;obtain D:=h0 np r0;obtain G:=c0.a9 md f1;obtain p1:eZ a.x qd.g:=zO ⟨qd,cD T,rfl⟩;obtain H0:=c0.foot _ p1;obtain⟨I1,n0⟩:=a0.good.jQ.dict (cD T);obtain B0:qd.g≠3:=λe=>by
  have:=a0.good.cA;rw[c0.cc.1]at this;rw[e,this]at n0;cases n0
 obtain u1:qd.g≠4:=λe=>by
  have:=a0.good.cR;rw[c0.cc.2]at this;rw[e,this]at n0;cases n0
 obtain F:a.bA<=qd.g/\qd.g < a.bB:=H0.elim (λh=>absurd h B0) λh=>h.elim (λh=>absurd h u1) id;have H1:B[4]? =ae (.cell (ae (.ref a.x.R))):=by have:=a0.good.cR;rwa [c0.cc.2]at this
 unfold zd;wtm_at "r";refine⟨(λh=>nomatch h.2),hU a0.td (.inl rfl) ?_⟩;wtm_at "r";refine Ab a0.good.R (by rw[dA,T];rfl) (by exact FI 1 3 1 4 hk rfl) ?_;wtm_at "r";refine UO l1 (by exact CF 0 0 1 60 0 60 L0.1 hb rfl) hm W0 λR i s0 Y j0 b1=>?_;obtain u0:=Y.get a0.td (by exact NT (TT F.2 (c0.c 2 5 rfl)));obtain A1:=Y.len;obtain J1:=ba b1;wtm_at "r";refine js u0 (by exact FI 0 100 0 4096 m1 rfl) ?_;have J:Fr (λj=>j=a.TD) R (R.set a.TD (.list (W++[.ref i]))):=Fr.set rfl;obtain e1:(R.set a.TD (.list (W++[.ref i])))[a.TD]? =ae (.list (W++[.ref i])):=de u0;generalize R.set a.TD (.list (W++[.ref i]))=bF at *;have K:Fr (λj=>j=qd.g\/j=a.TD) B bF:=(Y.mono λi h=>.inl h).trans (J.mono λi h=>.inr h);obtain q1:=J.get b1 (by exact NT (TT (c0.t 5 8 rfl) (TT a0.s.long j0)));obtain D1:=J.len;obtain p0:=K.get a0.du (by exact NO (NT (TT F.2 (c0.c 2 6 rfl))) (NT ((c0.t 5 6 rfl))));obtain y0:=K.get J0 (by exact NO (NE (FI 5 0 2 0 (TT o4.1 F.1) rfl)) (NE (FI 5 0 2 0 (c0.c 0 5 rfl) rfl)));obtain d1:=K.get a0.s.np (by exact NO (NT (TT F.2 (c0.c 2 4 rfl))) (NE ((c0.t 4 5 rfl))));obtain S0:=K.get a0.s.lp (by exact NO (NE (TT c0.lp.2 F.1)) (NE (TT c0.lp.2 (c0.c 1 5 rfl))));refine n_next ?_;wtm_at "r";refine⟨(λh=>nomatch h.2),hU p0 (.inl rfl) ?_⟩;wtm_at "r";refine bp (by simp) ?_;have F0:Ex bF (bF++[AO.list [.dB .none m (.int 0)]]):=Fr.app;obtain C0:(bF++[AO.list [.dB .none m (.int 0)]])[bF.length]? =ae (.list ([((.none,m,0):Thing)].map tA)):=g_last;have z0:(bF++[AO.list [.dB .none m (.int 0)]]).length=bF.length+1:=by rw[bK];rfl
 generalize bF++[AO.list [.dB .none m (.int 0)]]=bk at *;obtain E1:=F0.g y0;wtm_at "r";refine Ab (F0.g d1) (by rw[dA,f0];rfl) (by exact FI 1 3 1 4 hk rfl) ?_;wtm_at "r";refine bp (by simp) ?_;have l0:Ex bF (bk++[AO.list [.ref np]]):=F0.trans Fr.app;obtain Q0:(bk++[AO.list [.ref np]])[bk.length]? =ae (.list ([np].map .ref)):=g_last;obtain G0:=(Fr.app:Ex bk (bk++[AO.list [.ref np]])).get C0 id;have v1:(bk++[AO.list [.ref np]]).length=bk.length+1:=by rw[bK];rfl
 generalize bk++[AO.list [.ref np]]=cO at *;obtain C1:=l0.g y0;wtm_at "r";refine Ab (l0.g S0) (by rw[dA,m0];rfl) (by exact FI 1 3 1 4 hk rfl) ?_;wtm_at "r";refine bp (by simp) ?_;have I0:Ex bF (cO++[AO.list [pM md]]):=l0.trans Fr.app;obtain P0:(cO++[AO.list [pM md]])[cO.length]? =ae (.list ([md].map pM)):=g_last;obtain A0:=(Fr.app:Ex cO (cO++[AO.list [pM md]])).get G0 id;obtain V0:=(Fr.app:Ex cO (cO++[AO.list [pM md]])).get Q0 id;have h1:(cO++[AO.list [pM md]]).length=cO.length+1:=by rw[bK];rfl
 generalize cO++[AO.list [pM md]]=dZ at *;have g0:Fr (λj=>j=qd.g\/j=a.TD) B dZ:=K.trans I0.any;wtm_at "r";refine F5 (M:=[r]) (ns:=[n]) (R:=[(.none,m,0)]) (c0:=[np]) (a9:=[md]) (b0:=b) rfl (λr' n1=>by rw[aJ.mp n1];exact W0) (λt ht=>by rw[aJ.mp ht];exact⟨.inl rfl,hm⟩) (λn' Z=>by rw[aJ.mp Z];exact L0) hb
  (M0.fr g0 λj U e=>by rw[aJ]at U;exact(H0).elim (λc2=>XX 4 3 (CH 3 0 1 3 (EG c2) (NV B0 ((EL c2)))) rfl) (λc2=>(e).elim (λc1=>XX 1 0 (CH 0 0 1 0 (CH 0 0 0 0 (CH 0 0 0 0 (CH 0 0 0 0 (c0.c 2 3 rfl) D.1) (EG U)) (EL c1)) F.2) rfl) (λc1=>XX 2 0 (CH 1 0 1 0 (CH 1 0 0 0 (CH 1 0 0 0 (c0.t 4 5 rfl) (EG c1)) (EL U)) D.2) rfl))) (R0.fr g0 λj U=>by rw[aJ]at U;subst U;exact⟨NO (NE (TT G.2.1 F.1)) (NE (TT G.2.1 (c0.c 1 5 rfl))),NO (NE (TT G.2.2.2 F.1)) (NE (TT G.2.2.2 (c0.c 1 5 rfl)))⟩) (by simp) (λj U w hw=>by rw[aJ]at U hw;subst U hw;exact⟨NE (TT G.2.1 (TT (c0.c 1 3 rfl) D.1)),NE (TT G.2.2.2 (TT (c0.c 1 3 rfl) D.1))⟩) (by simp) V0 P0 A0 (by rw[aJ];exact NT (CF 2 0 1 0 1 0 (CH 2 0 0 0 (CH 2 0 0 0 (CH 1 0 1 0 D.2 (c0.t 4 8 rfl)) a0.s.long) K.len) (EG z0) rfl)) (by rw[aJ];exact NT (CF 2 0 0 0 1 0 (CH 2 0 0 0 (CH 2 0 0 0 (CH 1 0 1 0 D.2 (c0.t 4 8 rfl)) a0.s.long) K.len) l0.len rfl)) (by rw[aJ];exact NT (CF 2 0 0 0 1 0 (CH 2 0 0 0 (CH 1 0 1 0 D.2 (c0.t 4 8 rfl)) a0.s.long) K.len rfl)) λN ri i0 Y0 Z0 X=>?_
 obtain i0:dO N [np] (jR r n m).2:=i0;obtain X:N[ri]? =ae (.list ((jR r n m).1.map .int)):=X;have z:Fr (λj=>j=np) dZ N:=Y0.mono λj U=>aJ.mp U;obtain v0:=z.get (I0.g p0) (by exact NT (CF 1 0 1 0 1 0 D.2 (c0.t 4 6 rfl) rfl));obtain B1:=ba X;obtain z1:=z.len;wtm_at "r";refine js v0 (by exact FI 0 100 0 4096 j1 rfl) ?_;have S:Fr (λj=>j=a.DU) N (N.set a.DU (.list (u++[.ref ri]))):=Fr.set rfl;obtain O0:(N.set a.DU (.list (u++[.ref ri])))[a.DU]? =ae (.list (u++[.ref ri])):=de v0;generalize N.set a.DU (.list (u++[.ref ri]))=dk at *;obtain T0:Fr (λj=>j=np\/j=a.DU) dZ dk:=(z.mono λi h=>.inl h).trans (S.mono λi h=>.inr h);have o:Fr (λj=>j=np\/j=a.DU) bF dk:=I0.any.trans T0;obtain o0:Fr (λj=>j=a.TD\/j=np\/j=a.DU) R dk:=(J.mono λi h=>.inl h).trans (o.mono λi h=>.inr h);have O:Fr (λj=>j=qd.g\/j=a.TD\/j=np\/j=a.DU) B dk:=(Y.mono λi h=>.inl h).trans (o0.mono λi h=>.inr h);have L:∀i,(i=qd.g\/i=a.TD\/i=np\/i=a.DU)->a.iq i/\i≠1:=λi h=>by
  rcases h with h |h |h |h
  ·exact⟨.inr (.inl (by exact⟨TT F.1 (EG h),CF 0 0 1 0 1 0 (EL h) F.2 rfl⟩)),by exact NT (CF 5 0 0 0 2 0 (TT o4.1 F.1) (EG h) rfl)⟩
  ·exact⟨.inr (.inr (.inr (.inl h))),by exact NT (CF 5 0 0 0 2 0 (c0.c 0 5 rfl) (EG h) rfl)⟩
  ·exact⟨.inr (.inr (.inl (h ▸ r0))),by exact NT (CF 5 0 0 0 2 0 (CH 5 0 0 0 (c0.c 0 3 rfl) D.1) (EG h) rfl)⟩
  ·exact⟨.inr (.inr (.inr (.inr (.inl h)))),by exact NT (CF 5 0 0 0 2 0 (c0.c 0 6 rfl) (EG h) rfl)⟩
 obtain (⟨F1,r1⟩):=a0.c2;rw[Z]at s0 i0;obtain s1:Fr (gs a.x.qs) B R:=Y.mono λi h=>⟨qd,cD T,h⟩;obtain G1:Good a.x a.rs (ns.set k n') as R:=a0.good.rd s1 (a0.good.jQ.upd T K0 c0.vQ.sep Y s0);obtain G7:=G1.fr o0 λi l h=>by
  have E0:i < a.bB:=(c0.foot i l).elim (λe=>CF 0 3 5 0 1 0 (EL e) (c0.c 0 2 rfl) rfl) λk=>k.elim (λe=>CF 0 4 5 0 1 0 (EL e) (c0.c 0 2 rfl) rfl) λk=>k.2;exact h.elim (λe=>dP _ (TT E0 (TT (c0.c 2 5 rfl) (EG e)))) λk=>k.elim (λe=>dP _ (TT E0 (TT (TT (c0.c 2 3 rfl) D.1) (EG e)))) λe=>dP _ (TT E0 (TT (c0.c 2 6 rfl) (EG e)))
 have i1:dO dk a.cQ (ns.set k n'):=by
  obtain g1:dO dZ a.cQ ns:=a0.ph.fr g0 λj U e=>by have:=h0 j U;exact(H0).elim (λc2=>XX 4 3 (CH 3 0 1 3 (EG c2) (NV B0 ((EL c2)))) rfl) (λc2=>(e).elim (λc1=>XX 1 0 (CH 0 0 1 0 (CH 0 0 0 0 (CH 0 0 0 0 (c0.c 2 3 rfl) this.1) (EL c1)) F.2) rfl) (λc1=>XX 2 0 (CH 1 0 1 0 (CH 1 0 0 0 (c0.t 4 5 rfl) (EG c1)) this.2) rfl))
  obtain VI:=g1.upd f0 c0.nd Y0 i0;exact VI.fr S λj U e=>by have:=h0 j U;exact XX 2 0 (CH 1 0 1 0 (CH 1 0 0 0 (c0.t 4 6 rfl) (EG e)) this.2) rfl
 obtain e0:∀{i},a.bE<=i->a.Fz i:=λ{i} l t1=>by
  rcases t1 with h |h |h |h |h |h
  ·exact XX 6 5 (CH 5 0 1 5 (CH 5 0 0 0 (c0.c 0 8 rfl) l) h) rfl
  ·exact XX 1 0 (CH 0 0 1 0 (CH 0 0 0 0 (c0.c 2 8 rfl) l) h.2) rfl
  ·have:=h0 i h;exact XX 2 0 (CH 1 0 1 0 (CH 1 0 0 0 (c0.t 4 8 rfl) l) this.2) rfl
  ·exact XX 1 0 (CH 1 0 0 0 (CH 1 0 0 0 (c0.t 5 8 rfl) l) (EL h)) rfl
  ·exact XX 1 0 (CH 1 0 0 0 (CH 1 0 0 0 (c0.t 6 8 rfl) l) (EL h)) rfl
  ·exact XX 1 0 (CH 1 0 0 0 (CH 1 0 0 0 (c0.t 7 8 rfl) l) (EL h)) rfl
 obtain same:k6 a.Fz dk (.ref i) (.ref ri):=⟨_,i,ri,Vl,rfl,rfl,e0 (by exact TT a0.s.long j0),e0 (by exact TT a0.s.long (TT g0.len Z0)),o.get q1 (by exact NO (NT (CF 2 0 0 0 1 0 (CH 2 0 0 0 (CH 1 0 1 0 D.2 (c0.t 4 8 rfl)) a0.s.long) j0 rfl)) (NT (TT (c0.t 6 8 rfl) (TT a0.s.long j0)))),S.get X (by exact NT (CF 1 0 0 0 1 0 (CH 1 0 0 0 (CH 1 0 0 0 (c0.t 6 8 rfl) a0.s.long) g0.len) Z0 rfl))⟩;refine n_next (x_nil (q dk (ns.set k n') (.ref i) (.ref ri) ⟨a0.s.fr c0 O λi l h=>(L i h).1,G7,i1,o.get e1 (by exact NO (NT (CF 1 0 1 0 1 0 D.2 (c0.t 4 5 rfl) rfl)) (NE ((c0.t 5 6 rfl)))),O0,O.get a0.on (by exact NO (NT (TT F.2 (c0.c 2 7 rfl))) (NO (NT ((c0.t 5 7 rfl))) (NO (NT (CF 1 0 1 0 1 0 D.2 (c0.t 4 7 rfl) rfl)) (NT ((c0.t 6 7 rfl)))))),(a0.items.fr O λi l h=>l (L i h).1).snoc (.inl same),⟨_,O.get J0 λh=>(L 1 h).2 rfl⟩,⟨_,O.get r1 (by exact NO (NE (FI 5 0 3 0 (TT o4.1 F.1) rfl)) (NO (NE (FI 5 0 3 0 (c0.c 0 5 rfl) rfl)) (NO (NE (FI 5 0 3 0 (TT (c0.c 0 3 rfl) D.1) rfl)) (NE (FI 5 0 3 0 (c0.c 0 6 rfl) rfl)))))⟩,λy1 a1=>?_,xo a0.al,a0.af⟩ (O.get J0 λh=>(L 1 h).2 rfl) (O.mono L)));rcases Jg a1 with h |h
 ·have:=a0.nb y1 h;exact⟨by exact FI 0 0 0 1 this.1 rfl,this.2⟩
 ·rw[h];have:=Gp (M:=[r]) (R:=[(.none,m,0)]) (ns:=[n]) (b:=b) (λt ht=>by rw[aJ.mp ht];exact⟨.inl rfl,hm⟩) (λn' Z=>by rw[aJ.mp Z];exact L0) n' (by
   show n'∈(jR r n m).2;rw[Z];exact .head _)
  exact this
def LM.Gs {a:Ad}{ns:ah aS}{b:ak}(a0:a.Ok)(c0:LM a B ns as W u b)(d0:Fr (λi=>i=1) B H)(hc:∃v,H[1]? =ae (.cell v)):LM a H ns as W u b:=by
 obtain J:=a0.ord;obtain K:=a0.bs;obtain⟨I,E⟩:=c0.c2;exact⟨c0.s.fr a0 d0 λi w h=>.inl (by exact FI 0 1 1 5 (EL h) rfl),c0.good.fr d0 λi D e=>by have:=a0.foot i D;exact(this).elim (λG=>XX 3 1 (CH 3 0 0 1 (EG G) (EL e)) rfl) (λG=>(G).elim (λF=>XX 4 1 (CH 4 0 0 1 (EG F) (EL e)) rfl) (λF=>XX 5 1 (CH 5 0 0 1 (CH 5 0 0 0 (a0.c 0 1 rfl) F.1) (EL e)) rfl)),c0.ph.fr d0 λi D e=>by have:=a0.cQ i D;exact XX 5 1 (CH 5 0 0 1 (CH 5 0 0 0 (a0.c 0 3 rfl) this.1) (EL e)) rfl,d0.get c0.td (by exact NT (FI 5 0 2 0 (a0.c 0 5 rfl) rfl)),d0.get c0.du (by exact NT (FI 5 0 2 0 (a0.c 0 6 rfl) rfl)),d0.get c0.on (by exact NT (FI 5 0 2 0 (a0.c 0 7 rfl) rfl)),c0.items.fr d0 λi D e=>D (.inl (by exact FI 0 1 1 5 (EL e) rfl)),hc,⟨_,d0.get E (by exact NT (a4 _))⟩,c0.nb,c0.al,c0.af⟩
theorem VJ {B:St}{a:Ad}{ns:ah aS}{e0 d0:ax AV}(a0:a.Ok)(c0:LM a B ns as W u 16)(ht:W.length<=16)(hd:u.length<=16):
  WP (sq vL ⟨FN 11,dc,[x0,x1,ag,ae (.ref a.LP),ag,x5,x6,x7,ae (.ref a.x.lm),ae (.ref a.RW),ae (.ref a.OD),bS,f,Y,ae (.ref a.NP),ae (.ref a.TD),ae (.ref a.DU),ae (.ref a.ON),e0,d0,ag,ic,ie,ig,hZ,ia,ib,ag,ag,ag,ag,ag,ag,ag,ag,ag,ag,ag,ag,ag,ag,ag,ag]⟩) B (λx B=>WP (eQ x.1) B (λv q=>v= .bool aj) E) E:=by
 obtain o1:=a0.ord;obtain o4:=a0.bs;unfold vL;wtm_at "r";refine pj (by decide) (by decide) ?_;wtm_at "r";refine⟨rfl,?_⟩;refine k9 (G:=λy=>eN) (c0:=λk I H=>(∃ns as W u,LM a H ns as W u (16+5 * k)/\W.length<=16+5 * k/\u.length<=16+5 * k)/\∃Y,I=[x0,x1,ag,ae (.ref a.LP),ag,x5,x6,x7,ae (.ref a.x.lm),ae (.ref a.RW),ae (.ref a.OD),bS,f,Y,ae (.ref a.NP),ae (.ref a.TD),ae (.ref a.DU),ae (.ref a.ON),e0,d0,ag,ic,ie,ig,hZ,ia,ib,ag,ag,ag,ag,ag,ag,ag,ag,ag,ag,ag,ag,ag,ag,ag,ag]) (K:=mR 1 3 0)
  Yl.range (by decide) (λy y y y=>trivial) ⟨⟨ns,as,W,u,c0,ht,hd⟩,_,rfl⟩ ?_ ?_
 ·intros _ k v u0 F _ V b;obtain⟨X,o⟩:=b;obtain (⟨Y,rfl⟩):=o;obtain (⟨ns,as,W,u,c0,ht,hd⟩):=X;obtain⟨rfl,hk⟩:=wg V;rw[show(0:Int)+(k:Int)=k from ux _];obtain (⟨o0,z⟩):=c0.c1;wtm_at "r";obtain L:Fr (λi=>i=1) F (F.set 1 (.cell (ae (.int k)))):=Fr.set rfl;obtain U:(F.set 1 (.cell (ae (.int k))))[1]? =ae (.cell (ae (.int k))):=de z;obtain M2:=c0.Gs a0 L ⟨_,U⟩;generalize F.set 1 (.cell (ae (.int k)))=bF at *;refine bp (by simp) ?_;obtain O:Ex bF (bF++[AO.list [vS "a",vS "a.b",vS "ab",vS "b.a",.int 7]]):=Fr.app;obtain Q:(bF++[AO.list [vS "a",vS "a.b",vS "ab",vS "b.a",.int 7]])[bF.length]? =ae (.list [vS "a",vS "a.b",vS "ab",vS "b.a",.int 7]):=g_last;obtain D:=M2.s.long;generalize bF++[AO.list [vS "a",vS "a.b",vS "ab",vS "b.a",.int 7]]=bk at *;generalize bF.length=li at *;obtain G:=O.g U;obtain M3:=M2.Gs a0 O.any ⟨_,G⟩;refine fg Q ⟨rfl,?_⟩;refine k9 (G:=λH=>H[li]? =ae (.list [vS "a",vS "a.b",vS "ab",vS "b.a",.int 7])) (c0:=λj I H=>(∃ns as W u,LM a H ns as W u (16+5 * k+j)/\W.length<=16+5 * k+j/\u.length<=16+5 * k+j)/\H[li]? =ae (.list [vS "a",vS "a.b",vS "ab",vS "b.a",.int 7])/\H[1]? =ae (.cell (ae (.int k)))/\∃Y,I=[x0,x1,ag,ae (.ref a.LP),ag,x5,x6,x7,ae (.ref a.x.lm),ae (.ref a.RW),ae (.ref a.OD),bS,f,Y,ae (.ref a.NP),ae (.ref a.TD),ae (.ref a.DU),ae (.ref a.ON),e0,d0,ag,ic,ie,ig,hZ,ia,ib,ag,ag,ag,ag,ag,ag,ag,ag,ag,ag,ag,ag,ag,ag,ag,ag]) (K:=[vS "a",vS "a.b",vS "ab",vS "b.a",.int 7])
   (Yl.gK λH e=>e) (by decide) (λy y y h=>h.2.1) ⟨⟨ns,as,W,u,M3,ht,hd⟩,Q,G,_,rfl⟩ ?_ ?_
  ·intros _ j m s0 i0 _ V j0;obtain⟨h0,l,m0,Z⟩:=j0;obtain (⟨Y,rfl⟩):=Z;obtain (⟨ns,as,W,u,w,ht,hd⟩):=h0;obtain hj:j < 5:=ba V;obtain hm:eg m:=Gj m (by
    have:=cD V;simp only[bu,pO,tW]at this |-;rcases this with h |h |h |h |h <;>simp[h])
   refine cu rfl ?_;simp only[gz,gA];refine VH a0 w hk m0 (by lia) hm (by lia) (by lia) λr0 l0 t d M5 g0 hf=>l_next ?_;refine⟨⟨l0,as,_,_,M5,by rw[bK,uw];lia,by rw[bK,uw];lia⟩,hf.get l (λh=>?_),g0,_,rfl⟩;rcases h.1 with h |h |h |h |h |h
   ·exact XX 6 5 (CH 5 0 1 5 (CH 5 0 0 0 (a0.c 0 8 rfl) D) h) rfl
   ·exact XX 1 0 (CH 0 0 1 0 (CH 0 0 0 0 (a0.c 2 8 rfl) D) h.2) rfl
   ·have:=a0.cQ _ h;exact XX 2 0 (CH 1 0 1 0 (CH 1 0 0 0 (a0.t 4 8 rfl) D) this.2) rfl
   ·exact XX 1 0 (CH 1 0 0 0 (CH 1 0 0 0 (a0.t 5 8 rfl) D) (EL h)) rfl
   ·exact XX 1 0 (CH 1 0 0 0 (CH 1 0 0 0 (a0.t 6 8 rfl) D) (EL h)) rfl
   ·exact XX 1 0 (CH 1 0 0 0 (CH 1 0 0 0 (a0.t 7 8 rfl) D) (EL h)) rfl
  ·intros _ p0 i0 _ N;obtain⟨K,-,-,J⟩:=N;obtain (⟨Y,rfl⟩):=J;obtain (⟨ns,as,W,u,w,ht,hd⟩):=K;exact n_next (x_nil (l_next ⟨⟨ns,as,W,u,w,ht,hd⟩,_,rfl⟩))
 ·intros _ n0 F _ S;obtain⟨T,R⟩:=S;obtain (⟨Y,rfl⟩):=R;obtain (⟨ns,as,W,u,c0,-,-⟩):=T;obtain (⟨ds,h1,h2,h3⟩):=c0.items.data;obtain (⟨da,h4,h5⟩):=Gm c0.af;have f0:F[3]? =ae (.cell (ae (.ref a.x.A))):=by have:=c0.good.cA;rwa [a0.cc.1]at this
  refine n_next (x_sq (x_Ret (w_And (w_Cmp (aM rfl (aM rfl (w_eq (l4 c0.td h1) (l4 c0.du h2) (tr_bool ⟨λy=>?_,λc=>?_⟩))))))))
  ·refine w_Cmp (gp cl_asks f0 (aM rfl (w_eq (l4 c0.good.A (h4 6 F)) (l4 c0.on (h4 6 F)) (n_ret (r_ret ?_)))));rw[bY,h5]
  ·rw[bY,h3]at c;cases c
def VK:vM=sz++(vG++(vH++(vK++vL))):=rfl
def VL (l:ah Int):(uO l).run [] (λr c=>r= .ok (.bool aj)):=by
 have T:WP (uO l) [] (λv w=>v= .bool aj) (λw w=>dm):=by
  refine UP ?_;show WP (sq vM _) _ _ _;rw[VK];refine wj (UW λa0 n1 LP j M G x5 x6 J H=>?_);refine wj (U2 J H λS x x7 E=>?_);refine wj (U7 E.num E.nl λw RW OD U O F Q f Y hx I=>?_);obtain b:=ba J.c4;refine wj (VF E (by exact b) H hx I I.len.symm λa X ns as W u o m L N R K Z c0 A e1 e2 D V z=>?_);exact VJ A D V z
 exact P.mono _ (λr B h=>by
  cases r with
  |ok v=>exact bZ Res.ok h
  |err k=>exact h.elim) T
end Q
open PySem PySem.W PyProof.Rows
set_option maxHeartbeats 2000000
abbrev te:Hook where
 α:=_
 obs:=xM
 val:=λu=>(rhs,ae (jW #[]))
 says:=λu h=>∃K:jt,K.In h/\lhs K=rhs/\h.get? 175=ae (jW #[])
 of:=λu s e=>⟨_,P6 s.heap,bZ (·.1) e,bZ (·.2) e⟩
 keeps:=λu u u x k=>x.elim λK y=>⟨K,λa o e=>k _ _ (y.1 a o e),y.2.1,k _ _ y.2.2⟩
set_option tactic.hygienic true in def holds (D : ∀ l : ah Int, l.length ≤ 63 → (uO l).run [] (fun r c => r = .ok (.bool aj))) : PySem.Challenge.rw_oc0179_01.Holds := holds_law P9 fun VM => by
 refine holds_open (r:=PySem.Challenge.rw_oc0179_01.row) (q:=q0) (loose:=uW) (Xt:=fun u=>aj) (XP:=fun u u=>eN) (Yf:=te.obs) (Ya:=te.val) (YP:=te.says) (N:=2016) Qb te.of te.keeps (fun u u=>trivial) (fun u u u u u=>trivial) (by rfl) (by rfl) (by rfl) (fun s u=>recFacts_of rfl) rfl VM (by decide +kernel) ⟨rfl,rfl,rfl,rfl,rfl,by decide +kernel⟩ ⟨[WData.list []],by decide +kernel,by decide +kernel⟩ ?_;intro w Wx jh mg mb G Y fa o pm cd doc dV kV ho VN yr hD VO hg args vals as VP VQ VR VS VT;obtain⟨K,KX,F,VU⟩:=Y;have VV:∀ P∈[175],jh.heap.get? P=ae (jW #[]):=fun P hP=>by rw[aJ.mp hP];exact VU
 refine Ground.open G ?_;intro T B D2 TE TW;clear VN yr hD ho
 wrow_args VP VQ VR VS VT
 rename_i w5 hs VW VX VY yg w4 w3 aa items w0 hL ra wl r0 hI hr Wy qr;clear hs VW VX VY yg ra wl r0 hr qr;have e1:=vB KX T.g (P5 F);have e2:fa=178:=by
  have:=VO.symm.trans e1;exact Value.ref.inj (dp this)
 subst e2;exact Qq T (by decide +kernel) F KX VV hg hL hI (by lia) (D _ (by lia)) (λu=>rfl) (by wrow_post)
end Mine.Internal
theorem PySem.Challenge.cw_oc0179_01_holds : PySem.Challenge.rw_oc0179_01.Holds :=
 Mine.Internal.holds λl _=>Mine.Internal.Q.VL l
