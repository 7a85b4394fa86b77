import PyProof.Rows.All
import PyProof.AttrMiss
import PyProof.CollectIter
import PyProof.MeetsIn
import PyProof.EqKinds
import PyProof.P3Statements
import PyProof.StrBlockI
import PyProof.StrBlockL
import PyProof.ListNew
import PyProof.ListCopy
import PyProof.StrCalls2
import PyProof.Rows.SumAny
import PyProof.TypeOfCall
import PyProof.SetRoads
import PyProof.SetNew
import PyProof.Rows.SetFrom
import PyProof.Rows.ExtendIn
import Wide.Tac
import KE.KPop
import KE.KDictIter
import KE.KMinKey
import KE.KSortTup
import Wide.FinOn
import OpenK.AllK
import Wide.All
import Lean
import PySem.Challenge.RW_oc0179_01
set_option linter.all false
set_option Elab.async false
set_option backward.match.sparseCases false
set_option compiler.extract_closed false
set_option compiler.reuse false
set_option genInjectivity false
set_option genSizeOf false
set_option maxRecDepth 1000000
set_option tactic.hygienic false
set_option maxHeartbeats 20000000
open Option renaming some->ae,none->ag,none->bq,map_eq_some_iff->jZ,bind_eq_some_iff->qT,ite_none_right_eq_some->tH,map_some->tR,isNone_iff_eq_none->wZ,map_eq_none_iff->A7,isSome_iff_exists->Bu,map->Ho
open _root_ renaming List->ah,Nat->ak,Option->ax,Bool->aB,String->aI,if_neg->aK,if_pos->aN,Array->aZ,beq_iff_eq->bU,congrArg->bZ,Unit->b8,Nonempty->cU,False->dm,True->eM,decide_eq_true_eq->fq,of_decide_eq_true->gx,decide_eq_true->ja,if_false->jc,if_true->jB,of_decide_eq_false->jE,beq_eq_false_iff_ne->og,decide_eq_false->pH,bne_iff_ne->qS,or_false->tU,ForInStep->tY,Decidable->wq,beq_false_of_ne->Ax,reduceIte->AU,bne_self_eq_false->AW,ne_true_of_eq_false->Bn,beq_self_eq_true->IE,ne_of_beq_false->IZ,decide_eq_false_iff_not->Jk
open Bool renaming true->aj,false->az,and_eq_true->cW,false_eq_true->jb,false_ne_true->je,or_eq_true->pN,not_eq_true->pO,not_true->qU,eq_iff_iff->qW,or_true->rq,not_eq_true'->wY,and_false->w7,noConfusion->Az,or_false->AY,not_false->G9,or_eq_false_iff->HU
open PySem.Str renaming ofString->aq
open PySem renaming Str->au,Value->aw,Addr->ay,wpAny->aA,wpAny_pure->aC,Shared->aD,Heap->aG,Expr->aH,model->aV,Env->bH,rawInt->bI,Scope->bN,wpAny_bind->bO,Tok->cK,Sem->dn,Stmt->dy,Around->d8,wpAny_holding->ez,wpAny_mono->eA,wpAny_field->e5,Arguments->fg,Pos->fh,sizeLine_eq->fF,pyIter->f5,SetTable->gr,wpAny_call_entry->gw,World->gL,mainGlobals->gM,wpAny_rule->gP,wpAny_setField_rec->gQ,PyData->hX,pyNext->hZ,wpAny_letGo->ia,compareOp->i6,IsZip->i7,field->jd,nsFind->jw,IsPair->jx,starEach->jA,wpAny_standAt->jC,Operator->jU,rule->jX,Builtin->j2,slot_listiter_next->j3,wpAny_seqItems->j4,slot_listiter_iter->j6,codeAny->j',codeAny_builtin->kb,hashStr->lh,assign->lr,holding->lx,backTo->lz,isSubtype->lB,NameKind->l5,wpAny_isInstance->l9,backToKw->me,keywordEach->mh,updateSeq->mv,wpAny_updateSeq->mw,Model->mX,Program->mY,Keyword->m4,wpAny_newTuple->m6,notedBy->m9,wpAny_callSpecial?_slot->ng,wpAny_of_eq->nh,call_meets->nj,wpAny_attempt->nu,Const->n5,IsEnum->oa,wpAny_newList->oh,partValue->oi,setField->oj,swapsWith->oo,callSpecial?->oq,wpAny_pyIter_slot->ow,isSubtype_stop->oz,keeperOf->oB,plainId_quiet->oF,CmpOp->pz,JoinOk->pB,typeIs_str->pP,assignEach->pQ,argsOk->pR,wpAny_askSetting->pS,getMethod_builtin->pX,wpAny_truthy_bool->qM,StrKeys->qN,builtinsNs->qO,storeName->qY,wpAny_newObj_type->qZ,wpAny_execs_nil->q8,seqItems?->q9,typeLookup_type->rg,builtinLookup_eq_fast->rh,isSubtype_type->rj,wpAny_setState_of->rm,letOwnedTupleGo->rn,entry_listiter_iter->ru,args_listiter_iter->ry,wants->rE,wpAny_specialOf->rF,wpAny_tryCatch->rG,wpAny_eqBool_int->tn,isTrue->tq,IsRangeIter->tu,pickOrder->tw,wpAny_allTrue_Or_cons->tF,standAt->tG,richCompare->tI,wpAny_setField->tM,wpAny_execs_cons->tP,wpAny_throw->tQ,typeLookup->tT,wpAny_alloc->tZ,wpAny_call->ub,codeAny_of_tree->uc,checkBuiltinCall->ud,wpAny_Call_Name_kw->uf,treeTable->uq,importedModules->ur,FuncData->wo,DictEntry->wu,IsRange->wA,seqEpoch->wC,newTuple->wD,newList->wF,newExc->wM,setNext->wO,findBy->wV,bindArgs->wW,cellOf->w9,compPost->xb,codeAny_mono->xd,ExcName->xj,wpAny_isTrue_BoolOp->As,wpAny_items_nil->Au,wpAny_items_cons->Av,entry_listiter_next->AF,args_listiter_next->AG,raiseNew->AH,entryFor->AJ,wpAny_pyIter_list->AZ,evalArgs->A9,sizeLine->Bc,relayAll->Bf,getMethod->Bp,wpAny_Constant_none->GL,wpAny_Constant_bool->GN,wpAny_Constant_int->GO,wpAny_Constant_str->GP,wpAny_loadName_cell->GQ,wpAny_allTrue_And_cons->GX,wpAny_allTrue_Or_nil->GY,wpAny_Return_some->He,firstArgMember->Hf,entryFor_alias->Hh,wpAny_setEntries_of->Hn,wpAny_updateSeq_pair->Hv,codeAny_call_function->HB,slot_list_setitem->HJ,callType_newIn->HK,wpAny_pyIter_enum->HN,wpAny_pyIter_rangeiter->HO,wpAny_pyIter_zip->HP,wpAny_functionCodeX->HY,wpAny_builtinsFor->HZ,weight_type_call_type->Ie,codeAny_call_builtin->Ih,am_int_getattr_none->IG,am_entry_int_getattribute->IH,meets_getattribute_miss_int->II
open List renaming mem_singleton->aJ,length_map->aO,mem_cons->bu,length_append->bK,all_eq_true->bW,getElem?_eq_getElem->cy,mem_of_getElem?->cD,getElem?_eq_some_iff->cF,size_toArray->cG,range->dz,getElem?_map->dA,map_append->dH,mem_append->dX,length_take->er,length_set->eJ,length_cons->fm,append_nil->fS,map_cons->f9,lookup_cons->gv,take_of_length_le->gy,set_cons_succ->gz,set_cons_zero->gA,mem_append_left->gO,mem_append_right->hY,getElem?_set_ne->jz,append_assoc->jY,take_length->j5,drop_eq_nil_of_le->kf,getElem?_append_left->ly,pairwise_cons->lD,toArray->l7,getElem?_set_self->l8,forIn_nil->mc,nil_append->mn,drop_zero->mo,mem_map->mu,getElem?_eq_none_iff->nk,length_eq_zero_iff->nq,mem_range->nr,drop_eq_getElem_cons->ou,map_map->oJ,set_set->oK,length_filter_le->pD,any_cons->pI,nodup_cons->pJ,not_mem_nil->pK,drop_eq_nil_iff->pT,forIn_cons->pU,getElem_mem->pW,length_zip->pZ,mem_iff_getElem->qR,length_nil->q7,lookup->rz,of_mem_zip->rA,cons_append->rB,getElem?_eq_none->rH,map_take->rI,nodup_append->tD,isEmpty_nil->tS,map_nil->t9,isEmpty_iff->ua,take_zero->ug,countP_cons->uh,map_reverse->uk,any_eq_true->uu,foldl_append->uv,getElem?_zip_eq_some->uw,length_singleton->ux,getElem?_append_right->wG,getElem_inj->wH,range_succ->wQ,length_range->wR,mem_of_mem_drop->wX,map_inj_left->xi,pairwise_iff_getElem->xl,pairwise_append->xm,getElem?_drop->xn,findIdx?_eq_some_iff_getElem->Ao,contains_iff_mem->Ay,filterMap_cons->AP,take_add_one->AQ,all_cons->A2,mem_filter->A4,take_nil->A6,zip_cons_cons->Bk,mem_cons_of_mem->Bl,getElem?_concat_length->Bv,set_getElem_self->Bw,reverse_perm->Bx,perm_append_comm->By,pairwise_singleton->Bz,dropLast_concat_getLast->BC,any_append->BD,isEmpty_map->BE,flatMap_append->BG,countP_le_length->BH,find?_cons->GJ,nodup_nil->GK,append_toArray->GW,replicate->Hd,getElem?_toArray->Hg,eq_nil_of_length_eq_zero->Hi,length_eraseIdx_of_lt->Hl,length_eq_one_iff->Hs,mem_map_of_mem->Hw,take_append_drop->Hx,mem_of_mem_take->Hy,map_congr_left->Hz,filter_nil->HC,filterMap_nil->HD,any_eq_false->HH,zip_nil_right->HX,take_succ_eq_append_getElem->H9,drop_length->Ii,countP_mono_left->Io,countP_true->Ip,ext_getElem->Iq,mem_reverse->Ir,getElem_map->IF,mem_of_find?_eq_some->IJ,getElem?_cons_succ->IP,take_left'->IT,length_drop->IY,find?_append->I9,filter_eq_nil_iff->Jb,filter_cons_of_pos->Jc,filter_cons_of_neg->Jd,getElem?_range->Je,countP_append->Jg,mem_or_eq_of_mem_set->Jh,sum_append->Ji,getElem?_of_mem->Jj
open PySem.Txt renaming split->aU,join->jv,slice->lg,startswith->pA
open Nat renaming le_refl->a4,zero_le->cZ,lt_irrefl->dP,le_trans->dW,le_succ->gR,lt_of_lt_of_le->gT,le_of_ble_eq_true->iZ,lt_succ_self->jD,ne_of_lt->jV,zero_add->ke,ble->l6,min_eq_left->m7,le_of_lt->ny,le_of_eq->n6,not_lt->n7,ble_eq->p3,add_assoc->qL,min_le_left->th,le_add_right->tm,casesOn->tC,min_eq_right->tL,lt_trans->wI,lt_of_le_of_lt->wJ,reduceAdd->xk,add_zero->xo,le_succ_of_le->xp,add_le_add_right->Ae,add_right_comm->Af,add_comm->Ag,not_le->Ah,ne_of_gt->Ai,le_antisymm->Aj,le_min->Ak,succ_le_succ->Aw,succ_pos->Bh,lt_succ_of_lt->Bi,add_le_add_left->Gy,lt_of_le_of_ne->Gz,min_le_right->GA,sub_le->GB,sub_add_cancel->GC,le_add_left->GD,add_le_add->GF,le_zero->Hj,mod_lt->Hk,le_of_succ_le_succ->Hr,le_of_sub_eq_zero->H7,lt_of_sub_pos->H8,div_le_self->IK,lt_or_gt_of_ne->IQ,lt_or_ge->IS,zero_min->IU,min_zero->IV,succ_min_succ->IW,sub_eq_zero_of_le->Jf
open PySem.Heap renaming get?_push_of_some->be,get?_push_size->cV,SameBut->fk,lt_size->gN,get?_update_self->iI,size_push->j8,dictOf_iff->tE,get?_update_other->AD,get?_none_of_le->Bd,get?_push_ne->Bj,NewAttrErr->Bo,ExtBut->HW,NewExc->H3,size_update->Iy
open PyProof.Rows renaming seqObj->bC,arrOf->jy,numOf->lu,get?_update_seq->nx,IntsAre->n8,isSubtype_of_subB->oG,listUpdate_at->oH,failedOf->qQ,tail_any->tK,exec_Assign->wL,seqEpoch_at->xg,listItems_at->xh,general'->An,subscriptTail->AA,Subscript_->AB,size_push'->Bm,wpAny_call_entry_kw->Iz,slot_list_sort->IA,entry_list_sort->IB,args_list_sort->Wb,args_list_sort_rev->Wc
open PySem.Obj renaming mapSeq->bQ,data_mapFields->m8,isFreed_of_fields->om,putName_eq->rC,putNameByArray->rD,mapFields->tN,cls_mapFields->tO,putSet->H5
open PySem.PyData renaming eqv->bY,strOk->cY,eqvAll->lE,depthAll->GZ,list->Ja,tuple->Jl
open Option.some renaming inj->dp,injEq->A5
open PySem.Value renaming none->dq,ref->gu,isStrOf->lq,type->lA,str->qV,int->tJ,builtin->ue,isStrOf_shape->GH
open PySem.Heap.SameBut renaming update->dY
open Int renaming toNat_natCast->eB,ofNat_lt->i5,lt_trans->um,zero_add->uy,natCast_nonneg->wt,neg_lt_neg->Ap,eq_ofNat_of_zero_le->Aq,add_zero->BF,lt_of_lt_of_le->GG,le_natAbs->GR,lt_of_le_of_lt->GS,ne_of_gt->GU,toNat_lt->Ha,not_lt->Hb,ofNat_le->Hc,ediv_one->HL,neg_neg->HM,fdiv_eq_ediv_of_nonneg->IL,ofNat_sub->IM
open PySem.W renaming findIn->fj,Frag->ju,tabObj->jW,emptyDict->j7,Looks->oA,instObj->pE,takerIn->pF,boot_heap->pY,typeIn->qP,kla_obj->wy,callWith_of->wU,plainOver->Al,hasDictIn->Am,staticsOk->Bq,namesBound->Br,gensDone->Bs,laidKept->Bt
open PySem.Builtin.Range renaming rangeFitsLong->fG,rangeSize->j9,rangeFields->V9,small->V'
open PySem.NameKind renaming free->kc,cell->oD
open Classical renaming byContradiction->k9,em->uo
open Prod.mk renaming inj->lC,injEq->w6
open PySem.Builtin.Str renaming occurrences->l4,partsBetween->mZ,strKind->IC
open PySem.Around renaming under_plainId->mq,under_plain->Ic
open PySem.SetTable renaming below->m5,grown->Bg,has->H4,fits_plain_off->H6,fresh->Ig
open ForInStep renaming yield->nv
open PySem.Code renaming builtin->oE,quiet_builtin->Ib
open PyProof.Rows.SortSt renaming mk'->pG
open PySem.Keeper renaming machine->pV,frame->tW,boundFrame->tX
open Prod renaming ext->qX
open Pure renaming pure->te
open PySem.Builtin.List renaming listUpdate->tz,listItems->GI,listExtendWith->Ik,listSameRef->Il,listSubscript?->V8
open PySem.Data renaming noConfusion->tB
open Array renaming toList_map->uj,getElem?_eq_getElem->wK,toList_inj->xf,length_toList->Be,toList_push->Hm,getElem?_eq_none_iff->Hq,size_push->Ij,toList_reverse->Iu,forIn_toList->Iw
open PySem.FuncBody renaming stmts->wz
open List.Perm renaming cons->wN
open PySem.Calls renaming spliced_cons->w8,evalArgs_plain->Ba,spliced_nil->Bb
open PySem.Shared renaming TypeIs->xc
open Ne renaming symm->AE
open PySem.pickOrder renaming go->AK
open PySem.SetTable.below renaming go->AM
open PySem.Builtin.SmallTypes renaming nextOf->AX,ownedTupleIsFree->Ht,ownedTupleHandOut->Hu
open PUnit renaming unit->A3
open PySem.W.Looks renaming of_pure->A8
open List.Pairwise renaming nil->BA
open String renaming ofList->Gw
open PyProof renaming noPylong_small->GV
open PySem.DictEntry renaming refKey->HG
open PySem.ScopeKind renaming function->HQ
open PySem.Manifest renaming find?->HV
open PySem.Builtin.Frozenset renaming newClass->Ia,slot0->V6,sizeOf->V7,updateFrom->Wa
open PySem.Builtin.Builtins renaming bindParams->Im
open StateT renaming run_pure->Iv
open PySem.IsL renaming update->ID
open PySem.Heap.IsSliceOf renaming new->V5
namespace Mine.Internal
section
open Lean
def jf (k:aI)(a:ah Syntax):Syntax:=.node .none k.toName a.toArray
def mp {α β}(f:α->β):ah α->ah β
 | []=>[]
 |a :: l=>f a :: mp f l
def fo {α β}(f:α->β->β)(b:β):ah α->β
 | []=>b
 |a :: l=>f a (fo f b l)
def mem (x:aI):ah aI->aB
 | []=>az
 |y :: l=>x == y || mem x l
def uz:ah Syntax->ah Syntax
 |a :: b :: l=>a :: .atom .none "," :: uz (b :: l)
 |l=>l
def xq:ah Syntax->ah Syntax
 |a :: l=>if a.isIdent then a :: xq l else []
 | []=>[]
def BJ (a:ah Syntax)(w:ah Char)(s:ah Syntax):ah Syntax:=
 match w with
 | []=>s
 |c :: r=>
 let k:=Gw r.reverse
 let n:=c.toNat - 48
 if c == '\'' then .atom .none k :: s
 else if c == '.' then mkIdent k.toName :: s
 else if c == '$' then a.getD (k.toNat?.getD 0) .missing :: s
 else if c == 'S' then jf "Lean.Parser.Tactic.tacticSeq" [jf "Lean.Parser.Tactic.tacticSeq1Indented" [jf "null" (s.take 1)]] :: s.drop 1
 else
 let d:=r.getLastD ' '
 jf ((if mem k ["null","group","hygieneInfo","fieldIdx","PySem.W.tacticWtm_at_"]then "" else if d == 'T' || d == 'C' then "Lean.Parser." else "Lean.Parser.Tactic.")++k) (s.take n).reverse :: s.drop n
def xr (a:ah Syntax):ah Char->ah Char->ah Syntax->ah Syntax
 |w,c :: r,s=>if c == ' ' then xr a [] r (BJ a w s)else xr a (c :: w) r s
 |w,[],s=>BJ a w s
def cH (t:aI)(a:ah Syntax):Syntax:=(xr a [] t.toList []).headD .missing
def kg (t u:Syntax):Syntax:=cH "first' |' 0$ S group2 |' 1$ S group2 null2 first2" [t,u]
def iJ (t u:Syntax):Syntax:=cH "(' 0$ ;' 1$ null3 tacticSeq1Indented1 tacticSeq1 )' paren3" [t,u]
def Jm (r:Syntax):Syntax:=
 let b:=cH "rewrite' null0 optConfig1 [' 0$ null1 ]' rwRuleSeq3 null0 rewriteSeq4" [r]
 if (r.find? (·.isOfKind ``Parser.Term.syntheticHole)).isSome then b
 else kg (cH ("with_reducible_and_instances' refine' rw"++(if r[0].getNumArgs == 0 then "R" else "L")++". 0$ ?' _' Term.syntheticHole2 null2 Term.app2 refine2 S withReducibleAndInstances2") [r[1]]) b
def xt (p:Syntax):Syntax:=cH "0$ rintroPat.one1" [if p[1].getNumArgs == 0 && p[0][0].getNumArgs == 1 then p[0][0][0]else cH "(' 0$ )' rcasesPat.paren3" [p]]
def tupP (p:Syntax):aB:=p[0].isOfKind ``Parser.Tactic.rcasesPat.tuple && p[0][1].getNumArgs > 1
def uA:ah Syntax->Syntax
 | []=>cH "skip' skip1" []
 |p :: ps=>iJ (cH (if tupP p then "(' intro' hrin. null1 intro2 ;' obtain' 0$ null1 rcasesPatMed1 null1 null0 :=' hrin. null1 null2 obtain4 null3 tacticSeq1Indented1 tacticSeq1 )' paren3" else "rintro' 1$ null1 null0 rintro3") [p[0],p]) (uA ps)
def xu (e t:Syntax)(ps:ah Syntax):ak->Syntax
 | 0=>cH "rcases' null0 0$ elimTarget2 null1 with' 1$ null1 rcasesPatMed1 null0 rcasesPatLo2 null2 rcases3" [e,t]
 |k+1=>
  let s:=fo (λq s=>iJ (cH "try' clear' 0$ null1 clear2 S tacticTry_2" [q]) s) (uA (mp xt (ps.take (k+1))++[match ps.drop (k+1)with | [p]=>xt p |r=>cH "⟨' 0$ ⟩' rcasesPat.tuple3 rintroPat.one1" [jf "null" (uz r)]])) ((mp (λp=>p[0][0][0][0]) ps).reverse++[e])
  let f (n:aI):=iJ (cH ("refine' "++n++". 0$ ?' _' Term.syntheticHole2 null2 Term.app2 refine2") [e]) s
  kg (f ("and"++toString (k+2))) (kg (f ("ex"++toString (k+1))) (xu e t ps k))
def Jn (x:Syntax):Syntax:=
 let c (t:aI):=cH t [x]
 let r (n:aI):=kg (iJ (c ("replace' 0$ Term.letId1 null0 null0 :=' "++n++".inj. 0$ null1 Term.app2 Term.letIdDecl5 Term.letDecl1 replace2")) (c "cases' null0 0$ elimTarget2 null1 null0 null0 cases4"))
 let d (n:aI):=kg (iJ (c ("refine' and2. "++n++".inj. 0$ null1 Term.app2 ?' _' Term.syntheticHole2 null2 Term.app2 refine2")) (c "(' clear' 0$ null1 clear2 ;' intro' h1. h2. null2 intro2 ;' cases' null0 h1. elimTarget2 null1 null0 null0 cases4 ;' cases' null0 h2. elimTarget2 null1 null0 null0 cases4 null7 tacticSeq1Indented1 tacticSeq1 )' paren3"))
 kg (c "subst' 0$ null1 subst2") (kg (c "contradiction' contradiction1") (r "Option.some" (r "AV.ref" (d "Prod.mk" (d "List.cons" (c "rcases' null0 0$ elimTarget2 null1 with' ⟨' null0 ⟩' rcasesPat.tuple3 null1 rcasesPatMed1 null0 rcasesPatLo2 null2 rcases3"))))))
def BK (x a:Syntax):ah aI->Syntax
 | []=>cH "cases' null0 (' [anonymous]. hygieneInfo1 Term.hygienicLParen2 0$ )' Term.paren3 elimTarget2 null1 null0 1$ null1 cases4" [x,a]
 |n :: l=>kg (cH ("induction' null0 0$ elimTarget2 null1 using' "++n++(if n == "Nat" then ".casesAuxOn" else ".casesOn")++". null2 null0 1$ null1 induction5") [x,a]) (BK x a l)
def BM:ah aI->Syntax
 | []=>cH "fail' null0 fail2" []
 |n :: l=>kg (cH ("refine' "++n++". ?' _' Term.syntheticHole2 null1 Term.app2 refine2") []) (BM l)
def xw:ak->ak->aI->ah aI
 |k+1,n,s=>if n < 2 then [s]else xw k ((n+1) / 2) (s++" .' 1' fieldIdx1 Term.proj3")++xw k (n / 2) (s++" .' 2' fieldIdx1 Term.proj3")
 | 0,_,s=>[s]
def BN (c m:aI)(l a:ah Syntax):Syntax:=
 let k:=toString l.length
 let e:=a.isEmpty
 let f:=fo (λn s=>kg (cH ("exact' "++n++". exact2") []) s) (cH "first' |' apply' nP. apply2 S group2 |' apply' nF. apply2 S group2 null2 first2" []) ("nI neA neS neI neW neB neE neX neM neP neRT neK neAS neDA neR".splitOn " ")
 iJ (cH ("refine' "++(if e then "no_implicit_lambda%' " else "")++m++k++". (' [anonymous]. hygieneInfo1 Term.hygienicLParen2 by' repeat'' 1$ S repeat'2 S Term.byTactic2 )' Term.paren3 _' Term.hole1 "++(if e then "?' _' Term.syntheticHole2 null3 Term.app2 Term.noImplicitLambda2" else "0$ ?' _' Term.syntheticHole2 null4 Term.app2")++" refine2") [a.headD .missing,f])
  (cH "generalize' 0$ null0 generalize3" [jf "null" (uz (mp (λp=>cH ("null0 (' [anonymous]. hygieneInfo1 Term.hygienicLParen2 "++c++k++". _' Term.hole1 _' Term.hole1 null2 Term.app2 )' Term.paren3"++p.1++" =' 0$ generalizeArg4") [p.2]) ((xw l.length l.length "").zip l)))])
def rJ:ak->ah Syntax->Syntax
 |n+1,l=>
  let m:=l.length
  let k:=if m < 11 then m else if m < 13 then 10 else if m < 16 then 13 else if m < 20 then 16 else if m < 23 then 20 else 23
  let t:=BN "pc" "pk" (l.take k) []
  if k == m then t else iJ t (rJ n (l.drop k))
 | 0,_=>.missing
def BO (e t:Syntax)(ps:ah Syntax):ak->Syntax
 | 0=>xu e t ps (ps.length - 1)
 |k+1=>kg (iJ (BN "oc" "ox" (mp (λp=>p[0][0][0][0]) (ps.take (k+1))) [e]) (iJ (cH "try' clear' 0$ null1 clear2 S tacticTry_2" [e]) (uA [match ps.drop (k+1)with | [p]=>xt p |r=>cH "⟨' 0$ ⟩' rcasesPat.tuple3 rintroPat.one1" [jf "null" (uz r)]]))) (BO e t ps k)
def xx (b:aB)(l:ah Syntax):ak->Syntax
 | 0=>.missing
 |n+1=>
  let a:=xq l
  let t:=if a.isEmpty then cH "skip' skip1" []else if b then rJ 9 a else cH "intro' 0$ intro2" [jf "null" a]
  match l.drop a.length with
  | []=>t
  |_ :: r=>iJ t (xx (!b) r n)
def Jo (l:ah Syntax):Syntax:=
 let a:=xq l
 match a,l.drop a.length with
 |_,[]=>rJ 9 a
 | [],_ :: r=>xx aj r r.length
 |_,[_]=>iJ (cH "revert' 0$ revert2" [jf "null" a]) (rJ 9 a)
 |_,_ :: b=>iJ (cH "revert' 0$ revert2" [jf "null" a]) (iJ (rJ 9 a) (cH "intro' 0$ intro2" [jf "null" b]))
def uB:ak->Syntax->ah Syntax
 |n+1,s=>s :: fo (λs l=>uB n s++l) [] s.getArgs.toList
 | 0,_=>[]
def BP:ak->Syntax->Syntax
 |n+1,.node _ k a=>.node .none k (mp (BP n) a.toList).toArray
 |_,s=>s.setInfo .none
def nm (s:Syntax):aI:=toString s.getId.getRoot
def Jp (s:Syntax)(l:ah aI):ah aI:=
 let k:=toString s.getKind
 mp nm (if k == "Lean.binderIdent" then [s[0]]else if k == "Lean.Parser.Term.basicFun" then s[0].getArgs.toList else if mem k ["Lean.Parser.Term.forall","Lean.Parser.Term.explicitBinder","Lean.Parser.Term.implicitBinder"]then s[1].getArgs.toList else [])++l
def Jq (tab hd:aI)(d:Syntax):Syntax:=
 let e:=d[1]
 let us:=uB 99 e[2]
 let ui:=mp nm us
 let bd:=fo Jp [] us
 let vs:=fo (λx l=>if mem x ui && !mem x bd then ((mkIdent x.toName).raw,aj) :: l else l) (fo (λb l=>let f:=fo (λs f=>if s.isIdent then mem (nm s) (hd.splitOn " ")else f) az (uB 99 b[2]);mp (·,f) b[1].getArgs.toList++l) [] e[2][0].getArgs.toList) (tab.splitOn " ")
 let l:=(fo (λ(x,y) (l,f)=>(if f == y then x :: l else x :: .missing :: l,y)) ([],(vs.getLastD (.missing,aj)).2) vs)
 d.setArg 1 (e.setArg 3 (e[3].setArg 1 (cH "by' revert' 0$ revert2 ;' 1$ ;' (' 2$ )' paren3 null5 tacticSeq1Indented1 tacticSeq1 Term.byTactic2" [jf "null" (mp (·.1) vs),xx l.2 l.1 99,e[3][1][1]])))
def Jr (n:aI)(m b:Syntax):Syntax:=
 if b[0].getPos?.isNone || fo (λs f=>s.isToken "meta" || f) az (uB 9 m)then .missing else
 let k:=toString b.getKind
 let a:=[m,b[1],b[2],b[3],b[2][0],b[2][1][0],b,m.setArg 4 (cH "noncomputable' Command.noncomputable1 null1" [])]
 let q (s:aI):=cH (s++" Command.declaration2") a
 BP 999 (if k == "Lean.Parser.Command.definition" then q "0$ theorem' 1$ 4$ 5$ Command.declSig2 3$ Command.theorem4"
  else if k == "Lean.Parser.Command.abbrev" then if m[1].getNumArgs == 0 then q "7$ def' 1$ 2$ 3$ null0 Command.definition5" else (q "7$ 6$").modifyArg 0 (·.setArg 1 (jf "null" []))
  else if k == "Lean.Parser.Command.theorem" then
   let (tab,hd):=if n == "Mine.Internal.Q" then ("B H df E F I b w k i n s j U d A h b0 row dd LP k0 di rp ri mi NP Q O cs v a m T p M K l as args W u vs gB D Z QB z R x y r x6 x0 x5 x7 x1 bS f Y x3 x8 x9 ib ic ie x4 fT ig ij ik V e elt S L o J G body ifs N QL bR mm kw X dI a9 ks ys","AO AV Ad eN fg aB DE DS DT aH FL Int ah kh ak aS ax Or RT Rd bN St au aI Tr")else ("X Y h H h₀ kj B J j own br C fH I Z jF A F U aP k i W n u ep E E' a D S L w s z dE v it o o' x y prog V pos p q G l le K Q kvs N e elt r target kw T xs ai ao d b M es O m mg fd R ct f op lo ci ca ifs mm loose","AI AO AV ay Arg fg d8 aZ aB pz n5 Cx DA DE DI DR DS DT bH aH Flow ju wo aG Int ah kh mX ak Obj jU ax Or fh mY PySem.Fin RT Res Result bN gr aD St au aI cK b8 aw gL")
   Jq tab hd (q "0$ 6$")else q "0$ 6$")
def rK (m b:Syntax):MacroM Syntax:=do
 let r:=Jr (toString (<-Macro.getCurrNamespace)) m b
 if r.isMissing then Macro.throwUnsupported else return r
end
open Lean in
local macro_rules
 | `(tactic| cases $x:ident $a:inductionAlts)=>return BK x a ("Option List Nat Bool Or AV AO Res FL AI PySem.Expr PySem.Stmt".splitOn " ")
 | `(tactic| cases $x:ident)=>return Jn x
 | `(tactic| rw $r:rwRuleSeq)=>return r.raw[1].getSepArgs.toList.foldr (λr=>iJ (Jm r)) (cH "try' with_reducible' rfl' tacticRfl1 S withReducible2 S tacticTry_2" [])
 | `(tactic| rintro $ps:rintroPat*)=>let l:=ps.toList.map (·.raw);if l.length < 2 && !tupP l.head! then Macro.throwUnsupported else return uA l
 | `(tactic| obtain $p:rcasesPatMed:=$e:term)=>let t:=if p.raw[0].getNumArgs == 1 then p.raw[0][0]else .missing;if t.isOfKind ``Parser.Tactic.rcasesPat.paren then let t:=t[1][0][0][0];let ps:=t[1].getSepArgs.toList;return BO e t ps (min (ps.length - 1) (ps.takeWhile λp=>p[0][0].getNumArgs == 1 && p[0][0][0][0].isIdent && p[0][0][0][0].getId != `rfl).length)else let ps:=t[1].getSepArgs.toList;if ps.length < 2 then Macro.throwUnsupported else return xu e t ps (ps.length - 1)
 | `(tactic| intros $xs*)=>if xs.isEmpty then Macro.throwUnsupported else return Jo (xs.toList.map (·.raw))
 | `(tactic| show $t:term)=>return cH "refine' (' [anonymous]. hygieneInfo1 Term.hygienicLParen2 ?' _' Term.syntheticHole2 :' 0$ null1 )' Term.typeAscription5 refine2" [t]
open Lean in
local macro_rules
 | `($m:declModifiers $b:definition)=>rK m b
 | `($m:declModifiers $b:theorem)=>rK m b
 | `($m:declModifiers $b:abbrev)=>rK m b
 | `($m:declModifiers $b:structure)=>rK m b
 | `($m:declModifiers $b:inductive)=>rK m b
@[elab_as_elim] def Wd {α:Sort _}{a b:α}{p:α->Prop}(h:a=b)(x:p b):p a:=h ▸ x
@[elab_as_elim] def We {α:Sort _}{a b:α}{p:α->Prop}(h:a=b)(x:p a):p b:=h ▸ x
section
variable {A B C D E F H I J K L M G:Prop}
def and2 (h:A/\B)(f:A->B->G):G:=f h.1 h.2
def and3 (h:A/\B/\C)(f:A->B->C->G):G:=and2 h.2 (f h.1)
def and4 (h:A/\B/\C/\D)(f:A->B->C->D->G):G:=and3 h.2 (f h.1)
def and5 (h:A/\B/\C/\D/\E)(f:A->B->C->D->E->G):G:=and4 h.2 (f h.1)
def and6 (h:A/\B/\C/\D/\E/\F)(f:A->B->C->D->E->F->G):G:=and5 h.2 (f h.1)
def and7 (h:A/\B/\C/\D/\E/\F/\H)(f:A->B->C->D->E->F->H->G):G:=and6 h.2 (f h.1)
def and8 (h:A/\B/\C/\D/\E/\F/\H/\I)(f:A->B->C->D->E->F->H->I->G):G:=and7 h.2 (f h.1)
def and9 (h:A/\B/\C/\D/\E/\F/\H/\I/\J)(f:A->B->C->D->E->F->H->I->J->G):G:=and8 h.2 (f h.1)
def and10 (h:A/\B/\C/\D/\E/\F/\H/\I/\J/\K)(f:A->B->C->D->E->F->H->I->J->K->G):G:=and9 h.2 (f h.1)
def and11 (h:A/\B/\C/\D/\E/\F/\H/\I/\J/\K/\L)(f:A->B->C->D->E->F->H->I->J->K->L->G):G:=and10 h.2 (f h.1)
def and12 (h:A/\B/\C/\D/\E/\F/\H/\I/\J/\K/\L/\M)(f:A->B->C->D->E->F->H->I->J->K->L->M->G):G:=and11 h.2 (f h.1)
end
section
variable {A B C D E F H I J K:Sort _}{G:Prop}
def ex1 {R:A->Prop}(h:∃a,R a)(f:∀a,R a->G):G:=h.elim f
def ex2 {R:A->B->Prop}(h:∃a b,R a b)(f:∀a b,R a b->G):G:=h.elim λa h=>ex1 h (f a)
def ex3 {R:A->B->C->Prop}(h:∃a b c,R a b c)(f:∀a b c,R a b c->G):G:=h.elim λa h=>ex2 h (f a)
def ex4 {R:A->B->C->D->Prop}(h:∃a b c d,R a b c d)(f:∀a b c d,R a b c d->G):G:=h.elim λa h=>ex3 h (f a)
def ex5 {R:A->B->C->D->E->Prop}(h:∃a b c d e,R a b c d e)(f:∀a b c d e,R a b c d e->G):G:=h.elim λa h=>ex4 h (f a)
def ex6 {R:A->B->C->D->E->F->Prop}(h:∃a b c d e f,R a b c d e f)(f:∀a b c d e f,R a b c d e f->G):G:=h.elim λa h=>ex5 h (f a)
def ex7 {R:A->B->C->D->E->F->H->Prop}(h:∃a b c d e f g,R a b c d e f g)(f:∀a b c d e f g,R a b c d e f g->G):G:=h.elim λa h=>ex6 h (f a)
def ex8 {R:A->B->C->D->E->F->H->I->Prop}(h:∃a b c d e f g i,R a b c d e f g i)(f:∀a b c d e f g i,R a b c d e f g i->G):G:=h.elim λa h=>ex7 h (f a)
def ex9 {R:A->B->C->D->E->F->H->I->J->Prop}(h:∃a b c d e f g i j,R a b c d e f g i j)(f:∀a b c d e f g i j,R a b c d e f g i j->G):G:=h.elim λa h=>ex8 h (f a)
def ex10 {R:A->B->C->D->E->F->H->I->J->K->Prop}(h:∃a b c d e f g i j k,R a b c d e f g i j k)(f:∀a b c d e f g i j k,R a b c d e f g i j k->G):G:=h.elim λa h=>ex9 h (f a)
end
universe u
abbrev iq {α:Type u}(n:cU α)(P:α->Prop):α:=@Classical.epsilon α n λa=>¬ P a
def iK {α:Type u}{n:cU α}{P:α->Prop}(h:P (iq n P))(a:α):P a:=k9 λk=>@Classical.epsilon_spec α (λa=>¬ P a) ⟨a,k⟩ h
section
variable {A B C D E F H I J K L M N O Q R S T U V W X Y:Type u}{G:Prop}
variable (n:cU (A))(P:A->Prop)
abbrev pc1:=iq n λt=>P t
def pk1 (h:P (pc1 n P))(a):P a:=iK (P:=λt=>P t) h a
abbrev oc1:=pc1 n λa=>¬ P a
def ox1 (h:∃a,P a)(f:P (oc1 n P)->G):G:=k9 λg=>ex1 h (pk1 n (λa=>¬ P a) λr=>g (f r))
variable (n:cU (A×B))(P:A->B->Prop)
abbrev pc2:=iq n λt=>P t.1 t.2
def pk2 (h:P (pc2 n P).1 (pc2 n P).2)(a b):P a b:=iK (P:=λt=>P t.1 t.2) h (a,b)
abbrev oc2:=pc2 n λa b=>¬ P a b
def ox2 (h:∃a b,P a b)(f:P (oc2 n P).1 (oc2 n P).2->G):G:=k9 λg=>ex2 h (pk2 n (λa b=>¬ P a b) λr=>g (f r))
variable (n:cU ((A×B)×C))(P:A->B->C->Prop)
abbrev pc3:=iq n λt=>P t.1.1 t.1.2 t.2
def pk3 (h:P (pc3 n P).1.1 (pc3 n P).1.2 (pc3 n P).2)(a b c):P a b c:=iK (P:=λt=>P t.1.1 t.1.2 t.2) h ((a,b),c)
abbrev oc3:=pc3 n λa b c=>¬ P a b c
def ox3 (h:∃a b c,P a b c)(f:P (oc3 n P).1.1 (oc3 n P).1.2 (oc3 n P).2->G):G:=k9 λg=>ex3 h (pk3 n (λa b c=>¬ P a b c) λr=>g (f r))
variable (n:cU ((A×B)×C×D))(P:A->B->C->D->Prop)
abbrev pc4:=iq n λt=>P t.1.1 t.1.2 t.2.1 t.2.2
def pk4 (h:P (pc4 n P).1.1 (pc4 n P).1.2 (pc4 n P).2.1 (pc4 n P).2.2)(a b c d):P a b c d:=iK (P:=λt=>P t.1.1 t.1.2 t.2.1 t.2.2) h ((a,b),(c,d))
abbrev oc4:=pc4 n λa b c d=>¬ P a b c d
def ox4 (h:∃a b c d,P a b c d)(f:P (oc4 n P).1.1 (oc4 n P).1.2 (oc4 n P).2.1 (oc4 n P).2.2->G):G:=k9 λg=>ex4 h (pk4 n (λa b c d=>¬ P a b c d) λr=>g (f r))
variable (n:cU (((A×B)×C)×D×E))(P:A->B->C->D->E->Prop)
abbrev pc5:=iq n λt=>P t.1.1.1 t.1.1.2 t.1.2 t.2.1 t.2.2
def pk5 (h:P (pc5 n P).1.1.1 (pc5 n P).1.1.2 (pc5 n P).1.2 (pc5 n P).2.1 (pc5 n P).2.2)(a b c d e):P a b c d e:=iK (P:=λt=>P t.1.1.1 t.1.1.2 t.1.2 t.2.1 t.2.2) h (((a,b),c),(d,e))
abbrev oc5:=pc5 n λa b c d e=>¬ P a b c d e
def ox5 (h:∃a b c d e,P a b c d e)(f:P (oc5 n P).1.1.1 (oc5 n P).1.1.2 (oc5 n P).1.2 (oc5 n P).2.1 (oc5 n P).2.2->G):G:=k9 λg=>ex5 h (pk5 n (λa b c d e=>¬ P a b c d e) λr=>g (f r))
variable (n:cU (((A×B)×C)×(D×E)×F))(P:A->B->C->D->E->F->Prop)
abbrev pc6:=iq n λt=>P t.1.1.1 t.1.1.2 t.1.2 t.2.1.1 t.2.1.2 t.2.2
def pk6 (h:P (pc6 n P).1.1.1 (pc6 n P).1.1.2 (pc6 n P).1.2 (pc6 n P).2.1.1 (pc6 n P).2.1.2 (pc6 n P).2.2)(a b c d e f):P a b c d e f:=iK (P:=λt=>P t.1.1.1 t.1.1.2 t.1.2 t.2.1.1 t.2.1.2 t.2.2) h (((a,b),c),((d,e),f))
abbrev oc6:=pc6 n λa b c d e f=>¬ P a b c d e f
def ox6 (h:∃a b c d e f,P a b c d e f)(f:P (oc6 n P).1.1.1 (oc6 n P).1.1.2 (oc6 n P).1.2 (oc6 n P).2.1.1 (oc6 n P).2.1.2 (oc6 n P).2.2->G):G:=k9 λg=>ex6 h (pk6 n (λa b c d e f=>¬ P a b c d e f) λr=>g (f r))
variable (n:cU (((A×B)×C×D)×(E×F)×H))(P:A->B->C->D->E->F->H->Prop)
abbrev pc7:=iq n λt=>P t.1.1.1 t.1.1.2 t.1.2.1 t.1.2.2 t.2.1.1 t.2.1.2 t.2.2
def pk7 (h:P (pc7 n P).1.1.1 (pc7 n P).1.1.2 (pc7 n P).1.2.1 (pc7 n P).1.2.2 (pc7 n P).2.1.1 (pc7 n P).2.1.2 (pc7 n P).2.2)(a b c d e f g):P a b c d e f g:=iK (P:=λt=>P t.1.1.1 t.1.1.2 t.1.2.1 t.1.2.2 t.2.1.1 t.2.1.2 t.2.2) h (((a,b),(c,d)),((e,f),g))
abbrev oc7:=pc7 n λa b c d e f g=>¬ P a b c d e f g
def ox7 (h:∃a b c d e f g,P a b c d e f g)(f:P (oc7 n P).1.1.1 (oc7 n P).1.1.2 (oc7 n P).1.2.1 (oc7 n P).1.2.2 (oc7 n P).2.1.1 (oc7 n P).2.1.2 (oc7 n P).2.2->G):G:=k9 λg=>ex7 h (pk7 n (λa b c d e f g=>¬ P a b c d e f g) λr=>g (f r))
variable (n:cU (((A×B)×C×D)×(E×F)×H×I))(P:A->B->C->D->E->F->H->I->Prop)
abbrev pc8:=iq n λt=>P t.1.1.1 t.1.1.2 t.1.2.1 t.1.2.2 t.2.1.1 t.2.1.2 t.2.2.1 t.2.2.2
def pk8 (h:P (pc8 n P).1.1.1 (pc8 n P).1.1.2 (pc8 n P).1.2.1 (pc8 n P).1.2.2 (pc8 n P).2.1.1 (pc8 n P).2.1.2 (pc8 n P).2.2.1 (pc8 n P).2.2.2)(a b c d e f g i):P a b c d e f g i:=iK (P:=λt=>P t.1.1.1 t.1.1.2 t.1.2.1 t.1.2.2 t.2.1.1 t.2.1.2 t.2.2.1 t.2.2.2) h (((a,b),(c,d)),((e,f),(g,i)))
abbrev oc8:=pc8 n λa b c d e f g i=>¬ P a b c d e f g i
def ox8 (h:∃a b c d e f g i,P a b c d e f g i)(f:P (oc8 n P).1.1.1 (oc8 n P).1.1.2 (oc8 n P).1.2.1 (oc8 n P).1.2.2 (oc8 n P).2.1.1 (oc8 n P).2.1.2 (oc8 n P).2.2.1 (oc8 n P).2.2.2->G):G:=k9 λg=>ex8 h (pk8 n (λa b c d e f g i=>¬ P a b c d e f g i) λr=>g (f r))
variable (n:cU ((((A×B)×C)×D×E)×(F×H)×I×J))(P:A->B->C->D->E->F->H->I->J->Prop)
abbrev pc9:=iq n λt=>P t.1.1.1.1 t.1.1.1.2 t.1.1.2 t.1.2.1 t.1.2.2 t.2.1.1 t.2.1.2 t.2.2.1 t.2.2.2
def pk9 (h:P (pc9 n P).1.1.1.1 (pc9 n P).1.1.1.2 (pc9 n P).1.1.2 (pc9 n P).1.2.1 (pc9 n P).1.2.2 (pc9 n P).2.1.1 (pc9 n P).2.1.2 (pc9 n P).2.2.1 (pc9 n P).2.2.2)(a b c d e f g i j):P a b c d e f g i j:=iK (P:=λt=>P t.1.1.1.1 t.1.1.1.2 t.1.1.2 t.1.2.1 t.1.2.2 t.2.1.1 t.2.1.2 t.2.2.1 t.2.2.2) h ((((a,b),c),(d,e)),((f,g),(i,j)))
abbrev oc9:=pc9 n λa b c d e f g i j=>¬ P a b c d e f g i j
def ox9 (h:∃a b c d e f g i j,P a b c d e f g i j)(f:P (oc9 n P).1.1.1.1 (oc9 n P).1.1.1.2 (oc9 n P).1.1.2 (oc9 n P).1.2.1 (oc9 n P).1.2.2 (oc9 n P).2.1.1 (oc9 n P).2.1.2 (oc9 n P).2.2.1 (oc9 n P).2.2.2->G):G:=k9 λg=>ex9 h (pk9 n (λa b c d e f g i j=>¬ P a b c d e f g i j) λr=>g (f r))
variable (n:cU ((((A×B)×C)×D×E)×((F×H)×I)×J×K))(P:A->B->C->D->E->F->H->I->J->K->Prop)
abbrev pc10:=iq n λt=>P t.1.1.1.1 t.1.1.1.2 t.1.1.2 t.1.2.1 t.1.2.2 t.2.1.1.1 t.2.1.1.2 t.2.1.2 t.2.2.1 t.2.2.2
def pk10 (h:P (pc10 n P).1.1.1.1 (pc10 n P).1.1.1.2 (pc10 n P).1.1.2 (pc10 n P).1.2.1 (pc10 n P).1.2.2 (pc10 n P).2.1.1.1 (pc10 n P).2.1.1.2 (pc10 n P).2.1.2 (pc10 n P).2.2.1 (pc10 n P).2.2.2)(a b c d e f g i j k):P a b c d e f g i j k:=iK (P:=λt=>P t.1.1.1.1 t.1.1.1.2 t.1.1.2 t.1.2.1 t.1.2.2 t.2.1.1.1 t.2.1.1.2 t.2.1.2 t.2.2.1 t.2.2.2) h ((((a,b),c),(d,e)),(((f,g),i),(j,k)))
abbrev oc10:=pc10 n λa b c d e f g i j k=>¬ P a b c d e f g i j k
def ox10 (h:∃a b c d e f g i j k,P a b c d e f g i j k)(f:P (oc10 n P).1.1.1.1 (oc10 n P).1.1.1.2 (oc10 n P).1.1.2 (oc10 n P).1.2.1 (oc10 n P).1.2.2 (oc10 n P).2.1.1.1 (oc10 n P).2.1.1.2 (oc10 n P).2.1.2 (oc10 n P).2.2.1 (oc10 n P).2.2.2->G):G:=k9 λg=>ex10 h (pk10 n (λa b c d e f g i j k=>¬ P a b c d e f g i j k) λr=>g (f r))
variable (n:cU ((((A×B)×C×D)×(E×F)×H)×((I×J)×K)×(L×M)×N))(P:A->B->C->D->E->F->H->I->J->K->L->M->N->Prop)
abbrev pc13:=iq n λt=>P t.1.1.1.1 t.1.1.1.2 t.1.1.2.1 t.1.1.2.2 t.1.2.1.1 t.1.2.1.2 t.1.2.2 t.2.1.1.1 t.2.1.1.2 t.2.1.2 t.2.2.1.1 t.2.2.1.2 t.2.2.2
def pk13 (h:P (pc13 n P).1.1.1.1 (pc13 n P).1.1.1.2 (pc13 n P).1.1.2.1 (pc13 n P).1.1.2.2 (pc13 n P).1.2.1.1 (pc13 n P).1.2.1.2 (pc13 n P).1.2.2 (pc13 n P).2.1.1.1 (pc13 n P).2.1.1.2 (pc13 n P).2.1.2 (pc13 n P).2.2.1.1 (pc13 n P).2.2.1.2 (pc13 n P).2.2.2)(a b c d e f g i j k l m o):P a b c d e f g i j k l m o:=iK (P:=λt=>P t.1.1.1.1 t.1.1.1.2 t.1.1.2.1 t.1.1.2.2 t.1.2.1.1 t.1.2.1.2 t.1.2.2 t.2.1.1.1 t.2.1.1.2 t.2.1.2 t.2.2.1.1 t.2.2.1.2 t.2.2.2) h ((((a,b),(c,d)),((e,f),g)),(((i,j),k),((l,m),o)))
variable (n:cU ((((A×B)×C×D)×(E×F)×H×I)×((J×K)×L×M)×(N×O)×Q×R))(P:A->B->C->D->E->F->H->I->J->K->L->M->N->O->Q->R->Prop)
abbrev pc16:=iq n λt=>P t.1.1.1.1 t.1.1.1.2 t.1.1.2.1 t.1.1.2.2 t.1.2.1.1 t.1.2.1.2 t.1.2.2.1 t.1.2.2.2 t.2.1.1.1 t.2.1.1.2 t.2.1.2.1 t.2.1.2.2 t.2.2.1.1 t.2.2.1.2 t.2.2.2.1 t.2.2.2.2
def pk16 (h:P (pc16 n P).1.1.1.1 (pc16 n P).1.1.1.2 (pc16 n P).1.1.2.1 (pc16 n P).1.1.2.2 (pc16 n P).1.2.1.1 (pc16 n P).1.2.1.2 (pc16 n P).1.2.2.1 (pc16 n P).1.2.2.2 (pc16 n P).2.1.1.1 (pc16 n P).2.1.1.2 (pc16 n P).2.1.2.1 (pc16 n P).2.1.2.2 (pc16 n P).2.2.1.1 (pc16 n P).2.2.1.2 (pc16 n P).2.2.2.1 (pc16 n P).2.2.2.2)(a b c d e f g i j k l m o p q r):P a b c d e f g i j k l m o p q r:=iK (P:=λt=>P t.1.1.1.1 t.1.1.1.2 t.1.1.2.1 t.1.1.2.2 t.1.2.1.1 t.1.2.1.2 t.1.2.2.1 t.1.2.2.2 t.2.1.1.1 t.2.1.1.2 t.2.1.2.1 t.2.1.2.2 t.2.2.1.1 t.2.2.1.2 t.2.2.2.1 t.2.2.2.2) h ((((a,b),(c,d)),((e,f),(g,i))),(((j,k),(l,m)),((o,p),(q,r))))
variable (n:cU (((((A×B)×C)×D×E)×((F×H)×I)×J×K)×(((L×M)×N)×O×Q)×((R×S)×T)×U×V))(P:A->B->C->D->E->F->H->I->J->K->L->M->N->O->Q->R->S->T->U->V->Prop)
abbrev pc20:=iq n λt=>P t.1.1.1.1.1 t.1.1.1.1.2 t.1.1.1.2 t.1.1.2.1 t.1.1.2.2 t.1.2.1.1.1 t.1.2.1.1.2 t.1.2.1.2 t.1.2.2.1 t.1.2.2.2 t.2.1.1.1.1 t.2.1.1.1.2 t.2.1.1.2 t.2.1.2.1 t.2.1.2.2 t.2.2.1.1.1 t.2.2.1.1.2 t.2.2.1.2 t.2.2.2.1 t.2.2.2.2
def pk20 (h:P (pc20 n P).1.1.1.1.1 (pc20 n P).1.1.1.1.2 (pc20 n P).1.1.1.2 (pc20 n P).1.1.2.1 (pc20 n P).1.1.2.2 (pc20 n P).1.2.1.1.1 (pc20 n P).1.2.1.1.2 (pc20 n P).1.2.1.2 (pc20 n P).1.2.2.1 (pc20 n P).1.2.2.2 (pc20 n P).2.1.1.1.1 (pc20 n P).2.1.1.1.2 (pc20 n P).2.1.1.2 (pc20 n P).2.1.2.1 (pc20 n P).2.1.2.2 (pc20 n P).2.2.1.1.1 (pc20 n P).2.2.1.1.2 (pc20 n P).2.2.1.2 (pc20 n P).2.2.2.1 (pc20 n P).2.2.2.2)(a b c d e f g i j k l m o p q r s t u v):P a b c d e f g i j k l m o p q r s t u v:=iK (P:=λt=>P t.1.1.1.1.1 t.1.1.1.1.2 t.1.1.1.2 t.1.1.2.1 t.1.1.2.2 t.1.2.1.1.1 t.1.2.1.1.2 t.1.2.1.2 t.1.2.2.1 t.1.2.2.2 t.2.1.1.1.1 t.2.1.1.1.2 t.2.1.1.2 t.2.1.2.1 t.2.1.2.2 t.2.2.1.1.1 t.2.2.1.1.2 t.2.2.1.2 t.2.2.2.1 t.2.2.2.2) h (((((a,b),c),(d,e)),(((f,g),i),(j,k))),((((l,m),o),(p,q)),(((r,s),t),(u,v))))
variable (n:cU (((((A×B)×C)×(D×E)×F)×((H×I)×J)×(K×L)×M)×(((N×O)×Q)×(R×S)×T)×((U×V)×W)×X×Y))(P:A->B->C->D->E->F->H->I->J->K->L->M->N->O->Q->R->S->T->U->V->W->X->Y->Prop)
abbrev pc23:=iq n λt=>P t.1.1.1.1.1 t.1.1.1.1.2 t.1.1.1.2 t.1.1.2.1.1 t.1.1.2.1.2 t.1.1.2.2 t.1.2.1.1.1 t.1.2.1.1.2 t.1.2.1.2 t.1.2.2.1.1 t.1.2.2.1.2 t.1.2.2.2 t.2.1.1.1.1 t.2.1.1.1.2 t.2.1.1.2 t.2.1.2.1.1 t.2.1.2.1.2 t.2.1.2.2 t.2.2.1.1.1 t.2.2.1.1.2 t.2.2.1.2 t.2.2.2.1 t.2.2.2.2
def pk23 (h:P (pc23 n P).1.1.1.1.1 (pc23 n P).1.1.1.1.2 (pc23 n P).1.1.1.2 (pc23 n P).1.1.2.1.1 (pc23 n P).1.1.2.1.2 (pc23 n P).1.1.2.2 (pc23 n P).1.2.1.1.1 (pc23 n P).1.2.1.1.2 (pc23 n P).1.2.1.2 (pc23 n P).1.2.2.1.1 (pc23 n P).1.2.2.1.2 (pc23 n P).1.2.2.2 (pc23 n P).2.1.1.1.1 (pc23 n P).2.1.1.1.2 (pc23 n P).2.1.1.2 (pc23 n P).2.1.2.1.1 (pc23 n P).2.1.2.1.2 (pc23 n P).2.1.2.2 (pc23 n P).2.2.1.1.1 (pc23 n P).2.2.1.1.2 (pc23 n P).2.2.1.2 (pc23 n P).2.2.2.1 (pc23 n P).2.2.2.2)(a b c d e f g i j k l m o p q r s t u v w x y):P a b c d e f g i j k l m o p q r s t u v w x y:=iK (P:=λt=>P t.1.1.1.1.1 t.1.1.1.1.2 t.1.1.1.2 t.1.1.2.1.1 t.1.1.2.1.2 t.1.1.2.2 t.1.2.1.1.1 t.1.2.1.1.2 t.1.2.1.2 t.1.2.2.1.1 t.1.2.2.1.2 t.1.2.2.2 t.2.1.1.1.1 t.2.1.1.1.2 t.2.1.1.2 t.2.1.2.1.1 t.2.1.2.1.2 t.2.1.2.2 t.2.2.1.1.1 t.2.2.1.1.2 t.2.2.1.2 t.2.2.2.1 t.2.2.2.2) h (((((a,b),c),((d,e),f)),(((g,i),j),((k,l),m))),((((o,p),q),((r,s),t)),(((u,v),w),(x,y))))
end
open PySem
set_option genInjectivity true in
inductive AV where
 |none |bool (b:aB) |int (i:Int) |str (s:au)
 |one (a:AV) |pair (a b:AV) |dB (a b c:AV)
 |ref (i:ak) |fn (n:au) |ty (n:aI) |bi (n:aI)
 |gU (l:ah Int) |code (q:au) |cL (l:ah au)
deriving Inhabited
inductive AO where
 |list (l:ah AV) |cell (v:ax AV) |inst (d:ak) |bc (l:ah (au×AV))
 |dict (l:ah ((au ⊕ Int)×AV)) |iter (src:ax ak) (i:ak) |obj
 |lam (args:fg) (body:aH) (sc:bN) (cel:ah (au×ak))
deriving Inhabited
@[reducible] abbrev St:=ah AO
inductive Res (β:Type) where
 |ok (b:β) |err (k:aI)
structure P (β:Type) where
 run:St->(Res β->St->Prop)->Prop
 mono:∀{st:St} {p q:Res β->St->Prop},(∀r bh,p r bh->q r bh)->run st p->run st q
namespace P
abbrev pure {β:Type}(b:β):P β:=⟨λst p=>p (.ok b) st,λh x=>h _ _ x⟩
abbrev fail {β:Type}:P β:=⟨λu u=>dm,λu x=>x⟩
abbrev err {β:Type}(k:aI):P β:=⟨λst p=>p (.err k) st,λh x=>h _ _ x⟩
abbrev bind {β γ:Type}(m:P β)(f:β->P γ):P γ:=
 ⟨λst p=>m.run st λr bh=>match r with
  |.ok b=>(f b).run bh p
  |.err k=>p (.err k) bh,
   λ{st p q} h x=>m.mono (λr bh y=>by
  cases r with
  |ok b=>exact(f b).mono h y
  |err k=>exact h _ _ y) x⟩
noncomputable instance:Monad P where
 pure:=P.pure
 bind:=P.bind
abbrev get:P St:=⟨λst p=>p (.ok st) st,λh x=>h _ _ x⟩
abbrev set (bh:St):P b8:=⟨λu p=>p (.ok ()) bh,λh x=>h _ _ x⟩
abbrev perm {α:Type}(l:ah α):P (ah α):=⟨λst p=>∀l',l'.Perm l->p (.ok l') st,λh x l' hl=>h _ _ (x l' hl)⟩
abbrev uC {β γ:Type}(m:P β)(ok:β->P γ)(bad:aI->P γ):P γ:=
 ⟨λst p=>m.run st λr bh=>match r with
  |.ok b=>(ok b).run bh p
  |.err k=>(bad k).run bh p,
   λ{st p q} h x=>m.mono (λr bh y=>by
  cases r with
  |ok b=>exact(ok b).mono h y
  |err k=>exact(bad k).mono h y) x⟩
abbrev alloc (o:AO):P ak:=⟨λst p=>p (.ok st.length) (st++[o]),λh x=>h _ _ x⟩
abbrev load (i:ak):P AO:=⟨λst p=>match st[i]? with |some o=>p (.ok o) st |Option.none=>dm,λ{st p q} h x=>by
 revert x;cases st[i]? with
 |none=>exact id
 |some o=>exact h _ _⟩
abbrev store (i:ak)(o:AO):P b8:=⟨λst p=>p (.ok ()) (st.set i o),λh x=>h _ _ x⟩
abbrev guard (c:Prop)[wq c]:P b8:=if c then P.pure ()else P.fail
abbrev opt {β:Type}:ax β->P β
 |some b=>P.pure b
 |Option.none=>P.fail
section
variable {β γ:Type}{st:St}{p:Res β->St->Prop}
@[simp] def run_pure (b:β):(P.pure b).run st p=p (.ok b) st:=rfl
@[simp] def Wf (b:β):(te b:P β).run st p=p (.ok b) st:=rfl
@[simp] def Wg:(P.fail:P β).run st p=dm:=rfl
@[simp] def Wh (k:aI):(P.err k:P β).run st p=p (.err k) st:=rfl
def run_bind (m:P γ)(f:γ->P β):(m>>=f).run st p=m.run st λr bh=>match r with
  |.ok b=>(f b).run bh p
  |.err k=>p (.err k) bh:=rfl
@[simp] def Wi {p:Res ak->St->Prop}(o:AO):(P.alloc o).run st p=p (.ok st.length) (st++[o]):=rfl
@[simp] def Wj {p:Res b8->St->Prop}(i:ak)(o:AO):(P.store i o).run st p=p (.ok ()) (st.set i o):=rfl
def run_load {p:Res AO->St->Prop}{i:ak}{o:AO}(h:st[i]? =ae o):(P.load i).run st p=p (.ok o) st:=by
 show(match st[i]? with |some o=>p (.ok o) st |Option.none=>dm)=_;rw[h]
end
end P
@[reducible] abbrev Or:=AV->ah AV->ah (au×AV)->P AV
inductive FL where
 |next |brk |cont |ret (v:AV)
inductive AI where
 |list (src:ax ak) (i:ak)
 |set (left:ah au)
 |range (cur:Int) (left:ak) (step:Int)
 |zip (a b:AI)
 |enum (n:Int) (a:AI)
 |obj (i:ak)
abbrev lst (i:ak):P (ah AV):=do
 match <-P.load i with
 |.list l=>P.pure l
 |_=>P.fail
abbrev bx:AI->P (ax (AV×AI))
 |.list bq _=>P.pure bq
 |.list (ae s) i=>do
  let l <-lst s
  match l[i]? with
  |some v=>P.pure (ae (v,.list (ae s) (i+1)))
  |Option.none=>P.pure bq
 |.set []=>P.pure bq
 |.set (v :: l)=>P.pure (ae (.str v,.set l))
 |.range _ 0 _=>P.pure bq
 |.range c (n+1) d=>P.pure (ae (.int c,.range (c+d) n d))
 |.zip a b=>do
  match <-bx a with
  |Option.none=>P.pure bq
  |some (x,a')=>
   match <-bx b with
   |Option.none=>P.pure bq
   |some (y,b')=>P.pure (ae (.pair x y,.zip a' b'))
 |.enum n a=>do
  match <-bx a with
  |Option.none=>P.pure bq
  |some (x,a')=>P.pure (ae (.pair (.int n) x,.enum (n+1) a'))
 |.obj i=>do
  match <-P.load i with
  |.iter bq _=>P.pure bq
  |.iter (ae s) k=>
   let l <-lst s
   match l[k]? with
   |some v=>P.store i (.iter (ae s) (k+1));P.pure (ae (v,.obj i))
   |Option.none=>P.store i (.iter bq 0);P.pure bq
  |_=>P.fail
abbrev c8 (f:AV->ax hX):ah AV->ax (ah hX)
 | []=>ae []
 |x :: l=>match f x,c8 f l with
  |some d,ae ds=>ae (d :: ds)
  |_,_=>bq
abbrev uD:AV->ax hX
 |.none=>ae .none
 |.bool b=>ae (.bool b)
 |.int i=>ae (.int i)
 |.str s=>if cY s then ae (.str s)else bq
 |_=>bq
abbrev gb:AV->ax (ah AV)
 |.one a=>ae [a]
 |.pair a b=>ae [a,b]
 |.dB a b c=>ae [a,b,c]
 |_=>bq
abbrev refOf:AV->ax ak
 |.ref i=>ae i
 |_=>bq
abbrev listOf:AO->ax (ah AV)
 |.list l=>ae l
 |_=>bq
abbrev a8:ak->St->AV->ax hX
 | 0,_,v=>uD v
 |n+1,st,v=>match gb v with
  |some l=>(c8 (a8 n st) l).map .tuple
  |Option.none=>match refOf v with
   |some i=>(st[i]?.bind listOf).bind λl=>(c8 (a8 n st) l).map .list
   |Option.none=>uD v
abbrev dF:AV->P Int
 |.int i=>P.pure i
 |_=>P.fail
abbrev nz:AV->P au
 |.str i=>P.pure i
 |_=>P.fail
abbrev Js:AV->P aI
 |.ty i=>P.pure i
 |_=>P.fail
abbrev e6:AV->P ak
 |.ref i=>P.pure i
 |_=>P.fail
abbrev oL:ah AV->P AV
 | [a,b]=>P.pure (.pair a b)
 | [a,b,c]=>P.pure (.dB a b c)
 |_=>P.fail
abbrev cz (l:ah AV):P AV:=do
 P.guard (l.length<=4096)
 let i <-P.alloc (.list l)
 P.pure (.ref i)
abbrev eD:AV->P aB
 |.none=>P.pure az
 |.bool b=>P.pure b
 |.int i=>P.pure (i != 0)
 |.str s=>do P.guard (s.length<=4096);P.pure (s.length != 0)
 |.ref i=>do
  match <-P.load i with
  |.list l=>P.pure (!l.isEmpty)
  |.dict l=>P.pure (!l.isEmpty)
  |_=>P.fail
 |_=>P.fail
abbrev Jt:jU->Int->Int->P AV
 |.Add,a,b=>P.pure (.int (a+b))
 |.Sub,a,b=>P.pure (.int (a - b))
 |.Mult,a,b=>do P.guard (a.natAbs < 2 ^ 62/\b.natAbs < 2 ^ 62);P.pure (.int (a * b))
 |.FloorDiv,a,b=>do P.guard (0 < b/\b < 2 ^ 29);P.pure (.int (a.fdiv b))
 |.Mod,a,b=>do P.guard (0 < b/\b < 2 ^ 29);P.pure (.int (a.fmod b))
 |.Pow,a,b=>do P.guard (0<=b/\b<=60/\a.natAbs < 2 ^ 62);P.pure (.int (a ^ b.toNat))
 |.RShift,a,b=>do P.guard (b=1);P.pure (.int (a.fdiv 2))
 |_,_,_=>P.fail
abbrev gc (op:jU)(a b:AV):P AV:=match a with
 |.int i=>do
  let j <-dF b
  Jt op i j
 |.str x=>do
  P.guard (op= .Add)
  let y <-nz b
  P.guard (x.length+y.length<=4096);P.pure (.str (x++y))
 |.ref i=>do
  P.guard (op= .Add)
  let j <-e6 b
  cz ((<-lst i)++(<-lst j))
 |_=>P.fail
abbrev lF (a b:AV):P aB:=do
 let st <-P.get
 match a8 8 st a,a8 8 st b with
 |some x,ae y=>P.pure (bY x y)
 |_,_=>P.fail
abbrev xy (x:AV)(l:ah AV):P aB:=do
 let st <-P.get
 match a8 8 st x,c8 (a8 8 st) l with
 |some d,ae ds=>P.pure (ds.any λy=>bY y d)
 |_,_=>P.fail
abbrev gC:AV->ax (au ⊕ Int)
 |.str x=>ae (.inl x)
 |.int i=>ae (.inr i)
 |_=>bq
abbrev eE (l:ah ((au ⊕ Int)×AV))(k:au ⊕ Int):ax AV:=(l.find? λp=>p.1=k).map (·.2)
abbrev putD (l:ah ((au ⊕ Int)×AV))(k:au ⊕ Int)(v:AV):ah ((au ⊕ Int)×AV):=
 if l.any (λp=>p.1=k)then l.map (λp=>if p.1=k then (p.1,v)else p)else l++[(k,v)]
abbrev keyOk:AV->aB
 |.str _=>aj
 |.int _=>aj
 |_=>az
abbrev inSet (l:ah au):AV->aB
 |.str y=>l.contains y
 |_=>az
abbrev intOf:AV->ax Int
 |.int i=>ae i
 |_=>bq
abbrev nB:AV->ax (Int×Int)
 |.dB a b _=>(intOf a).bind λi=>(intOf b).map λj=>(i,j)
 |_=>bq
abbrev BQ:ax (Int×Int)->ax (Int×Int)->P aB
 |some (a,b),ae (c,d)=>if a=c then (if b=d then P.fail else P.pure (decide (b < d)))else P.pure (decide (a < c))
 |_,_=>P.fail
abbrev xA:AV->aB
 |.none=>aj
 |_=>az
abbrev BR (a b:AV):P aB:=match a with
 |.int i=>do
  let j <-dF b
  P.pure (decide (i < j))
 |_=>BQ (nB a) (nB b)
abbrev isA (a b:AV):P aB:=match b with
 |.none=>P.pure (xA a)
 |.ref j=>match refOf a with
  |some i=>P.pure (i == j)
  |Option.none=>do
   let _ <-P.opt (gb a)
   P.pure az
 |.ty n=>do
  let m <-Js a
  P.pure (m == n)
 |_=>P.fail
abbrev BS (x b:AV):P aB:=match b with
 |.cL l=>do P.guard (keyOk x=aj);P.pure (inSet l x)
 |.ref i=>do
  match <-P.load i with
  |.list l=>xy x l
  |.dict l=>do
   let k <-P.opt (gC x)
   P.pure (eE l k).isSome
  |_=>P.fail
 |_=>P.fail
abbrev dQ (op:pz)(a b:AV):P aB:=match op with
 |.Eq=>lF a b
 |.NotEq=>do return !(<-lF a b)
 |.Lt=>BR a b
 |.Gt=>do
  let i <-dF a
  let j <-dF b
  P.pure (decide (i > j))
 |.GtE=>do
  let i <-dF a
  let j <-dF b
  P.pure (decide (i ≥ j))
 |.Is=>isA a b
 |.In=>BS a b
 |_=>P.fail
abbrev ir (t k:AV):P AV:=match refOf t with
 |some i=>do
  let o <-P.load i
  match o with
  |.list l=>do
   let j <-dF k
   P.guard (-(2 ^ 62) < j/\j < 2 ^ 62)
   P.opt (if 0<=j then l[j.toNat]? else if 0<=j+l.length then l[(j+l.length).toNat]? else bq)
  |.dict l=>do
   let k <-P.opt (gC k)
   P.opt (eE l k)
  |_=>P.fail
 |Option.none=>do
  let j <-dF k
  P.guard (0<=j/\j < 8)
  let l <-P.opt (gb t)
  P.opt l[j.toNat]?
abbrev oM:ax AV->P (ax Int)
 |Option.none=>P.pure bq
 |some v=>do
  let j <-dF v
  P.pure (ae j)
abbrev ix (d n:ak):ax Int->ak
 |Option.none=>d
 |some j=>min j.toNat n
abbrev nC:ax Int->aB
 |Option.none=>aj
 |some j=>decide (0<=j) && decide (j < 2 ^ 62)
abbrev uE (l:ah AV)(a b:ax Int):P AV:=do
 P.guard (nC a=aj/\nC b=aj)
 cz ((l.take (ix l.length l.length b)).drop (ix 0 l.length a))
abbrev kl (x:AV)(lo hi:ax AV):P AV:=do
 let a <-oM lo
 let b <-oM hi
 match x with
 |.ref i=>do
  let l <-lst i
  uE l a b
 |.gU l=>uE (l.map .int) a b
 |.str s=>do
  P.guard (s.length<=4096)
  P.pure (.str (lg s a b))
 |_=>P.fail
abbrev oN (x k v:AV):P b8:=do
 let i <-e6 x
 let o <-P.load i
 match o with
 |.list l=>do
  let j <-dF k
  P.guard (0<=j/\j.toNat < l.length/\j < 2 ^ 62)
  P.store i (.list (l.set j.toNat v))
 |.dict l=>do
  let k <-P.opt (gC k)
  P.guard (l.length<=64)
  P.store i (.dict (putD l k v))
 |_=>P.fail
abbrev putField (l:ah (au×AV))(k:au)(v:AV):ah (au×AV):=
 if l.any (λp=>p.1 == k)then l.map (λp=>if p.1 == k then (p.1,v)else p)else l++[(k,v)]
abbrev xB:AV->aB
 |.bi _=>az
 |_=>aj
abbrev p4:ah au:=[aq "_mods",aq "_dirs",aq "_ignore"]
abbrev uF (i:ak):P (ak×ah (au×AV)):=do
 match <-P.load i with
 |.inst d=>do
  match <-P.load d with
  |.bc l=>P.pure (d,l)
  |_=>P.fail
 |_=>P.fail
abbrev mx (o:AV)(n:au):P AV:=do
 P.guard (n∈p4)
 let i <-e6 o
 let p <-uF i
 let v <-P.opt (p.2.lookup n)
 P.guard (xB v=aj)
 P.pure v
abbrev p5 (o:AV)(n:au)(v:AV):P b8:=do
 P.guard (n∈p4)
 let i <-e6 o
 let p <-uF i
 P.guard (p.2.length<=64)
 P.store p.1 (.bc (putField p.2 n v))
abbrev rL (i:ak):P AI:=do
 match <-P.load i with
 |.list _=>P.pure (.list (ae i) 0)
 |.iter _ _=>P.pure (.obj i)
 |_=>P.fail
abbrev jG:AV->P AI
 |.ref i=>rL i
 |.cL l=>do
  let l' <-P.perm l
  P.pure (.set l')
 |_=>P.fail
abbrev intsOf:ah AV->ax (ah Int)
 | []=>ae []
 |.int i :: l=>(intsOf l).map (i :: ·)
 |_ :: _=>bq
abbrev sortBy {α:Type}(lt:α->α->aB):ah α->ah α
 | []=>[]
 |x :: l=>cf lt x (sortBy lt l)
where
 cf (lt:α->α->aB) (x:α):ah α->ah α
  | []=>[x]
  |y :: l=>if lt y x then y :: cf lt x l else x :: y :: l
abbrev cX (a b:Int×Int):aB:=decide (a.1 < b.1) || (a.1 == b.1 && decide (a.2 < b.2))
abbrev rM:ah AV->ax (ah ((Int×Int)×AV))
 | []=>ae []
 |v :: l=>(nB v).bind λk=>(rM l).map ((k,v) :: ·)
abbrev uG (rev:aB)(l:ah AV):P (ah AV):=do
 let ks <-P.opt (rM l)
 P.guard ((ks.map (·.1)).Nodup/\l.length<=4)
 P.pure ((sortBy (λx y=>if rev then cX y.1 x.1 else cX x.1 y.1) ks).map (·.2))
abbrev nD (F:Or)(k:AV):ah AV->P (ah (Int×AV))
 | []=>P.pure []
 |v :: l=>do
  let i <-dF (<-F k [v] [])
  return (i,v) :: (<-nD F k l)
abbrev uH (g:aB)(i:Int)(x:AV):ax (Int×AV)->Int×AV
 |Option.none=>(i,x)
 |some p=>if (if g then decide (p.1 < i)else decide (i < p.1))then (i,x)else p
abbrev oO (F:Or)(k d:AV)(g:aB):ak->AI->ax (Int×AV)->P AV
 | 0,_,_=>P.fail
 |n+1,it,old=>do
  match <-bx it with
  |Option.none=>P.pure (old.elim d (·.2))
  |some (x,jH)=>do
   let r <-F k [x] []
   let i <-dF r
   oO F k d g n jH (ae (uH g i x old))
abbrev isCallable (x:AV):P b8:=do
 let i <-e6 x
 match <-P.load i with
 |.lam .. =>P.pure ()
 |_=>P.fail
abbrev strsOf:ah AV->ax (ah au)
 | []=>ae []
 |.str i :: l=>(strsOf l).map (i :: ·)
 |_ :: _=>bq
abbrev one:ah AV->P AV
 |x :: l=>do P.guard (l.isEmpty=aj);P.pure x
 | []=>P.fail
abbrev rN (l:ah AV):P b8:=P.guard (l.isEmpty=aj)
abbrev noKw (l:ah (au×AV)):P b8:=P.guard (l.isEmpty=aj)
abbrev p6 (n:au):ah (au×AV)->P (AV×ah (au×AV))
 |p :: l=>do P.guard (p.1=n);P.pure (p.2,l)
 | []=>P.fail
abbrev BU:AV->P b8
 |.bool aj=>P.pure ()
 |_=>P.fail
abbrev uI:ah (au×AV)->P aB
 | []=>P.pure az
 |p :: l=>do
  let q <-p6 (aq "reverse") (p :: l)
  BU q.1
  noKw q.2
  P.pure aj
inductive BI where
 |len |iter |object |sum |list |set |type |sorted |best (greatest:aB)
abbrev Ju:BI->AV
 |.len=>.bi "len" |.iter=>.bi "iter" |.object=>.ty "object" |.sum=>.bi "sum" |.list=>.ty "list" |.set=>.ty "set" |.type=>.ty "type"
 |.sorted=>.bi "sorted" |.best g=>.bi (if g then "max" else "min")
abbrev p7:AV->ax BI
 |.bi n=>if n="len" then ae .len else if n="iter" then ae .iter else if n="sum" then ae .sum else if n="sorted" then ae .sorted
  else if n="min" then ae (.best az)else if n="max" then ae (.best aj)else bq
 |.ty n=>if n="object" then ae .object else if n="list" then ae .list else if n="set" then ae .set else if n="type" then ae .type else bq
 |_=>bq
abbrev jI (F:Or)(args:ah AV)(kw:ah (au×AV)):BI->P AV
 |.len=>do
  let x <-one args
  noKw kw
  match gb x with
  |some l=>P.pure (.int l.length)
  |Option.none=>do
   let i <-e6 x
   match <-P.load i with
   |.list l=>P.pure (.int l.length)
   |.iter _ _=>P.err "TypeError"
   |_=>P.fail
 |.iter=>do
  let x <-one args
  noKw kw
  let i <-e6 x
  match <-P.load i with
  |.list _=>do let j <-P.alloc (.iter (ae i) 0);P.pure (.ref j)
  |.iter _ _=>P.pure (.ref i)
  |_=>P.fail
 |.object=>do
  rN args
  noKw kw
  let j <-P.alloc .obj
  P.pure (.ref j)
 |.sum=>do
  let x <-one args
  noKw kw
  let i <-e6 x
  let l <-lst i
  let ns <-P.opt (intsOf l)
  P.pure (.int ns.sum)
 |.list=>do
  let x <-one args
  noKw kw
  let i <-e6 x
  match <-P.load i with
  |.list l=>cz l
  |.iter s k=>match s with
   |Option.none=>cz []
   |some s=>do
    let l <-lst s
    P.guard (k<=l.length/\l.length<=4096)
    P.store i (.iter bq 0)
    cz (l.drop k)
  |_=>P.fail
 |.set=>do
  noKw kw
  if args.isEmpty then P.pure (.cL [])else do
   let x <-one args
   let i <-e6 x
   let l <-lst i
   let xs <-P.opt (strsOf l)
   P.guard (xs.Nodup/\xs.length<=3)
   P.pure (.cL xs)
 |.type=>do
  let x <-one args
  noKw kw
  match x with
  |.str _=>P.pure (.ty "str")
  |.int _=>P.pure (.ty "int")
  |_=>P.fail
 |.sorted=>do
  let x <-one args
  let q <-p6 (aq "key") kw
  let rev <-uI q.2
  let i <-e6 x
  let l <-lst i
  P.guard (l.length<=4)
  isCallable q.1
  let ks <-nD F q.1 l
  cz ((sortBy (λx y=>if rev then decide (y.1 < x.1)else decide (x.1 < y.1)) ks).map (·.2))
 |.best g=>do
  let x <-one args
  let d <-p6 (aq "default") kw
  let q <-p6 (aq "key") d.2
  noKw q.2
  let i <-e6 x
  isCallable q.1
  oO F q.1 d.1 g 65 (.obj i) bq
abbrev xC (F:Or)(f:AV)(args:ah AV)(kw:ah (au×AV)):P AV:=do
 let b <-P.opt (p7 f)
 jI F args kw b
inductive kh where
 |startswith |split |join |append |extend |pop |sort |names
deriving DecidableEq
abbrev rO (m:au):ax kh:=
 if m=aq "startswith" then ae .startswith else if m=aq "split" then ae .split else if m=aq "join" then ae .join
 else if m=aq "append" then ae .append else if m=aq "extend" then ae .extend else if m=aq "pop" then ae .pop
 else if m=aq "sort" then ae .sort else if m=aq "names" then ae .names else bq
abbrev lG (o:AV)(n:kh):P b8:=match o with
 |.str _=>P.guard (n= .startswith\/n= .split\/n= .join)
 |.ref i=>do
  match <-P.load i with
  |.list _=>P.guard (n= .append\/n= .extend\/n= .pop\/n= .sort)
  |.inst d=>do
   match <-P.load d with
   |.bc l=>P.guard (n= .names/\(l.lookup (aq "names")).isNone=aj)
   |_=>P.fail
  |_=>P.fail
 |_=>P.fail
abbrev e8 (F:Or)(o:AV)(n:kh)(args:ah AV)(kw:ah (au×AV)):P AV:=match n with
 |.startswith=>do
  let s <-nz o
  let x <-one args
  noKw kw
  let p <-nz x
  P.pure (.bool (pA s p))
 |.split=>do
  let s <-nz o
  let x <-one args
  noKw kw
  let c <-nz x
  P.guard ((c.length == 0)=az/\s.length<=4096/\(mZ s (l4 s c 0 s.length (s.length+1)) c.length).length<=4096)
  cz ((aU s c).map .str)
 |.join=>do
  let s <-nz o
  let x <-one args
  noKw kw
  let i <-e6 x
  let vs <-lst i
  let l <-P.opt (strsOf vs)
  P.guard (pB s l=aj)
  P.pure (.str (jv s l))
 |.append=>do
  let i <-e6 o
  let v <-one args
  noKw kw
  let l <-lst i
  P.guard (l.length<=4096);P.store i (.list (l++[v]));P.pure .none
 |.extend=>do
  let i <-e6 o
  let x <-one args
  noKw kw
  let j <-e6 x
  let l <-lst i
  let l' <-lst j
  P.guard (i≠j/\l.length<=4096/\l'.length<=4096)
  P.store i (.list (l++l'));P.pure .none
 |.pop=>do
  let i <-e6 o
  rN args
  noKw kw
  let l <-lst i
  let v <-P.opt l.getLast?
  P.store i (.list l.dropLast);P.pure v
 |.sort=>do
  let i <-e6 o
  rN args
  let rev <-uI kw
  let l <-lst i
  let l' <-uG rev l
  P.store i (.list l');P.pure .none
 |.names=>do
  let i <-e6 o
  noKw kw
  F (.fn (aq "_Ignore.names")) (.ref i :: args) []
abbrev p8 (n:au):ax AV:=
 if n == aq "sep" then ae (.str (aq "/"))
 else match ([("len",AV.bi "len"),("reversed",.ty "reversed"),("range",.ty "range"),("iter",.bi "iter"),("object",.ty "object"),("min",.bi "min"),("max",.bi "max"),
   ("sorted",.bi "sorted"),("zip",.ty "zip"),("type",.ty "type"),("str",.ty "str"),("int",.ty "int"),("bool",.ty "bool"),("float",.ty "float"),("tuple",.ty "tuple"),("dict",.ty "dict"),("set",.ty "set"),("enumerate",.ty "enumerate"),("sum",.bi "sum"),("list",.ty "list"),("AttributeError",.ty "AttributeError"),("TypeError",.ty "TypeError")].find? λp=>n == aq p.1)with
  |some p=>ae p.2
  |Option.none=>if ["heapreplace","heapify","_heapreplace_max","_heapify_max","_siftdown","_siftup","_siftdown_max","_siftup_max","nsmallest","nlargest","_kind","_c_path","_splitroot","_normpath","normpath","_Ignore","_law_to_be_left_out","_law_ranks","_law_few","_law_says"].any λp=>n == aq p then ae (.fn n)else bq
structure RT where
 F:Or
 cel:ah (au×ak)
 loc:ah (ax AV)
abbrev my:au:=aq "asks"
abbrev e9 (sc:bN):aB:=decide (sc.kind= .function) && !sc.isGenerator && !sc.isCoroutine && (sc.names.all λp=>p.2 != .local || sc.names.lookup p.1 == ae .local) && sc.names.lookup my != ae .cell
abbrev cM (sc:bN)(n:au):ax l5:=sc.names.lookup n
abbrev lH (sc:bN)(n:au):ax ak:=sc.names.findIdx? λp=>p.1 == n
abbrev BV (i:ak)(r:RT):P AV:=P.opt (r.loc[i]?.join)
abbrev uJ (x:au)(r:RT):P AV:=do
 let c <-P.opt (r.cel.lookup x)
 match <-P.load c with
 |.cell (ae v)=>P.pure v
 |_=>P.fail
abbrev xD (i:ak)(v:AV)(r:RT):P (ah (ax AV)):=P.pure (r.loc.set i (ae v))
abbrev km (x:au)(v:AV)(r:RT):P (ah (ax AV)):=do
 let c <-P.opt (r.cel.lookup x)
 match <-P.load c with
 |.cell _=>do P.store c (.cell (ae v));P.pure r.loc
 |_=>P.fail
abbrev DE:=RT->P AV
abbrev DT:=RT->P aB
abbrev DI:=RT->P AI
abbrev DA:=AV->RT->P (ah (ax AV))
abbrev DS:=RT->P (FL×ah (ax AV))
abbrev forA (body:DS)(put:DA):ak->AI->RT->P (FL×ah (ax AV))
 | 0,_,_=>P.fail
 |n+1,it,r=>do
  match <-bx it with
  |Option.none=>P.pure (.next,r.loc)
  |some (v,jH)=>do
   let loc <-put v r
   let (f,lI) <-body { r with loc:=loc }
   match f with
   |.next |.cont=>forA body put n jH { r with loc:=lI }
   |.brk=>P.pure (.next,lI)
   |.ret v=>P.pure (.ret v,lI)
abbrev iL (test:DT)(body:DS):ak->RT->P (FL×ah (ax AV))
 | 0,_=>P.fail
 |n+1,r=>do
  if <-test r then do
   let (f,lI) <-body r
   match f with
   |.next |.cont=>iL test body n { r with loc:=lI }
   |.brk=>P.pure (.next,lI)
   |.ret v=>P.pure (.ret v,lI)
  else P.pure (.next,r.loc)
abbrev cw (elt:DE)(ifs:ah DT)(put:DA):ak->AI->RT->ah AV->P (ah AV)
 | 0,_,_,_=>P.fail
 |n+1,it,r,acc=>do
  match <-bx it with
  |Option.none=>P.pure acc
  |some (v,jH)=>do
   let loc <-put v r
   let r':={ r with loc:=loc }
   let ok <-ifs.foldlM (λb t=>if b then t r' else P.pure az) aj
   if ok then do
    P.guard (acc.length<=4096)
    let x <-elt r'
    cw elt ifs put n jH r' (acc++[x])
   else cw elt ifs put n jH r' acc
abbrev dG:ah DE->RT->P (ah AV)
 | [],_=>P.pure []
 |d :: ds,r=>do
  let v <-d r
  return v :: (<-dG ds r)
abbrev fU:ah (au×DE)->RT->P (ah (au×AV))
 | [],_=>P.pure []
 |(n,d) :: ds,r=>do
  let v <-d r
  return (n,v) :: (<-fU ds r)
abbrev jg:ah DA->ah AV->RT->P (ah (ax AV))
 | [],[],r=>P.pure r.loc
 |a :: as,v :: vs,r=>do
  let loc <-a v r
  jg as vs { r with loc:=loc }
 |_,_,_=>P.fail
abbrev oP:n5->ax AV
 |.none=>ae .none
 |.bool b=>ae (.bool b)
 |.int i=>ae (.int i)
 |.str s=>ae (.str s)
 |_=>bq
inductive AS where
 |val (v:AV)
 |range (cur:Int) (left:ak) (step:Int)
abbrev DR:=RT->P AS
abbrev lJ (l:ah AV):P AS:=do
 let ns <-P.opt (intsOf l)
 match ns with
 | [b]=>do P.guard (-4096 < b/\b < 4096);P.pure (.range 0 b.toNat 1)
 | [a,b,c]=>do P.guard (a=0/\c= -1/\ -4096 < b/\b < 4096);P.pure (.range 0 (-b).toNat (-1))
 |_=>P.fail
abbrev p9:AS->P AI
 |.range c k d=>do P.guard (c=0/\d=1);P.pure (.range (k - 1) k (-1))
 |_=>P.fail
abbrev eO:AS->P AI
 |.val v=>do
  let i <-e6 v
  rL i
 |.range c k d=>P.pure (.range c k d)
abbrev isInt:AV->aB
 |.int _=>aj
 |_=>az
abbrev uK:aH->ax au
 |.Name n _=>ae n
 |_=>bq
abbrev constOf:aH->ax n5
 |.Constant c _ _=>ae c
 |_=>bq
abbrev BW:aH->aB
 |.List es _=>es.isEmpty
 |_=>az
abbrev namesOf:ah aH->ax (ah au)
 | []=>ae []
 |e :: l=>(uK e).bind λn=>(namesOf l).map (n :: ·)
abbrev uL:aH->ax (ah aH)
 |.Tuple es _ _=>ae es
 |_=>bq
abbrev Jv (c:aH):ax (ah au):=match uL c with
 |some es=>namesOf es
 |Option.none=>(uK c).map λn=>[n]
abbrev takes (c:aH):ax (aI->aB):=match uL c with
 |some es=>if namesOf es=ae [aq "TypeError",aq "AttributeError"]then ae λk=>k == "TypeError" || k == "AttributeError" else bq
 |Option.none=>if uK c=ae (aq "AttributeError")then ae λk=>k == "AttributeError" else bq
abbrev BX (sc:bN)(c:aH):aB:=((Jv c).getD []).all λn=>cM sc n == ae .globalImplicit
abbrev argName:Arg->au
 |⟨n,_,_⟩=>n
abbrev et (r:RT)(f:AV)(args:ah AV)(kw:ah (au×AV)):P AV:=
 match f with
 |.fn _=>r.F f args kw
 |.ref i=>do match <-P.load i with
  |.lam .. =>r.F f args kw
  |_=>P.fail
 |_=>xC r.F f args kw
abbrev dg (e:aH):aB:=match e with |.Starred .. =>az |_=>aj
abbrev nE (e:aH):aB:=match e with |.ListComp .. =>az |.SetComp .. =>az |.DictComp .. =>az |_=>aj
abbrev kn (e:aH):aB:=match e with |.Tuple .. =>aj |_=>az
abbrev fJ (t:aH)(ai:AI):aB:=kn t || match ai with |.zip .. =>az |.enum .. =>az |_=>aj
abbrev iM (r:aH):aB:=match r with |.Set .. =>az |_=>aj
abbrev stuck {α β:Type}:α->P β:=λu=>P.fail
abbrev nG (sc:bN)(x:au)(r:RT):P AV:=if x == aq "__debug__" || x == aq "__classdict__" then P.fail else match cM sc x with
 |some .local=>match lH sc x with
  |some i=>BV i r
  |Option.none=>P.fail
 |some .cell |some .free=>uJ x r
 |some .globalImplicit=>match p8 x with
  |some v=>P.pure v
  |Option.none=>P.fail
 |_=>P.fail
abbrev nameA (sc:bN)(x:au)(v:AV)(r:RT):P (ah (ax AV)):=match cM sc x with
 |some .local=>match lH sc x with
  |some i=>xD i v r
  |Option.none=>P.fail
 |some .cell=>km x v r
 |_=>P.fail
abbrev BY (c:n5):DE:=match oP c with
 |some v=>λu=>P.pure v
 |Option.none=>stuck
abbrev fK (r:RT):ah (au×l5)->ah (au×ak)->ax (ah (au×ak))
 | [],acc=>ae acc
 |(x,k) :: l,acc=>if k == .free then match r.cel.lookup x with
   |some c=>fK r l ((x,c) :: acc)
   |Option.none=>bq
  else fK r l acc
abbrev kq:ah (au×l5)->ah (au×ak)->P (ah (au×ak))
 | [],acc=>P.pure acc
 |(x,k) :: l,acc=>if k == .cell then do
   let i <-P.alloc (.cell bq)
   kq l ((x,i) :: acc)
  else kq l acc
abbrev qa (sc:bN):ah (au×AV)->RT->P (ah (ax AV))
 | [],r=>P.pure r.loc
 |(x,v) :: l,r=>do
  let loc <-nameA sc x v r
  qa sc l { r with loc:=loc }
abbrev cP (F:Or)(sc:bN)(outer:ah (au×ak))(binds:ah (au×AV)):P RT:=do
 let cel <-kq sc.names outer
 let loc <-qa sc binds { F,cel,loc:=sc.names.map λu=>bq }
 P.pure { F,cel,loc }
abbrev jh:AO->aB
 |.lam .. =>aj
 |_=>az
abbrev BZ:fg->aB
 |⟨_,_,_,_,[],_,[]⟩=>aj
 |_=>az
abbrev kr (d:ax DE)(r:RT):P (ax AV):=match d with
 |some d=>do return ae (<-d r)
 |Option.none=>P.pure bq
abbrev oQ (f:aH->DE):m4->au×DE
 |⟨ae x,v,_⟩=>(x,f v)
 |⟨bq,_,_⟩=>(Str.empty,stuck)
abbrev kwOk:m4->aB
 |⟨ae _,_,_⟩=>aj
 |_=>az
abbrev lK (args:ah aH)(ks:ah m4):aB:=args.all dg && ks.all kwOk
abbrev xE (o:aH)(ap q:fh):aB:=(match o with |.Call .. =>az |_=>aj) && ap.endLine == q.line
mutual
noncomputable def cE (sc:bN):ak->aH->DE
 | 0,_=>stuck
 |n+1,e=>match e with
  |.Constant c _ _=>BY c
  |.Name x _=>nG sc x
  |.BinOp l op r _=>λrt=>do
   let a <-cE sc n l rt
   let b <-cE sc n r rt
   gc op a b
  |.UnaryOp .Not x _=>λrt=>do
   let v <-cE sc n x rt
   let b <-eD v
   P.pure (.bool !b)
  |.UnaryOp .USub x _=>λrt=>do
   let v <-cE sc n x rt
   let i <-dF v
   P.pure (.int (-i))
  |.BoolOp .And [x,y] _=>λrt=>do
   let v <-cE sc n x rt
   let b <-eD v
   if b then cE sc n y rt else P.pure v
  |.BoolOp .Or [x,y] _=>λrt=>do
   let v <-cE sc n x rt
   let b <-eD v
   if b then P.pure v else cE sc n y rt
  |.IfExp t b o _=>λrt=>do
   let c <-cT sc n t rt
   if c then cE sc n b rt else cE sc n o rt
  |.Compare l [op] [r] _=>λrt=>do
   P.guard (iM r=aj)
   let a <-cE sc n l rt
   let b <-cE sc n r rt
   let c <-dQ op a b
   P.pure (.bool c)
  |.List es _=>λrt=>do
   let l <-dG (es.map (cE sc n)) rt
   cz l
  |.Tuple es _ _=>λrt=>do
   let l <-dG (es.map (cE sc n)) rt
   oL l
  |.Dict [ae (.Constant ck _ _)] [.Constant cv _ _] _=>λu=>do
   let kv <-P.opt (oP ck)
   let vv <-P.opt (oP cv)
   let k <-P.opt (gC kv)
   let i <-P.alloc (.dict [(k,vv)])
   P.pure (.ref i)
  |.Attribute (.Name x p) a _=>λrt=>do
   let v <-cE sc n (.Name x p) rt
   mx v a
  |.Subscript o i _=>match i with
   |.Slice lo hi bq _=>λrt=>do
    let v <-cE sc n o rt
    let a <-kr (lo.map (cE sc n)) rt
    let b <-kr (hi.map (cE sc n)) rt
    kl v a b
   |i=>λrt=>do
    let v <-cE sc n o rt
    let k <-cE sc n i rt
    ir v k
  |.Lambda args body aP _=>λrt=>do
   P.guard (BZ args=aj/\cM sc my=ae .cell)
   let st <-P.get
   P.guard (st.all (λo=>!jh o)=aj)
   let cs <-P.opt (fK rt aP.names [])
   let i <-P.alloc (.lam args body aP cs)
   P.pure (.ref i)
  |.ListComp elt [⟨t,src,ifs,0⟩] aP _=>λrt=>do
   P.guard (iM src=aj)
   P.guard (e9 aP=aj)
   let cs <-P.opt (fK rt aP.names [])
   let ai <-cI sc n src rt
   P.guard (fJ t ai=aj)
   let r2 <-cP rt.F aP cs []
   let l <-cw (cE aP n elt) (ifs.map (cT aP n)) (cA aP n t) 128 ai r2 []
   cz l
  |.Call f args ks q=>match f with
   |.Attribute o m ap=>λrt=>do
    P.guard (lK args ks=aj/\xE o ap q=aj/\args.length+ks.length < 28)
    let mm <-P.opt (rO m)
    let ov <-cE sc n o rt
    if isInt ov=aj/\mm= .startswith then P.err "AttributeError"
    else do
     lG ov mm
     let vs <-dG (args.map (cE sc n)) rt
     let kv <-fU (ks.map (oQ (cE sc n))) rt
     e8 rt.F ov mm vs kv
   |.Name x p=>λrt=>do
    P.guard (lK args ks=aj)
    let fv <-cE sc n (.Name x p) rt
    let vs <-dG (args.map (cE sc n)) rt
    let kv <-fU (ks.map (oQ (cE sc n))) rt
    et rt fv vs kv
   |_=>stuck
  |_=>stuck
noncomputable def cT (sc:bN):ak->aH->DT
 | 0,_=>stuck
 |n+1,e=>match e with
  |.UnaryOp .Not x _=>λrt=>do
   let b <-cT sc n x rt
   P.pure !b
  |.BoolOp .And [x,y] _=>λrt=>do
   let a <-cT sc n x rt
   if a then cT sc n y rt else P.pure az
  |.BoolOp .Or [x,y] _=>λrt=>do
   let a <-cT sc n x rt
   if a then P.pure aj else cT sc n y rt
  |.BoolOp .Or [x,y,z] _=>λrt=>do
   let a <-cT sc n x rt
   if a then P.pure aj else do
    let b <-cT sc n y rt
    if b then P.pure aj else cT sc n z rt
  |.Compare l [op] [r] _=>λrt=>do
   P.guard (iM r=aj)
   let a <-cE sc n l rt
   let b <-cE sc n r rt
   dQ op a b
  |.IfExp t b o _=>λrt=>do
   let c <-cT sc n t rt
   if c then cT sc n b rt else cT sc n o rt
  |.BoolOp _ _ _=>stuck
  |.Compare _ _ _ _=>stuck
  |e=>λrt=>do
   let v <-cE sc n e rt
   eD v
noncomputable def cR (sc:bN):ak->aH->DR
 | 0,_=>stuck
 |n+1,e=>match e with
  |.Call (.Name f p) args [] q=>
   if cM sc f == ae .globalImplicit && f == aq "range" then λrt=>do
    P.guard (lK args []=aj)
    let l <-dG (args.map (cE sc n)) rt
    lJ l
   else λrt=>do
    let v <-cE sc n (.Call (.Name f p) args [] q) rt
    P.pure (.val v)
  |e=>λrt=>do
   let v <-cE sc n e rt
   P.pure (.val v)
noncomputable def cI (sc:bN):ak->aH->DI
 | 0,_=>stuck
 |n+1,e=>match e with
  |.Call (.Name f p) args [] q=>
   if cM sc f == ae .globalImplicit && f == aq "enumerate" then match args with
    | [a]=>λrt=>do
     P.guard (dg a=aj)
     let x <-cR sc n a rt
     let i <-eO x
     P.pure (.enum 0 i)
    |_=>stuck
   else if cM sc f == ae .globalImplicit && f == aq "zip" then match args with
    | [a,b]=>λrt=>do
     P.guard (dg a=aj/\dg b=aj)
     let x <-cR sc n a rt
     let y <-cR sc n b rt
     let i <-eO x
     let j <-eO y
     P.pure (.zip i j)
    |_=>stuck
   else if cM sc f == ae .globalImplicit && f == aq "reversed" then match args with
    | [a]=>λrt=>do
     P.guard (dg a=aj)
     let i <-cR sc n a rt
     p9 i
    |_=>stuck
   else λrt=>do
    let v <-cR sc n (.Call (.Name f p) args [] q) rt
    eO v
  |e=>λrt=>do
   let v <-cE sc n e rt
   jG v
noncomputable def cA (sc:bN):ak->aH->DA
 | 0,_=>λu=>stuck
 |n+1,e=>match e with
  |.Name x _=>nameA sc x
  |.Attribute o a _=>λv rt=>do
   let ov <-cE sc n o rt
   p5 ov a v
   P.pure rt.loc
  |.Subscript o i _=>λv rt=>do
   let ov <-cE sc n o rt
   let iv <-cE sc n i rt
   oN ov iv v
   P.pure rt.loc
  |.Tuple es _ _=>λv rt=>do
   let l <-P.opt (gb v)
   P.guard (l.length=es.length/\es.all dg=aj)
   jg (es.map (cA sc n)) l rt
  |_=>λu=>stuck
end
abbrev Jw (sc:bN):dy->DS
 |.Pass _=>λrt=>P.pure (.next,rt.loc)
 |.Assign ts e _=>λrt=>do
  let xs <-P.opt (namesOf ts)
  let x <-P.opt xs.head?
  P.guard (xs.length=1)
  let c <-P.opt (constOf e)
  let v <-P.opt (oP c)
  let loc <-nameA sc x v rt
  P.pure (.next,loc)
 |.Return e _=>λrt=>do
  let e <-P.opt e
  P.guard (BW e=aj)
  let v <-cz []
  P.pure (.ret v,rt.loc)
 |_=>stuck
abbrev rP (sc:bN)(l:ah dy):DS:=λrt=>do
 let s <-P.opt l.head?
 P.guard (l.length=1)
 Jw sc s rt
abbrev eu (f:dy->DS):ah dy->DS
 | []=>λrt=>P.pure (.next,rt.loc)
 |s :: l=>λrt=>do
  let x <-f s rt
  match x with
  |(.next,loc)=>eu f l { rt with loc:=loc }
  |x=>P.pure x
abbrev cS (sc:bN):ak->dy->DS
 | 0,_=>stuck
 |n+1,s=>match s with
  |.Pass _=>λrt=>P.pure (.next,rt.loc)
  |.Break _=>λrt=>P.pure (.brk,rt.loc)
  |.Continue _=>λrt=>P.pure (.cont,rt.loc)
  |.Return (ae e) _=>λrt=>do
   let v <-cE sc 40 e rt
   P.pure (.ret v,rt.loc)
  |.Expr e _=>λrt=>do
   P.guard (nE e=aj)
   let _ <-cE sc 40 e rt
   P.pure (.next,rt.loc)
  |.Assign [t] e _=>λrt=>do
   P.guard (kn e=az/\dg t=aj)
   let v <-cE sc 40 e rt
   let loc <-cA sc 40 t v rt
   P.pure (.next,loc)
  |.AugAssign (.Name x _) op e _=>λrt=>do
   P.guard (op= .Add\/op= .Sub)
   let o <-nG sc x rt
   let i <-dF o
   let v <-cE sc 40 e rt
   let j <-dF v
   let v <-gc op (.int i) (.int j)
   let loc <-nameA sc x v rt
   P.pure (.next,loc)
  |.If t b o _=>λrt=>do
   let c <-cT sc 40 t rt
   if c then eu (cS sc n) b rt else eu (cS sc n) o rt
  |.While t b [] _=>λrt=>iL (cT sc 40 t) (eu (cS sc n) b) 64 rt
  |.For t i b [] _=>λrt=>do
   P.guard (iM i=aj)
   let it <-cI sc 40 i rt
   P.guard (fJ t it=aj)
   forA (eu (cS sc n) b) (cA sc 40 t) 128 it rt
  |.Try [.Assign [.Name x _] e _] [.ExceptHandler (ae c) bq h _] o [] _=>λrt=>do
   P.guard (nE e=aj/\kn e=az/\BX sc c=aj)
   P.uC (cE sc 40 e rt) (λv=>do
     let loc <-nameA sc x v rt
     eu (cS sc n) o { rt with loc:=loc })
    λk=>match takes c with
     |some f=>if f k then rP sc h rt else P.fail
     |Option.none=>P.fail
  |_=>stuck
abbrev uM (n:au):ah dy->ax (fg×ah dy×bN)
 | []=>bq
 |.FunctionDef m a b _ _ _ sc _ _ _ :: l=>if m == n then ae (a,b,sc)else uM n l
 |_ :: l=>uM n l
abbrev uN (n:au):ah dy->ax (fg×ah dy×bN)
 | []=>bq
 |.ClassDef _ _ _ b _ _ _ _ _ _ _ :: l=>match uM n b with
  |some x=>ae x
  |Option.none=>uN n l
 |_ :: l=>uN n l
abbrev B2 (a:fg):aB:=a.posonlyargs.isEmpty && a.vararg.isNone && a.kwonlyargs.isEmpty && a.kwarg.isNone && decide (a.args.map argName).Nodup
abbrev fV (a:fg)(args:ah AV)(kw:ah (au×AV)):ax (ah (au×AV)):=
 let ps:=a.args.map argName
 let n:=args.length
 if B2 a && n<=ps.length && (ps.drop n) == kw.map (·.1)then ae ((ps.take n).zip args++kw)else bq
abbrev eP:FL->P AV
 |.ret v=>P.pure v
 |.next=>P.pure .none
 |_=>P.fail
abbrev B3 (F:Or)(a:fg)(b:ah dy)(sc:bN)(args:ah AV)(kw:ah (au×AV)):P AV:=do
 let binds <-P.opt (fV a args kw)
 let rt <-cP F sc [] binds
 let x <-eu (cS sc 20) b rt
 eP x.1
abbrev xF:ah dy:=PySem.Challenge.pw_oc0179_01.main.body
abbrev gE:au:=aq "_Ignore"
abbrev uO:au:=aq "_Ignore.names"
abbrev nH:au:=aq "_Ignore.__init__"
abbrev jJ:au:=aq "normpath"
abbrev defOf (n:au):ax (fg×ah dy×bN):=
 if n == uO then uN (aq "names") xF else if n == nH then uN (aq "__init__") xF else uM n xF
abbrev lL (F:Or)(n:au)(args:ah AV)(kw:ah (au×AV)):P AV:=match defOf n with
 |some (a,b,sc)=>B3 F a b sc args kw
 |Option.none=>P.fail
abbrev oR (F:Or)(args:ah AV)(kw:ah (au×AV)):P AV:=match defOf jJ,args,kw with
 |some (_,b,sc),[v],[]=>do
  let k <-P.alloc (.dict [])
  let rt <-cP F sc [] [(aq "args",.one v),(aq "kwargs",.ref k)]
  let x <-eu (cS sc 20) b rt
  eP x.1
 |_,_,_=>P.fail
abbrev qb (F:Or)(args:ah AV)(kw:ah (au×AV)):P AV:=do
 let d <-P.alloc (.bc [])
 let i <-P.alloc (.inst d)
 let r <-lL F nH (.ref i :: args) kw
 match r with
 |.none=>P.pure (.ref i)
 |_=>P.fail
abbrev B4 (F:Or)(i:ak)(args:ah AV)(kw:ah (au×AV)):P AV:=do
 let o <-P.load i
 match o with
 |.lam a e sc cs=>do
  P.guard (e9 sc=aj)
  let binds <-P.opt (fV a args kw)
  let rt <-cP F sc cs binds
  cE sc 40 e rt
 |_=>P.fail
abbrev B5 (F:Or):Or:=λf args kw=>match f with
 |.ref i=>B4 F i args kw
 |.fn n=>if n == gE then qb F args kw else if n == jJ then oR F args kw else lL F n args kw
 |_=>P.fail
abbrev FN:ak->Or
 | 0=>λu u u=>P.fail
 |n+1=>B5 (FN n)
abbrev uP (Jx:ah Int):P AV:=FN 12 (.fn (aq "law")) [.gU Jx] []
def TT {a b c:ak}(h:a<=b)(k:b<=c):a<=c:=dW h k
def CH {u v w:ak}(i j k l:ak)(h:u+i<=v+j)(g:v+k<=w+l):u+(i+k)<=w+(j+l):=by
 rw[<-qL];refine dW (Ae h k) ?_;rw[Af,Ag j,<-qL];exact Ae g j
def FI {u v:ak}(i j p q:ak)(h:u+i<=v+j)(c:l6 (j+p) (i+q)=aj):u+p<=v+q:=by
 refine Nat.le_of_add_le_add_right (b:=i) ?_;rw[Af];refine dW (Ae h p) ?_;rw[qL,qL,Ag q];exact Gy (iZ c) v
def CF {u v w:ak}(i j k l p q:ak)(h:u+i<=v+j)(g:v+k<=w+l)(c:l6 (j+l+p) (i+k+q)=aj):u+p<=w+q:=FI (i+k) (j+l) p q (CH i j k l h g) c
def XX {u:ak}{C:Prop}(i j:ak)(h:u+i<=u+j)(c:l6 i j=az):C:=absurd ((Nat.ble_eq_true_of_le (Nat.le_of_add_le_add_left h)).symm.trans c) (λe=>nomatch e)
def EL {a b:ak}(h:a=b):a<=b:=n6 h
def EG {a b:ak}(h:a=b):b<=a:=n6 h.symm
def NL {a b:ak}(h: ¬ a < b):b<=a:=n7.mp h
def NG {a b:ak}(h: ¬ a<=b):b+1<=a:=Ah.mp h
def NV {a b:ak}(h: ¬ a=b)(k:a<=b):a+1<=b:=Gz k h
def NU {a b:ak}(h: ¬ a=b)(k:b<=a):b+1<=a:=Gz k λe=>h e.symm
def NE {a b:ak}(h:a+1<=b):a≠b:=jV h
def NT {a b:ak}(h:b+1<=a):a≠b:=Ai h
def AN {a b:ak}(h:a<=b)(k:b<=a):a=b:=Aj h k
def DN {a b:ak}(h:b<=a): ¬ a < b:=n7.mpr h
def DM {a b:ak}(h:b+1<=a): ¬ a<=b:=Ah.mpr h
def ML {a b:ak}:min a b<=a:=th a b
def MR {a b:ak}:min a b<=b:=GA a b
def Wk {a b c:ak}(h:a<=b)(k:a<=c):a<=min b c:=Ak.2 ⟨h,k⟩
def SB {a b:ak}:a - b<=a:=GB a b
def SU {a b:ak}:a<=a - b+b:=Nat.le_add_of_sub_le (a4 _)
def SW {a b:ak}(h:b<=a):a - b+b<=a:=n6 (GC h)
def AL {a b:ak}:a<=a+b:=tm a b
def AR {a b:ak}:b<=a+b:=GD b a
def SS {a b c d:ak}(h:a<=b)(k:c<=d):a+c<=b+d:=GF h k
def ZZ {a:ak}:0<=a:=cZ a
def RR {a:ak}(p q:ak)(c:l6 p q=aj):a+p<=a+q:=Gy (iZ c) a
def BB {p q:ak}(c:l6 p q=aj):p<=q:=iZ c
def LA {α}{l m:ah α}:(l++m).length<=l.length+m.length:=n6 bK
def LB {α}{l m:ah α}:l.length+m.length<=(l++m).length:=n6 bK.symm
def LI {α}{l:ah α}{x:α}:(l++[x]).length<=l.length+1:=n6 bK
def LJ {α}{l:ah α}{x:α}:l.length+1<=(l++[x]).length:=by rw[bK];exact a4 _
def Wl {α}{l:ah α}{n:ak}:(l.take n).length<=n:=by rw[er];exact th ..
def Wm {α}{l:ah α}{n:ak}:(l.take n).length<=l.length:=by rw[er];exact GA ..
def Wn {α}{l:ah α}{p:α->aB}:(l.filter p).length<=l.length:=pD p l
def Jy {α}{l:ah α}{i:ak}{x:α}:l.length<=(l.set i x).length:=n6 eJ.symm
@[reducible] abbrev kB {α β:Type}(M:mX)(A:d8)(f:α->dn β)(Q:β->aD->Prop)(E:aw->aD->Prop)(a:α)(s:aD):Prop:=aA M A (f a) Q E s
def wB {α β:Type}{M:mX}{A:d8}{m:dn α}{f:α->dn β}{Q:β->aD->Prop}{E:aw->aD->Prop}{s:aD}(h:aA M A m (kB M A f Q E) E s):aA M A (m>>=f) Q E s:=bO h
def NO {p q:Prop}(h: ¬p)(k: ¬q): ¬(p\/q):=not_or.2 ⟨h,k⟩
def NA {p q:Prop}(h: ¬p): ¬(p/\q):=λk=>h k.1
def NB {p q:Prop}(h: ¬q): ¬(p/\q):=λk=>h k.2
def LN {a b:ak}(h:a<=b):a<=min a b:=Ak.2 ⟨a4 _,h⟩
def LO {a b:ak}(h:b<=a):b<=min a b:=Ak.2 ⟨h,a4 _⟩
def JE {n:ak}(m:ak)(h:m < n):(m:Int) < (n:Int):=i5.2 h
def JC {n:ak}(m:ak)(h:n < m):(n:Int) < (m:Int):=i5.2 h
def JP {n:ak}:(0:Int)<=(n:Int):=wt n
def KN {n:ak}{a:Int}(h:a < 0):a < (n:Int):=GG h (wt n)
def nP {α β:Type u}(a:cU α)(b:cU β):cU (α×β):=a.elim λa=>b.elim λb=>⟨(a,b)⟩
def nI {α:Type u}[Inhabited α]:cU α:=⟨default⟩
def neA:cU d8:=⟨{}⟩
def neS:cU aD:=⟨{}⟩
def neW:cU gL:=⟨⟨λu u=>0,{ strHash:=λu=>0,shareClass:=λu=>0,mergeTok:=λt=>t,idOf:=λu=>0,idOfShared:=λu u=>0,followText:=λu=>az,idOfImm:=λu=>0 }⟩⟩
def neI:cU AI:=⟨.set []⟩
def neE {β:Type}:cU (RT->P β):=⟨λu=>P.fail⟩
def neB:cU DS:=neE
def neDA:cU DA:=⟨λu u=>P.fail⟩
def neP {β:Type}:cU (P β):=⟨P.fail⟩
def neM:cU mX:=neW.elim λw=>⟨aV default w⟩
def neK:cU (au ⊕ Int):=⟨.inr 0⟩
def neRT:cU RT:=⟨⟨λu u u=>P.fail,[],[]⟩⟩
def neAS:cU AS:=⟨.val .none⟩
def neR {β:Type}:cU (Res β):=⟨.err ""⟩
def nF {α β:Type}(n:cU β):cU (α->β):=n.elim λb=>⟨λu=>b⟩
open PySem.W PyProof.Rows
structure Cx where
 w:gL
 base:aG
 os:OsState
 ku:au->ax ay
 gV:ay
 bad:ah ay
 K:ju
def neX:cU Cx:=neW.elim λw=>⟨⟨w,default,default,λu=>ag,0,[],default⟩⟩
abbrev cJ:ay:=175
abbrev rQ:ay:=177
abbrev Cx.ok (X:Cx)(a:ay):Prop:=a≠cJ/\a∉X.bad
@[reducible] abbrev MX (X:Cx):mX:=aV PySem.Challenge.pw_oc0179_01 X.w
abbrev rR (o:Obj)(vs:aZ aw):Prop:=o.cls= .type "tuple"/\∃n,o.data= .seq vs n
inductive ky (w:gL):ah au->ah (Int×aw)->Prop where
 |nil:ky w [] []
 |cons {x:au} {t:cK} {xs:ah au} {es:ah (Int×aw)} (r:ky w xs es):ky w (x :: xs) ((lh w x,.str x t) :: es)
abbrev B6 (w:gL)(l:ah au)(es:aZ (Int×aw))(t:gr):Prop:=
 ∃xs:ah au,xs.Perm l/\ky w xs es.toList/\t.fits es.size=aj/\es.size<=3/\(es.size≠0->t.plain=az)/\t.led= !w.params.followText "set-order"
inductive VA (T:ay->Prop):aw->Prop where
 |mk {a:ay} (e:T a):VA T (.ref a)
inductive V1 (T:aZ aw->ay->Prop)(P:aw->Prop):aw->Prop where
 |mk {a:ay} {vx:aw} (t:T #[vx] a) (hx:P vx):V1 T P (.ref a)
inductive V2 (T:aZ aw->ay->Prop)(P R:aw->Prop):aw->Prop where
 |mk {a:ay} {vx vy:aw} (t:T #[vx,vy] a) (hx:P vx) (hy:R vy):V2 T P R (.ref a)
inductive V3 (T:aZ aw->ay->Prop)(P R S:aw->Prop):aw->Prop where
 |mk {a:ay} {vx vy vz:aw} (t:T #[vx,vy,vz] a) (hx:P vx) (hy:R vy) (hz:S vz):V3 T P R S (.ref a)
inductive TupAt (X:Cx)(ρ:ah ay)(h:aG)(vs:aZ aw)(a:ay):Prop where
 |mk {o:Obj} (n1:a∉ρ) (n2:X.ok a) (e:h.get? a=ae o) (t:rR o vs):TupAt X ρ h vs a
inductive xG (X:Cx)(ρ:ah ay)(h:aG)(l:ah Int)(a:ay):Prop where
 |mk {items:ah aw} (n1:a∉ρ) (n2:X.ok a) (e:h.IsList a items.toArray) (hl:n8 items l) (hn:l.length<=4096):xG X ρ h l a
inductive B7 (X:Cx)(ρ:ah ay)(h:aG)(l:ah au)(a:ay):Prop where
 |mk {o:Obj} {es:aZ (Int×aw)} {ep:ak} {t:gr} (n1:a∉ρ) (n2:X.ok a) (e:h.get? a=ae o) (c:o.ExactSet) (d:o.data= .set es ep t) (r:B6 X.w l es t):B7 X ρ h l a
inductive B8 (X:Cx)(ρ:ah ay)(h:aG)(q:au)(a:ay):Prop where
 |mk {o:Obj} {vs:aZ aw} {t:cK} (n1:a∉ρ) (n2:X.ok a) (e:h.get? a=ae o) (c:o.cls= .type "code") (d:o.data= .fields vs) (hq:vs[1]? =ae (.str q t)):B8 X ρ h q a
abbrev aF (X:Cx)(ρ:ah ay)(h:aG):AV->aw->Prop
 |.none=>λv=>v= .none
 |.bool b=>λv=>v= .bool b
 |.int i=>λv=>∃t,v= .int i t
 |.str x=>λv=>∃t,v= .str x t
 |.ty n=>λv=>v= .type n
 |.bi n=>λv=>v= .builtin n
 |.fn n=>VA λa=>X.ku n=ae a
 |.ref i=>VA λa=>ρ[i]? =ae a
 |.one x=>V1 (TupAt X ρ h) (aF X ρ h x)
 |.pair x y=>V2 (TupAt X ρ h) (aF X ρ h x) (aF X ρ h y)
 |.dB x y z=>V3 (TupAt X ρ h) (aF X ρ h x) (aF X ρ h y) (aF X ρ h z)
 |.gU l=>VA (xG X ρ h l)
 |.cL l=>VA (B7 X ρ h l)
 |.code q=>VA (B8 X ρ h q)
inductive aT (X:Cx)(ρ:ah ay)(h:aG):ah AV->ah aw->Prop where
 |nil:aT X ρ h [] []
 |cons {x:AV} {v:aw} {xs:ah AV} {vs:ah aw} (hx:aF X ρ h x v) (hs:aT X ρ h xs vs):aT X ρ h (x :: xs) (v :: vs)
abbrev KO (X:Cx)(a:ay)(o o':Obj):Prop:=o'=o\/(X.base.get? a=ag/\(∃es ep,o.data= .dict es ep)/\∃sl,o'={ o with slots:=sl })
abbrev iu (d:Data):Prop:=∃es ep,d= .dict es ep
structure Step (X:Cx)(ex ρ:ah ay)(h:aG)(eQ:ah ay)(h':aG):Prop where
 there:∀a o,h.get? a=ae o->∃o',h'.get? a=ae o'
 ext:∃δ,eQ=ρ++δ/\∀a∈δ,h.get? a=ag
 keep:∀a o,h.get? a=ae o->a∉ρ->a≠cJ->(a∈ex->¬ iu o.data)->∃o',h'.get? a=ae o'/\KO X a o o'
inductive Kp (o:Obj):Prop where
 |seq {xs:aZ aw} {n:ak} (d:o.data= .seq xs n)
 |set {es:aZ (Int×aw)} {ep:ak} {t:gr} (d:o.data= .set es ep t)
 |code {vs:aZ aw} (c:o.cls= .type "code") (d:o.data= .fields vs)
structure gW (X:Cx)(bad ρ eQ:ah ay)(h h':aG):Prop where
 ref:∀(i:ak) (a:ay),ρ[i]? =ae a->eQ[i]? =ae a
 obj:∀a o,a∉ρ->X.ok a->h.get? a=ae o->Kp o->a∉eQ/\(a≠cJ/\a∉bad)/\h'.get? a=ae o
abbrev jK (X:Cx)(ρ:ah ay)(h:aG):ax AV->ax aw->Prop
 |Option.none,w=>w=bq
 |Option.some x,w=>∃v,w=Option.some v/\aF X ρ h x v
def Jz {prog:mY}{w:gL}{A:d8}{E:aw->aD->Prop}{s:aD}{a:au}{b:Int}{t u:cK}{Q:aB->aD->Prop}(h:Q az s):aA (aV prog w) A (eqBool (.str a t) (.int b u)) Q E s:=by
 unfold eqBool;refine ez ?_;rw[aK (by simp)];exact bO (show aA _ _ (i6 .Eq _ _) _ _ _ from EqMixed.eq_str_int (qM h))
def JA {prog:mY}{w:gL}{A:d8}{E:aw->aD->Prop}{s:aD}{a:au}{b:Int}{t u:cK}{Q:aB->aD->Prop}(h:Q az s):aA (aV prog w) A (eqBool (.int b u) (.str a t)) Q E s:=by
 unfold eqBool;refine ez ?_;rw[aK (by simp)];exact bO (show aA _ _ (i6 .Eq _ _) _ _ _ from EqMixed.eq_int_str (qM h))
abbrev uQ:au ⊕ Int->aw->aB
 |.inl x,v=>lq x v
 |.inr i,v=>Value.isInt i v
def mA {k:au ⊕ Int}{v:aw}(h:uQ k v=aj):(∃x t,k= .inl x/\v= .str x t)\/(∃i t,k= .inr i/\v= .int i t):=by
 cases k with
 |inl x=>obtain⟨t,rfl⟩:=GH h;exact .inl ⟨x,t,rfl,rfl⟩
 |inr i=>obtain⟨t,rfl⟩:=Value.isInt_shape h;exact .inr ⟨i,t,rfl,rfl⟩
abbrev mB (X:Cx):KeyKind PySem.Challenge.pw_oc0179_01 X.w (au ⊕ Int) where
 is:=uQ
 hash:=λk=>match k with |.inl x=>lh X.w x |.inr i=>hashInt i
 inj:=λv a b ha hb=>by
  rcases mA ha with ⟨x,t,rfl,rfl⟩ |⟨i,t,rfl,rfl⟩<;>rcases mA hb with ⟨y,u,rfl,e⟩ |⟨j,u,rfl,e⟩<;>cases e <;>rfl
 byValue:=λk v h=>by rcases mA h with ⟨x,t,rfl,rfl⟩ |⟨i,t,rfl,rfl⟩<;>rfl
 pyHash:=λhv h=>by
  rcases mA hv with ⟨x,t,rfl,rfl⟩ |⟨i,t,rfl,rfl⟩
  ·exact wpAny_pyHash_str h
  ·exact wpAny_pyHash_int h
 eqBool:=λhu hv h=>by
  rcases mA hu with ⟨x,t,rfl,rfl⟩ |⟨i,t,rfl,rfl⟩<;>rcases mA hv with ⟨y,u,rfl,rfl⟩ |⟨j,u,rfl,rfl⟩
  ·exact wpAny_eqBool_str (by simpa using h)
  ·exact Jz (by simpa using h)
  ·exact JA (by simpa using h)
  ·refine tn ?_;rw[show(i == j)=decide ((Sum.inr i:au ⊕ Int)= .inr j) from by by_cases e:i=j <;>simp[e]];exact h
 «strs»:=λk x t v h=>by
  rcases mA h with ⟨y,u,rfl,e⟩ |⟨i,u,rfl,e⟩
  ·cases e;cases v <;>rfl
  ·cases e
inductive eR (X:Cx)(ρ:ah ay)(h:aG):ah ((au ⊕ Int)×AV)->ah ((au ⊕ Int)×aw)->Prop where
 |nil:eR X ρ h [] []
 |cons {k:au ⊕ Int} {x:AV} {v:aw} {l:ah ((au ⊕ Int)×AV)} {kvs:ah ((au ⊕ Int)×aw)} (hx:aF X ρ h x v) (hs:eR X ρ h l kvs):eR X ρ h ((k,x) :: l) ((k,v) :: kvs)
inductive fW (ρ:ah ay):ah (au×ak)->ah (au×ay)->Prop where
 |nil:fW ρ [] []
 |cons {x:au} {c:ak} {a:ay} {l:ah (au×ak)} {cl:ah (au×ay)} (e:ρ[c]? =ae a) (r:fW ρ l cl):fW ρ ((x,c) :: l) ((x,a) :: cl)
abbrev OB (X:Cx)(ρ:ah ay)(h:aG):AO->Obj->Prop
 |.list l,o=>∃(items:ah aw) (n:ak),o={ cls:=.type "list",data:=.seq items.toArray n }/\aT X ρ h l items/\l.length<=10000
 |.cell v,o=>o.cls= .type "cell"/\∃v',o.data= .cell v'/\jK X ρ h v v'
 |.inst d,o=>∃da,ρ[d]? =ae da/\o=pE X.gV da
 |.bc l,o=>o.cls= .type "dict"/\∃(es:aZ wu) (n:ak),o.data= .dict es n/\qN es/\es.size<=l.length/\∀x,jK X ρ h (l.lookup x) (jw es x)
 |.dict l,o=>∃kvs,o.IsDictOf (mB X) kvs/\eR X ρ h l kvs/\l.length<=100
 |.iter (ae s) i,o=>o.cls= .type "list_iterator"/\∃a,ρ[s]? =ae a/\o.data= .fields #[.ref a,.int i 0]
 |.iter .none _,o=>o.cls= .type "list_iterator"/\∃vs,o.data= .fields vs/\vs[0]? =ae .none
 |.obj,o=>o.cls= .type "object"/\o.data= .plain
 |.lam args body sc cel,o=>∃name qual cl pm c xH,o=wy name qual args body sc cl pm c xH/\fW ρ cel cl/\aF X ρ h (.code qual) (.ref c)
abbrev nJ:aw->aB
 |.type n=>["list","cell","dict","set","list_iterator","object","function","code"].contains n
 |.ref _=>aj
 |_=>az
structure Inv (X:Cx)(ρ:ah ay)(st:St)(h:aG):Prop where
 len:ρ.length=st.length
 nodup:ρ.Nodup
 obj:∀(i:ak) (ao:AO) (a:ay),st[i]? =ae ao->ρ[i]? =ae a->∃o,h.get? a=ae o/\OB X ρ h ao o
 base:∀b o,X.base.get? b=ae o->b≠cJ->h.get? b=ae o
 new:∀a∈ρ,X.base.get? a=ag
 gd:∃o,X.base.get? cJ=ae o
 mods:∃o,X.base.get? sysModules=ae o
 tab:∃vs,h.get? cJ=ae (jW vs)/\(vs= #[]\/∃ao∈st,jh ao=aj)
 gf:∀b∈X.bad,∃o,h.get? b=ae o
abbrev gX (o:Obj):Prop:=∃es ep,o.data= .dict es ep/\qN es
abbrev uR (X:Cx)(ρ:ah ay)(h h':aG):Prop:=∀a o,h.get? a=ae o->a∉ρ->gX o->X.base.get? a=ag->∃o',h'.get? a=ae o'/\gX o'
structure Go (X:Cx)(ex ρ:ah ay)(h:aG)(eQ:ah ay)(h':aG):Prop where
 step:Step X ex ρ h eQ h'
 fr:uR X ρ h h'
abbrev eS (k:aI)(e:ay)(h₀ h:aG):Prop:=
 h₀.get? e=ag/\nJ (.type k)=az/\k≠"frame"/\∃o vs,h.get? e=ae o/\o.cls= .type k/\o.data= .fields vs/\4 < vs.size/\
  (vs[1]? =ae .none\/∃T oT ts,vs[1]? =ae (.ref T)/\h₀.get? T=ag/\T≠e/\h.get? T=ae oT/\oT.cls= .type "traceback"/\oT.data= .fields ts/\3 < ts.size)
@[reducible] abbrev sh (z:aD)(h:aG)(t:ak):aD:=⟨h,z.gens,z.drawn,t,z.os⟩
abbrev Zs (z z':aD):Prop:=z'.gens=z.gens/\z'.os=z.os
abbrev aL {α β:Type}(X:Cx)(z:aD)(ex ρ:ah ay)(h:aG)(R:ah ay->aG->β->α->Prop)(Q:α->aD->Prop)(E:aw->aD->Prop):Res β->St->Prop:=λr bh=>
 ∀z' eQ h' t',Zs z z'->Inv X eQ bh h'->Go X ex ρ h eQ h'->match r with
  |.ok b=>∀a,R eQ h' b a->Q a (sh z' h' t')
  |.err k=>∀e,eS k e h h'->E (.ref e) (sh z' h' t')
abbrev aW {α β:Type}(X:Cx)(A:d8)(ex:ah ay)(R:ah ay->aG->β->α->Prop)(ρ:ah ay)(st:St)(h:aG)(t:dn α)(m:P β):Prop:=
 ∀z tk Q E,m.run st (aL X z ex ρ h R Q E)->aA (MX X) A t Q E (sh z h tk)
abbrev SV (X:Cx)(x:AV)(v:aw):Prop:=∀ρ h,aF X ρ h x v
abbrev FnAt (h:aG)(a:ay)(d:ax (fg×ah dy×bN)):Prop:=
 ∃o fd,h.get? a=ae o/\o.data= .func fd/\d.map (λp=>(p.1,wz p.2.1,p.2.2))=ae (fd.params,fd.body,fd.scope)/\fd.scope.kind= .function/\fd.scope.isGenerator=az/\fd.scope.isCoroutine=az/\
  fd.globals=gM/\fd.closure=[]/\fd.builtins=qO/\h.CodeRec fd.code fd.qualname/\(fd.defaults= .none\/∃T ot items n,fd.defaults= .ref T/\h.get? T=ae ot/\ot.data= .seq items n)/\(cM fd.scope my=ae .cell->fd.code= .ref rQ)
structure B9 (K:ju)(C:ay)(ku:au->ax ay):Prop where
 makes:makesIn K C=aj
 keep:keepIn K (.ref C)=aj
 init:∃fI,ku nH=ae fI/\fj K (.ref C) "__init__"=ae (ae (.ref fI))/\qP K (.ref fI)=ae (.type "function")
 names:∃fN,ku uO=ae fN/\fj K (.ref C) (aq "names")=ae (ae (.ref fN))/\qP K (.ref fN)=ae (.type "function")
 ga:fj K (.ref C) "__getattribute__"=ae (ae (.builtin "object.__getattribute__"))
 gk:fj K (.ref C) "__getattr__"=ae ag
 sa:fj K (.ref C) "__setattr__"=ae (ae (.builtin "object.__setattr__"))
 over:Al K C=aj
 hasDict:Am K C=aj
 attrs:∀n∈p4,fj K (.ref C) n=ae ag/\pF K C n=ae ag
structure cn (X:Cx):Prop where
 lim:X.base.NoLimit
 lM:X.K.In X.base
 B':X.K.lookup cJ=ag
 fns:∀n a,X.ku n=ae a->n≠gE->∀h:aG,(∀b o,X.base.get? b=ae o->b≠cJ->h.get? b=ae o)->FnAt h a (defOf n)
 cls:X.ku gE=ae X.gV
 iN:B9 X.K X.gV X.ku
 cd:CodeHd X.base rQ cJ
 bt:∀mg,X.base.Ns gM mg->X.base.BuiltinsAt mg cJ
 gl:∃mg mb,X.base.Ns gM mg/\X.base.Ns qO mb/\∀x v,p8 x=ae v->(∃v',mg x=ae v'/\SV X v v')\/(mg x=ag/\∃v',mb x=ae v'/\SV X v v')
abbrev uS:ax l5->ax l5->Prop
 |some .local,k=>k=ae .local
 |some .cell,k=>k=ae .cell
 |some .free,k=>k=ae .cell\/k=ae .free
 |some .globalImplicit,k=>k=ae .globalImplicit
 |_,_=>eM
abbrev Frs (X:Cx)(l:ah bH)(ρ:ah ay)(h:aG):Prop:=∀e∈l,e.scope.kind≠ .module/\∃L o,e.frame=ae L/\X.base.get? L=ag/\L∉ρ/\h.get? L=ae o/\gX o
structure Ar (X:Cx)(n u:ak)(A:d8)(l:ah bH)(ρ:ah ay)(h:aG):Prop where
 handled:A.handled=ag
 depth:A.depth+2 * n<=980
 units:A.units+u<=9800
 frames:A.frames=ae l
 dR:Frs X l ρ h
structure En (X:Cx)(sc:bN)(env:bH)(cel:ah (au×ak))(loc:ah (ax AV))(ρ:ah ay)(h:aG):Prop where
 kind:env.scope.kind= .function
 glob:env.globals=gM
 blt:env.builtins=qO
 kinds:∀x,uS (cM sc x) (env.kindOf x)
 len:loc.length=sc.names.length
 ns:∃m,h.Ns env.locals m/\∀x i v,cM sc x=ae .local->lH sc x=ae i->loc[i]? =ae (ae v)->∃v',m x=ae v'/\aF X ρ h v v'
 fX:env.locals∉ρ
 iw:X.base.get? env.locals=ag
 cells:∀x c,cel.lookup x=ae c->∃a,ρ[c]? =ae a/\env.cells.lookup x=ae a
@[reducible] abbrev RV (X:Cx):ah ay->aG->AV->aw->Prop:=λρ h x v=>aF X ρ h x v
@[reducible] abbrev RB (X:Cx):ah ay->aG->aB->aB->Prop:=λu u x v=>x=v
structure Ctx (X:Cx)(k:ak)(sc:bN)(A:d8)(l:ah bH)(env:bH)(cel:ah (au×ak))(loc:ah (ax AV))(ρ:ah ay)(st:St)(h:aG):Prop where
 ok:cn X
 ar:Ar X k (20 * k+40) A l ρ h
 top:∃e l',l=e :: l'/\e.frame=env.frame
 inv:Inv X ρ st h
 en:En X sc env cel loc ρ h
 code:cM sc my=ae .cell->env.code= .ref rQ
abbrev HE (X:Cx)(F:Or)(k:ak)(sc:bN)(e:aH)(d:DE):Prop:=
 ∀ ⦃A:d8⦄ ⦃l:ah bH⦄ ⦃env:bH⦄ ⦃cel:ah (au×ak)⦄ ⦃loc:ah (ax AV)⦄ ⦃ρ:ah ay⦄ ⦃st:St⦄ ⦃h:aG⦄,Ctx X k sc A l env cel loc ρ st h->aW X A [] (RV X) ρ st h (eval e env) (d ⟨F,cel,loc⟩)
abbrev HT (X:Cx)(F:Or)(k:ak)(sc:bN)(e:aH)(d:DT):Prop:=
 ∀ ⦃A:d8⦄ ⦃l:ah bH⦄ ⦃env:bH⦄ ⦃cel:ah (au×ak)⦄ ⦃loc:ah (ax AV)⦄ ⦃ρ:ah ay⦄ ⦃st:St⦄ ⦃h:aG⦄,Ctx X k sc A l env cel loc ρ st h->aW X A [] (RB X) ρ st h (tq e env (eval e env)) (d ⟨F,cel,loc⟩)
@[reducible] abbrev JB (X:Cx):ah ay->aG->ah AV->ah aw->Prop:=λρ h x v=>aT X ρ h x v
@[reducible] abbrev lN (_:Cx):ah ay->aG->aB->aw->Prop:=λu u b v=>v= .bool b
abbrev Ca (l:ah au):au ⊕ Int->aB
 |.inl x=>l.contains x
 |.inr _=>az
abbrev uT:aH->aB
 |.Slice .. =>aj
 |_=>az
abbrev rS (X:Cx)(ρ:ah ay)(h:aG):ax AV->aw->Prop
 |Option.none,v=>v= .none
 |some x,v=>aF X ρ h x v
@[reducible] abbrev RL (X:Cx)(sc:bN)(env:bH)(cel:ah (au×ak)):ah ay->aG->ah (ax AV)->b8->Prop:=λρ h loc u=>En X sc env cel loc ρ h
abbrev HA (X:Cx)(F:Or)(k:ak)(sc:bN)(e:aH)(d:DA):Prop:=
 ∀ ⦃A:d8⦄ ⦃l:ah bH⦄ ⦃env:bH⦄ ⦃cel:ah (au×ak)⦄ ⦃loc:ah (ax AV)⦄ ⦃ρ:ah ay⦄ ⦃st:St⦄ ⦃h:aG⦄,Ctx X k sc A l env cel loc ρ st h->∀{x:AV} {v:aw},aF X ρ h x v->
  aW X A [env.locals] (RL X sc env cel) ρ st h (lr e env v) (d x ⟨F,cel,loc⟩)
structure dD (S C:ah ay)(h h':aG):Prop where
 there:∀a o,h.get? a=ae o->∃o',h'.get? a=ae o'
 keep:∀a o,h.get? a=ae o->a∉C->∃sl,h'.get? a=ae { o with slots:=sl }/\(a∉S->sl=o.slots)
abbrev jL (l:ah bH):ah ay:=l.filterMap (·.frame)
abbrev mC (k:aI)(e:ay)(h₀ h:aG):Prop:=
 h₀.get? e=ag/\nJ (.type k)=az/\k≠"frame"/\∃o vs,h.get? e=ae o/\o.cls= .type k/\o.data= .fields vs/\4 < vs.size/\
  ∃T oT ts,vs[1]? =ae (.ref T)/\h₀.get? T=ag/\T≠e/\h.get? T=ae oT/\oT.cls= .type "traceback"/\oT.data= .fields ts/\3 < ts.size
structure kD (X:Cx)(ex:ah ay)(l:ah bH)(st:St)(br:ah ay)(h₀:aG)(ρ:ah ay)(h h':aG):Prop where
 inv:Inv X ρ st h'
 go:Go X ex br h₀ ρ h'
 dR:Frs X l ρ h'
 vals:∀x v,aF X ρ h x v->aF X ρ h' x v
 ns:∀a m,h.Ns a m->h'.Ns a m
inductive mD (X:Cx)(ρ:ah ay)(h:aG):FL->Flow->Prop where
 |next:mD X ρ h .next .next
 |brk:mD X ρ h .brk .brk
 |cont:mD X ρ h .cont .cont
 |ret {x:AV} {v:aw} (hx:aF X ρ h x v):mD X ρ h (.ret x) (.ret v)
@[reducible] abbrev RS (X:Cx)(sc:bN)(env:bH)(cel:ah (au×ak)):ah ay->aG->FL×ah (ax AV)->Flow->Prop:=λρ h p f=>mD X ρ h p.1 f/\En X sc env cel p.2 ρ h
abbrev HS (X:Cx)(F:Or)(k:ak)(sc:bN)(s:dy)(d:DS):Prop:=
 ∀ ⦃A:d8⦄ ⦃l:ah bH⦄ ⦃env:bH⦄ ⦃cel:ah (au×ak)⦄ ⦃loc:ah (ax AV)⦄ ⦃ρ:ah ay⦄ ⦃st:St⦄ ⦃h:aG⦄,Ctx X k sc A l env cel loc ρ st h->aW X A [env.locals] (RS X sc env cel) ρ st h (exec s env) (d ⟨F,cel,loc⟩)
abbrev iO (X:Cx)(F:Or)(k:ak)(sc:bN)(s:ah dy)(d:DS):Prop:=
 ∀ ⦃A:d8⦄ ⦃l:ah bH⦄ ⦃env:bH⦄ ⦃cel:ah (au×ak)⦄ ⦃loc:ah (ax AV)⦄ ⦃ρ:ah ay⦄ ⦃st:St⦄ ⦃h:aG⦄,Ctx X k sc A l env cel loc ρ st h->aW X A [env.locals] (RS X sc env cel) ρ st h (execs s env) (d ⟨F,cel,loc⟩)
inductive bP (X:Cx)(ρ:ah ay)(h:aG):ah ay->AI->aw->Prop where
 |list {s i:ak} {a I:ay} (e:ρ[s]? =ae a) (hi:h.IsListIter I a i) (n:I∉ρ) (b:X.base.get? I=ag):bP X ρ h [I] (.list (ae s) i) (.ref I)
 |range {I:ay} {c d:Int} {k:ak} (hi:tu h I c k d) (n:I∉ρ) (b:X.base.get? I=ag):bP X ρ h [I] (.range c k d) (.ref I)
 |obj {i:ak} {a:ay} (e:ρ[i]? =ae a):bP X ρ h [] (.obj i) (.ref a)
abbrev eF (X:Cx)(ρ:ah ay)(h:aG)(own:ah ay):Prop:=∀c∈own,c∉ρ/\X.base.get? c=ag/\(c∈X.bad\/∃o vs,h.get? c=ae o/\o.data= .fields vs/\o.cls≠ .type "code")
structure Dr (own ρ:ah ay)(h h':aG):Prop where
 there:∀a o,h.get? a=ae o->∃o',h'.get? a=ae o'
 keep:∀a o,h.get? a=ae o->a∉own->a∉ρ->h'.get? a=ae o
abbrev strOf (e:Int×aw):au:=match e.2 with |.str x _=>x |_=>Str.empty
abbrev uU (w:gL)(e:Int×aw):Prop:=∃x t,e=(lh w x,.str x t)
inductive gF (X:Cx)(ρ:ah ay)(h:aG)(a:ay)(es:aZ (Int×aw))(ep:ak)(t:gr):aw->ak->ah (Int×aw)->Prop where
 |text {i:ak} {j:ak} (hb:X.w.params.followText "set-order"=aj):gF X ρ h a es ep t (bI j) i ((tw (X.w.params.setOrder a ep) es).toList.drop i)
 |drawn {T:ay} {oT:Obj} {ps:ah ak} {i:ak} (hb:X.w.params.followText "set-order"=az) (n1:T∉ρ) (n2:X.ok T) (e:h.get? T=ae oT) (ht:rR oT (ps.map λ(p:ak)=>bI p).toArray) (hp:∀p∈ps,p < es.size):
   gF X ρ h a es ep t (.ref T) i ((ps.drop i).filterMap λp=>es[p]?)
 |one (hb:X.w.params.followText "set-order"=az) (hs:es.size<=1):gF X ρ h a es ep t (bI (0:ak)) 0 es.toList
 |done {j i:ak} (hb:X.w.params.followText "set-order"=az) (hs:es.size<=1) (hj:es.size<=m5 t.place j):gF X ρ h a es ep t (bI j) i []
abbrev qc (first:aw)(i:ak)(a:ay)(n ep:ak):Obj:={ cls:=.type "set_iterator",data:=.fields #[first,bI i,.ref a,bI n,bI ep] }
inductive dT (X:Cx)(ρ:ah ay)(h:aG):ah ay->AI->aw->Prop where
 |simple {own:ah ay} {ai:AI} {it:aw} (r:bP X ρ h own ai it):dT X ρ h own ai it
 |enum {own:ah ay} {a:AI} {e it:ay} {i:Int} {old:aw} (he:oa h e it i old) (n:e∉ρ) (b:X.base.get? e=ag) (ne:e∉own) (r:bP X ρ h own a (.ref it)):dT X ρ h (e :: own) (.enum i a) (.ref e)
 |zip {o1 o2:ah ay} {a1 a2:AI} {q TI TO:ay} {v1 v2 x y:aw} (hz:i7 h q TI TO .none) (hI:jx h TI v1 v2) (hO:jx h TO x y)
   (n:q∉ρ/\TI∉ρ/\TO∉ρ) (b:X.base.get? q=ag/\X.base.get? TI=ag/\X.base.get? TO=ag) (bad:TO∈X.bad) (xI:X.ok TI) (d:TI≠TO/\q∉o1++o2/\TO∉o1++o2/\(∀c∈o1,c∉o2)/\TI∉o1++o2)
   (r1:bP X ρ h o1 a1 v1) (r2:bP X ρ h o2 a2 v2):dT X ρ h (q :: TO :: (o1++o2)) (.zip a1 a2) (.ref q)
 |set {a it:ay} {o:Obj} {es:aZ (Int×aw)} {ep:ak} {t:gr} {first:aw} {i:ak} {cur:ah (Int×aw)} (n:it∉ρ) (b:X.base.get? it=ag) (na:a∉ρ) (xJ:X.ok a) (ho:h.get? a=ae o)
   (hd:o.data= .set es ep t) (hf:t.fits es.size=aj) (kF:es.size≠0->t.plain=az) (mE:t.led= !X.w.params.followText "set-order") (good:∀e∈cur,uU X.w e)
   (hi:h.get? it=ae (qc first i a es.size ep)) (hc:gF X ρ h a es ep t first i cur):dT X ρ h [it] (.set (cur.map strOf)) (.ref it)
abbrev Cb (n:aI):aB:=["enumerate","zip","dict_itemiterator","dict_reverseitemiterator","odict_iterator","itertools.zip_longest","itertools.pairwise"].contains n
abbrev Cx.more (X:Cx)(bad:ah ay):Cx:={ X with bad:=bad++X.bad }
abbrev rT (X:Cx)(z:aD)(ρ:ah ay)(h:aG)(Q E:aw->aD->Prop):Res AI->St->Prop:=λr bh=>match r with
 |.ok ai=>∀z' eQ h' t' bad own it,Zs z z'->Inv (X.more bad) eQ bh h'->Go X [] ρ h eQ h'->dT (X.more bad) eQ h' own ai it->(∀c∈own,h.get? c=ag)->(∀b∈bad,h.get? b=ag)->Q it (sh z' h' t')
 |.err k=>∀z' eQ h' t',Zs z z'->Inv X eQ bh h'->Go X [] ρ h eQ h'->∀e,eS k e h h'->E (.ref e) (sh z' h' t')
abbrev HI (X:Cx)(F:Or)(k:ak)(sc:bN)(e:aH)(d:DI):Prop:=
 ∀ ⦃A:d8⦄ ⦃l:ah bH⦄ ⦃env:bH⦄ ⦃cel:ah (au×ak)⦄ ⦃loc:ah (ax AV)⦄ ⦃ρ:ah ay⦄ ⦃st:St⦄ ⦃h:aG⦄,Ctx X k sc A l env cel loc ρ st h->∀z tk Q E,(d ⟨F,cel,loc⟩).run st (rT X z ρ h Q E)->
  aA (MX X) A (eval e env) (λx ji=>aA (MX X) A (f5 x) Q E ji) E (sh z h tk)
abbrev rU {β:Type}(p:Res β->St->Prop):Res β->St->Prop:=λr st=>match r with
 |.err _=>dm
 |.ok b=>p (.ok b) st
inductive cq (X:Cx)(ρ:ah ay)(h:aG):ah (au×AV)->ah (au×aw)->Prop where
 |nil:cq X ρ h [] []
 |cons {n:au} {x:AV} {v:aw} {xs:ah (au×AV)} {vs:ah (au×aw)} (hx:aF X ρ h x v) (hs:cq X ρ h xs vs):cq X ρ h ((n,x) :: xs) ((n,v) :: vs)
abbrev HF (X:Cx)(F:Or)(k:ak):Prop:=∀{A:d8} {l:ah bH} {ρ:ah ay} {st:St} {h:aG},cn X->Ar X k (20 * k+30) A l ρ h->Inv X ρ st h->
 ∀{fv:AV} {f:aw} {args:ah AV} {vs:ah aw} {kw:ah (au×AV)} {kvs:ah (au×aw)},aF X ρ h fv f->aT X ρ h args vs->cq X ρ h kw kvs->aW X A [] (RV X) ρ st h (call f vs kvs) (F fv args kw)
abbrev nK:m4->aH
 |⟨_,v,_⟩=>v
abbrev Flow.value:Flow->aw
 |.ret v=>v
 |_=>.none
abbrev Cc:ax (fg×ah dy×bN)->aB
 |some (a,_,sc)=>a.posonlyargs.isEmpty && a.args.isEmpty && a.kwonlyargs.isEmpty && a.vararg.map argName == ae (aq "args") && a.kwarg.map argName == ae (aq "kwargs") && e9 sc
 |_=>az
inductive lO (X:Cx)(ρ:ah ay)(h:aG):AS->aw->Prop where
 |val {x:AV} {v:aw} (r:aF X ρ h x v):lO X ρ h (.val x) v
 |range {r:ay} {b c:Int} {t u v:cK} {k:ak} (n:r∉ρ) (bb:X.base.get? r=ag) (hr:wA h r 0 b c t u v) (hb: -4096 < b/\b < 4096) (hc:c=1/\k=b.toNat\/c= -1/\k=(-b).toNat):lO X ρ h (.range 0 k c) (.ref r)
abbrev HR (X:Cx)(F:Or)(k:ak)(sc:bN)(e:aH)(d:DR):Prop:=
 ∀ ⦃A:d8⦄ ⦃l:ah bH⦄ ⦃env:bH⦄ ⦃cel:ah (au×ak)⦄ ⦃loc:ah (ax AV)⦄ ⦃ρ:ah ay⦄ ⦃st:St⦄ ⦃h:aG⦄,Ctx X k sc A l env cel loc ρ st h->aW X A [] (lO X) ρ st h (eval e env) (d ⟨F,cel,loc⟩)
structure jM (L:aB)(t:gr):Prop where
 xK:t.dummies= #[]
 mask:7<=t.mask
 led:t.led=L
abbrev kG (w:gL)(h:aG)(S:ay)(xs:ah au):Prop:=
 ∃o es ep t,h.get? S=ae o/\o.ExactSet/\o.data= .set es ep t/\(∀e∈es.toList,uU w e)/\(es.toList.map strOf).Perm xs/\t.fits es.size=aj/\jM (!w.params.followText "set-order") t/\(es.size≠0->t.plain=az)
abbrev JD (g:aB):aI:=if g then "max" else "min"
abbrev lp (g:aB):aI:=if g then "max.loop" else "min.loop"
abbrev qe:ax (aw×Int×cK)->aZ aw
 |none=>#[]
 |some p=>#[p.1,.int p.2.1 p.2.2]
abbrev rV (g:aB)(n:Int):ax (aw×Int×cK)->aB
 |none=>aj
 |some p=>if g then decide (p.2.1 < n)else decide (n < p.2.1)
abbrev upd (s:aD)(S:ay)(xs:aZ aw):aD:={ s with heap:=s.heap.update S (bQ λu=>xs) }
abbrev qf (X:Cx)(ρ:ah ay)(h:aG):ax (Int×AV)->ax (aw×Int×cK)->Prop
 |none,w=>w=ag
 |some p,w=>∃v t,w=ae (v,p.1,t)/\aF X ρ h p.2 v
abbrev mF {α:Type}(n:ak)(lt:ak->ak->aB):KasT α->ax α
 |.ret a=>ae a
 |.ask i j k=>if i < n/\j < n/\i≠j then mF n lt (k (lt i j))else ag
abbrev fY (r:ah ak)(i j:ak):aB:=decide (r.getD i 0 < r.getD j 0)
abbrev rW (n:ak)(r:ah ak):aB:=(mF n (fY r) (kas_sort n)).map (·.toList) == ae (sortBy (fY r) (dz n))
abbrev ranks:ak->ah (ah ak)
 | 0=>[[]]
 |n+1=>(ranks n).flatMap λr=>[0 :: r,1 :: r,2 :: r,3 :: r]
structure nL {α:Type}(lt:α->α->aB):Prop where
 uV:∀x,lt x x=az
 trans:∀x y z,lt x y=aj->lt y z=aj->lt x z=aj
 neg:∀x y z,lt x z=aj->lt x y=aj\/lt y z=aj
abbrev iy {α:Type}(lt:α->α->aB)(l:ah α)(x:α):ak:=l.countP λy=>lt y x
abbrev gG (x y:Keyed):aB:=decide (lu x.1 < lu y.1)
abbrev ft (rev:aB)(lt:Keyed->Keyed->aB)(it:ah Keyed):ah aw:=(sortBy (λx y=>if rev then lt y x else lt x y) it).map (·.2)
inductive Cd (X:Cx)(bad:ah ay)(F:Or)(z:aD)(ρ:ah ay)(h:aG)(kk:AV)(a kS:ay)(e1:ak)(l:ah AV)(vs:ah aw)(g:ah (Int×AV)->P AV)(p:Res AV->St->Prop)(i:ak)(s':aD):Prop where
 |mk {z':aD} {eQ:ah ay} {bh:St} {h':aG} {t':ak} {acc:ah (Int×AV)} {keys:ah aw} {e:ak} (es:s'=sh z' h' t') (Z:Zs z z') (I:Inv (X.more bad) eQ bh h') (G:Go X [] ρ h eQ h') (ha:a∉eQ) (hk:kS∉eQ)
  (gk:h'.get? kS=ae (bC "list" (l7 keys) e)) (ga:h'.get? a=ae (bC "list" #[] e1)) (hi:n8 keys (acc.map (λp:Int×AV=>p.1))) (hl:keys.length=i) (Wo:acc.map (λp:Int×AV=>p.2)=l.take i)
  (Wp:aT (X.more bad) eQ h' l vs) (hr:(nD F kk (l.drop i)>>=λrs=>g (acc++rs)).run bh p):Cd X bad F z ρ h kk a kS e1 l vs g p i s'
abbrev dJ (h:aG)(v:aw):Int×Int:=match v with
 |.ref a=>match h.get? a with
  |some o=>match o.data with
   |.seq xs _=>(lu (xs.getD 0 .none),lu (xs.getD 1 .none))
   |_=>(0,0)
  |none=>(0,0)
 |_=>(0,0)
abbrev jj (h:aG)(x y:Keyed):aB:=cX (dJ h x.1) (dJ h y.1)
abbrev nM (h:aG)(v:aw):Prop:=∃a o x t y u w n,v= .ref a/\h.get? a=ae o/\o.cls= .type "tuple"/\o.data= .seq #[.int x t,.int y u,w] n
set_option backward.match.sparseCases true in
abbrev rX (a:ay)(b:aB):dn PySem.Fin:=do
 let items <-GI (.ref a)
 tz (.ref a) λu=>#[]
 let before <-wC a
 let held <-wD items.toList
 let JF <-wF []
 lx [held,JF] do
  if b then jX "list.sort.reverse"
  let kind <-if items.size < 2 then pure An else keyKind' items
  let ((),s) <-(if items.size < 2 then pure ()else sortRuns').run (pG kind (if b then (items.zip items).reverse else items.zip items) #[] 7 ag)
  let sorted:=(jy s).map (·.2)
  let touched:=(<-wC a) != before
  tz (.ref a) λu=>if b then sorted.reverse else sorted
  if let ae e:=qQ s then jX "list.sort.comparison-raised";throw e
  if touched then jX "list.sort.modified";raiseError "ValueError" "list modified during sort"
  ret .none
inductive jk (X:Cx)(ρ:ah ay):AV->kh->aw->ah aw->Prop where
 |startswith {s:au} {t:cK}:jk X ρ (.str s) .startswith (.builtin "str.startswith") [.str s t]
 |split {s:au} {t:cK}:jk X ρ (.str s) .split (.builtin "str.split") [.str s t]
 |join {s:au} {t:cK}:jk X ρ (.str s) .join (.builtin "str.join") [.str s t]
 |append {i:ak} {a:ay} (e:ρ[i]? =ae a):jk X ρ (.ref i) .append (.builtin "list.append") [.ref a]
 |extend {i:ak} {a:ay} (e:ρ[i]? =ae a):jk X ρ (.ref i) .extend (.builtin "list.extend") [.ref a]
 |pop {i:ak} {a:ay} (e:ρ[i]? =ae a):jk X ρ (.ref i) .pop (.builtin "list.pop") [.ref a]
 |sort {i:ak} {a:ay} (e:ρ[i]? =ae a):jk X ρ (.ref i) .sort (.builtin "list.sort") [.ref a]
 |names {i:ak} {a f:ay} (e:ρ[i]? =ae a) (ef:X.ku uO=ae f):jk X ρ (.ref i) .names (.ref f) [.ref a]
abbrev Ce:kh->aI
 |.startswith=>"startswith" |.split=>"split" |.join=>"join" |.append=>"append" |.extend=>"extend" |.pop=>"pop" |.sort=>"sort" |.names=>"names"
structure mG (X:Cx)(F:Or)(k n:ak):Prop where
 e:∀sc e,HE X F k sc e (cE sc n e)
 t:∀sc e,HT X F k sc e (cT sc n e)
 r:∀sc e,HR X F k sc e (cR sc n e)
 i:∀sc e,HI X F k sc e (cI sc n e)
 a:∀sc e,HA X F k sc e (cA sc n e)
abbrev mH:ah (au×ay):=[(aq "heapreplace",28),(aq "heapify",35),(aq "_heapreplace_max",42),(aq "_heapify_max",49),(aq "_siftdown",56),(aq "_siftup",63),(aq "_siftdown_max",70),(aq "_siftup_max",77),
 (aq "nsmallest",83),(aq "nlargest",89),(aq "_kind",96),(aq "_c_path",103),(aq "_splitroot",110),(aq "_normpath",117),(aq "normpath",124),(aq "_Ignore.__init__",137),(aq "_Ignore.names",144),(aq "_Ignore",147),
 (aq "_law_to_be_left_out",156),(aq "_law_ranks",161),(aq "_law_few",166),(aq "_law_says",173),(aq "law",178)]
abbrev kH (n:au):ax ay:=mH.lookup n
@[reducible] abbrev X0 (K:ju)(w:gL)(ji:aD):Cx:={ w:=w,base:=ji.heap,os:=ji.os,ku:=kH,gV:=147,bad:=[],K:=K }
abbrev fnIn (K:ju)(a:ay):ax wo:=match K.lookup a with |some ⟨_,_,.func fd,_⟩=>ae fd |_=>ag
abbrev recIn (K:ju)(c:aw)(q:au):aB:=match c with
 |.ref a=>match K.lookup a with
  |some ⟨_,_,.fields vs,_⟩=>(match (vs[1]? :ax aw)with |some (.str x _)=>x == q |_=>az)
  |_=>az
 |_=>az
abbrev xM (K:ju)(v:aw):aB:=match v with
 |.none=>aj
 |.ref a=>match K.lookup a with |some ⟨_,_,.seq _ _,_⟩=>aj |_=>az
 |_=>az
abbrev rY (K:ju)(fd:wo):aB:=fd.scope.kind == .function && !fd.scope.isGenerator && !fd.scope.isCoroutine && fd.globals == gM && fd.closure.isEmpty && fd.builtins == qO && recIn K fd.code fd.qualname && xM K fd.defaults && (cM fd.scope my != ae .cell || fd.code == .ref rQ)
abbrev BL:ah (aI×AV):=[("len",AV.bi "len"),("reversed",.ty "reversed"),("range",.ty "range"),("iter",.bi "iter"),("object",.ty "object"),("min",.bi "min"),("max",.bi "max"),
   ("sorted",.bi "sorted"),("zip",.ty "zip"),("type",.ty "type"),("str",.ty "str"),("int",.ty "int"),("bool",.ty "bool"),("float",.ty "float"),("tuple",.ty "tuple"),("dict",.ty "dict"),("set",.ty "set"),("enumerate",.ty "enumerate"),("sum",.bi "sum"),("list",.ty "list"),("AttributeError",.ty "AttributeError"),("TypeError",.ty "TypeError")]
abbrev oS:ah aI:=["heapreplace","heapify","_heapreplace_max","_heapify_max","_siftdown","_siftup","_siftdown_max","_siftup_max","nsmallest","nlargest","_kind","_c_path","_splitroot","_normpath","normpath","_Ignore","_law_to_be_left_out","_law_ranks","_law_few","_law_says"]
abbrev iP (K:ju)(x:au):ax (ax aw):=match K.lookup gM with |some ⟨_,_,.dict es _,_⟩=>ae (jw es x) |_=>ag
abbrev uW:AV->ax aw
 |.bi n=>ae (.builtin n)
 |.ty n=>ae (.type n)
 |_=>ag
abbrev lhs (K:ju):=(((mH.filter λp=>p.1 != gE).all (λp=>(fnIn K p.2).any (rY K))),
 ((mH.filter λp=>p.1 != gE).map (λp=>(fnIn K p.2).map (λfd=>(fd.params,fd.body,fd.scope)))),
 ((K.lookup cJ).isNone),
 (codeHdIn K 177 175),
 (makesIn K 147),
 (keepIn K (.ref 147)),
 (fj K (.ref 147) "__init__"),
 (qP K (.ref 137)),
 (fj K (.ref 147) (aq "names")),
 (qP K (.ref 144)),
 (fj K (.ref 147) "__getattribute__"),
 (fj K (.ref 147) "__getattr__"),
 (fj K (.ref 147) "__setattr__"),
 (Al K 147),
 (Am K 147),
 (fj K (.ref 147) (aq "_mods")),
 (pF K 147 (aq "_mods")),
 (fj K (.ref 147) (aq "_dirs")),
 (pF K 147 (aq "_dirs")),
 (fj K (.ref 147) (aq "_ignore")),
 (pF K 147 (aq "_ignore")),
 (BL.map (λp=>iP K (aq p.1))),
 (oS.map (λn=>iP K (aq n))),
 ((match iP K (aq "sep")with |some (ae (.str x _))=>x == aq "/" |_=>az)),
 (iP K (aq "law")))
abbrev rhs:=((aj),
 ((mH.filter λp=>p.1 != gE).map (λp=>(defOf p.1).map (λq=>(q.1,wz q.2.1,q.2.2)))),
 (aj),
 (aj),
 (aj),
 (aj),
 (ae (ae (.ref 137)):ax (ax aw)),
 (ae (.type "function"):ax aw),
 (ae (ae (.ref 144)):ax (ax aw)),
 (ae (.type "function"):ax aw),
 (ae (ae (.builtin "object.__getattribute__")):ax (ax aw)),
 (ae ag:ax (ax aw)),
 (ae (ae (.builtin "object.__setattr__")):ax (ax aw)),
 (aj),
 (aj),
 (ae ag:ax (ax aw)),
 (ae ag:ax (ax aw)),
 (ae ag:ax (ax aw)),
 (ae ag:ax (ax aw)),
 (ae ag:ax (ax aw)),
 (ae ag:ax (ax aw)),
 (BL.map (λu=>ae ag):ah (ax (ax aw))),
 (oS.map (λn=>ae ((kH (aq n)).map gu)):ah (ax (ax aw))),
 (aj),
 (ae (ae (.ref 178)):ax (ax aw)))
abbrev Cf:ah ay:=[2,3,15,17,18,20,21,22,24,25,27,28,29,31,32,34,35,36,38,39,41,42,43,45,46,48,49,50,52,53,55,56,57,59,60,62,63,64,66,67,69,70,71,73,74,76,77,78,79,82,83,84,85,88,89,90,92,93,95,96,97,99,100,102,103,104,106,107,109,110,111,113,114,116,117,118,120,121,123,124,132,133,136,137,138,140,141,143,144,145,146,147,148,149,152,155,156,157,160,161,162,165,166,167,169,170,172,173,174,177,178]
abbrev FK (h:aG):ju:=Cf.filterMap λa=>(h.get? a).map λo=>(a,o)
@[reducible] abbrev pw:=PySem.Challenge.pw_oc0179_01
abbrev q0:mY:=view pw [26]
abbrev uX:ah au:=["_wall","heapreplace","heapify","_heapreplace_max","_heapify_max","_siftdown","_siftup","_siftdown_max","_siftup_max","nsmallest","nlargest","sep","_kind","_c_path","_splitroot","_normpath","normpath","_Ignore","_law_to_be_left_out","_law_ranks","_law_few","_law_says"].map aq
abbrev xN (s:aD):=(lhs (FK s.heap),s.heap.get? 175)
variable {X Y:Cx}{h H h₀ kj:aG}{B J j own br C fH:ah ay}{I Z jF:St}{A:d8}{F:Or}{U aP:bN}{k i W n u ep:ak}{E E':aw->aD->Prop}{a D S L:ay}{w:gL}{s z dE:aD}{v it:aw}{o o':Obj}{x y:AV}{prog:mY}{V:ah aw}{pos p q:fh}{G:bH}{l le:ah bH}{K:ju}{Q:ah (au×ak)}{kvs:ah (au×aw)}{N:ah (ax AV)}{e elt r target:aH}{kw:ah (au×AV)}{T xs:ah AV}{ai:AI}{ao:AO}{d:DE}{b:Int}{M:mX}{es:ah ((au ⊕ Int)×aw)}{O:aZ aw}{m mg:au->ax aw}{fd:wo}{R:Result->aD->Prop}{ct:DT}{f:aH->DE}{op:pz}{lo:ax aH}{ci:DI}{ca:DA}{ifs:ah aH}{mm:kh}{loose:ah au}
def aF.none:aF X B h .none .none:=rfl
def aF.bool (b:aB):aF X B h (.bool b) (.bool b):=rfl
def aF.int (i:Int)(t:cK):aF X B h (.int i) (.int i t):=⟨t,rfl⟩
def aF.str (x:au)(t:cK):aF X B h (.str x) (.str x t):=⟨t,rfl⟩
def aF.ty (n:aI):aF X B h (.ty n) (.type n):=rfl
def aF.bi (n:aI):aF X B h (.bi n) (.builtin n):=rfl
def aF.fn {n:au}(e:X.ku n=ae a):aF X B h (.fn n) (.ref a):=⟨e⟩
def aF.ref (e:B[i]? =ae a):aF X B h (.ref i) (.ref a):=⟨e⟩
def aF.pair {vx vy:aw}(n1:a∉B)(n2:X.ok a)(e:h.get? a=ae o)(t:rR o #[vx,vy])(hx:aF X B h x vx)(hy:aF X B h y vy):aF X B h (.pair x y) (.ref a):=⟨⟨n1,n2,e,t⟩,hx,hy⟩
def KO.refl (X:Cx)(a:ay)(o:Obj):KO X a o o:=.inl rfl
theorem KO.trans {c0 b0 a0:Obj}(x:KO X a c0 b0)(y:KO X a b0 a0):KO X a c0 a0:=by
 rcases x with rfl |⟨hb,hc,sl,rfl⟩
 ·exact y
 ·rcases y with rfl |⟨_,_,JG,rfl⟩
  ·exact .inr ⟨hb,hc,sl,rfl⟩
  ·exact .inr ⟨hb,hc,JG,rfl⟩
def KO.exact (x:KO X a o o')(h:∀es ep,o.data≠ .dict es ep):o'=o:=by
 rcases x with e |⟨_,⟨es,ep,hc⟩,_⟩
 ·exact e
 ·exact absurd hc (h es ep)
def KO.cls (x:KO X a o o'):o'.cls=o.cls:=by
 rcases x with rfl |⟨_,_,_,rfl⟩<;>rfl
def KO.data (x:KO X a o o'):o'.data=o.data:=by
 rcases x with rfl |⟨_,_,_,rfl⟩<;>rfl
def JH {d:Data}{xs:aZ aw}(h:d= .seq xs n): ¬ iu d:=by
 subst h;rintro⟨_,_,q⟩;cases q
def Step.refl (X:Cx)(ex B:ah ay)(h:aG):Step X ex B h B h:=⟨λu o e=>⟨o,e⟩,⟨[],(fS _).symm,λu D=>nomatch D⟩,λa o e u u u=>⟨o,e,.refl ..⟩⟩
def Step.dt {ex:ah ay}(S:Step X ex B h J H)(e:h.get? a=ae o)(hn:a∉B):a∉J:=by
 obtain⟨F,rfl,E⟩:=S.ext;intro D;rcases dX.mp D with D |D
 ·exact hn D
 ·rw[E a D]at e;cases e
def Step.trans {ex b0:ah ay}(S:Step X ex B h J H)(a0:Step X ex J H b0 kj):Step X ex B h b0 kj:=by
 refine⟨λa o e=>by obtain⟨F,E⟩:=S.there a o e;exact a0.there a F E,?_,λa o e M O N=>?_⟩
 ·obtain⟨R,rfl,Q⟩:=S.ext;obtain⟨K,rfl,L⟩:=a0.ext;refine⟨R++K,jY ..,λa D=>?_⟩;rcases dX.mp D with D |D
  ·exact Q a D
  ·cases q:h.get? a with
   |none=>rfl
   |some o=>obtain⟨F,E⟩:=S.there a o q;rw[L a D]at E;cases E
 ·obtain⟨F,E,k⟩:=S.keep a o e M O N;obtain⟨G,I,U⟩:=a0.keep a F E (S.dt e M) O (λD=>by rw[k.data];exact N D);exact⟨G,I,k.trans U⟩
def Step.mono {ex:ah ay}{a0:ah ay}(S:Step X ex B h J H)(hs:∀a∈ex,a∈a0):Step X a0 B h J H:=
 ⟨S.there,S.ext,λa o e D G E=>S.keep a o e D G λF=>E (hs a F)⟩
def Step.drop {ex:ah ay}(S:Step X (L :: ex) B h J H)(hL:h.get? L=ag):Step X ex B h J H:=
 ⟨S.there,S.ext,λa o e E G F=>S.keep a o e E G λD=>by
  rcases bu.mp D with rfl |D
  ·rw[hL]at e;cases e
  ·exact F D⟩
def Step.iQ {ex:ah ay}(S:Step X ex B h J H)(e:B[i]? =ae a):J[i]? =ae a:=by
 obtain⟨E,rfl,_⟩:=S.ext;obtain⟨D,_⟩:=cF.mp e;rw[ly D];exact e
def Step.uY {ex:ah ay}(S:Step X ex B h J H)(e:h.get? a=ae o)(n1:a∉B)(n2:a≠cJ)(nd:∀es ep,o.data≠ .dict es ep):H.get? a=ae o:=by
 obtain⟨E,D,k⟩:=S.keep a o e n1 n2 λ_ ⟨es,ep,q⟩=>nd es ep q;rw[k.exact nd]at D;exact D
def Kp.nd (k:Kp o)(es:aZ wu)(ep:ak):o.data≠ .dict es ep:=λq=>by
 cases k with
 |seq d=>exact tB (d.symm.trans q)
 |set d=>exact tB (d.symm.trans q)
 |code _ d=>exact tB (d.symm.trans q)
def Kp.nf {ws:aZ aw}(k:Kp o)(q:o.data= .fields ws):o.cls= .type "code":=by
 cases k with
 |seq d=>exact tB (d.symm.trans q)
 |set d=>exact tB (d.symm.trans q)
 |code c _=>exact c
theorem aF.dK (S:gW X j B J h H):∀{v:aw},aF X B h x v->aF { X with bad:=j } J H x v:=by
 have D:∀{V:aZ aw} {a:ay},TupAt X B h V a->TupAt { X with bad:=j } J H V a:=λq=>by
  obtain⟨I,F,e,c,n,d⟩:=q;obtain⟨E,G,e⟩:=S.obj _ _ I F e (.seq d);exact⟨E,G,e,c,n,d⟩
 induction x with
 |ref i=>rintro _ ⟨e⟩;exact⟨S.ref _ _ e⟩
 |one x ix=>rintro _ ⟨t,K⟩;exact⟨D t,ix K⟩
 |pair x y ix M=>rintro _ ⟨t,K,L⟩;exact⟨D t,ix K,M L⟩
 |dB x y z ix M R=>rintro _ ⟨t,K,L,O⟩;exact⟨D t,ix K,M L,R O⟩
 |gU l=>
  rintro _ ⟨⟨I,F,⟨o,e,c,n,d⟩,Q,N⟩⟩;obtain⟨E,G,e⟩:=S.obj _ _ I F e (.seq d);exact⟨⟨E,G,⟨o,e,c,n,d⟩,Q,N⟩⟩
 |cL l=>
  rintro _ ⟨⟨I,F,e,c,d,r⟩⟩;obtain⟨E,G,e⟩:=S.obj _ _ I F e (.set d);exact⟨⟨E,G,e,c,d,r⟩⟩
 |code q=>
  rintro _ ⟨⟨I,F,e,c,d,r⟩⟩;obtain⟨E,G,e⟩:=S.obj _ _ I F e (.code c d);exact⟨⟨E,G,e,c,d,r⟩⟩
 |_=>exact id
def Step.dK {ex:ah ay}(S:Step X ex B h J H):gW X X.bad B J h H:=⟨λu u=>S.iQ,λu u E D e k=>⟨S.dt e E,D,S.uY e E D.1 k.nd⟩⟩
def aF.step {ex:ah ay}(S:Step X ex B h J H)(r:aF X B h x v):aF X J H x v:=r.dK S.dK
def aT.jl (f:∀{x:AV} {v:aw},aF X B h x v->aF Y J H x v)(r:aT X B h xs V):aT Y J H xs V:=by
 induction r with
 |nil=>exact .nil
 |cons D _ E=>exact .cons (f D) E
def aT.step {ex:ah ay}(S:Step X ex B h J H)(r:aT X B h xs V):aT X J H xs V:=r.jl λq=>q.step S
def aT.length (r:aT X B h xs V):V.length=xs.length:=by
 induction r with
 |nil=>rfl
 |cons _ _ D=>exact bZ Nat.succ D
def aT.get (r:aT X B h xs V):∀{i:ak} {x:AV},xs[i]? =ae x->∃v,V[i]? =ae v/\aF X B h x v:=by
 induction r with
 |nil=>exact λe=>nomatch e
 |cons D _ E=>
  intro i x e;cases i with
  |zero=>exact⟨_,rfl,dp e ▸ D⟩
  |succ i=>exact E e
def aT.append {ys:ah AV}{ws:ah aw}(r:aT X B h xs V)(q:aT X B h ys ws):aT X B h (xs++ys) (V++ws):=by
 induction r with
 |nil=>exact q
 |cons D _ E=>exact .cons D E
def aT.set (r:aT X B h xs V)(hx:aF X B h x v):∀(i:ak),aT X B h (xs.set i x) (V.set i v):=by
 induction r with
 |nil=>exact λu=>.nil
 |cons F D E=>exact λi=>tC i (.cons hx D) λi=>.cons F (E i)
def aT.take (r:aT X B h xs V):∀(n:ak),aT X B h (xs.take n) (V.take n):=by
 induction r with
 |nil=>exact λn=>tC n .nil λu=>.nil
 |cons E F D=>exact λi=>tC i .nil λi=>.cons E (D i)
def aT.drop (r:aT X B h xs V):∀(n:ak),aT X B h (xs.drop n) (V.drop n):=by
 induction r with
 |nil=>exact λn=>tC n .nil λu=>.nil
 |cons F D E=>exact λi=>tC i (.cons F D) λi=>E i
def jK.none:jK X B h .none .none:=rfl
def jK.some (hx:aF X B h x v):jK X B h (.some x) (.some v):=⟨v,rfl,hx⟩
def OB.cls (b:OB X B h ao o):nJ o.cls=aj:=by
 cases ao with
 |list l=>obtain⟨_,_,rfl,_⟩:=b;rfl
 |cell v=>rw[b.1];rfl
 |inst d=>obtain⟨G,_,rfl⟩:=b;rfl
 |bc l=>rw[b.1];rfl
 |dict l=>obtain⟨D,⟨F,E,⟨c,_⟩,_⟩,_⟩:=b;rw[c];rfl
 |iter s i=>cases s with
  |none=>rw[b.1];rfl
  |some s=>rw[b.1];rfl
 |obj=>rw[b.1];rfl
 |lam _ _ _ _=>obtain⟨_,_,_,_,_,_,rfl,_⟩:=b;rfl
def jK.jl {x:ax AV}{v:ax aw}(f:∀{x:AV} {v:aw},aF X B h x v->aF Y J H x v)(r:jK X B h x v):jK Y J H x v:=by
 cases x with
 |none=>exact r
 |some x=>exact r.imp λu q=>⟨q.1,f q.2⟩
def eR.jl {l:ah ((au ⊕ Int)×AV)}(f:∀{x:AV} {v:aw},aF X B h x v->aF Y J H x v)(r:eR X B h l es):eR Y J H l es:=by
 induction r with
 |nil=>exact .nil
 |cons E _ D=>exact .cons (f E) D
def eR.length {l:ah ((au ⊕ Int)×AV)}(r:eR X B h l es):es.length=l.length:=by
 induction r with
 |nil=>rfl
 |cons _ _ D=>exact bZ Nat.succ D
def eR.get {l:ah ((au ⊕ Int)×AV)}(r:eR X B h l es)(k:au ⊕ Int):jK X B h (eE l k) (valueAt es k):=by
 unfold eE valueAt;induction r with
 |nil=>exact .none
 | @cons F _ _ _ _ D _ E=>
  rw[GJ,GJ];by_cases e:F=k
  ·rw[ja e];exact .some D
  ·rw[pH e];exact E
def eR.any {l:ah ((au ⊕ Int)×AV)}(r:eR X B h l es)(k:au ⊕ Int):(es.any λkv=>decide (kv.1=k))=l.any λp=>decide (p.1=k):=by
 induction r with
 |nil=>rfl
 |cons _ _ D=>rw[pI,pI,D]
def eR.map {l:ah ((au ⊕ Int)×AV)}(r:eR X B h l es)(k:au ⊕ Int)(hx:aF X B h x v):
  eR X B h (l.map λp=>if p.1=k then (p.1,x)else p) (es.map λkv=>if kv.1=k then (kv.1,v)else kv):=by
 induction r with
 |nil=>exact .nil
 | @cons E _ _ _ _ F _ D=>
  rw[f9,f9];by_cases e:E=k
  ·rw[aN e,aN e];exact .cons hx D
  ·rw[aK e,aK e];exact .cons F D
def eR.snoc {l:ah ((au ⊕ Int)×AV)}(r:eR X B h l es)(k:au ⊕ Int)(hx:aF X B h x v):eR X B h (l++[(k,x)]) (es++[(k,v)]):=by
 induction r with
 |nil=>exact .cons hx .nil
 |cons E _ D=>exact .cons E D
def eR.put {l:ah ((au ⊕ Int)×AV)}(r:eR X B h l es)(k:au ⊕ Int)(hx:aF X B h x v):eR X B h (putD l k x) (stored es k v):=by
 unfold putD stored;rw[r.any k];split
 ·exact r.map k hx
 ·exact r.snoc k hx
def fW.mono {l:ah (au×ak)}{cl:ah (au×ay)}(r:fW B l cl)(h:∀(i:ak) (a:ay),B[i]? =ae a->J[i]? =ae a):fW J l cl:=by
 induction r with
 |nil=>exact .nil
 |cons e _ D=>exact .cons (h _ _ e) D
def fW.get {l:ah (au×ak)}{cl:ah (au×ay)}{x:au}{c:ak}(r:fW B l cl):l.lookup x=ae c->∃a,B[c]? =ae a/\cl.lookup x=ae a:=by
 induction r with
 |nil=>exact λe=>nomatch e
 | @cons y _ _ _ _ e _ D=>
  rw[gv,gv];cases x == y with
  |true=>exact λh=>dp h ▸ ⟨_,e,rfl⟩
  |false=>exact D
theorem OB.dK (S:gW X j B J h H)(b:OB X B h ao o):OB { X with bad:=j } J H ao o:=by
 have f:∀{x:AV} {v:aw},aF X B h x v->aF { X with bad:=j } J H x v:=λr=>r.dK S;cases ao with
 |list l=>obtain⟨O,n,d,r,c⟩:=b;exact⟨O,n,d,r.jl f,c⟩
 |cell v=>obtain⟨c,M,d,r⟩:=b;exact⟨c,M,d,r.jl f⟩
 |inst d=>obtain⟨L,e,r⟩:=b;exact⟨L,S.ref _ _ e,r⟩
 |bc l=>obtain⟨c,I,n,d,k,z,r⟩:=b;exact⟨c,I,n,d,k,z,λx=>(r x).jl f⟩
 |dict l=>obtain⟨F,d,r,c⟩:=b;exact⟨F,d,r.jl f,c⟩
 |iter s i=>cases s with
  |none=>exact b
  |some s=>obtain⟨c,a,e,d⟩:=b;exact⟨c,a,S.ref _ _ e,d⟩
 |obj=>exact b
 |lam _ _ _ _=>obtain⟨E,D,K,N,c,G,e,r,v⟩:=b;exact⟨E,D,K,N,c,G,e,r.mono S.ref,f v⟩
def OB.step {ex:ah ay}(S:Step X ex B h J H)(b:OB X B h ao o):OB X J H ao o:=b.dK S.dK
def gX.ko (f:gX o)(k:KO X a o o'):gX o':=by obtain⟨D,B,d,q⟩:=f;exact⟨D,B,k.data.trans d,q⟩
def uR.refl (X:Cx)(B:ah ay)(h:aG):uR X B h h:=λu o e u f u=>⟨o,e,f⟩
def Go.refl (X:Cx)(ex B:ah ay)(h:aG):Go X ex B h B h:=⟨.refl ..,uR.refl X B h⟩
def Go.trans {ex a0:ah ay}(x:Go X ex B h J H)(y:Go X ex J H a0 kj):Go X ex B h a0 kj:=⟨x.step.trans y.step,λa o e n f b=>by
 obtain⟨F,D,E⟩:=x.fr a o e n f b;exact y.fr a F D (x.step.dt e n) E b⟩
def Go.mono {ex a0:ah ay}(x:Go X ex B h J H)(hs:∀a∈ex,a∈a0):Go X a0 B h J H:=⟨x.step.mono hs,x.fr⟩
theorem eS.oU {k:aI}{e:ay}{a0:aG}(x:eS k e a0 h)(hs:∀a o,h₀.get? a=ae o->∃o',a0.get? a=ae o'):eS k e h₀ h:=by
 have old:∀a,a0.get? a=ag->h₀.get? a=ag:=λa q=>by
  cases J:h₀.get? a with
  |none=>rfl
  |some o=>obtain⟨o',E⟩:=hs a o J;rw[q]at E;cases E
 obtain (⟨a,b,I,B⟩):=x;obtain (⟨o,V,F,H,G,K,D⟩):=B;refine⟨old _ a,b,I,o,V,F,H,G,K,?_⟩;rcases D with D |⟨T,oT,ts,d1,d2,d3⟩
 ·exact .inl D
 ·exact .inr ⟨T,oT,ts,d1,old _ d2,d3⟩
def Zs.refl (z:aD):Zs z z:=⟨rfl,rfl⟩
def Zs.trans {z' a0:aD}(x:Zs z z')(y:Zs z' a0):Zs z a0:=⟨y.1.trans x.1,y.2.trans x.2⟩
def aL.shift {e0:aD}{ex c0:ah ay}{d0:aG}{α β:Type}{R:ah ay->aG->β->α->Prop}{a0:α->aD->Prop}(b0:Zs z e0)(S:Go X ex B h c0 d0){r:Res β}(p:aL X z ex B h R a0 E r Z):aL X e0 ex c0 d0 R a0 E r Z:=λD J H G K I F=>by
 obtain q:=p D J H G (b0.trans K) I (S.trans F);cases r with
 |ok b=>exact q
 |err k=>exact λe x=>q e (x.oU S.step.there)
def aW.then {ex:ah ay}{α b0 β c0:Type}{R:ah ay->aG->β->α->Prop}{R':ah ay->aG->c0->b0->Prop}{a0:b0->aD->Prop}{t:dn α}{m:P β}{g:β->P c0}(h1:aW X A ex R B I h t m)(hr:(m>>=g).run I (aL X z ex B h R' a0 E)){Q':α->aD->Prop}(k:∀z' J Z H t' b a,Inv X J Z H->Go X ex B h J H->R J H b a->(g b).run Z (aL X z' ex J H R' a0 E)->Q' a (sh z' H t')):aA (MX X) A t Q' E (sh z h W):=by
 refine h1 z W Q' E (m.mono (λr Z y=>?_) (show m.run I _ from hr));intro z' J H t' F D S;cases r with
 |ok b=>exact λa G=>k z' J Z H t' b a D S G ((g b).mono (λu u p=>p.shift F S) y)
 |err k=>exact λe x=>y z' J H t' F D S e x
def aW.bind {ex:ah ay}{α a0 β b0:Type}{R:ah ay->aG->β->α->Prop}{R':ah ay->aG->b0->a0->Prop}{t:dn α}{f:α->dn a0}{m:P β}{g:β->P b0}(h1:aW X A ex R B I h t m)(h2:∀J Z H b a,Inv X J Z H->Go X ex B h J H->R J H b a->aW X A ex R' J Z H (f a) (g b)):aW X A ex R' B I h (t>>=f) (m>>=g):=by
 intro z W Q E L;refine bO (h1.then L λG J Z H K b a D S F y=>?_);exact h2 J Z H b a D S F G K Q E y
def aL.here {ex:ah ay}{α β:Type}{R:ah ay->aG->β->α->Prop}{b0:α->aD->Prop}{b:β}(a0:Inv X B Z h){a:α}(p:∀z' J H t',Zs z z'->Inv X J Z H->Go X ex B h J H->∀a,R J H b a->b0 a (sh z' H t'))(r:R B h b a)(t':ak):b0 a (sh z h t'):=
 p z B h t' (.refl z) a0 (.refl ..) a r
def aW.pure {ex:ah ay}{α β:Type}{R:ah ay->aG->β->α->Prop}{a:α}{b:β}(a0:Inv X B I h)(r:R B h b a):aW X A ex R B I h (te a) (P.pure b):=λz W Q E D=>
 aC (D z B h W (.refl z) a0 (.refl ..) a r)
def aW.fail {ex:ah ay}{α β:Type}{R:ah ay->aG->β->α->Prop}{t:dn α}:aW X A ex R B I h t (P.fail:P β):=λu u u u D=>D.elim
def Inv.xO (a0:Inv X B I h)(e:h.get? a=ae o)(hc:nJ o.cls=az):a∉B:=by
 intro G;obtain⟨i,E,F⟩:=qR.mp G;have gg:i < I.length:=a0.len ▸ E;obtain⟨H,D,b⟩:=a0.obj i I[i] a (cy gg) (by rw[cy E,F]);rw[e]at D;cases D;rw[b.cls]at hc;cases hc
def Inv.xP (a0:Inv X B I h)(e:h.get? a=ae o)(hc:o.cls≠ .none):a≠cJ:=by
 rintro rfl;obtain⟨V,D,_⟩:=a0.tab;rw[e]at D;cases D;exact hc rfl
def Inv.lt (a0:Inv X B I h)(hm:a∈B):a < h.objs.size:=by
 obtain⟨i,D,E⟩:=qR.mp hm;have gg:i < I.length:=a0.len ▸ D;obtain⟨G,F,b⟩:=a0.obj i I[i] a (cy gg) (by rw[cy D,E]);exact gN F
def Inv.Cg (a0:Inv X B I h):cJ∉B:=λD=>by obtain⟨o,e⟩:=a0.gd;rw[a0.new _ D]at e;cases e
def Inv.ew (a0:Inv X B I h)(e:h.get? a=ag):X.base.get? a=ag:=by
 cases q:X.base.get? a with
 |none=>rfl
 |some o=>
  by_cases D:a=cJ
  ·obtain⟨V,E,_⟩:=a0.tab;rw[<-D,e]at E;cases E
  ·rw[a0.base a o q D]at e;cases e
def Go.push (X:Cx)(ex B:ah ay)(h:aG)(o:Obj):Go X ex B h B (h.push o):=
 ⟨⟨λa D e=>⟨D,be _ e⟩,⟨[],(fS _).symm,λu E=>nomatch E⟩,λa D e u u u=>⟨D,be _ e,.refl ..⟩⟩,
  λa D e u f u=>⟨D,be _ e,f⟩⟩
def Inv.push (a0:Inv X B I h)(o:Obj):Inv X B I (h.push o):=
 ⟨a0.len,a0.nodup,λi E a G F=>by
   obtain⟨D,H,b⟩:=a0.obj i E a G F;exact⟨D,be _ H,b.step (Go.push X [] B h o).step⟩,
  λb D e J=>be _ (a0.base b D e J),a0.new,a0.gd,a0.mods,by obtain⟨V,e,c⟩:=a0.tab;exact⟨V,be _ e,c⟩,λb K=>by obtain⟨o,e⟩:=a0.gf b K;exact⟨o,be _ e⟩⟩
def eT (h:aG):h.get? h.objs.size=ag:=by
 cases q:h.get? h.objs.size with
 |none=>rfl
 |some o=>exact absurd (gN q) (dP _)
def Go.alloc (X:Cx)(ex B:ah ay)(h:aG)(o:Obj):Go X ex B h (B++[h.objs.size]) (h.push o):=
 ⟨⟨λa D e=>⟨D,be _ e⟩,⟨[h.objs.size],rfl,λa E=>by rw[aJ.mp E];exact eT h⟩,λa D e u u u=>⟨D,be _ e,.refl ..⟩⟩,
  λa D e u f u=>⟨D,be _ e,f⟩⟩
theorem Inv.snoc {o:Obj}(a0:Inv X B I h)(S:gW X j B (B++[D]) h H)(hb:∀b∈j,b∈X.bad)(hk:∀b o,h.get? b=ae o->H.get? b=ae o)(hD:D∉B)(hB:X.base.get? D=ag)(e:H.get? D=ae o)(b:OB { X with bad:=j } (B++[D]) H ao o):Inv { X with bad:=j } (B++[D]) (I++[ao]) H:=by
 refine⟨by rw[bK,bK,a0.len];rfl,?_,λi K a G F=>?_,λL J e N=>hk _ _ (a0.base L J e N),λa E=>?_,a0.gd,a0.mods,by obtain⟨V,e,c⟩:=a0.tab;exact⟨V,hk _ _ e,c.imp id λ⟨ao,E,q⟩=>⟨ao,gO _ E,q⟩⟩,λb E=>(a0.gf b (hb b E)).imp λo=>hk b o⟩
 ·refine tD.mpr ⟨a0.nodup,pJ.mpr ⟨pK,GK⟩,λa O b hb e=>?_⟩;rw[aJ.mp hb]at e;exact hD (e ▸ O)
 ·by_cases M:i < I.length
  ·rw[ly M]at G;rw[ly (by rw[a0.len];exact M)]at F;obtain⟨J,Q,L⟩:=a0.obj i K a G F;exact⟨J,hk _ _ Q,L.dK S⟩
  ·obtain gg:=n7.mp M;rw[wG gg]at G;rw[wG (by rw[a0.len];exact gg)]at F;rw[aJ.mp (cD G),aJ.mp (cD F)];exact⟨o,e,b⟩
 ·rcases dX.mp E with E |E
  ·exact a0.new a E
  ·rw[aJ.mp E];exact hB
def Inv.alloc (a0:Inv X B I h)(b:OB X B h ao o)(hf:o.isFreed=az):Inv X (B++[h.objs.size]) (I++[ao]) (h.push o):=
 have S:=(Go.alloc X [] B h o).step
 a0.snoc S.dK (λu=>id) (λu u e=>be _ e) (λD=>dP _ (a0.lt D)) (a0.ew (eT h)) (cV _ hf) (b.step S)
def Go.change (X:Cx)(hm:a∈B)(hs:fk a h H)(he:H.get? a=ae o')(ex:ah ay):Go X ex B h B H:=by
 refine⟨⟨λb o e=>?_,⟨[],(fS _).symm,λu hm=>nomatch hm⟩,λb o e D u u=>⟨o,(hs.2 b λq=>D (q ▸ hm)).trans e,.refl ..⟩⟩,λb o e D f u=>?_⟩
 ·by_cases q:b=a
  ·subst q;exact⟨_,he⟩
  ·exact⟨o,(hs.2 b q).trans e⟩
 exact⟨o,(hs.2 b λq=>D (q ▸ hm)).trans e,f⟩
theorem Inv.change {b0:AO}(a0:Inv X B I h)(hi:I[i]? =ae ao)(ha:B[i]? =ae a)(hs:fk a h H)(he:H.get? a=ae o')(b:OB X B h b0 o')(ex:ah ay)(hq:jh ao=aj->jh b0=aj:=by intro q0;cases q0):
  Inv X B (I.set i b0) H/\Go X ex B h B H:=by
 obtain O:a∈B:=cD ha;obtain G:=Go.change X O hs he;refine⟨⟨by simp[a0.len],a0.nodup,λj U c J K=>?_,λQ L E A=>?_,a0.new,a0.gd,a0.mods,?_,λb k=>by obtain⟨o,e⟩:=a0.gf b k;exact(G ex).step.there b o e⟩,G ex⟩
 ·by_cases D:j=i
  ·subst D;rw[ha]at K;cases K;obtain l:j < I.length:=(cF.mp hi).1;rw[l8 l]at J;cases J;exact⟨o',he,b.step (G []).step⟩
  ·rw[jz (λq=>D q.symm)]at J;obtain⟨L,E,Y⟩:=a0.obj j U c J K;obtain M:c≠a:=λq=>by
    subst q;obtain Z:=cF.mp K;obtain T:=cF.mp ha;exact D ((wH a0.nodup).mp (Z.2.trans T.2.symm))
   exact⟨L,(hs.2 c M).trans E,Y.step (G []).step⟩
 ·refine(hs.2 Q λq=>?_).trans (a0.base Q L E A);rw[q,a0.new a O]at E;cases E
 ·obtain⟨V,S,c⟩:=a0.tab;refine⟨V,(hs.2 cJ λq=>a0.Cg (q ▸ O)).trans S,c.imp id λ⟨W,N,q⟩=>?_⟩;obtain⟨j,D,R⟩:=qR.mp N;by_cases F:j=i
  ·subst F;rw[cy D,R]at hi;cases hi;exact⟨b0,cD (i:=j) (by rw[l8 D]),hq q⟩
  ·exact⟨W,cD (i:=j) (by rw[jz (λq=>F q.symm),cy D,R]),q⟩
def gh {α:Type}{a:α}{P:Prop}(e:ag=ae a):P:=nomatch e
def Inv.ns (a0:Inv X B I h)(n:X.base.Ns a m)(ha:a≠cJ):h.Ns a m:=by
 obtain⟨o,E,D,e,r⟩:=n;exact⟨o,E,D,a0.base a o e ha,r⟩
def Inv.lim (a0:Inv X B I h)(C:cn X):h.NoLimit:=by
 obtain⟨D,n,e⟩:=C.lim;exact⟨D,a0.ns n (by decide),e⟩
def Frs.step {ex:ah ay}(x:Frs X l B h)(k:Go X ex B h J H):Frs X l J H:=λe G=>by
 obtain⟨a,L,o,b,c,n,d,f⟩:=x e G;obtain⟨D,E,F⟩:=k.fr L o d n f c;exact⟨a,L,D,b,c,k.step.dt d n,E,F⟩
def Go.ns (S:Go X [] B h J H)(n:h.Ns a m)(h1:a∉B)(h2:a≠cJ):H.Ns a m:=by
 obtain⟨o,E,D,e,d,r⟩:=n;obtain⟨I,G,k⟩:=S.step.keep a o e h1 h2 λF=>nomatch F;exact⟨I,E,D,G,k.data.trans d,r⟩
def En.xP (b0:En X U G Q N B h)(a0:Inv X B I h):G.locals≠cJ:=λe=>by
 have:=b0.iw;obtain⟨o,D⟩:=a0.gd;rw[e,D]at this;cases this
def En.step (b0:En X U G Q N B h)(a0:Inv X B I h)(S:Go X [] B h J H):En X U G Q N J H:=by
 refine⟨b0.kind,b0.glob,b0.blt,b0.kinds,b0.len,?_,?_,b0.iw,λx c F=>?_⟩
 ·obtain⟨m,n,r⟩:=b0.ns;refine⟨m,S.ns n b0.fX (b0.xP a0),λx i v F M D=>?_⟩;obtain⟨L,E,K⟩:=r x i v F M D;exact⟨L,E,K.step S.step⟩
 ·obtain⟨m,n,r⟩:=b0.ns;obtain⟨o,O,R,e,_⟩:=n;exact S.step.dt e b0.fX
 ·obtain⟨a,D,E⟩:=b0.cells x c F;exact⟨a,S.step.iQ D,E⟩
def Ar.step {ex:ah ay}(a:Ar X n u A l B h)(k:Go X ex B h J H):Ar X n u A l J H:=⟨a.handled,a.depth,a.units,a.frames,a.dR.step k⟩
def JI {x y:au}(hx:lH U x=ae i)(hy:lH U y=ae i):x=y:=by
 unfold lH at hx hy;obtain⟨E,B,_⟩:=Ao.mp hx;obtain⟨F,D,_⟩:=Ao.mp hy;rw[bU]at B D;exact B.symm.trans D
def JJ (a0:Inv X B I h)(c:n5)(k:ak)(b0:fh):aW X A [] (RV X) B I h (eval (.Constant c k b0) G) (BY c ⟨F,Q,N⟩):=by
 intro z W D E H;cases c with
 |none=>exact GL (H _ _ _ _ (.refl _) a0 (.refl ..) _ .none)
 |bool b=>exact GN (H _ _ _ _ (.refl _) a0 (.refl ..) _ (.bool b))
 |int i=>exact GO (H _ _ _ _ (.refl _) a0 (.refl ..) _ (.int i _))
 |str x=>exact GP (H _ _ _ _ (.refl _) a0 (.refl ..) _ (.str x _))
 |float _=>exact H.elim
 |complex _ _=>exact H.elim
 |bytes _=>exact H.elim
 |ellipsis=>exact H.elim
def c9 {β γ:Type}{o:ax β}{g:β->P γ}{p:Res γ->St->Prop}(hr:(P.opt o>>=g).run I p):∃b,o=ae b/\(g b).run I p:=by
 cases o with
 |none=>exact hr.elim
 |some b=>exact⟨b,rfl,hr⟩
def uZ {β:Type}{o:ax β}{p:Res β->St->Prop}(hr:(P.opt o).run I p):∃b,o=ae b/\p (.ok b) I:=by
 cases o with
 |none=>exact hr.elim
 |some b=>exact⟨b,rfl,hr⟩
def eU {γ:Type}{g:AO->P γ}{p:Res γ->St->Prop}(hr:(P.load i>>=g).run I p):∃o,I[i]? =ae o/\(g o).run I p:=by
 rw[P.run_bind]at hr;unfold P.load at hr;dsimp only at hr;revert hr;cases I[i]? with
 |none=>exact λx=>x.elim
 |some o=>exact λx=>⟨o,rfl,x⟩
def a6 {γ:Type}{c:Prop}[wq c]{g:b8->P γ}{p:Res γ->St->Prop}(hr:(P.guard c>>=g).run I p):c/\(g ()).run I p:=by
 unfold P.guard at hr;by_cases B:c
 ·rw[aN B]at hr;exact⟨B,hr⟩
 ·rw[aK B]at hr;exact hr.elim
def jm {γ:Type}{g:Int->P γ}{p:Res γ->St->Prop}(hr:(dF x>>=g).run I p):∃i,x= .int i/\(g i).run I p:=by
 cases x with
 |int i=>exact⟨i,rfl,hr⟩
 |_=>exact hr.elim
def xQ {γ:Type}{g:au->P γ}{p:Res γ->St->Prop}(hr:(nz x>>=g).run I p):∃i,x= .str i/\(g i).run I p:=by
 cases x with
 |str i=>exact⟨i,rfl,hr⟩
 |_=>exact hr.elim
def iz {γ:Type}{g:ak->P γ}{p:Res γ->St->Prop}(hr:(e6 x>>=g).run I p):∃i,x= .ref i/\(g i).run I p:=by
 cases x with
 |ref i=>exact⟨i,rfl,hr⟩
 |_=>exact hr.elim
def xR (h:refOf x=ae i):x= .ref i:=by
 cases x with
 |ref j=>exact bZ AV.ref (dp h)
 |_=>exact gh h
def Ci {i:Int}(h:intOf x=ae i):x= .int i:=by
 cases x with
 |int j=>exact bZ AV.int (dp h)
 |_=>exact gh h
def JK {c:ak}{v:ax AV}(a0:Inv X B I h)(hc:I[c]? =ae (.cell v))(ha:B[c]? =ae a):∃v',h.IsCell a v'/\jK X B h v v':=by
 obtain⟨o,e,_,v',d,r⟩:=a0.obj c _ a hc ha;exact⟨v',⟨o,e,d⟩,r⟩
def JL {x:au}{c:RT}{p:Res AV->St->Prop}(hr:(uJ x c).run I p):∃i v,c.cel.lookup x=ae i/\I[i]? =ae (.cell (ae v))/\p (.ok v) I:=by
 obtain⟨i,B,hr⟩:=c9 hr;obtain⟨o,D,hr⟩:=eU hr;cases o with
 |cell v=>cases v with
  |none=>exact hr.elim
  |some v=>exact⟨i,v,B,D,hr⟩
 |_=>exact hr.elim
theorem Cj (C:cn X)(a0:Inv X B I h)(b0:En X U G Q N B h)(x:au):aW X A [] (RV X) B I h (loadName G x) (nG U x ⟨F,Q,N⟩):=by
 intros _ z W D E _ H;unfold nG at H;by_cases O:(x == aq "__debug__" || x == aq "__classdict__")=aj
 ·rw[aN O]at H;exact H.elim
 rw[aK O]at H;obtain J:=b0.kinds x;obtain Q:∀{k:Prop},(uJ x ⟨F,Q,N⟩).run I (aL X z [] B h (RV X) D E)->(∀a v,G.cells.lookup x=ae a->h.IsCell a (ae v)->D v (sh z h W)->k)->k:=λH k=>by
  obtain⟨c,v,u,w,H⟩:=JL H;obtain⟨a,Z,L⟩:=b0.cells x c u;obtain⟨_,K,R,rfl,T⟩:=JK a0 w Z;exact k a R L K (H _ _ _ _ (.refl _) a0 (.refl ..) _ T)
 cases V:cM U x with
 |none=>rw[V]at H;exact H.elim
 |some k=>
  rw[V]at H J;cases k with
  | «local»=>
   dsimp only at H;cases S:lH U x with
   |none=>rw[S]at H;exact H.elim
   |some i=>
    rw[S]at H;obtain⟨v,e,H⟩:=uZ (show(P.opt (N[i]?.join)).run I _ from H);obtain⟨m,n,r⟩:=b0.ns;obtain⟨R,l,T⟩:=r x i v V S (Option.join_eq_some_iff.mp e);exact wpAny_loadName_local b0.kind J n l (H _ _ _ _ (.refl _) a0 (.refl ..) _ T)
  |cell=>exact Q H λa v L K q=>GQ b0.kind J L K q
  |free=>
   refine Q H ?_;intro a;intros _ v _ L K q;rcases J with J |J
   ·exact GQ b0.kind J L K q
   ·exact wpAny_loadName_free b0.kind J L K q (by rw[pN,not_or,pO,pO]at O;exact O.2)
  |globalExplicit=>exact H.elim
  |globalImplicit=>
   dsimp only at H;cases M:p8 x with
   |none=>rw[M]at H;exact H.elim
   |some v=>
    intros v _ M;rw[M]at H;obtain (⟨b,o,Y,j,r⟩):=C.gl;have q:aA (MX X) A (loadGlobal G x) D E (sh z h W):=by
     rcases r x v M with ⟨R,e,sv⟩ |⟨e0,R,e,sv⟩
     ·exact PySem.Calls.loadGlobal_global (by rw[b0.glob];exact a0.ns Y (by decide)) e (H _ _ _ _ (.refl _) a0 (.refl ..) _ (sv ..))
     ·exact PySem.Calls.loadGlobal_builtin (by rw[b0.glob];exact a0.ns Y (by decide)) e0 (by rw[b0.blt];exact a0.ns j (by decide)) e (H _ _ _ _ (.refl _) a0 (.refl ..) _ (sv ..))
    rw[loadName_read b0.kind J];exact q
def Ck (C:cn X)(a0:Inv X B I h)(b0:En X U G Q N B h)(x:au)(c0:fh):aW X A [] (RV X) B I h (eval (.Name x c0) G) (nG U x ⟨F,Q,N⟩):=by
 intro z W D E H;by_cases J:(x == aq "__debug__" || x == aq "__classdict__")=aj
 ·unfold nG at H;rw[aN J]at H;exact H.elim
 ·have Cm:=J;rw[pN,not_or,pO,pO]at Cm;exact wpAny_Name (Cj (F:=F) C a0 b0 x z W D E H) Cm.1
def Cn {a:Int}(h:a.natAbs < 2 ^ 62): -(2 ^ 64) < a/\a < 2 ^ 64:=by
 have k:(a.natAbs:Int) < 2 ^ 64:=i5.2 (wI h (by decide:2 ^ 62 < 2 ^ 64));exact⟨GG (Ap k) (Int.neg_le_of_neg_le (Int.natAbs_neg a ▸ GR)),GS GR k⟩
def JM (h:0 < b/\b < 2 ^ 29):b.natAbs < 1073741824:=by
 obtain⟨n,rfl⟩:=Aq (Int.le_of_lt h.1);exact wI (i5.1 h.2) (by decide:2 ^ 29 < 1073741824)
def Inv.not_modules (a0:Inv X B I h)(hm:a∈B):(a == sysModules)=az:=by
 rw[og];intro e;obtain⟨o,D⟩:=a0.mods;have:=a0.new a hm;rw[e,D]at this;cases this
def ey {l:ah AV}(a0:Inv X B I h)(hi:I[i]? =ae (.list l))(ha:B[i]? =ae a):
  ∃(O:ah aw) (n:ak),IsL h a O.toArray n/\aT X B h l O/\O.length=l.length/\l.length<=10000:=by
 obtain⟨o,e,O,n,rfl,r,c⟩:=a0.obj i _ a hi ha;exact⟨O,n,e,r,r.length,c⟩
def gY {γ:Type}{g:ah AV->P γ}{p:Res γ->St->Prop}(hr:(lst i>>=g).run I p):∃l,I[i]? =ae (.list l)/\(g l).run I p:=by
 have B:(P.load i>>=λo=>(match o with |.list l=>P.pure l |_=>P.fail)>>=g).run I p:=hr;obtain⟨o,e,B⟩:=eU B;cases o with
 |list l=>exact⟨l,e,B⟩
 |_=>exact B.elim
def JN {l:ah AV}(a0:Inv X B I h)(r:aT X B h l V):aW X A [] (RV X) B I h (wF V) (cz l):=by
 intro z W Q E D;obtain⟨F,D⟩:=a6 D;have D:aL X z [] B h (RV X) Q E (.ok (.ref I.length)) (I++[.list l]):=D;refine oh ?_ (by rw[r.length];show l.length<=2 ^ 24;exact FI 0 4096 0 16777216 F rfl);refine D _ _ _ _ (.refl _) (a0.alloc (ao:=.list l) ⟨V,0,rfl,r,by exact FI 0 4096 0 10000 F rfl⟩ rfl) (Go.alloc ..) _ (.ref ?_);rw[<-a0.len];simp
def xS (a0:Inv X B I h)(o:Obj)(V:ah aw)(ho:o={ cls:=.type "tuple",data:=.seq V.toArray }):h.objs.size∉B/\X.ok h.objs.size/\(h.push o).get? h.objs.size=ae o/\rR o V.toArray:=by
 subst ho;refine⟨λE=>dP _ (a0.lt E),⟨λe=>?_,λF=>?_⟩,cV _ rfl,rfl,_,rfl⟩
 ·obtain⟨V,D,_⟩:=a0.tab;rw[<-e,eT]at D;cases D
 ·obtain⟨o,e⟩:=a0.gf _ F;rw[eT]at e;cases e
set_option tactic.hygienic true in theorem JO {l : ah AV} (a0 : Inv X B I h) (r : aT X B h l V) : aW X A [] (RV X) B I h (wD V) (oL l) := by
 intro z W Q E hr;cases r with
 |nil=>exact hr.elim
 |cons h1 r=>
  cases r with
  |nil=>exact hr.elim
  |cons h2 r=>
   cases r with
   |nil=>
    rename_i x v y w;refine m6 ?_ (by show 2<=2 ^ 24;decide);obtain⟨n1,n2,e,t⟩:=xS a0 _ [v,w] rfl;obtain S:=Go.push X [] B h { cls:=.type "tuple",data:=.seq [v,w].toArray };exact hr _ _ _ _ (.refl _) (a0.push _) S _ (.pair n1 n2 e t (h1.step S.step) (h2.step S.step))
   |cons h3 r=>
    cases r with
    |nil=>
     rename_i x v y w u w2;refine m6 ?_ (by show 3<=2 ^ 24;decide);obtain⟨n1,n2,e,t⟩:=xS a0 _ [v,w,w2] rfl;obtain S:=Go.push X [] B h { cls:=.type "tuple",data:=.seq [v,w,w2].toArray };exact hr _ _ _ _ (.refl _) (a0.push _) S _ (⟨⟨n1,n2,e,t⟩,h1.step S.step,h2.step S.step,h3.step S.step⟩)
    |cons h4 r=>exact hr.elim
theorem JQ {op:jU}{w:aw}(a0:Inv X B I h)(hx:aF X B h x v)(hy:aF X B h y w):aW X A [] (RV X) B I h (binaryOp op v w) (gc op x y):=by
 intros _ z W Q E _ D;have mk:∀{i:Int},aL X z [] B h (RV X) Q E (.ok (.int i)) I->∀t J,Q (.int i t) (sh z h J):=λD t J=>D _ _ _ _ (.refl _) a0 (.refl ..) _ (.int ..);cases x with
 |int a=>
  intros a _ hx D;obtain (⟨t,rfl⟩):=hx;obtain⟨b,rfl,D⟩:=jm D;obtain (⟨u,rfl⟩):=hy;cases op with
  |Add=>exact PySem.P.add_int (mk D _ _)
  |Sub=>exact PySem.P.sub_int (mk D _ _)
  |Mult=>
   obtain⟨F,D⟩:=a6 D;exact PySem.P.mul_int (mk D _ _) (IntMulOk.of_left (intBits_le_64 (Cn F.1).1 (Cn F.1).2))
  |FloorDiv=>
   obtain⟨F,D⟩:=a6 D;exact floordiv_int (GU F.1) (mk D _ _) (.inl (GV (JM F)))
  |Mod=>
   obtain⟨F,D⟩:=a6 D;exact mod_int' (GU F.1) (mk D _ _)
  |Pow=>
   obtain⟨F,D⟩:=a6 D;exact pow_int_small F.1 (by lia) (by exact FI 1 4611686018427387904 1 18446744073709551616 F.2.2 rfl) (mk D _ _)
  |RShift=>
   obtain⟨F,D⟩:=a6 D;subst F;exact rshift_int (by decide) (mk D _ _)
  |_=>exact D.elim
 |str a=>
  intros a _ hx D;obtain (⟨t,rfl⟩):=hx;obtain⟨q,G⟩:=a6 D;clear D;subst q;obtain⟨b,q,D⟩:=xQ G;clear G;subst q;obtain (⟨u,rfl⟩):=hy;obtain⟨F,D⟩:=a6 D;exact add_str (λJ U=>D _ _ _ _ (.refl _) a0 (.refl ..) _ (.str ..)) (by show _<=2 ^ 24;exact FI 0 4096 0 16777216 F rfl)
 |ref i=>
  intros i _ hx D;obtain⟨e⟩:=hx;obtain⟨q,G⟩:=a6 D;clear D;subst q;obtain (⟨j,q,D⟩):=iz G;clear G;subst q;obtain⟨T⟩:=hy;obtain (⟨S,O,D⟩):=gY D;obtain (⟨N,Z,D⟩):=gY D;obtain⟨F,D⟩:=a6 D;obtain⟨H,o,V,k,L,_⟩:=ey a0 O e;obtain⟨K,l,R,Y,M,_⟩:=ey a0 Z T;refine PySem.P.add_list V R ?_ (by rw[cG,cG];show _<=2 ^ 24;lia);rw[GW];refine D _ _ _ _ (.refl _) (a0.alloc (ao:=.list (S++N)) ⟨H++K,0,rfl,k.append Y,by exact FI 0 4096 0 10000 F rfl⟩ rfl) (Go.alloc ..) _ (.ref ?_);rw[<-a0.len];simp
 |_=>exact D.elim
theorem u5 (a0:Inv X B I h)(hx:aF X B h x v):aW X A [] (RB X) B I h (truthy v) (eD x):=by
 intros _ z W Q E _ D;cases x with
 |none=>cases hx;exact truthy_none (D _ _ _ _ (.refl _) a0 (.refl ..) _ rfl)
 |bool b=>cases hx;exact qM (D _ _ _ _ (.refl _) a0 (.refl ..) _ rfl)
 |int i=>obtain⟨t,rfl⟩:=hx;exact PySem.P.truthy_int (D _ _ _ _ (.refl _) a0 (.refl ..) _ rfl)
 |str x=>
  obtain⟨t,rfl⟩:=hx;obtain⟨H,D⟩:=a6 D;refine PySem.P.truthy_str (by lia) (D _ _ _ _ (.refl _) a0 (.refl ..) _ ?_);rcases Nat.eq_zero_or_pos x.length with q |q
  ·rw[q];rfl
  ·rw[qS.mpr (by lia),qS.mpr (by lia)]
 |ref i=>
  intros i _ hx D;obtain⟨e⟩:=hx;obtain⟨o,i,D⟩:=eU D;cases o with
  |list l=>
   obtain⟨K,n,q,r,len,J⟩:=ey a0 i e;refine wpAny_truthy_list q.isList (by rw[cG];lia) (D _ _ _ _ (.refl _) a0 (.refl ..) _ ?_);cases l with
   |nil=>cases r;rfl
   |cons a b=>cases r;rfl
  |dict l=>
   obtain⟨o,F,G,d,r,c⟩:=a0.obj _ _ _ i e;refine wpAny_truthy_dict (knd:=mB X) (a0.not_modules (cD e)) (tE.mpr ⟨o,F,d⟩) (by rw[r.length];lia) (D _ _ _ _ (.refl _) a0 (.refl ..) _ ?_);cases r <;>rfl
  |_=>exact D.elim
 |_=>exact D.elim
def Ctx.step (K:Ctx X k U A l G Q N B I h)(a0:Inv X J Z H)(b0:Go X [] B h J H):Ctx X k U A l G Q N J Z H:=
 ⟨K.ok,K.ar.step b0,K.top,a0,K.en.step K.inv b0,K.code⟩
def JR {l:aH}{op:jU}{a b:DE}(ha:HE X F k U l a)(hb:HE X F k U r b):HE X F k U (.BinOp l op r pos) (λrt=>do
   let x0 <-a rt
   let y0 <-b rt
   gc op x0 y0):=by
 intro A l G Q N B I h K z W D E T;refine wpAny_BinOp ?_;refine(ha K).then T λz1 f u m t1 x v o V L J=>?_;refine(hb (K.step o V)).then J λO M Y h2 Z y w S j R H=>?_;exact JQ S (L.step j.step) R O Z D E H
def JS {x:aH}{a:DE}(ha:HE X F k U x a):HE X F k U (.UnaryOp .Not x pos) (λrt=>do
   let v0 <-a rt
   let b0 <-eD v0
   P.pure (.bool !b0)):=by
 intro A l G Q N B I h K z W D E S;refine wpAny_UnaryOp ?_;refine(ha K).then S λb Z V j t1 x v Y o L J=>?_;refine not_value ?_;refine(u5 Y L).then J λu M T m f y w R G2 O H=>?_;obtain rfl:y=w:=O;exact H _ _ _ _ (.refl _) R (.refl ..) _ (.bool _)
def JT {x:aH}{a:DE}(ha:HE X F k U x a):HE X F k U (.UnaryOp .USub x pos) (λrt=>do
   let v0 <-a rt
   let i0 <-dF v0
   P.pure (.int (-i0))):=by
 intro A l G Q N B I h K z W D E R;refine wpAny_UnaryOp ?_;refine(ha K).then R λV O L S T x v M Y J H=>?_;obtain⟨i,rfl,H⟩:=jm H;obtain⟨t,rfl⟩:=J;exact PySem.P.neg_int (H _ _ _ _ (.refl _) M (.refl ..) _ (.int ..))
def JU {x y:aH}{a b:DE}(ha:HE X F k U x a)(hb:HE X F k U y b):HE X F k U (.BoolOp .And [x,y] pos) (λrt=>do
   let v0 <-a rt
   let c <-eD v0
   if c then b rt else P.pure v0):=by
 intro A l G Q N B I h K z W D E Y;refine wpAny_And2 ?_;refine(ha K).then Y λz1 f o m t1 x v R Z L J=>?_;refine(u5 R L).then J λT S j h2 u y w M O V H=>?_;obtain rfl:y=w:=V;cases y with
 |true=>exact hb ((K.step R Z).step M O) T u D E H
 |false=>exact H _ _ _ _ (.refl _) M (.refl ..) _ (L.step O.step)
def JV {x y:aH}{a b:DE}(ha:HE X F k U x a)(hb:HE X F k U y b):HE X F k U (.BoolOp .Or [x,y] pos) (λrt=>do
   let v0 <-a rt
   let c <-eD v0
   if c then P.pure v0 else b rt):=by
 intro A l G Q N B I h K z W D E Y;refine wpAny_Or2 ?_;refine(ha K).then Y λz1 f o m t1 x v R Z L J=>?_;refine(u5 R L).then J λT S j h2 u y w M O V H=>?_;obtain rfl:y=w:=V;cases y with
 |true=>exact H _ _ _ _ (.refl _) M (.refl ..) _ (L.step O.step)
 |false=>exact hb ((K.step R Z).step M O) T u D E H
def JW {t b o:aH}{cb co:DE}(ht:HT X F k U t ct)(hb:HE X F k U b cb)(ho:HE X F k U o co):HE X F k U (.IfExp t b o pos) (λrt=>do
   let c <-ct rt
   if c then cb rt else co rt):=by
 intro A l G Q N B I h K z W D E V;refine wpAny_IfExp ?_;refine(ht K).then V λM T S Y J x v L O R H=>?_;obtain rfl:x=v:=R;cases x with
 |true=>exact hb (K.step L O) M J D E H
 |false=>exact ho (K.step L O) M J D E H
def JX {x:aH}{a:DT}(ha:HT X F k U x a):HT X F k U (.UnaryOp .Not x pos) (λrt=>do
   let b0 <-a rt
   P.pure !b0):=by
 intro A l G Q N B I h K z W D E R;refine wpAny_isTrue_Not ?_;refine(ha K).then R λV O L S T x v M Y J H=>?_;obtain rfl:x=v:=J;exact H _ _ _ _ (.refl _) M (.refl ..) _ rfl
def JY {x y:aH}{a b:DT}(ha:HT X F k U x a)(hb:HT X F k U y b):HT X F k U (.BoolOp .And [x,y] pos) (λrt=>do
   let c <-a rt
   if c then b rt else P.pure az):=by
 intro A l G Q N B I h K z W D E T;refine As (GX ?_);refine(ha K).then T λR S O Y M x v J V L H=>?_;obtain rfl:x=v:=L;cases x with
 |true=>
  refine GX ?_;refine eA (hb (K.step J V) R M _ _ H) (λc Z q=>?_) λu u q=>q;cases c with
  |true=>exact wpAny_allTrue_And_nil q
  |false=>exact q
 |false=>exact H _ _ _ _ (.refl _) J (.refl ..) _ rfl
def JZ {x y:aH}{a b:DT}(ha:HT X F k U x a)(hb:HT X F k U y b):HT X F k U (.BoolOp .Or [x,y] pos) (λrt=>do
   let c <-a rt
   if c then P.pure aj else b rt):=by
 intro A l G Q N B I h K z W D E T;refine As (tF ?_);refine(ha K).then T λR S O Y M x v J V L H=>?_;obtain rfl:x=v:=L;cases x with
 |true=>exact H _ _ _ _ (.refl _) J (.refl ..) _ rfl
 |false=>
  refine tF ?_;refine eA (hb (K.step J V) R M _ _ H) (λc Z q=>?_) λu u q=>q;cases c with
  |true=>exact q
  |false=>exact GY q
def J2 {x y w:aH}{a b c:DT}(ha:HT X F k U x a)(hb:HT X F k U y b)(hc:HT X F k U w c):HT X F k U (.BoolOp .Or [x,y,w] pos) (λrt=>do
   let u0 <-a rt
   if u0 then P.pure aj else do
    let v0 <-b rt
    if v0 then P.pure aj else c rt):=by
 intro A l G Q N B I h K z W D E V;refine As (tF ?_);refine(ha K).then V λm o u f t1 x v M R L J=>?_;obtain rfl:x=v:=L;cases x with
 |true=>exact J _ _ _ _ (.refl _) M (.refl ..) _ rfl
 |false=>
  refine tF ?_;refine(hb (K.step M R)).then J λT S Y h2 Z x v O j L H=>?_;obtain rfl:x=v:=L;cases x with
  |true=>exact H _ _ _ _ (.refl _) O (.refl ..) _ rfl
  |false=>
   refine tF ?_;refine eA (hc ((K.step M R).step O j) T Z _ _ H) (λc s' q=>?_) λd d q=>q;cases c with
   |true=>exact q
   |false=>exact GY q
def J3 {a:DE}(ha:HE X F k U e a)(he:∀G whole,tq e G whole=(do let v0 <-whole;tG e.pos;lx [v0] (truthy v0))):HT X F k U e (λrt=>do
   let v0 <-a rt
   eD v0):=by
 intro A l G Q N B I h K z W D E T;refine wpAny_isTrue_value ?_ (he _ _);refine(ha K).then T λR S M V L x v O Y J H=>?_;exact u5 O J R L D E H
def kI {a0:ah aH}(h:dg e=aj):jA (e :: a0) G=(az,eval e G) :: jA a0 G:=by
 cases e <;>first |rfl |cases h
def xT:∀(es:ah aH) (f:aH->DE) (pos:fh),(∀e∈es,HE X F k U e (f e))->(∀e∈es,dg e=az->f e=stuck)->
  ∀{A:d8} {l:ah bH} {G:bH} {Q:ah (au×ak)} {N:ah (ax AV)} {B:ah ay} {I:St} {h:aG},Ctx X k U A l G Q N B I h->
   aW X A [] (JB X) B I h (spliced (lz pos (jA es G))) (dG (es.map f) ⟨F,Q,N⟩):=by
 intro w;induction w with
 |nil=>
  intro f pos _ _ A l G Q N B I h K;exact λz W D E H=>Au (H _ _ _ _ (.refl _) K.inv (.refl ..) _ .nil)
 |cons e es j=>
  intro f pos T S A l G Q N B I h K;intro z W D E H;cases Y:dg e with
  |false=>
   obtain H:(f e ⟨F,Q,N⟩>>=λv=>dG (es.map f) ⟨F,Q,N⟩>>=λV=>P.pure (v :: V)).run I _:=H;rw[S e (.head _) Y]at H;exact H.elim
  |true=>
  refine Av ?_ (kI Y);refine(T e (.head _) K).then H λz1 b0 a0 h1 t1 x v I1 o Z M=>?_;refine(j f pos (λL R=>T L (.tail _ R)) (λL R=>S L (.tail _ R)) (K.step I1 o)).then M λz2 u m h2 t2 xs V b G2 O J=>?_;exact J _ _ _ _ (.refl _) b (.refl ..) _ (.cons (Z.step G2.step) O)
def J4 {es:ah aH}(he:∀e∈es,HE X F k U e (f e))(hp:∀e∈es,dg e=az->f e=stuck):HE X F k U (.List es pos) (λrt=>do
   let l0 <-dG (es.map f) rt
   cz l0):=by
 intro A l G Q N B I h K z W D E T;refine List_ ?_;refine(xT es f pos he hp K).then T λR S M Z L Y V O j J H=>?_;exact JN O J R L D E H
def J5 {es:ah aH}(he:∀e∈es,HE X F k U e (f e))(hp:∀e∈es,dg e=az->f e=stuck):HE X F k U (.Tuple es n pos) (λrt=>do
   let l0 <-dG (es.map f) rt
   oL l0):=by
 intro A l G Q N B I h K z W D E T;refine Tuple_ ?_;refine(xT es f pos he hp K).then T λR S M Z L Y V O j J H=>?_;exact JO O J R L D E H
def J6 {o:AO}{l:ah AV}(h:listOf o=ae l):o= .list l:=by
 cases o with
 |list _=>exact bZ AO.list (dp h)
 |_=>exact gh h
def xU {f:AV->ax hX}{l:ah AV}(hf:∀x v d,aF X B h x v->f x=ae d->∃as,Reads h v d as/\d.canLay0=aj/\d.depth<=n)(r:aT X B h l V):
  ∀{ds:ah hX},c8 f l=ae ds->∃as,ReadsAll h V ds as/\PyData.canLayAll0 ds=aj/\GZ ds<=n:=by
 induction r with
 |nil=>exact λe=>dp e ▸ ⟨[],.nil,rfl,cZ _⟩
 | @cons x v l _ I Q H=>
  intro D e;have e:(match f x,c8 f l with |some d,ae ds=>ae (d :: ds) |_,_=>ag)=ae D:=e;cases F:f x with
  |none=>rw[F]at e;cases e
  |some d=>
   rw[F]at e;cases E:c8 f l with
   |none=>rw[E]at e;cases e
   |some ds=>
    rw[E]at e;cases e;obtain⟨as,N,J,M⟩:=hf x _ d I F;obtain⟨G,L,K,O⟩:=H E;refine⟨as++G,.cons N L,?_,Nat.max_le.mpr ⟨M,O⟩⟩;unfold PyData.canLayAll0;rw[J,K];rfl
theorem u7 {l:ah AV}(hx:aF X B h x v)(e:gb x=ae l):∃a O,v= .ref a/\IsTup h a O.toArray/\aT X B h l O:=by
 cases x with
 |one=>obtain⟨⟨_,_,D,t⟩,hx⟩:=hx;cases e;exact⟨_,_,rfl,⟨_,D,t⟩,.cons hx .nil⟩
 |pair=>obtain⟨⟨_,_,D,t⟩,hx,E⟩:=hx;cases e;exact⟨_,_,rfl,⟨_,D,t⟩,.cons hx (.cons E .nil)⟩
 |dB=>obtain⟨⟨_,_,D,t⟩,hx,E,F⟩:=hx;cases e;exact⟨_,_,rfl,⟨_,D,t⟩,.cons hx (.cons E (.cons F .nil))⟩
 |_=>exact gh e
def Co {d:hX}(hx:aF X B h x v)(e:uD x=ae d):∃as,Reads h v d as/\d.canLay0=aj/\d.depth<=n:=by
 cases x with
 |none=>cases hx;cases e;exact⟨[],.none,rfl,cZ _⟩
 |bool b=>cases hx;cases e;exact⟨[],.bool b,rfl,cZ _⟩
 |int i=>obtain⟨t,rfl⟩:=hx;cases e;exact⟨[],.int i t,rfl,cZ _⟩
 |str x=>
  obtain⟨t,rfl⟩:=hx;obtain⟨q,e⟩:=tH.mp e;cases e;exact⟨[],.str x t,q,cZ _⟩
 |_=>exact gh e
theorem qg (a0:Inv X B I h)(n:ak):∀(x:AV) (v:aw) (d:hX),aF X B h x v->a8 n I x=ae d->∃as,Reads h v d as/\d.canLay0=aj/\d.depth<=n:=by
 induction n with
 |zero=>exact λx v d D e=>Co D e
 |succ n E=>
  intros n _ E;intro x v d D e;have e:(match gb x with |some l=>(c8 (a8 n I) l).map .tuple |none=>match refOf x with |some i=>(I[i]?.bind listOf).bind λl=>(c8 (a8 n I) l).map .list |none=>uD x)=ae d:=e;cases F:gb x with
  |some l=>
   rw[F]at e;obtain⟨M,H,rfl⟩:=jZ.mp e;obtain⟨a,O,rfl,⟨o,K,N,m,L⟩,r⟩:=u7 D F;obtain⟨as,r,c,d⟩:=xU E r H;exact⟨as,.tuple K N L r,c,Aw d⟩
  |none=>
   rw[F]at e;cases G:refOf x with
   |none=>rw[G]at e;exact Co D e
   |some i=>
    rw[G]at e;obtain q:=xR G;subst q;obtain⟨R⟩:=D;obtain⟨l,J,e⟩:=qT.mp e;obtain⟨o,Q,J⟩:=qT.mp J;obtain⟨M,H,rfl⟩:=jZ.mp e;obtain q:=J6 J;subst q;obtain⟨S,m,q,r,_⟩:=ey a0 Q R;obtain⟨as,r,c,d⟩:=xU E r H;exact⟨_,.list q rfl rfl r,c,Aw d⟩
def Cp {d1 d2:ak}(hA:A.units+u<=9800)(h1:d1<=8):A.units+min d1 d2 < cLine:=by
 have:=th d1 d2;show _ < 9900
 lia
def Cq {v:aw}{w:aw}(hA:A.units+u<=9800)(a0:Inv X B I h)(hx:aF X B h x v)(hy:aF X B h y w):
  aW X A [] (λc c b v=>v= .bool b) B I h (i6 .Eq v w) (lF x y)/\aW X A [] (λc c b v=>v= .bool !b) B I h (i6 .NotEq v w) (lF x y):=by
 have H:∀{p:Res aB->St->Prop},(lF x y).run I p->∃F G,a8 8 I x=ae F/\a8 8 I y=ae G/\p (.ok (bY F G)) I:=by
  intro p D;obtain D:(match a8 8 I x,a8 8 I y with |some x,ae y=>P.pure (bY x y) |_,_=>P.fail).run I p:=D;cases K:a8 8 I x with
  |none=>rw[K]at D;exact D.elim
  |some F=>
   cases T:a8 8 I y with
   |none=>rw[K,T]at D;exact D.elim
   |some G=>rw[K,T]at D;exact⟨F,G,rfl,rfl,D⟩
 constructor
 ·intro z W Q E D;obtain⟨F,G,R,S,D⟩:=H D;obtain⟨Y,O,J,L⟩:=qg a0 8 x v F hx R;obtain⟨V,N,M,U⟩:=qg a0 8 y w G hy S;exact SeqAt.compareEq_reads O N J M (Cp hA L) (D _ _ _ _ (.refl _) a0 (.refl ..) _ rfl)
 ·intro z W Q E D;obtain⟨F,G,R,S,D⟩:=H D;obtain⟨Y,O,J,L⟩:=qg a0 8 x v F hx R;obtain⟨V,N,M,U⟩:=qg a0 8 y w G hy S;exact SeqAt.compareNe_reads O N J M (Cp hA L) (D _ _ _ _ (.refl _) a0 (.refl ..) _ rfl)
def J7 {v:aw}{l:ah AV}(hA:A.units+u<=9800)(a0:Inv X B I h)(hx:aF X B h x v)(hi:I[i]? =ae (.list l))(ha:B[i]? =ae a):
  aW X A [] (λc c b v=>v= .bool b) B I h (i6 .In v (.ref a)) (xy x l):=by
 intro z W Q E D;obtain D:(match a8 8 I x,c8 (a8 8 I) l with |some d,ae H=>P.pure (H.any λy=>bY y d) |_,_=>P.fail).run I _:=D;cases F:a8 8 I x with
 |none=>rw[F]at D;exact D.elim
 |some d=>
  cases G:c8 (a8 8 I) l with
  |none=>rw[F,G]at D;exact D.elim
  |some H=>
   rw[F,G]at D;obtain⟨S,M,J,R⟩:=qg a0 8 x v d hx F;obtain⟨T,m,q,r,_⟩:=ey a0 hi ha;obtain⟨O,L,K,N⟩:=xU (qg a0 8) r G;refine SeqAt.in_list_reads (.list q rfl rfl (by simpa using L)) M K J ?_ (D _ _ _ _ (.refl _) a0 (.refl ..) _ rfl);have:=th (GZ H) d.depth;show _ < 9900
   lia
theorem J8 {b:ay}{i a0 k m:Int}{t1 t2 t3 t4:cK}{v':aw}{b0:aw->aD->Prop}(hu:A.units < cLine)(ha:IsTup s.heap a #[.int i t1,.int a0 t2,v])(hb:IsTup s.heap b #[.int k t3,.int m t4,v'])(c0:i=k->a0≠m)(h:b0 (.bool (if i=k then decide (a0 < m)else decide (i < k))) s):
  aA (aV prog w) A (i6 .Lt (.ref a) (.ref b)) b0 E s:=by
 show aA _ _ (tI .Lt (.ref a) (.ref b)) b0 E s;have H:∀(P:PySem.Fin->aD->Prop) (A:d8),P (.done (.ret (.bool (if i=k then decide (a0 < m)else decide (i < k))))) s->aA (aV prog w) A (j2.«tuple.__lt__» ⟨[.ref a,.ref b],[]⟩) P E s:=by
  intros _ P A _ h;show aA _ _ (isInstance (.ref b) (.type "tuple")>>=_) _ _ s;refine wB (l9 hb.typeIs isSubtype_tuple_tuple ?_);simp only[qU,jb,jc];refine wB (tupleItemsOf_ ha ?_);refine wB (tupleItemsOf_ hb ?_);refine wB ?_;refine wpAny_forIn_list _ (λB r G=>r.1=ag/\G=s/\(B=[(tJ i t1,tJ k t3),(.int a0 t2,.int m t4),(v,v')]\/(i=k/\B=[(tJ a0 t2,tJ m t4),(v,v')]))) _ ?_ ?_ _ _ ⟨rfl,rfl,.inl rfl⟩
  ·rintro⟨p,q⟩ B r G ⟨hr,rfl,hc |⟨rfl,hc⟩⟩
   ·cases hc;refine wB (tn ?_);by_cases D:i=k
    ·subst D;simp only[BEq.rfl,qU,jb,jc];exact aC ⟨rfl,rfl,.inr ⟨trivial,trivial⟩⟩
    ·rw[Ax D];simp only[G9,jB];rw[aK D]at h;refine wB (gP ?_);refine wB (show aA _ _ (i6 .Lt (.int i t1) (.int k t3)) _ _ _ from PySem.P.lt_int ?_);exact wB (aC (aC (aC h)))
   ·cases hc;refine wB (tn ?_);obtain F:=c0 rfl;rw[Ax F];simp only[G9,jB];rw[aN rfl]at h;refine wB (gP ?_);refine wB (show aA _ _ (i6 .Lt (.int a0 t2) (.int m t4)) _ _ _ from PySem.P.lt_int ?_);exact wB (aC (aC (aC h)))
  ·rintro⟨r1,r2⟩ G ⟨_,_,hc |⟨_,hc⟩⟩<;>cases hc
 refine wpAny_richCompare_same_room ha.typeIs hb.typeIs PySem.F.slot_tuple_lt ?_ hu;exact gw PySem.F.slot_tuple_lt ha.typeIs PySem.F.entry_tuple_lt (H _ _ ⟨_,rfl,by simp,h⟩) (PySem.F.args_tuple_lt_2 _ _)
def isStrOf_self (x:au)(t:cK):lq x (.str x t)=aj:=by simp[lq]
def rZ {k:au ⊕ Int}(hx:aF X B h x v)(hk:gC x=ae k):(mB X).is k v=aj/\v.scannable=aj:=by
 cases x with
 |int i=>obtain⟨t,rfl⟩:=hx;cases hk;exact⟨ja rfl,rfl⟩
 |str s=>obtain⟨t,rfl⟩:=hx;cases hk;exact⟨isStrOf_self s t,rfl⟩
 |_=>exact gh hk
def ky.mem {xs:ah au}{es:ah (Int×aw)}{e:Int×aw}(r:ky X.w xs es)(he:e∈es):∃x t,x∈xs/\e=(lh X.w x,.str x t):=by
 induction r with
 |nil=>cases he
 |cons r B=>
  rcases bu.mp he with rfl |he
  ·exact⟨_,_,.head _,rfl⟩
  ·obtain⟨x,t,E,D⟩:=B he;exact⟨x,t,.tail _ E,D⟩
def ky.J9 {xs:ah au}{es:ah (Int×aw)}{x:au}(r:ky X.w xs es)(hx:x∈xs):∃t,(lh X.w x,qV x t)∈es:=by
 induction r with
 |nil=>cases hx
 |cons r B=>
  rcases bu.mp hx with rfl |hx
  ·exact⟨_,.head _⟩
  ·obtain⟨t,h⟩:=B hx;exact⟨t,.tail _ h⟩
theorem J' {l:ah au}{es:aZ (Int×aw)}{t:gr}(e:h.get? a=ae o)(hx:o.ExactSet)(hd:o.data= .set es ep t)(r:B6 X.w l es t):
  h.SetOf (mB X) a (Ca l) es.size:=by
 obtain⟨I,H,r,G,E,_⟩:=r;refine⟨o,es,ep,t,e,hx,hd,λe B=>?_,λk=>?_,wJ E (by decide),G,rfl⟩
 ·obtain⟨x,W,_,rfl⟩:=r.mem B;exact⟨⟨.inl x,isStrOf_self x W,rfl⟩,rfl⟩
 ·cases k with
  |inl y=>
   show l.contains y=aj↔_;rw[Ay,<-H.mem_iff];constructor
   ·intro D;obtain⟨t,F⟩:=r.J9 D;exact⟨_,F,isStrOf_self _ t⟩
   ·rintro⟨e,B,D⟩;obtain⟨x,W,hx,rfl⟩:=r.mem B;rcases mA (show uQ (.inl y) (qV x W)=aj from D)with ⟨y,t,q1,q⟩ |⟨i,t,q1,q⟩
    ·cases q;cases q1;exact hx
    ·cases q
  |inr i=>
   refine⟨λq=>Az (show az=aj from q),?_⟩;rintro⟨e,B,D⟩;obtain⟨x,W,hx,rfl⟩:=r.mem B;rcases mA (show uQ (.inr i) (qV x W)=aj from D)with ⟨y,t,q1,q⟩ |⟨i,t,q1,q⟩
   ·cases q1
   ·cases q
def xV {l:ah ((au ⊕ Int)×AV)}(a0:Inv X B I h)(hi:I[i]? =ae (.dict l))(ha:B[i]? =ae a):
  ∃kvs,h.DictOf (mB X) a kvs/\eR X B h l kvs/\l.length<=100:=by
 obtain⟨o,e,kvs,d,r,c⟩:=a0.obj i _ a hi ha;exact⟨kvs,tE.mpr ⟨o,e,d⟩,r,c⟩
def Ka {a0:aw->aD->Prop}{x y:ay}{ox oy:Obj}(c0:x≠y)(hx:s.heap.get? x=ae ox)(hy:s.heap.get? y=ae oy)(b0:oy.cls≠ .type "tuple")(h:a0 (.bool az) s):
  aA M A (i6 .Is (.ref x) (.ref y)) a0 E s:=by
 exact wB (PySem.SeqAt.wpAny_isSame_ref_other' c0 hx hy b0 (aC h))
def xW {p:Int×Int}(e:nB x=ae p):∃c,x= .dB (.int p.1) (.int p.2) c:=by
 cases x with
 |dB a b c=>
  obtain⟨i,B,e⟩:=qT.mp e;obtain⟨j,D,rfl⟩:=jZ.mp e;exact⟨c,by rw[Ci B,Ci D]⟩
 |_=>exact gh e
def Cr (a0:Inv X B I h)(e:B[i]? =ae a):∃o,h.get? a=ae o/\o.cls≠ .type "tuple":=by
 have D:i < I.length:=a0.len ▸ (cF.mp e).1;obtain⟨o,E,b⟩:=a0.obj i _ a (cy D) e;exact⟨o,E,λq=>Az (b.cls.symm.trans (bZ nJ q))⟩
theorem Kb {w:aw}(hA:A.units+u<=9800)(a0:Inv X B I h)(hx:aF X B h x v)(hy:aF X B h y w):aW X A [] (lN X) B I h (i6 .Lt v w) (BR x y):=by
 intros _ z W Q E _ D;have J:(BQ (nB x) (nB y)).run I (aL X z [] B h (lN X) Q E)->aA (MX X) A (i6 .Lt v w) Q E (sh z h W):=by
  clear D;intro D;cases G:nB x with
  |none=>rw[G]at D;exact D.elim
  |some p=>
   intros p _ G;cases F:nB y with
   |none=>rw[G,F]at D;exact D.elim
   |some q=>
    intros q _ F;rw[G,F]at D;obtain⟨_,e⟩:=xW G;subst e;obtain⟨_,e⟩:=xW F;subst e;obtain⟨a,b⟩:=p;obtain⟨c,d⟩:=q;obtain⟨⟨_,_,e,t⟩,⟨_,rfl⟩,⟨_,rfl⟩,_⟩:=hx;obtain⟨⟨_,_,L,K⟩,⟨_,rfl⟩,⟨_,rfl⟩,_⟩:=hy;obtain D:(if a=c then (if b=d then P.fail else P.pure (decide (b < d)))else P.pure (decide (a < c)):P aB).run I (aL X z [] B h (lN X) Q E):=D;refine J8 (by show _ < 9900;lia) ⟨_,e,t⟩ ⟨_,L,K⟩ (λq=>?_) ?_
    ·rw[aN q]at D;intro H;rw[aN H]at D;exact D
    ·by_cases q:a=c
     ·rw[aN q]at D |-;by_cases H:b=d
      ·rw[aN H]at D;exact D.elim
      ·rw[aK H]at D;exact D _ _ _ _ (.refl _) a0 (.refl ..) _ rfl
     ·rw[aK q]at D |-;exact D _ _ _ _ (.refl _) a0 (.refl ..) _ rfl
 cases x with
 |int a=>
  obtain⟨t,rfl⟩:=hx;obtain⟨b,q,D⟩:=jm D;subst q;obtain⟨u,rfl⟩:=hy;exact PySem.P.lt_int (D _ _ _ _ (.refl _) a0 (.refl ..) _ rfl)
 |_=>exact J D
theorem Kc {l:ah AV}(hx:aF X B h x v)(e:gb x=ae l):∃a o,v= .ref a/\a∉B/\h.get? a=ae o:=by
 cases x with
 |one=>obtain⟨⟨n,_,D,_⟩,_⟩:=hx;exact⟨_,_,rfl,n,D⟩
 |pair=>obtain⟨⟨n,_,D,_⟩,_⟩:=hx;exact⟨_,_,rfl,n,D⟩
 |dB=>obtain⟨⟨n,_,D,_⟩,_⟩:=hx;exact⟨_,_,rfl,n,D⟩
 |_=>exact gh e
set_option tactic.hygienic true in theorem Kd {w : aw} (a0 : Inv X B I h) (hx : aF X B h x v) (hy : aF X B h y w) : aW X A [] (lN X) B I h (i6 .Is v w) (isA x y) := by
 intro z W Q E hr;cases y with
 |none=>
  cases hy;refine PySem.is_none ?_;have key:(v == dq)=xA x:=by
   cases x with
   |none=>cases hx;rfl
   |int i=>obtain⟨t,rfl⟩:=hx;rfl
   |str i=>obtain⟨t,rfl⟩:=hx;rfl
   |bool i=>cases hx;rfl
   |ty i=>cases hx;rfl
   |bi i=>cases hx;rfl
   |_=>cases hx;rfl
  rw[key];exact hr _ _ _ _ (.refl _) a0 (.refl ..) _ rfl
 |ref j=>
  obtain⟨e'⟩:=hy;rename_i b;obtain⟨o2,e2,nt⟩:=Cr a0 e';cases hq:refOf x with
  |some i=>
   obtain q:=xR hq;subst q;obtain⟨e⟩:=hx;rename_i a;obtain hr:aL X z [] B h (lN X) Q E (.ok (i == j)) I:=hr;by_cases q:i=j
   ·subst q;rw[e]at e';cases e';exact wpAny_is_ref_self (hr _ _ _ _ (.refl _) a0 (.refl ..) _ (by simp))
   ·obtain Ke:a≠b:=λq'=>by
     subst q';obtain h3:=cF.mp e;obtain h4:=cF.mp e';exact q ((wH a0.nodup).mp (h3.2.trans h4.2.symm))
    obtain⟨o1,e1,ni⟩:=Cr a0 e;exact wpAny_is_ref_other Ke e1 e2 ni (hr _ _ _ _ (.refl _) a0 (.refl ..) _ (by rw[Ax q]))
  |none=>
   have hr:(P.opt (gb x)>>=λu=>P.pure az).run I (aL X z [] B h (lN X) Q E):=by
    unfold isA at hr;rw[hq]at hr;exact hr
   obtain⟨p,ek,hr⟩:=c9 hr;obtain⟨a,o,q,n1,e⟩:=Kc hx ek;subst q;exact Ka (λq=>n1 (q ▸ cD e')) e e2 nt (hr _ _ _ _ (.refl _) a0 (.refl ..) _ rfl)
 |ty n=>
  cases hy;cases x with
  |ty m=>
   cases hx;obtain hr:aL X z [] B h (lN X) Q E (.ok (m == n)) I:=hr;refine wpAny_is_plain rfl ?_;have e:(lA m == lA n)=(m == n):=by rw[qW];simp
   rw[e];exact hr _ _ _ _ (.refl _) a0 (.refl ..) _ rfl
  |_=>exact hr.elim
 |_=>exact hr.elim
def Kf {w:aw}(hA:A.units+u<=9800)(a0:Inv X B I h)(hx:aF X B h x v)(hy:aF X B h y w):aW X A [] (lN X) B I h (i6 .In v w) (BS x y):=by
 intro z W Q E D;cases y with
 |ref i=>
  obtain⟨e⟩:=hy;obtain⟨o,J,D⟩:=eU D;cases o with
  |list l=>exact J7 hA a0 hx J e z W Q E D
  |dict l=>
   obtain⟨k,F,D⟩:=c9 D;obtain⟨G,d,r,_⟩:=xV a0 J e;refine wpAny_in_of (rZ hx F).1 (a0.not_modules (cD e)) d.mapOf (D _ _ _ _ (.refl _) a0 (.refl ..) _ ?_);have:=r.get k;cases H:eE l k with
   |none=>rw[H]at this;rw[show valueAt G k=ag from this];rfl
   |some b=>rw[H]at this;obtain⟨_,e,_⟩:=this;rw[e];rfl
  |_=>exact D.elim
 |cL l=>
  obtain⟨⟨M,L,e,c,d,r⟩⟩:=hy;obtain⟨K,D⟩:=a6 D;obtain D:aL X z [] B h (lN X) Q E (.ok (inSet l x)) I:=D;obtain⟨k,F,Kg⟩:∃k,gC x=ae k/\Ca l k=inSet l x:=by
   cases x with
   |int i=>exact⟨_,rfl,rfl⟩
   |str s=>exact⟨_,rfl,rfl⟩
   |_=>cases K
  obtain q:=rZ hx F;refine wpAny_inSet_of (knd:=mB X) (s:=sh z h W) q.1 q.2 (J' e c d r) ?_;rw[Kg];exact D _ _ _ _ (.refl _) a0 (.refl ..) _ rfl
 |_=>exact D.elim
def Cs {w:aw}(hA:A.units+u<=9800)(a0:Inv X B I h)(hx:aF X B h x v)(hy:aF X B h y w):aW X A [] (lN X) B I h (i6 op v w) (dQ op x y):=by
 have G:∀{β:Type} {g:Int->Int->P β} {p:Res β->St->Prop},(dF x>>=λi=>dF y>>=λj=>g i j).run I p->∃i j t u,v= .int i t/\w= .int j u/\(g i j).run I p:=λD=>by
  obtain⟨i,q,F⟩:=jm D;clear D;subst q;obtain⟨j,q,H⟩:=jm F;clear F;subst q;obtain⟨t,K⟩:=hx;obtain⟨u,L⟩:=hy;exact⟨i,j,t,u,K,L,H⟩
 cases op with
 |Eq=>exact(Cq hA a0 hx hy).1
 |NotEq=>
  intro z W Q E D;refine(Cq hA a0 hx hy).2.then (show(lF x y>>=λb=>P.pure !b).run I _ from D) λT O M R S b v N U J F=>?_;exact F _ _ _ _ (.refl _) N (.refl ..) _ J
 |Lt=>exact Kb hA a0 hx hy
 |Gt=>
  intro z W Q E D;obtain⟨i,j,t,u,rfl,rfl,D⟩:=G D;exact PySem.P.gt_int (D _ _ _ _ (.refl _) a0 (.refl ..) _ rfl)
 |GtE=>
  intro z W Q E D;obtain⟨i,j,t,u,rfl,rfl,D⟩:=G D;exact PySem.P.ge_int (D _ _ _ _ (.refl _) a0 (.refl ..) _ rfl)
 |Is=>exact Kd a0 hx hy
 |In=>exact Kf hA a0 hx hy
 |_=>exact λz W Q E D=>D.elim
def Ct (h:iM r=aj):behindInMarks op r=az:=by
 cases r <;>first |rfl |cases h
def Kh {l:aH}{a b:DE}(ha:HE X F k U l a)(hb:HE X F k U r b):HE X F k U (.Compare l [op] [r] pos) (λrt=>do
   P.guard (iM r=aj)
   let x0 <-a rt
   let y0 <-b rt
   let c <-dQ op x0 y0
   P.pure (.bool c)):=by
 intro A l G Q N B I h K z W D E J;obtain⟨hq,J⟩:=a6 J;refine wpAny_Compare1 ?_ (Ct hq);refine(ha K).then J λz1 m o h1 t1 x v f Z O L=>?_;refine(hb (K.step f Z)).then L λz2 S j h2 t2 y w T u V H=>?_;refine(Cs K.ar.units T (O.step u.step) V).then H λz3 a0 R h3 t3 c v Y G3 rc M=>?_;rw[show v= .bool c from rc];exact M _ _ _ _ (.refl _) Y (.refl ..) _ (.bool c)
def Ki {l:aH}{a b:DE}(ha:HE X F k U l a)(hb:HE X F k U r b):HT X F k U (.Compare l [op] [r] pos) (λrt=>do
   P.guard (iM r=aj)
   let x0 <-a rt
   let y0 <-b rt
   dQ op x0 y0):=by
 intro A l G Q N B I h K z W L E S;obtain⟨hq,S⟩:=a6 S;refine wpAny_isTrue_Compare1 ?_ (Ct hq);refine(ha K).then S λz1 c0 b0 h1 t1 x v I1 f V T=>?_;refine(hb (K.step I1 f)).then T λj Y a0 h2 t2 y w u G2 o R=>?_;refine Cs K.ar.units u (V.step G2.step) o j t2 _ _ ((dQ op x y).mono (λr Z p=>?_) R);intro m J H t' M D O;obtain q:=p m J H t' M D O;cases r with
 |ok c=>exact λv rc=>by rw[show v= .bool c from rc];exact qM (q c rfl)
 |err e=>exact q
def Kj {l:ah AV}(e:gb x=ae l):l.length<=3:=by
 cases x <;>cases e <;>simp
def xX (h:uT e=az)(o i:aw):subscripted e az o i=operate [o,i] (getItem o i):=by
 cases e <;>first |rfl |cases h
theorem Kk {value b0:aH}{w:aw}(a0:Inv X B I h)(hs:uT b0=az)(hx:aF X B h x v)(hy:aF X B h y w):aW X A [] (RV X) B I h (AA value b0 v w) (ir x y):=by
 intros _ z W Q E _ D;unfold ir at D;cases K:refOf x with
 |none=>
  rw[K]at D;obtain (⟨j,q,D⟩):=jm D;subst q;obtain (⟨t,rfl⟩):=hy;obtain⟨M,D⟩:=a6 D;obtain (⟨l,V,D⟩):=c9 D;obtain⟨b,F,D⟩:=uZ D;obtain⟨a,O,rfl,U,r⟩:=u7 hx V;obtain⟨L,H,G⟩:=r.get F;obtain R:j.toNat < O.length:=(cF.mp H).1;exact tK U.typeIs PySem.F.slot_tuple_getitem.lookup (getItem_tuple U (by lia) (by lia) (seqIndex_of M.1 (by rw[cG];exact(Ha M.1).1 R)) (by simpa using H) (D _ _ _ _ (.refl _) a0 (.refl ..) _ G)) (xX hs _ _)
 |some i=>
  intros i _ K;rw[K]at D;obtain q:=xR K;subst q;obtain⟨e⟩:=hx;obtain⟨o,T,D⟩:=eU D;cases o with
  |list l=>
   obtain⟨j,q,D⟩:=jm D;subst q;obtain⟨t,rfl⟩:=hy;obtain⟨M,D⟩:=a6 D;obtain⟨b,F,D⟩:=uZ D;obtain⟨f,n,q,r,len,m⟩:=ey a0 T e;refine tK q.isList.typeIs PySem.F.slot_list_getitem.lookup ?_ (xX hs _ _);by_cases N:0<=j
   ·rw[aN N]at F;obtain⟨L,H,G⟩:=r.get F;exact wpAny_getItem_list q.isList N (by lia) (by simpa using H) (D _ _ _ _ (.refl _) a0 (.refl ..) _ G)
   ·rw[aK N]at F;by_cases S:0<=j+l.length
    ·rw[aN S]at F;obtain⟨L,H,G⟩:=r.get F;have J:(f.toArray.size:Int)=l.length:=by rw[cG,len]
     exact wpAny_getItem_list_neg q.isList (by lia) (by rw[J];lia) (by lia) (by rw[J];simpa using H) (D _ _ _ _ (.refl _) a0 (.refl ..) _ G)
    ·rw[aK S]at F;exact gh F
  |dict l=>
   obtain⟨k,u,D⟩:=c9 D;obtain⟨b,F,D⟩:=uZ D;obtain⟨Y,d,r,_⟩:=xV a0 T e;obtain q:=r.get k;rw[F]at q;obtain⟨L,Z,G⟩:=q;exact tK d.mapOf.typeIs PySem.F.slot_dict_getitem.lookup (wpAny_getItem_of (rZ hy u).1 d.mapOf Z (D _ _ _ _ (.refl _) a0 (.refl ..) _ G)) (xX hs _ _)
  |_=>exact D.elim
def Kl {o i:aH}{a b:DE}(hs:uT i=az)(ha:HE X F k U o a)(hb:HE X F k U i b):HE X F k U (.Subscript o i pos) (λrt=>do
   let v0 <-a rt
   let w0 <-b rt
   ir v0 w0):=by
 intro A l G Q N B I h K z W D E T;refine AB ?_;refine(ha K).then T λz1 m u h1 t1 x v f V L J=>?_;refine(hb (K.step f V)).then J λO M Y h2 Z y w S j R H=>?_;exact Kk S hs (L.step j.step) R O Z D E H
def Cu {o:ax AV}{γ:Type}{g:ax Int->P γ}{p:Res γ->St->Prop}(ho:rS X B h o v)(hr:(oM o>>=g).run I p):∃l:ax (Int×cK),v=oi l/\(g (l.map (·.1))).run I p:=by
 cases o with
 |none=>exact⟨ag,ho,hr⟩
 |some x=>
  obtain⟨j,q,hr⟩:=jm (g:=λj=>P.pure (ae j)>>=g) hr;subst q;obtain⟨t,q⟩:=ho;exact⟨ae (j,t),q,hr⟩
def Cv (l:ax (Int×cK)):IsPart (oi l) (l.map (·.1)):=by
 cases l with
 |none=>exact .none
 |some p=>exact .int _ _
def Cw {o:ax Int}(h:nC o=aj):∀a0,o=ae a0->0<=a0:=λa0 q=>by
 subst q;exact gx (Bool.and_eq_true_iff.mp h).1
def Km (lo hi:ax Int)(n:ak)(h0:∀a0,lo=ae a0->0<=a0)(h1:∀a0,hi=ae a0->0<=a0):
  sliceBounds lo hi ag n=(((ix 0 n lo:ak):Int),((ix n n hi:ak):Int),1):=by
 have c:∀(o:ax Int) (d:ak),(∀a0,o=ae a0->0<=a0)->(match o with
   |none=>(d:Int)
   |some i=>let i:=if i < 0 then i+n else i;if (1:Int) > 0 then max 0 (min i n)else max (-1) (min i ((n:Int) - 1)))=((ix d n o:ak):Int):=λo d h=>by
  cases o with
  |none=>rfl
  |some a0=>
   dsimp only;rw[aK (Hb.mpr (h a0 rfl)),aN (by decide),Int.max_eq_right (Int.le_min.mpr ⟨h a0 rfl,wt n⟩)];obtain⟨m,rfl⟩:=Aq (h a0 rfl);show min (m:Int) n=((min m n:ak):Int);rcases Nat.le_total m n with c |c
   ·rw[m7 c,Int.min_eq_left (Hc.2 c)]
   ·rw[tL c,Int.min_eq_right (Hc.2 c)]
 exact qX (c lo 0 h0) (qX (c hi n h1) rfl)
def Kn (O:ah aw)(lo hi:ax Int)(h0:∀a0,lo=ae a0->0<=a0)(h1:∀a0,hi=ae a0->0<=a0):
  slicePick O.toArray lo hi ag=((O.take (ix O.length O.length hi)).drop (ix 0 O.length lo)).toArray:=by
 unfold slicePick;rw[Km lo hi _ h0 h1];dsimp only;rw[sliceRange_one,pick_run,List.drop_take];simp
def Ko {l:ah Int}(r:n8 V l):aT X B h (l.map .int) V:=by
 induction r with
 |nil=>exact .nil
 |cons i t _ D=>exact .cons (.int i t) D
def Cy {ve:aH}{ad:ay}{O:ah aw}{l:ah AV}{la lb:ax (Int×cK)}{hi:ax aH}(a0:Inv X B I h)(q:h.IsList ad O.toArray)(r:aT X B h l O)(h4:l.length<=10000):
  ∀z W b0 E,(uE l (la.map (·.1)) (lb.map (·.1))).run I (aL X z [] B h (RV X) b0 E)->aA (MX X) A (AA ve (.Slice lo hi ag p) (.ref ad) (.ref h.objs.size)) b0 E (sh z (h.push { cls:=.type "slice",data:=.fields #[oi la,oi lb,.none] }) W):=by
 intro z W b0 E D;obtain G:=Go.push X [] B h { cls:=.type "slice",data:=.fields #[oi la,oi lb,.none] };obtain⟨F,D⟩:=a6 D;obtain⟨H,D⟩:=a6 D;obtain len:=r.length;refine tK (q.push _).typeIs PySem.F.slot_list_getitem.lookup ?_ (ops:=[.ref h.objs.size,.ref ad]) rfl;refine wpAny_getItem_list_slice (q.push _) (V5 h _ _ _) (Cv la) (Cv lb) .none (by simp) ?_ (by rw[cG,len];show _<=2 ^ 24;exact FI 0 10000 0 16777216 h4 rfl);rw[Kn O _ _ (Cw F.1) (Cw F.2),len];refine D _ _ _ _ (.refl _) ((a0.push _).alloc (ao:=.list _) ⟨_,0,rfl,((r.take _).drop _).step G.step,by exact FI 0 4096 0 10000 H rfl⟩ rfl) (G.trans (Go.alloc ..)) _ (.ref ?_);rw[<-a0.len];simp
theorem Kq {hi:ax aH}{ve:aH}{a b:ax AV}{va vb:aw}(a0:Inv X B I h)(hx:aF X B h x v)(ha:rS X B h a va)(hb:rS X B h b vb):
  ∀z W b0 E,(kl x a b).run I (aL X z [] B h (RV X) b0 E)->aA (MX X) A (AA ve (.Slice lo hi ag p) v (.ref h.objs.size)) b0 E (sh z (h.push { cls:=.type "slice",data:=.fields #[va,vb,.none] }) W):=by
 intros _ z W b0 E _ hr;obtain (⟨la,ea,hr⟩):=Cu ha hr;obtain (⟨lb,eb,hr⟩):=Cu hb hr;subst ea eb;cases x with
 |ref i=>
  obtain⟨e⟩:=hx;obtain⟨l,gg,hr⟩:=gY hr;obtain⟨it,n,q,r,_,hl⟩:=ey a0 gg e;exact Cy a0 q.isList r hl z W b0 E hr
 |gU l=>
  obtain⟨⟨n1,n2,e,hl,hn⟩⟩:=hx;exact Cy a0 e (Ko hl) (by rw[aO];exact FI 0 4096 0 10000 hn rfl) z W b0 E hr
 |str s=>
  intros s _ hx hr;obtain⟨t,rfl⟩:=hx;obtain⟨hg,hr⟩:=a6 hr;obtain G:=Go.push X [] B h { cls:=.type "slice",data:=.fields #[oi la,oi lb,.none] };obtain hr:∀t' t,b0 (.str (lg s (la.map (·.1)) (lb.map (·.1))) t') (sh z _ t):=λt' t=>hr z B _ t (.refl _) (a0.push _) G _ (.str _ _);refine tK (T:="str") (pP _ s t) PySem.F.slot_str_getitem.lookup ?_ (ops:=[.ref h.objs.size,.str s t]) rfl;refine wpAny_getItem_str_slice (l:=la) (u:=lb) (st:=ag) ⟨_,cV _ rfl,rfl,rfl⟩ rfl ?_;unfold sliceMade;obtain e:lg s (la.map (·.1)) (lb.map (·.1))=if (((ag:ax (Int×cK)).map (·.1)).getD 1 == 1 && (slicePicked s la lb ag).length == s.length)=aj then s else ⟨((slicePicked s la lb ag).filterMap (s.cps[·]?)).toArray⟩:=rfl
  rw[e]at hr;split
  ·rename_i q;rw[aN q]at hr;exact hr _ _
  ·rename_i q;rw[aK q]at hr;refine⟨?_,hr _ _⟩;show(l7 _).size<=2 ^ 24;rw[cG];exact dW (dW (List.length_filterMap_le (s.cps[·]?) _) (sliceIndices_le (la.map (·.1)) (lb.map (·.1)) s.length)) (by exact FI 0 4096 0 16777216 hg rfl)
 |_=>exact hr.elim
def Cz (ha:∀e,lo=ae e->HE X F k U e (f e))(K:Ctx X k U A l G Q N B I h):
  aW X A [] (rS X) B I h (evalPart lo G) (kr (lo.map f) ⟨F,Q,N⟩):=by
 intro z W D E J;cases lo with
 |none=>exact aC (J _ _ _ _ (.refl _) K.inv (.refl ..) _ rfl)
 |some e=>
  rw[evalPart_some];refine(ha e rfl K).then J λV R M S T x v O Y L H=>?_;exact H _ _ _ _ (.refl _) O (.refl ..) _ L
def Kr {o:aH}{hi:ax aH}{a:DE}(ha:HE X F k U o a)(h1:∀e,lo=ae e->HE X F k U e (f e))(h2:∀e,hi=ae e->HE X F k U e (f e)):
  HE X F k U (.Subscript o (.Slice lo hi ag p) pos) (λrt=>do
    let v0 <-a rt
    let x0 <-kr (lo.map f) rt
    let y0 <-kr (hi.map f) rt
    kl v0 x0 y0):=by
 intro A l G Q N B I h K z W D E hr;refine AB ?_;refine(ha K).then hr λz1 d0 c0 a0 t1 x v u Y b M=>?_;refine wpAny_Slice ?_;refine(Cz h1 (K.step u Y)).then M λz2 J b0 S t2 y w I2 Z V H=>?_;refine(Cz h2 ((K.step u Y).step I2 Z)).then H λz3 R m h3 t3 y' w' I3 j T O=>?_;have L:rS X R h3 y w:=by
  cases y with
  |none=>exact V
  |some y=>exact aF.step j.step (show aF X J S y w from V)
 rw[evalPart_none];exact aC (Kq (lo:=lo) (hi:=hi) (ve:=o) (p:=p) I3 ((b.step Z.step).step j.step) L T z3 t3 D E O)
def Go.keeps (X:Cx)(B:ah ay)(hk:∀b o,h.get? b=ae o->H.get? b=ae o)(ex:ah ay):Go X ex B h B H:=
 ⟨⟨λb o e=>⟨o,hk b o e⟩,⟨[],(fS _).symm,λu D=>nomatch D⟩,λb o e u u u=>⟨o,hk b o e,.refl ..⟩⟩,λb o e u f u=>⟨o,hk b o e,f⟩⟩
def Inv.keeps (a0:Inv X B I h)(hk:∀b o,h.get? b=ae o->H.get? b=ae o):Inv X B I H:=
 ⟨a0.len,a0.nodup,λi E a G F=>by
   obtain⟨D,J,b⟩:=a0.obj i E a G F;exact⟨D,hk _ _ J,b.step (Go.keeps X B hk []).step⟩,
  λb D e K=>hk _ _ (a0.base b D e K),a0.new,a0.gd,a0.mods,by obtain⟨V,e,c⟩:=a0.tab;exact⟨V,hk _ _ e,c⟩,λb L=>by obtain⟨o,e⟩:=a0.gf b L;exact⟨o,hk _ _ e⟩⟩
def Inv.frame (a0:Inv X B I h)(hL:L∉B)(hB:X.base.get? L=ag)(hs:fk L h H)(e:h.get? L=ae o)(f:gX o)(e':H.get? L=ae o')(f':gX o'):
  Inv X B I H/\Go X [L] B h B H:=by
 have G:Go X [L] B h B H:=by
  refine⟨⟨λb E D=>?_,⟨[],(fS _).symm,λu Z=>nomatch Z⟩,λb E D M u Q=>?_⟩,λb E D M A u=>?_⟩
  ·by_cases q:b=L
   ·subst q;exact⟨_,e'⟩
   ·exact⟨E,(hs.2 b q).trans D⟩
  ·by_cases q:b=L
   ·subst q;rw[e]at D;cases D;obtain⟨N,U,d,_⟩:=f;exact absurd ⟨N,U,d⟩ (Q (.head _))
   ·exact⟨E,(hs.2 b q).trans D,.refl ..⟩
  ·by_cases q:b=L
   ·subst q;exact⟨o',e',f'⟩
   ·exact⟨E,(hs.2 b q).trans D,A⟩
 obtain F:cJ≠L:=λq=>by obtain⟨o,e⟩:=a0.gd;rw[q,hB]at e;cases e
 refine⟨⟨a0.len,a0.nodup,λi K a O J=>?_,λb E D S=>?_,a0.new,a0.gd,a0.mods,?_,λb T=>by obtain⟨o,e⟩:=a0.gf b T;exact G.step.there b o e⟩,G⟩
 ·obtain⟨Y,j,W⟩:=a0.obj i K a O J;exact⟨Y,(hs.2 a λq=>hL (q ▸ cD J)).trans j,W.step G.step⟩
 ·refine(hs.2 b λq=>?_).trans (a0.base b E D S);rw[q,hB]at D;cases D
 ·obtain⟨V,R,c⟩:=a0.tab;exact⟨V,(hs.2 cJ F).trans R,c⟩
def CA (n:h.Ns L m):∃o,h.get? L=ae o/\gX o:=by
 obtain⟨o,D,B,e,d,q,_⟩:=n;exact⟨o,e,D,B,d,q⟩
def En.Ks {c0:ah (ax AV)}{ex:ah ay}(a0:En X U G Q N B h)(b0:Go X ex B h J H)(hl:c0.length=U.names.length)(hn:∃m,H.Ns G.locals m/\∀x i v,cM U x=ae .local->lH U x=ae i->c0[i]? =ae (ae v)->∃v',m x=ae v'/\aF X J H v v'):En X U G Q c0 J H:=by
 refine⟨a0.kind,a0.glob,a0.blt,a0.kinds,hl,hn,?_,a0.iw,λx c F=>?_⟩
 ·obtain⟨m,n,_⟩:=a0.ns;obtain⟨o,I,K,e,_⟩:=n;exact b0.step.dt e a0.fX
 ·obtain⟨a,D,E⟩:=a0.cells x c F;exact⟨a,b0.step.iQ D,E⟩
theorem xY (a0:Inv X B I h)(b0:En X U G Q N B h)(hx:aF X B h x v)(n:au):
  aW X A [G.locals] (RL X U G Q) B I h (qY G n v) (nameA U n x ⟨F,Q,N⟩):=by
 intros _ z W D E _ K;unfold nameA at K;have k:=b0.kinds n;cases O:cM U n with
 |none=>rw[O]at K;exact K.elim
 |some kd=>
  rw[O]at K k;cases kd with
  | «local»=>
   dsimp only at K;cases L:lH U n with
   |none=>rw[L]at K;exact K.elim
   |some i=>
    intros i _ L;rw[L]at K;have K:aL X z [G.locals] B h (RL X U G Q) D E (.ok (N.set i (ae x))) I:=K;obtain (⟨m,hn,r⟩):=b0.ns;refine wpAny_storeName_local k hn ?_ (by rw[b0.kind];rfl);intros _ H _ M V;obtain (⟨o,e,f⟩):=CA hn;obtain (⟨o',e',f'⟩):=CA M;obtain⟨Y,J⟩:=a0.frame b0.fX b0.iw V e f e' f';refine K _ _ _ _ (.refl _) Y J () (b0.Ks J (by rw[eJ];exact b0.len) ⟨_,M,?_⟩);intros _ y j w _ h1 S R;by_cases q:y=n
    ·subst q;rw[L]at S;cases S;have l:i < N.length:=by
      rw[b0.len];exact(Ao.mp L).1
     rw[l8 l]at R;cases R;exact⟨v,by simp,hx.step J.step⟩
    ·obtain u:i≠j:=λq'=>q (JI (q' ▸ S) L);rw[jz u]at R;obtain (⟨v',Z,r1⟩):=r y j w h1 S R;exact⟨v',by simp[q,Z],r1.step J.step⟩
  |cell=>
   dsimp only at K
   ·unfold km at K;obtain (⟨c,Z,K⟩):=c9 K;obtain (⟨o,e2,K⟩):=eU K;cases o with
    |cell w=>
     have K:aL X z [G.locals] B h (RL X U G Q) D E (.ok N) (I.set c (.cell (ae x))):=K;obtain⟨a,b,e4⟩:=b0.cells n c Z;obtain⟨ob,T,hc,v',d,_⟩:=a0.obj c _ a e2 b;unfold storeName;rw[b0.kind,show G.kindOf n=ae .cell from k];refine wB (wpAny_cellOf e4 ?_);unfold cellSet;refine bO (wpAny_load T ?_);rw[d];refine wpAny_update T ?_;obtain V:fk a h (h.update a λo=>{ o with data:=.cell (ae v) }):=dY ..;obtain he:(h.update a λo=>{ o with data:=.cell (ae v) }).get? a=ae { ob with data:=.cell (ae v) }:=iI _ T rfl;obtain⟨Y,J⟩:=a0.change e2 b V he (b0:=.cell (ae x)) ⟨hc,_,rfl,.some hx⟩ [];exact K _ _ _ _ (.refl _) Y (J.mono λg hm=>nomatch hm) () (b0.step a0 J)
    |_=>exact K.elim
  |_=>exact K.elim
def CB (K:Ctx X k U A l G Q N B I h)(hx:aF X B h x v)(n:au):
  aW X A [G.locals] (RL X U G Q) B I h (qY G n v) (nameA U n x ⟨F,Q,N⟩):=xY K.inv K.en hx n
def qh (e:aH)(es:ah aH)(G:bH)(h:dg e=aj):pQ (e :: es) G=(az,lr e G) :: pQ es G:=by
 cases e <;>first |rfl |cases h
theorem Kt (f:aH->DA):∀(es:ah aH),(∀e∈es,HA X F k U e (f e))->(∀e∈es,dg e=aj)->
  ∀{A:d8} {l:ah bH} {G:bH} {Q:ah (au×ak)} {N:ah (ax AV)} {B:ah ay} {I:St} {h:aG},Ctx X k U A l G Q N B I h->∀{xs:ah AV} {V:ah aw},aT X B h xs V->
   aW X A [G.locals] (RL X U G Q) B I h (assignInOrder ((pQ es G).map (·.2)) V) (jg (es.map f) xs ⟨F,Q,N⟩):=by
 intro o;induction o with
 |nil=>
  intro _ _ A l G Q N B I h K _ _ L;cases L with
  |nil=>
   exact λz W D E H=>aC (H _ _ _ _ (.refl _) K.inv (.refl ..) () K.en)
  |cons _ _=>
   exact λz W D E H=>H.elim
 |cons e es u=>
  intro j Y A l G Q N B I h K _ _ L;cases L with
  |nil=>
   exact λz W D E H=>H.elim
  |cons hx w=>
   intro z W D E H;rw[qh e es G (Y e (.head _))];show aA _ _ (lx _ (lr e G _)>>=λv=>assignInOrder ((pQ es G).map (·.2)) _) _ _ _;refine wB (ez ?_);refine(j e (.head _) K hx).then H λm S R b t1 J v I1 Z N1 O=>?_;obtain K1:Ctx X k U A l G Q J S R b:=⟨K.ok,K.ar.step Z,K.top,I1,N1,K.code⟩;exact u (λM T=>j M (.tail _ T)) (λM T=>Y M (.tail _ T)) K1 (w.step Z.step) m t1 D E O
def Ku:∀(l:ah (aB×(aw->dn b8))),(∀p∈l,p.1=az)->l.findIdx? (·.1)=ag:=by
 intro l;induction l with
 |nil=>
  intro _;exact rfl
 |cons p l B=>
  intro h;rw[List.findIdx?_cons,h p (.head _),B λq D=>h q (.tail _ D)];rfl
def Kv:∀(es:ah aH) (G:bH),(∀e∈es,dg e=aj)->(∀p∈pQ es G,p.1=az)/\(pQ es G).length=es.length:=by
 intro l;induction l with
 |nil=>
  intro G _;exact⟨λu I=>(nomatch I),rfl⟩
 |cons e es E=>
  intro G h;rw[qh e es G (h e (.head _))];obtain⟨H,F⟩:=E G λq D=>h q (.tail _ D);refine⟨λp B=>?_,by simp[F]⟩;rcases bu.mp B with rfl |B
  ·rfl
  ·exact H p B
def assign_tuple {es:ah aH}{f:aH->DA}(ha:∀e∈es,HA X F k U e (f e)):HA X F k U (.Tuple es n pos) (λv rt=>do
   let l0 <-P.opt (gb v)
   P.guard (l0.length=es.length/\es.all dg=aj)
   jg (es.map f) l0 rt):=by
 intro A l G Q N B I h K x v u z W D E L;obtain⟨j,ex,L⟩:=c9 L;obtain⟨⟨R,S⟩,L⟩:=a6 L;have S:∀e∈es,dg e=aj:=bW.mp S;obtain⟨a,O,rfl,m,r⟩:=u7 u ex;obtain⟨w,Y⟩:=Kv es G S;show aA _ _ (tG pos>>=λy=>unpack (.ref a) (pQ es G)) _ _ _;refine wB (jC ?_);unfold unpack;rw[Ku _ w,Y];refine wB (ez ?_);have T:es.length=O.toArray.size:=by rw[cG,r.length,R]
 rw[T];refine unpackItems_tuple K.ar.handled m λH M=>?_;have V:∀b o,h.get? b=ae o->H.get? b=ae o:=λb o e=>M b o (jV (gN e)) e;have J:=Go.keeps X B V [];obtain I':=K.inv.keeps V;refine Kt f es ha S (K.step I' J) (r.step J.step) z _ D E ((jg (es.map f) j ⟨F,Q,N⟩).mono (λr Z p=>p.shift (.refl _) (J.mono λy hm=>nomatch hm)) L)
def Kw (n:au)(a0:fh):HA X F k U (.Name n a0) (nameA U n):=by
 intro A l G Q N B I h K x v H z W D E J;exact assign_Name (CB (F:=F) K H n z W D E J)
def dD.refl (S C:ah ay)(h:aG):dD S C h h:=⟨λu o q=>⟨o,q⟩,λu o q u=>⟨o.slots,q,λu=>rfl⟩⟩
def dD.trans {S:ah ay}(x:dD S C h H)(y:dD S C H kj):dD S C h kj:=⟨λa o q=>by obtain⟨J,E⟩:=x.there a o q;exact y.there a J E,λa o q G=>by
 obtain⟨K,E,r⟩:=x.keep a o q G;obtain⟨D,B,I⟩:=y.keep a _ E G;exact⟨D,B,λF=>(I F).trans (r F)⟩⟩
def dD.update {S:ah ay}(ha:a∈C)(q:h.get? a=ae o)(f:Obj->Obj)(hf:(f o).isFreed=az):dD S C h (h.update a f):=by
 obtain D:fk a h (h.update a f):=dY ..;refine⟨λb B e=>?_,λb B e E=>⟨B.slots,(D.2 b λp=>E (p ▸ ha)).trans e,λu=>rfl⟩⟩;by_cases p:b=a
 ·subst p;exact⟨_,iI f q hf⟩
 ·exact⟨B,(D.2 b p).trans e⟩
def dD.push (S C:ah ay)(h:aG)(o:Obj):dD S C h (h.push o):=⟨λu B e=>⟨B,be _ e⟩,λu B e u=>⟨B.slots,be _ e,λu=>rfl⟩⟩
def dD.slots {S:ah ay}(x:Heap.SlotsOnly S h H):dD S C h H:=⟨λa o e=>by obtain⟨B,q⟩:=x.2.2 a o e;exact⟨_,q⟩,λa o e u=>by
 obtain⟨B,q⟩:=x.2.2 a o e;refine⟨B,q,λD=>?_⟩;have:=x.2.1 a D;rw[q,e]at this;exact bZ Obj.slots (dp this)⟩
def Frs.addr (F:Frs X l B h)(ha:a∈jL l):X.base.get? a=ag/\a∉B/\∃o,h.get? a=ae o/\gX o:=by
 obtain⟨G,E,D⟩:=List.mem_filterMap.mp ha;obtain⟨_,L,o,q,b,n,d,f⟩:=F G E;rw[D]at q;cases q;exact⟨b,n,o,d,f⟩
def Frs.fun (F:Frs X l B h):h.FunFrames X.base l:=by
 induction l with
 |nil=>trivial
 |cons G l D=>
  obtain⟨E,L,o,q,b,n,d,I,J,f,_⟩:=F G (.head _);exact⟨E,⟨L,o,q,b,d,λV p=>by rw[f]at p;cases p⟩,D λe H=>F e (.tail _ H)⟩
def dD.go {ex:ah ay}(F:dD (jL l) C h H)(R:Frs X l B h)(a0:Go X ex br h₀ B h)(hC:∀c∈C,h₀.get? c=ag):Go X ex br h₀ B H:=by
 refine⟨⟨λa o q=>?_,a0.step.ext,λa o q K L O=>?_⟩,λa o q K f b=>?_⟩
 ·obtain⟨J,I⟩:=a0.step.there a o q;exact F.there a J I
 ·obtain⟨J,I,k⟩:=a0.step.keep a o q K L O;obtain⟨M,D,r⟩:=F.keep a J I λE=>by rw[hC a E]at q;cases q
  refine⟨_,D,k.trans ?_⟩;by_cases E:a∈jL l
  ·obtain⟨b,n,T,d,f⟩:=R.addr E;rw[I]at d;cases d;exact .inr ⟨b,(by obtain⟨N,S,d,_⟩:=f;exact⟨N,S,d⟩),M,rfl⟩
  ·rw[r E];exact .inl rfl
 ·obtain⟨J,I,Q⟩:=a0.fr a o q K f b;obtain⟨M,D,r⟩:=F.keep a J I λE=>by rw[hC a E]at q;cases q
  exact⟨_,D,Q⟩
def dD.dK (F:dD (jL l) C h H)(R:Frs X l B h)(hC:∀c∈C,∀o,h.get? c=ae o->(∃V,o.data= .fields V)/\o.cls≠ .type "code"):gW X X.bad B B h H:=⟨λu u=>id,λa o G E e k=>by
 obtain⟨J,q,r⟩:=F.keep a o e λD=>by
  obtain⟨⟨M,d⟩,n⟩:=hC a D o e;exact n (k.nf d)
 rw[r λD=>by
  obtain⟨_,_,L,d,I,K,f,_⟩:=R.addr D;rw[e]at d;cases d;exact k.nd _ _ f]at q
 exact⟨G,E,q⟩⟩
def dD.step (F:dD (jL l) C h H)(R:Frs X l B h)(hC:∀c∈C,∀o,h.get? c=ae o->(∃V,o.data= .fields V)/\o.cls≠ .type "code")(r:aF X B h x v):aF X B H x v:=r.dK (F.dK R hC)
def dD.inv (F:dD (jL l) C h H)(a0:Inv X B I h)(R:Frs X l B h)(hC:∀c∈C,∀o,h.get? c=ae o->(∃V,o.data= .fields V)/\o.cls≠ .type "code")(b0:∀c∈C,c∉B)(hB:∀c∈C,X.base.get? c=ag):Inv X B I H:=by
 refine⟨a0.len,a0.nodup,λi N a O K=>?_,λb o q Q=>?_,a0.new,a0.gd,a0.mods,?_,λb S=>by obtain⟨o,e⟩:=a0.gf b S;exact F.there b o e⟩
 ·obtain⟨o,q,b⟩:=a0.obj i N a O K;obtain M:a∈B:=cD K;obtain⟨L,D,r⟩:=F.keep a o q λG=>b0 a G M;rw[r λE=>(R.addr E).2.1 M]at D;exact⟨o,D,b.dK (F.dK R hC)⟩
 ·obtain e:=a0.base b o q Q;obtain⟨L,D,r⟩:=F.keep b o e λG=>by rw[hB b G]at q;cases q
  rw[r λE=>by rw[(R.addr E).1]at q;cases q]at D;exact D
 ·obtain⟨V,e,c⟩:=a0.tab;obtain⟨T,J⟩:=a0.gd;obtain⟨L,D,r⟩:=F.keep cJ _ e λG=>by rw[hB _ G]at J;cases J
  rw[r λE=>by rw[(R.addr E).1]at J;cases J]at D;exact⟨V,D,c⟩
def dD.dR (F:dD (jL l) C h H)(R:Frs X l B h)(hC:∀c∈C,∀o,h.get? c=ae o->(∃V,o.data= .fields V)/\o.cls≠ .type "code"):Frs X l B H:=λG I=>by
 obtain⟨E,L,o,q,b,n,d,f⟩:=R G I;obtain⟨M,J,r⟩:=F.keep L o d λD=>by
  obtain⟨⟨V,p⟩,_⟩:=hC L D o d;obtain⟨K,N,f,_⟩:=f;rw[p]at f;cases f
 exact⟨E,L,_,q,b,n,J,f⟩
def CC {l':ah bH}{e0:bH}{e:ay}{t:ak}{oe:Obj}{V:aZ aw}{head:aw}{f0:aB}{c0:b8->aD->Prop}(g0:A.frames=ae (e0 :: l'))(h0:e0.frame=G.frame)(hf:G.frame=ae L)(R:Frs X (e0 :: l') B h)(he:h.get? e=ae oe)(hd:oe.data= .fields V)(i0:1 < V.size)(hQ:∀H d0 oT ts,dD (jL (e0 :: l')) [e] h H->h.get? d0=ag->H.get? e=ae (oe.mapFields (·.setIfInBounds 1 (.ref d0)))->H.get? d0=ae oT->oT.cls= .type "traceback"->oT.data= .fields ts->3 < ts.size->c0 () (sh z H t)):
  aA (MX X) A (do let a0 <-frameOf G;let pl <-entryPlaceOf L f0;let b0 <-EntryCells.newEntry head a0 .none (bI L) .none pl;oj (.ref e) 1 b0) c0 E (sh z h t):=by
 obtain O:e∉jL (e0 :: l'):=λZ=>by
  obtain⟨_,_,o,Y,k,u,f,_⟩:=R.addr Z;rw[he]at Y;cases Y;rw[hd]at f;cases f
 refine wB ?_;unfold PySem.frameOf;refine bO (wpAny_frameEnvs g0 ?_);have S:((e0 :: l').dropWhile λx=>x.frame != G.frame)=e0 :: l':=by simp[List.dropWhile,h0]
 rw[S];unfold frameObject;refine bO (bO (wpAny_readyFrames_fun R.fun λD I=>aC ?_));rw[h0,hf];refine aC ?_;refine wB (wpAny_entryPlaceOf λpl W=>?_);unfold EntryCells.newEntry newFields;refine wB (qZ ?_ (W.sizeOk5 _ _ _ _ _));obtain K:D.get? e=ae oe:=(I.2.1 e O).trans he;obtain F:=be (h:=D) { cls:=.type "traceback",dict:=ag,data:=.fields ([head,.ref L,.none,bI L,.none]++(if pl.isEmpty then Hd 6 dq else pl)).toArray } K;refine tM F hd i0 ?_;obtain U:D.objs.size≠e:=Ai (gN K);obtain J:=m8 hd (·.setIfInBounds 1 (gu D.objs.size));obtain N:=iI (tN (·.setIfInBounds 1 (gu D.objs.size))) F (om J);obtain M:=(AD (D.push { cls:=.type "traceback",dict:=ag,data:=.fields ([head,.ref L,.none,bI L,.none]++(if pl.isEmpty then Hd 6 dq else pl)).toArray })
  (tN (·.setIfInBounds 1 (gu D.objs.size))) (AE U)).trans (cV D rfl)
 refine hQ _ D.objs.size _ _ (((dD.slots I).trans (dD.push _ _ _ _)).trans (dD.update (.head _) F _ (om J))) ?_ N M rfl rfl ?_
 ·cases q:h.get? D.objs.size with
  |none=>rfl
  |some o=>obtain⟨l,j⟩:=I.2.2 _ o q;exact absurd (gN j) (dP _)
 ·simp only[cG,bK,fm,q7];exact FI 5 0 4 0 AL rfl
def mC.exc {e:ay}{k:aI}(x:mC k e h₀ h):eS k e h₀ h:=by
 obtain⟨a,b,c,o,V,E,H,B,D,T,F,G,r⟩:=x;exact⟨a,b,c,o,V,E,H,B,D,.inr ⟨T,F,G,r⟩⟩
def u9 {ex:ah ay}(F:dD (jL l) C h H)(a0:Inv X B I h)(R:Frs X l B h)(c0:Inv X br jF h₀)(b0:Go X ex br h₀ B h)(hC:∀c∈C,∀o,h.get? c=ae o->(∃V,o.data= .fields V)/\o.cls≠ .type "code")(d0:∀c∈C,c∉B)(h0:∀c∈C,h₀.get? c=ag):
  kD X ex l I br h₀ B h H:=
 ⟨F.inv a0 R hC d0 λc D=>c0.ew (h0 c D),F.go R b0 h0,F.dR R hC,λu u r=>F.step R hC r,λa m n=>by
  obtain⟨o,E,J,q,d,r⟩:=n;obtain⟨L,K,_⟩:=F.keep a o q λD=>by
   obtain⟨⟨V,p⟩,_⟩:=hC a D o q;rw[p]at d;cases d
  exact⟨_,E,J,K,d,r⟩⟩
def kD.refl {ex:ah ay}(a0:Inv X B I h)(R:Frs X l B h)(b0:Go X ex br h₀ B h):kD X ex l I br h₀ B h h:=⟨a0,b0,R,λu u r=>r,λu u n=>n⟩
def kD.trans {ex:ah ay}(x:kD X ex l I br h₀ B h H)(y:kD X ex l I br h₀ B H kj):kD X ex l I br h₀ B h kj:=⟨y.inv,y.go,y.dR,λa b r=>y.vals a b (x.vals a b r),λa m n=>y.ns a m (x.ns a m n)⟩
def kD.en {ex:ah ay}(x:kD X ex l I br h₀ B h H)(a0:En X U G Q N B h):En X U G Q N B H:=
 ⟨a0.kind,a0.glob,a0.blt,a0.kinds,a0.len,by
  obtain⟨m,n,r⟩:=a0.ns;exact⟨m,x.ns _ _ n,λy i v K L D=>by obtain⟨F,J,E⟩:=r y i v K L D;exact⟨F,J,x.vals _ _ E⟩⟩,a0.fX,a0.iw,a0.cells⟩
theorem vd {l':ah bH}{e0:bH}{e:ay}{ex:ah ay}{k:aI}{t:ak}{b0:b8->aD->Prop}(f0:A.frames=ae (e0 :: l'))(h0:e0.frame=G.frame)(hf:G.frame=ae L)(a0:Inv X B I h)(R:Frs X (e0 :: l') B h)(d0:Inv X br jF h₀)(c0:Go X ex br h₀ B h)(x:eS k e h₀ h)(hQ:∀H,kD X ex (e0 :: l') I br h₀ B h H->mC k e h₀ H->b0 () (sh z H t)):aA (MX X) A (noteFrame (.ref e) G) b0 E (sh z h t):=by
 obtain⟨l,Y,x3,oe,V,O,K,N,J,hx⟩:=x;have M:e∉B:=a0.xO O (by rw[K];exact Y);have U:oe.cls≠ .type "code":=λq=>by rw[K.symm.trans q]at Y;cases Y
 unfold noteFrame;simp only[hf];rcases hx with h1 |⟨T,oT,j,h1,CD,CE,hT,r9,nN,xZ⟩
 ·refine bO (e5 O N h1 ?_);rw[aK (by decide)];refine CC f0 h0 hf R O N (by exact FI 5 0 2 0 J rfl) λH T oT j F W e1 e2 c2 d2 s2=>hQ H ?_ ?_
  ·refine u9 F a0 R d0 c0 (λc K o q=>?_) (λc K=>?_) λc K=>?_ <;>cases aJ.mp K
   ·rw[O]at q;cases q;exact⟨⟨V,N⟩,U⟩
   ·exact M
   ·exact l
  ·refine⟨l,Y,x3,_,_,e1,(tO _ _).trans K,m8 N (·.setIfInBounds 1 (gu T)),by simpa using J,T,oT,j,by simp[show 1 < V.size from by exact FI 5 0 2 0 J rfl],?_,λq=>?_,e2,c2,d2,s2⟩
   ·cases q:h₀.get? T with
    |none=>rfl
    |some o=>obtain⟨o',w⟩:=c0.step.there T o q;rw[W]at w;cases w
   ·rw[q,O]at W;cases W
 ·refine bO (e5 O N h1 ?_);rw[aN (show(gu T != dq)=aj from by simp)];have u:T∉B:=a0.xO hT (by rw[r9];rfl);obtain⟨y,hy⟩:∃y,j[3]? =ae y:=⟨j[3],wK xZ⟩;refine bO (e5 hT nN hy ?_);by_cases hq:(y == bI L)=aj
  ·rw[aN hq];exact aC (hQ h (.refl a0 R c0) ⟨l,Y,x3,oe,V,O,K,N,J,T,oT,j,h1,CD,CE,hT,r9,nN,xZ⟩)
  ·rw[aK hq];refine bO (tM hT nN xZ ?_);have F1:dD (jL (e0 :: l')) [e,T] h (h.update T (tN (·.setIfInBounds 3 dq))):=dD.update (by simp) hT _ (om (m8 nN _));have hC:∀c∈[e,T],∀o,h.get? c=ae o->(∃V,o.data= .fields V)/\o.cls≠ .type "code":=λc D o q=>by
    rcases bu.mp D with rfl |D
    ·rw[O]at q;cases q;exact⟨⟨V,N⟩,U⟩
    ·cases aJ.mp D;rw[hT]at q;cases q;exact⟨⟨j,nN⟩,by rw[r9];decide⟩
   have m:∀c∈[e,T],c∉B:=λc D=>by
    rcases bu.mp D with rfl |D
    ·exact M
    ·cases aJ.mp D;exact u
   have i0:∀c∈[e,T],h₀.get? c=ag:=λc D=>by
    rcases bu.mp D with rfl |D
    ·exact l
    ·cases aJ.mp D;exact CD
   have Z:=u9 F1 a0 R d0 c0 hC m i0;have S:(h.update T (tN (·.setIfInBounds 3 dq))).get? e=ae oe:=(AD _ _ CE).trans O;refine CC f0 h0 hf Z.dR S N (by exact FI 5 0 2 0 J rfl) λH b g0 f F W e1 e2 c2 d2 s2=>hQ H ?_ ?_
   ·refine Z.trans (u9 F Z.inv Z.dR d0 Z.go (λc K o q=>?_) (λc K=>?_) λc K=>?_)<;>cases aJ.mp K
    ·rw[S]at q;cases q;exact⟨⟨V,N⟩,U⟩
    ·exact M
    ·exact l
   ·refine⟨l,Y,x3,_,_,e1,(tO _ _).trans K,m8 N (·.setIfInBounds 1 (gu b)),by simpa using J,b,g0,f,by simp[show 1 < V.size from by exact FI 5 0 2 0 J rfl],?_,λq=>?_,e2,c2,d2,s2⟩
    ·cases q:h₀.get? b with
     |none=>rfl
     |some o=>obtain⟨o',w⟩:=Z.go.step.there b o q;rw[W]at w;cases w
    ·rw[q,S]at W;cases W
theorem sd {e:ay}{ex:ah ay}{k:aI}{t:ak}{f:ax ay}{b0:b8->aD->Prop}(a0:Inv X B I h)(R:Frs X l B h)(d0:Inv X br jF h₀)(c0:Go X ex br h₀ B h)(x:mC k e h₀ h)(hQ:∀H,kD X ex l I br h₀ B h H->mC k e h₀ H->b0 () (sh z H t)):aA (MX X) A (setFlight (.ref e) f) b0 E (sh z h t):=by
 obtain⟨x1,u,x3,S⟩:=x;obtain (⟨b,V,j,D,Y,W,U⟩):=S;obtain (⟨T,oT,m,Z,M,L,N,F,J,K⟩):=U;obtain O:T∉B:=a0.xO N (by rw[F];rfl);unfold setFlight;refine bO (e5 j Y Z ?_);rw[aN (show(gu T != dq)=aj from by simp)];refine tM N J K ?_;obtain oV:=m8 J (·.setIfInBounds 3 (f.elim dq λf=>bI f));obtain w:dD (jL l) [T] h (h.update T (tN (·.setIfInBounds 3 (f.elim dq λf=>bI f)))):=dD.update (.head _) N _ (om oV);refine hQ _ (u9 w a0 R d0 c0 (λc D o q=>?_) (λc D=>?_) λc D=>?_) ⟨x1,u,x3,b,V,(AD _ _ L).trans j,D,Y,W,T,_,_,Z,M,L,iI _ N (om oV),(tO _ _).trans F,oV,by simpa using K⟩
 ·cases aJ.mp D;rw[N]at q;cases q;exact⟨⟨m,J⟩,by rw[F];decide⟩
 ·cases aJ.mp D;exact O
 ·cases aJ.mp D;exact M
def Go.nil (a0:Go X [] B h J H)(ex:ah ay):Go X ex B h J H:=a0.mono λu D=>nomatch D
def aW.value {ex:ah ay}{α b0 β c0:Type}{R:ah ay->aG->β->α->Prop}{R':ah ay->aG->c0->b0->Prop}{a0:b0->aD->Prop}{t:dn α}{m:P β}{g:β->P c0}(h1:aW X A [] R B I h t m)(hr:(m>>=g).run I (aL X z ex B h R' a0 E)){Q':α->aD->Prop}(k:∀z' J Z H t' b a,Inv X J Z H->Go X [] B h J H->R J H b a->(g b).run Z (aL X z' ex J H R' a0 E)->Q' a (sh z' H t')):aA (MX X) A t Q' E (sh z h W):=by
 refine h1 z W Q' E (m.mono (λr Z y=>?_) (show m.run I _ from hr));intro z' J H t' F D S;cases r with
 |ok b=>exact λa G=>k z' J Z H t' b a D S G ((g b).mono (λu u p=>p.shift F (S.nil _)) y)
 |err k=>exact λe x=>y z' J H t' F D (S.nil _) e x
def aW.Kx {ex:ah ay}{α b0 β c0:Type}{R:ah ay->aG->β->α->Prop}{R':ah ay->aG->c0->b0->Prop}{a0:b0->aD->Prop}{t:dn α}{m:P β}{g:β->P c0}(h1:aW X A [] R B I h t m)(hr:(m>>=g).run I (aL X z ex B h R' a0 E)){Q':α->aD->Prop}(hE:∀{kx:aI} {Z:St},aL X z ex B h R' a0 E (.err kx) Z->aL X z ex B h R' a0 E' (.err kx) Z)(k:∀z' J Z H t' b a,Zs z z'->Inv X J Z H->Go X [] B h J H->R J H b a->(g b).run Z (aL X z' ex J H R' a0 E)->Q' a (sh z' H t')):aA (MX X) A t Q' E' (sh z h W):=by
 refine h1 z W Q' E' (m.mono (λr Z y=>?_) (show m.run I _ from hr));intro z' J H t' F D S;cases r with
 |ok b=>exact λa G=>k z' J Z H t' b a F D S G ((g b).mono (λu u p=>p.shift F (S.nil _)) y)
 |err k=>exact λe x=>hE y z' J H t' F D (S.nil _) e x
def aW.Ky {ex:ah ay}{α b0 β c0:Type}{R:ah ay->aG->β->α->Prop}{R':ah ay->aG->c0->b0->Prop}{a0:b0->aD->Prop}{t:dn α}{m:P β}{g:β->P c0}(h1:aW X A ex R B I h t m)(hr:(m>>=g).run I (aL X z ex B h R' a0 E)){Q':α->aD->Prop}(hE:∀{kx:aI} {Z:St},aL X z ex B h R' a0 E (.err kx) Z->aL X z ex B h R' a0 E' (.err kx) Z)(k:∀z' J Z H t' b a,Zs z z'->Inv X J Z H->Go X ex B h J H->R J H b a->(g b).run Z (aL X z' ex J H R' a0 E)->Q' a (sh z' H t')):aA (MX X) A t Q' E' (sh z h W):=by
 refine h1 z W Q' E' (m.mono (λr Z y=>?_) (show m.run I _ from hr));intro z' J H t' F D S;cases r with
 |ok b=>exact λa G=>k z' J Z H t' b a F D S G ((g b).mono (λu u p=>p.shift F S) y)
 |err k=>exact λe x=>hE y z' J H t' F D S e x
def Ctx.next {d0:ah (ax AV)}{ex:ah ay}(K:Ctx X k U A l G Q N B I h)(a0:Inv X J Z H)(c0:Go X ex B h J H)(b0:En X U G Q d0 J H):Ctx X k U A l G Q d0 J Z H:=⟨K.ok,K.ar.step c0,K.top,a0,b0,K.code⟩
def aL.vf {ex:ah ay}{s':St}{β α:Type}{R:ah ay->aG->β->α->Prop}{a0:α->aD->Prop}(K:Ctx X k U A l G Q N B I h){r:Res β}(p:aL X z ex B h R a0 E r s'):
  aL X z ex B h R a0 (m9 (MX X) A G λe s'=>cameBackBy (MX X) A G E e s') r s':=by
 intro W J H Y Z D F;obtain q:=p W J H Y Z D F;cases r with
 |ok b=>exact q
 |err kx=>
  intro e x;obtain⟨e0,l',rfl,M⟩:=K.top;obtain⟨L,hL⟩:∃L,G.frame=ae L:=by
   obtain⟨_,L,_,q,_⟩:=K.ar.dR e0 (.head _);exact⟨L,M ▸ q⟩
  obtain R':=K.ar.dR.step F;refine vd (jF:=I) K.ar.frames M hL D R' K.inv F x λh1 O j=>?_;show aA (MX X) A (jd (.ref e) 1>>=λv=>_) _ _ _;obtain⟨a1,a2,a3,oe,V,w,b2,m,b4,T,oT,ts,f,_⟩:=id j;refine bO (e5 w m f ?_);rw[aK (by simp)];refine sd (jF:=I) O.inv O.dR K.inv O.go j λo S u=>?_;exact p W J o Y Z S.inv S.go e u.exc
def Kz (a0:fh):HS X F k U (.Pass a0) (λrt=>P.pure (.next,rt.loc)):=λA l G Q N B I h K z W D E H=>wpAny_Pass (H _ _ _ _ (.refl _) K.inv (.refl ..) _ ⟨.next,K.en⟩)
def KA (a0:fh):HS X F k U (.Break a0) (λrt=>P.pure (.brk,rt.loc)):=λA l G Q N B I h K z W D E H=>wpAny_Break (H _ _ _ _ (.refl _) K.inv (.refl ..) _ ⟨.brk,K.en⟩)
def KC (a0:fh):HS X F k U (.Continue a0) (λrt=>P.pure (.cont,rt.loc)):=λA l G Q N B I h K z W D E H=>wpAny_Continue (H _ _ _ _ (.refl _) K.inv (.refl ..) _ ⟨.cont,K.en⟩)
def KD (ha:HE X F k U e d):HS X F k U (.Return (ae e) pos) (λrt=>do
   let v0 <-d rt
   P.pure (.ret v0,rt.loc)):=by
 intro A l G Q N B I h K z W D E R;refine He ?_;refine(ha K).value R λY O L T V x v M S J H=>?_;exact H _ _ _ _ (.refl _) M (.refl ..) _ ⟨.ret J,K.en.step K.inv S⟩
def KE:iO X F k U [] (λrt=>P.pure (.next,rt.loc)):=λA l G Q N B I h K z W D E H=>q8 (H _ _ _ _ (.refl _) K.inv (.refl ..) _ ⟨.next,K.en⟩)
def CG (f:dy->DS):∀(ss:ah dy),(∀s∈ss,HS X F k U s (f s))->iO X F k U ss (eu f ss):=by
 intro l;induction l with
 |nil=>
  intro _;exact KE
 |cons s ss R=>
  intro O;intro A l G Q N B I h K z W D E V;refine tP ?_;refine(O s (.head _) K).then V λT b w h1 j p fl L Y S H=>?_;obtain⟨f1,M⟩:=p;obtain⟨Z,J⟩:=S;cases Z with
  |next=>exact R (λm o=>O m (.tail _ o)) (K.next L Y J) T j D E H
  |brk=>exact H _ _ _ _ (.refl _) L (.refl ..) _ ⟨.brk,J⟩
  |cont=>exact H _ _ _ _ (.refl _) L (.refl ..) _ ⟨.cont,J⟩
  |ret u=>exact H _ _ _ _ (.refl _) L (.refl ..) _ ⟨.ret u,J⟩
def KG {t:aH}{b o:ah dy}{cb co:DS}(ht:HT X F k U t ct)(hb:iO X F k U b cb)(ho:iO X F k U o co):HS X F k U (.If t b o pos) (λrt=>do
   let c <-ct rt
   if c then cb rt else co rt):=by
 intro A l G Q N B I h K z W D E V;refine wpAny_If ?_;refine(ht K).value V λO T S Y L x v M J R H=>?_;obtain rfl:x=v:=R;obtain CI:=J.nil [G.locals];cases x with
 |true=>exact hb (K.step M J) O L D E H
 |false=>exact ho (K.step M J) O L D E H
theorem KH {t:aH}{b:ah dy}{cb:DS}(ht:HT X F k U t ct)(hb:iO X F k U b cb)(n:ak):HS X F k U (.While t b [] pos) (λrt=>iL ct cb n rt):=by
 intros _ A l G Q N B I h _ K _ z W D E _ L;refine wpAny_While ?_;refine codeAny_whileLoop (λn s=>∃z B I h t N,s=sh z h t/\Ctx X k U A l G Q N B I h/\(iL ct cb n ⟨F,Q,N⟩).run I (aL X z [G.locals] B h (RS X U G Q) D E)) ?_ n ⟨z,B,I,h,W,N,rfl,K,L⟩;intros _ n s _ Y;obtain (⟨z,B,I,h,W,N,rfl,K,L⟩):=Y;cases n with
 |zero=>exact L.elim
 |succ n=>
  intros n _ L;have L:(ct ⟨F,Q,N⟩>>=λc=>if c=aj then (cb ⟨F,Q,N⟩>>=λp=>match p.1 with
    |.next |.cont=>iL ct cb n ⟨F,Q,p.2⟩
    |.brk=>P.pure (.next,p.2)
    |.ret v=>P.pure (.ret v,p.2))else P.pure (.next,N)).run I (aL X z [G.locals] B h (RS X U G Q) D E):=L
  refine(ht K).Kx L (λp=>p.vf K) λz1 b0 a0 h1 t1 x v Z1 o G1 f R=>?_;obtain rfl:x=v:=f;obtain O:=K.step o G1;cases x with
  |true=>
   refine(hb O).Ky R (λp=>p.vf O) λZ M S u j p fl Z2 T w m H=>?_;obtain⟨f1,J⟩:=p;obtain⟨rf,V⟩:=m;cases rf with
   |next=>exact⟨n,jD n,Z,M,S,u,j,J,rfl,O.next T w V,H⟩
   |cont=>exact⟨n,jD n,Z,M,S,u,j,J,rfl,O.next T w V,H⟩
   |brk=>exact H _ _ _ _ (.refl _) T (.refl ..) _ ⟨.next,V⟩
   |ret hx=>exact H _ _ _ _ (.refl _) T (.refl ..) _ ⟨.ret hx,V⟩
  |false=>exact q8 (R _ _ _ _ (.refl _) o (.refl ..) _ ⟨.next,O.en⟩)
def ya (h:nE e=aj)(t:aH)(a0:ak)(G:bH):oo e (ae t) a0 G=pure az:=by
 cases e <;>first |rfl |cases h
def KI (h:nE e=aj)(a0:ak)(G:bH):oo e ag a0 G=pure az:=by
 cases e <;>first |rfl |cases h
def vg (h:kn e=az)(t:aH)(G:bH):swappedStores [t] e G=pure ag:=by
 cases t with
 |Tuple=>cases e <;>first |rfl |cases h
 |List=>cases e <;>first |rfl |cases h
 |_=>rfl
def dropped {a0:Flow->aD->Prop}(h:a0 .next s):aA (aV prog w) A (dropValue e pos v) a0 E s:=by
 exact wpAny_dropValue h
def KL (ha:HE X F k U e d):HS X F k U (.Expr e pos) (λrt=>do
   P.guard (nE e=aj)
   let _ <-d rt
   P.pure (.next,rt.loc)):=by
 intro A l G Q N B I h K z W D E J;obtain⟨R,J⟩:=a6 J;have S:interactive G=az:=by unfold interactive;rw[K.en.kind];rfl
 rw[exec_Expr G e pos S (KI R _ _)];refine wB (jC (wB ?_));refine(ha K).value J λj O L Y Z x v M T V H=>?_;exact dropped (H _ _ _ _ (.refl _) M (.refl ..) _ ⟨.next,K.en.step K.inv T⟩)
def KP {t:aH}{a:DA}(hc:nE e=aj)(hd:HE X F k U e d)(ha:HA X F k U t a):HS X F k U (.Assign [t] e pos) (λrt=>do
   P.guard (kn e=az/\dg t=aj)
   let v0 <-d rt
   let a0 <-a v0 rt
   P.pure (.next,a0)):=by
 intro A l G Q N B I h K z W D E J;obtain⟨⟨b,V⟩,J⟩:=a6 J;rw[wL];refine wB (jC ?_);show aA _ _ (oo e (ae t) pos.line G>>=_) _ _ _;rw[ya hc];refine bO (aC ?_);rw[aK (by simp)];refine wB ?_;refine(hd K).value J λm w j o t1 x v u Y O L=>?_;rw[vg b];refine wB (aC ?_);rw[qh t [] G V];show aA _ _ (lr t G v>>=λy=>pure Flow.next) _ _ _;refine wB ?_;refine(ha (K.step u Y) O).then L λf S Z h2 t2 M y T G2 R H=>?_;exact aC (H _ _ _ _ (.refl _) T (.refl ..) _ ⟨.next,R⟩)
theorem KQ {x:au}{np:fh}{op:jU}(hd:HE X F k U e d):HS X F k U (.AugAssign (.Name x np) op e pos) (λrt=>do
   P.guard (op= .Add\/op= .Sub)
   let o0 <-nG U x rt
   let i0 <-dF o0
   let v0 <-d rt
   let a0 <-dF v0
   let v0 <-gc op (.int i0) (.int a0)
   let b0 <-nameA U x v0 rt
   P.pure (.next,b0)):=by
 intros _ A l G Q N B I h _ K _ z W D E _ L;obtain⟨O,L⟩:=a6 L;refine wpAny_AugAssign_Name ?_;refine(Cj (F:=F) K.ok K.inv K.en x).value L λz1 d0 c0 h1 t1 y v o u m J=>?_;obtain⟨i,rfl,J⟩:=jm J;refine(hd (K.step o u)).value J λZ R T b t2 y w I2 G2 S H=>?_;obtain⟨a0,rfl,H⟩:=jm H;have K2:=(K.step o u).step I2 G2;obtain⟨ta,rfl⟩:=m;obtain⟨tb,rfl⟩:=S;have M:∀(n:Int) (t:cK) (W:ak),(nameA U x (.int n) ⟨F,Q,N⟩>>=λN=>P.pure (FL.next,N)).run T (aL X Z [G.locals] R b (RS X U G Q) D E)->
   aA (MX X) A (qY G x (.int n t)) (λa=>D .next) E (sh Z b W):=by
  intro n t W L;refine(CB (F:=F) K2 (.int n t) x).then L λz3 e0 f h3 t3 Y a I3 G3 N3 V=>?_;exact V _ _ _ _ (.refl _) I3 (.refl ..) _ ⟨.next,N3⟩
 rcases O with rfl |rfl
 ·exact PySem.P.iadd_int (M _ _ _ H)
 ·exact PySem.P.isub_int (M _ _ _ H)
def Go.field {ex:ah ay}{c:ay}{V:aZ aw}(a0:Go X ex B h J H)(e:h.get? c=ae o)(d:o.data= .fields V)(n:c∉B)(ht:c≠cJ)(hx:c∉ex):H.get? c=ae o:=by
 obtain⟨I,D,k⟩:=a0.step.keep c o e n ht λE=>absurd E hx;rw[k.exact λF K q=>by rw[d]at q;cases q]at D;exact D
def Go.seq {ex:ah ay}{c:ay}{V:aZ aw}{m:ak}(a0:Go X ex B h J H)(e:h.get? c=ae o)(d:o.data= .seq V m)(n:c∉B)(ht:c≠cJ):H.get? c=ae o:=by
 obtain⟨F,D,k⟩:=a0.step.keep c o e n ht λu=>JH d;rw[k.exact λE I q=>by rw[d]at q;cases q]at D;exact D
def Inv.gZ {c:ay}(a0:Inv X B I h)(b:X.base.get? c=ag):c≠cJ:=λq=>by obtain⟨o,e⟩:=a0.gd;rw[<-q,b]at e;cases e
def bP.step {ex:ah ay}(r:bP X B h own ai it)(a0:Inv X B I h)(b0:Go X ex B h J H)(hx:∀c∈own,c∉ex):bP X J H own ai it:=by
 cases r with
 |list e D n b=>
  obtain⟨o,E,c,d⟩:=D;exact .list (b0.step.iQ e) ⟨o,b0.field E d n (a0.gZ b) (hx _ (.head _)),c,d⟩ (b0.step.dt E n) b
 |range D n b=>exact .range (b0.field D rfl n (a0.gZ b) (hx _ (.head _))) (b0.step.dt D n) b
 |obj e=>exact .obj (b0.step.iQ e)
def yb {it l:ay}{O:_}{x:aw}{a0:ax aw->aD->Prop}(ho:s.heap.get? it=ae o)(hc:o.cls= .type "list_iterator")(hd:o.data= .fields #[.ref l,.int i 0])(hl:s.heap.IsList l O)(hx:O[i]? =ae x)(hQ:∀H o',H.get? it=ae o'->o'.cls= .type "list_iterator"->o'.data= .fields #[.ref l,.int (i+1:ak) 0]->fk it s.heap H->a0 (ae x) { s with heap:=H }):
  aA (aV prog w) A (oq (.ref it) (aq "__next__")) a0 E s:=by
 obtain B:s.heap.IsListIter it l i:=⟨o,ho,hc,hd⟩;obtain⟨I,F,_,G,D⟩:=hl;refine ng (name:=aq "__next__") B.typeIs j3
  (gw j3 B.typeIs AF ?_ (AG _))
 show aA _ _ (jd (.ref it) 0>>=_) _ _ s;refine wB (e5 ho hd (x:=.ref l) rfl ?_);show aA _ _ (if (gu l == dq)=aj then _ else _) _ _ s;rw[aK (show ¬ ((gu l == dq)=aj) from je)];show aA _ _ (jd (.ref it) 1>>=_) _ _ s;refine wB (e5 ho hd (x:=.int i 0) rfl ?_);show aA _ _ (q9 (.ref l)>>=_) _ _ s;refine bO (j4 F D ?_);simp only[eB,hx];refine bO (tM ho hd (by simp) (aC ⟨x,rfl,hQ _ _ (iI _ ho (om (m8 hd _))) ((tO ..).trans hc) ?_ (dY ..)⟩));rw[m8 hd];simp[bI]
def vh {α:Type}{a0:α->aD->Prop}(hh:A.handled=ag)(hE:∀H e,(∀b o,s.heap.get? b=ae o->H.get? b=ae o)->s.heap.get? e=ag->(∃o,H.get? e=ae o/\o.cls= .type "StopIteration")->E (.ref e) { s with heap:=H }):
  aA (aV prog w) A (wM (.type "StopIteration") []>>=λe=>(AH e:dn α)) a0 E s:=by
 refine wB ?_;simp only[wM,wD];refine wB (qZ ?_ (by size_fits));refine wB (m:=Hf _ _) (nh (a:=dq) (by first |rfl |(simp only[Hf];rfl)) ?_);refine qZ ?_ (by size_fits);unfold raiseNew;refine wB (wpAny_handled ?_);rw[hh];refine wB (aC (tQ ?_));refine hE _ _ (λb o e=>be _ (be _ e)) ?_ ⟨_,cV _ rfl,rfl⟩;cases q:s.heap.get? _ with
 |none=>rfl
 |some o=>exact absurd (gN (be _ q)) (dP _)
def yc {o:Obj}{it l:ay}{O:_}{a0:ax aw->aD->Prop}(hh:A.handled=ag)(ho:s.heap.get? it=ae o)(hc:o.cls= .type "list_iterator")(hd:o.data= .fields #[.ref l,.int i 0])(hl:s.heap.IsList l O)(hx:O[i]? =ag)(hE:∀h₁ H e o',h₁.get? it=ae o'->o'.cls= .type "list_iterator"->o'.data= .fields #[.none,.int i 0]->fk it s.heap h₁->(∀b o,h₁.get? b=ae o->H.get? b=ae o)->h₁.get? e=ag->(∃o,H.get? e=ae o/\o.cls= .type "StopIteration")->E (.ref e) { s with heap:=H }):
  aA (aV prog w) A (oq (.ref it) (aq "__next__")) a0 E s:=by
 obtain B:s.heap.IsListIter it l i:=⟨o,ho,hc,hd⟩;obtain⟨I,F,_,G,D⟩:=hl;refine ng (name:=aq "__next__") B.typeIs j3
  (gw j3 B.typeIs AF ?_ (AG _))
 show aA _ _ (jd (.ref it) 0>>=_) _ _ s;refine wB (e5 ho hd (x:=.ref l) rfl ?_);show aA _ _ (if (gu l == dq)=aj then _ else _) _ _ s;rw[aK (show ¬ ((gu l == dq)=aj) from je)];show aA _ _ (jd (.ref it) 1>>=_) _ _ s;refine wB (e5 ho hd (x:=.int i 0) rfl ?_);show aA _ _ (q9 (.ref l)>>=_) _ _ s;refine bO (j4 F D ?_);simp only[eB,hx];refine bO (gP (bO (tM ho hd (by simp) ?_)));exact vh (show A.in1.handled=ag from hh) λH e a b c=>hE _ H e _ (iI _ ho (om (m8 hd _))) ((tO ..).trans hc) (by rw[m8 hd];simp) (dY ..) a b c
def CJ {o:Obj}{it:ay}{a0:ax aw->aD->Prop}{V:aZ aw}(hh:A.handled=ag)(ho:s.heap.get? it=ae o)(hc:o.cls= .type "list_iterator")(hd:o.data= .fields V)(h0:V[0]? =ae .none)(hE:∀H e,(∀b o,s.heap.get? b=ae o->H.get? b=ae o)->s.heap.get? e=ag->(∃o,H.get? e=ae o/\o.cls= .type "StopIteration")->E (.ref e) { s with heap:=H }):
  aA (aV prog w) A (oq (.ref it) (aq "__next__")) a0 E s:=by
 have B:s.TypeIs (.ref it) "list_iterator":=⟨_,ho,hc⟩;refine ng (name:=aq "__next__") B j3
  (gw j3 B AF ?_ (AG _))
 show aA _ _ (jd (.ref it) 0>>=_) _ _ s;refine wB (e5 ho hd (x:=.none) h0 ?_);show aA _ _ (if (dq == dq)=aj then _ else _) _ _ s;rw[aN (by rfl)];refine wB (gP ?_);exact wB (vh (show A.in1.handled=ag from hh) hE)
def KR {it:ay}{x b0 step:Int}{a0:ax aw->aD->Prop}(c0:tu s.heap it x b0 step)(d0:0 < b0)(hQ:∀H,tu H it (x+step) (b0 - 1) step->fk it s.heap H->a0 (ae (.int x s.toks)) { s with heap:=H,toks:=s.toks+1 }):
  aA (aV prog w) A (oq (.ref it) (aq "__next__")) a0 E s:=by
 obtain B:s.TypeIs (.ref it) "range_iterator":=⟨_,c0,rfl⟩;refine ng (name:=aq "__next__") B F.slot_range_iterator_next
  (nj F.slot_range_iterator_next B F.entry_range_iterator_next (F.args_range_iterator_next_1 _) (AutoRange.range_iterator___next___range_iterator_1 it x b0 step (by lia)) ⟨c0,?_⟩)
 exact hQ _ (iI _ (iI _ c0 rfl) rfl) ((dY ..).trans (dY ..))
def KS {it:ay}{x b0 step:Int}{a0:ax aw->aD->Prop}(hh:A.handled=ag)(c0:tu s.heap it x b0 step)(d0:b0<=0)(hE:∀H e,(∀b o,s.heap.get? b=ae o->H.get? b=ae o)->s.heap.get? e=ag->(∃o,H.get? e=ae o/\o.cls= .type "StopIteration")->E (.ref e) { s with heap:=H }):
  aA (aV prog w) A (oq (.ref it) (aq "__next__")) a0 E s:=by
 obtain B:s.TypeIs (.ref it) "range_iterator":=⟨_,c0,rfl⟩;refine ng (name:=aq "__next__") B F.slot_range_iterator_next
  (gw F.slot_range_iterator_next B F.entry_range_iterator_next ?_ (F.args_range_iterator_next_1 _))
 show aA _ _ (jd (.ref it) 0>>=_) _ _ s;refine wB (e5 c0 rfl (x:=bI x) rfl ?_);show aA _ _ (jd (.ref it) 1>>=_) _ _ s;refine wB (e5 c0 rfl (x:=bI b0) rfl ?_);show aA _ _ (jd (.ref it) 2>>=_) _ _ s;refine wB (e5 c0 rfl (x:=bI step) rfl ?_);show aA _ _ (if b0<=0 then _ else _) _ _ s;rw[aN d0];refine wB (gP ?_);exact wB (vh (show A.in1.handled=ag from hh) hE)
def Dr.refl (a0 B:ah ay)(h:aG):Dr a0 B h h:=⟨λu o e=>⟨o,e⟩,λu u e u u=>e⟩
def Dr.trans (x:Dr own B h H)(y:Dr own B H kj):Dr own B h kj:=⟨λa o e=>by obtain⟨G,F⟩:=x.there a o e;exact y.there a G F,λa o e E D=>y.keep a o (x.keep a o e E D) E D⟩
def Dr.mono {a0:ah ay}(x:Dr own B h H)(hs:∀a∈own,a∈a0):Dr a0 B h H:=⟨x.there,λa o e E D=>x.keep a o e (λF=>E (hs a F)) D⟩
def Dr.keeps (a0 B:ah ay)(hk:∀b o,h.get? b=ae o->H.get? b=ae o):Dr a0 B h H:=⟨λa o e=>⟨o,hk a o e⟩,λa o e u u=>hk a o e⟩
def Dr.same {c:ay}(hc:c∈own)(hs:fk c h H)(e':H.get? c=ae o'):Dr own B h H:=⟨λa o e=>by
 by_cases q:a=c
 ·subst q;exact⟨_,e'⟩
 ·exact⟨o,(hs.2 a q).trans e⟩,λa o e D u=>(hs.2 a λq=>D (q ▸ hc)).trans e⟩
def eF.kp (a0:eF X B h own)(ok:X.ok a)(e:h.get? a=ae o)(k:Kp o):a∉own:=λD=>by
 obtain⟨_,_,r⟩:=a0 a D;rcases r with r |⟨o',ws,e',d',n⟩
 ·exact ok.2 r
 ·rw[e]at e';cases e';exact n (k.nf d')
def Dr.dK (D:Dr own B h H)(a0:eF X B h own):gW X X.bad B B h H:=⟨λu u=>id,λu u F E e k=>⟨F,E,D.keep _ _ e (a0.kp E e k) F⟩⟩
def aF.dr (D:Dr own B h H)(a0:eF X B h own)(r:aF X B h x v):aF X B H x v:=r.dK (D.dK a0)
def Inv.dr (a0:Inv X B I h)(b0:eF X B h own)(D:Dr own [] h H):Inv X B I H:=by
 have F:∀a o,a∉own->h.get? a=ae o->H.get? a=ae o:=λa o n e=>D.keep a o e n (by simp);obtain D':Dr own B h H:=⟨D.there,λa o e n u=>F a o n e⟩;refine⟨a0.len,a0.nodup,λi M a N K=>?_,λb J G R=>?_,a0.new,a0.gd,a0.mods,?_,λb E=>?_⟩
 ·obtain⟨L,T,S⟩:=a0.obj i M a N K;exact⟨L,F a L (λE=>(b0 a E).1 (cD K)) T,S.dK (D'.dK b0)⟩
 ·exact F b J (λE=>by rw[(b0 b E).2.1]at G;cases G) (a0.base b J G R)
 ·obtain⟨V,Q,c⟩:=a0.tab;obtain⟨o,e⟩:=a0.gd;exact⟨V,F _ _ (λE=>by rw[(b0 _ E).2.1]at e;cases e) Q,c⟩
 ·obtain⟨o,e⟩:=a0.gf b E;exact D.there b o e
def Go.dr {ex:ah ay}(a0:Go X ex br h₀ B h)(D:Dr own B h H)(ho:∀c∈own,h₀.get? c=ag):Go X ex br h₀ B H:=by
 have K:∀a o,h₀.get? a=ae o->a∉own:=λa o e J=>by rw[ho a J]at e;cases e
 refine⟨⟨λa o e=>?_,a0.step.ext,λa o e F M J=>?_⟩,λa o e F f b=>?_⟩
 ·obtain⟨E,I⟩:=a0.step.there a o e;exact D.there a E I
 ·obtain⟨E,I,k⟩:=a0.step.keep a o e F M J;exact⟨E,D.keep a E I (K a o e) (a0.step.dt e F),k⟩
 ·obtain⟨E,I,L⟩:=a0.fr a o e F f b;exact⟨E,D.keep a E I (K a o e) (a0.step.dt e F),L⟩
def En.dr (a0:En X U G Q N B h)(D:Dr own B h H)(b0:eF X B h own)(hL:G.locals∉own):En X U G Q N B H:=by
 refine⟨a0.kind,a0.glob,a0.blt,a0.kinds,a0.len,?_,a0.fX,a0.iw,a0.cells⟩;obtain⟨m,n,r⟩:=a0.ns;obtain⟨o,F,K,e,q⟩:=n;refine⟨m,⟨o,F,K,D.keep _ _ e hL a0.fX,q⟩,λx i v M R E=>?_⟩;obtain⟨L,J,I⟩:=r x i v M R E;exact⟨L,J,I.dr D b0⟩
def bP.gj (r:bP X B h own ai it):eF X B h own:=by
 cases r with
 |list e E n b=>obtain⟨o,G,c,d⟩:=E;intro F D;rw[aJ.mp D];exact⟨n,b,.inr ⟨o,_,G,d,by rw[c];decide⟩⟩
 |range E n b=>intro F D;rw[aJ.mp D];exact⟨n,b,.inr ⟨_,_,E,rfl,by simp⟩⟩
 |obj e=>exact λu D=>nomatch D
def bP.dr {a0:ah ay}(r:bP X B h own ai it)(D:Dr a0 B h H)(hn:∀c∈own,c∉a0):bP X B H own ai it:=by
 cases r with
 |list e E n b=>obtain⟨o,F,c,d⟩:=E;exact .list e ⟨o,D.keep _ _ F (hn _ (.head _)) n,c,d⟩ n b
 |range E n b=>exact .range (D.keep _ _ E (hn _ (.head _)) n) n b
 |obj e=>exact .obj e
set_option tactic.hygienic true in theorem draw {b0 : ax aw → aD → Prop} (r : bP X B h own ai it) (a0 : Inv X B I h) (hh : A.handled = ag) (hr : (bx ai).run I fun res Z => match res with
   |.ok (ae (x0,mI))=>∀H t' v,Inv X B Z H->Dr own B h H->bP X B H own mI it->aF X B H x0 v->b0 (ae v) (sh z H t')
   |.ok .none=>∀H e,Inv X B Z H->Dr own B h H->eF X B H own->h.get? e=ag->(∃o,H.get? e=ae o/\o.cls= .type "StopIteration")->E (.ref e) (sh z H W)
   |.err _=>dm):
  aA (MX X) A (oq it (aq "__next__")) b0 E (sh z h W):=by
 cases r with
 |list e hi n b=>
  rename_i s i a it;obtain⟨l,e1,hr⟩:=gY hr;obtain⟨O,m,hl,rl,len,_⟩:=ey a0 e1 e;obtain⟨o,eo,c,d⟩:=id hi;obtain D:eF X B h [it]:=(bP.list e hi n b).gj;cases q:l[i]? with
  |none=>
   rw[q]at hr;refine yc (s:=sh z h W) hh eo c d ⟨_,hl,rfl,m,rfl⟩ (by simp only[Hg];rw[nk]at q |-;exact TT (EL len) q) λh₁ H e' o' x1 x2 x3 x4 x5 x6 x7=>?_;obtain D1:Dr [it] [] h h₁:=Dr.same (.head _) x4 x1;obtain D2:Dr [it] [] h H:=D1.trans (Dr.keeps _ _ x5);refine hr H e' (a0.dr D D2) ⟨D2.there,λa o e h1 u=>D2.keep a o e h1 (by simp)⟩ ?_ ?_ x7
   ·intro c' hc;rw[aJ.mp hc];exact⟨n,b,.inr ⟨_,_,x5 _ _ x1,x3,by rw[x2];decide⟩⟩
   ·cases q:h.get? e' with
    |none=>rfl
    |some o=>obtain⟨o2,q2⟩:=D1.there _ _ q;rw[x6]at q2;cases q2
  |some x=>
   rw[q]at hr;obtain⟨v,ev,rv⟩:=rl.get q;refine yb (s:=sh z h W) eo c d ⟨_,hl,rfl,m,rfl⟩ (x:=v) (by simpa using ev) λH o' x1 x2 x3 x4=>?_;obtain D1:Dr [it] [] h H:=Dr.same (.head _) x4 x1;obtain D2:Dr [it] B h H:=⟨D1.there,λa o e h1 u=>D1.keep a o e h1 (by simp)⟩;exact hr H W v (a0.dr D D1) D2 (.list e ⟨o',x1,x2,x3⟩ n b) (rv.dr D2 D)
 |range hi n b=>
  rename_i it c d k;obtain D:eF X B h [it]:=(bP.range hi n b).gj;cases k with
  |zero=>
   refine KS (s:=sh z h W) hh hi (by simp) λH e' x5 x6 x7=>?_;obtain D2:Dr [it] [] h H:=Dr.keeps _ _ x5;exact hr H e' (a0.dr D D2) (Dr.keeps _ _ x5) (λc' hc=>by rw[aJ.mp hc];exact⟨n,b,.inr ⟨_,_,x5 _ _ hi,rfl,by simp⟩⟩) x6 x7
  |succ k=>
   refine KR (s:=sh z h W) hi (by lia) λH x1 x4=>?_;obtain D1:Dr [it] [] h H:=Dr.same (.head _) x4 x1;obtain D2:Dr [it] B h H:=⟨D1.there,λa o e h1 u=>D1.keep a o e h1 (by simp)⟩;rw[show((k+1:ak):Int) - 1=(k:Int) by lia]at x1;exact hr H (W+1) _ (a0.dr D D1) D2 (.range x1 n b) (.int ..)
 |obj e=>
  rename_i i a;obtain⟨ao,e1,hr⟩:=eU hr;obtain⟨o,eo,bo⟩:=a0.obj i ao a e1 e;obtain ma:a∈B:=cD e;cases ao with
  |iter s k=>
   cases s with
   |none=>
    obtain⟨c,V,d,d0⟩:=bo;refine CJ (s:=sh z h W) hh eo c d d0 λH e' x5 x6 x7=>?_;exact hr H e' (a0.keeps x5) (Dr.keeps _ _ x5) (λu hc=>nomatch hc) x6 x7
   |some s=>
    obtain⟨c,la,es,d⟩:=bo;obtain⟨l,e2,hr⟩:=gY hr;obtain⟨O,m,hl,rl,len,_⟩:=ey a0 e2 es;cases q:l[k]? with
    |none=>
     rw[q]at hr;refine yc (s:=sh z h W) hh eo c d ⟨_,hl,rfl,m,rfl⟩ (by simp only[Hg];rw[nk]at q |-;exact TT (EL len) q) λh₁ H e' o' x1 x2 x3 x4 x5 x6 x7=>?_;obtain⟨I1,G1⟩:=a0.change (b0:=.iter .none 0) e1 e x4 x1 ⟨x2,_,x3,rfl⟩ [];refine hr H e' (I1.keeps x5) ⟨λb ob eb=>?_,λb ob eb u hb=>?_⟩ (λu hc=>nomatch hc) ?_ x7
     ·obtain⟨o2,q2⟩:=G1.step.there b ob eb;exact⟨o2,x5 _ _ q2⟩
     ·exact x5 _ _ ((x4.2 b λq=>hb (q ▸ ma)).trans eb)
     ·cases q:h.get? e' with
      |none=>rfl
      |some o=>obtain⟨o2,q2⟩:=G1.step.there _ _ q;rw[x6]at q2;cases q2
    |some x=>
     rw[q]at hr;obtain⟨v,ev,rv⟩:=rl.get q;refine yb (s:=sh z h W) eo c d ⟨_,hl,rfl,m,rfl⟩ (x:=v) (by simpa using ev) λH o' x1 x2 x3 x4=>?_;obtain⟨I1,G1⟩:=a0.change (b0:=.iter (ae s) (k+1)) e1 e x4 x1 ⟨x2,la,es,x3⟩ [];exact hr H W v I1 ⟨G1.step.there,λb ob eb u hb=>(x4.2 b λq=>hb (q ▸ ma)).trans eb⟩ (.obj e) (rv.step G1.step)
  |_=>exact hr.elim
def CK:Manifest.owners.lookup (Gw ['r','o','t','a','r','e','t','i','_','t','e','s'].reverse)=ae Manifest.sig_set_iterator:=by kernel_rfl
def vi:Slot "set_iterator" "__next__" "set_iterator.__next__":=
 .of (owner:="set_iterator") (n:="__next__") (by rw[rg,rh];kernel_rfl) (by decide +kernel) (by decide +kernel) (by decide +kernel)
  (by first |exact .inl (by decide +kernel) |exact .inr (by decide +kernel)) (by rw[rj];kernel_rfl)
def KU:AJ table "set_iterator.__next__"=ae j2.«set_iterator.__next__»:=entryFor_of_tree (by kernel_rfl)
def KV (a:aw):pR "set_iterator.__next__" ⟨[a],[]⟩:=by
 unfold argsOk;rw[signature?_of (id:="set_iterator.__next__") (n:=['_','_','t','x','e','n','_','_']) (o:=['r','o','t','a','r','e','t','i','_','t','e','s']) (by kernel_rfl) CK];kernel_rfl
def KW:AJ table "set.__iter__"=ae j2.«frozenset.__iter__»:=
 Hh (id':="frozenset.__iter__") (by kernel_rfl) rfl (by decide +kernel) (by kernel_rfl)
def yd {α:Type}:∀{l:ah α} {i:ak} (h:i < l.length),(l[i] :: l.eraseIdx i).Perm l
 |x :: l,0,_=>.refl _
 |x :: l,i+1,h=>by
  obtain B:=yd (l:=l) (i:=i) (by simpa using h);rw[List.getElem_cons_succ,List.eraseIdx_cons_succ];exact(List.Perm.swap x _ _).trans (.cons x B)
def KY {α:Type}(next:ak->ak):∀(b0 k:ak) (a0:ah α) (c0:aZ α),a0.length<=b0->(AK next b0 k a0 c0).toList.Perm (c0.toList++a0):=by
 intro n;induction n with
 |zero=>
  intro k a0 c0 h;have:a0=[]:=Hi (Hj.mp h);subst this;show c0.toList.Perm _;rw[fS]
 |succ b0 D=>
  intro k a0 c0 h;rw[show AK next (b0+1) k a0 c0=(match a0[next k % a0.length]? with |some x=>AK next b0 (k+1) (a0.eraseIdx (next k % a0.length)) (c0.push x) |none=>c0) from rfl];cases a0 with
  |nil=>simp
  |cons x l=>
   obtain B:next k % (x :: l).length < (x :: l).length:=Hk _ (by simp)
   rw[cy B];dsimp only;have E:((x :: l).eraseIdx (next k % (x :: l).length)).length<=b0:=by rw[Hl B];simp at h |-;exact h
   refine(D (k+1) _ _ E).trans ?_;rw[Hm,jY];refine List.Perm.append_left _ ?_;exact yd B
def KZ {α:Type}(next:ak->ak)(xs:aZ α):(tw next xs).toList.Perm xs.toList:=by
 unfold pickOrder
 simpa using KY next xs.size 0 xs.toList #[] (by simp)
def K4 {b0:Source}{a0:ak->aD->Prop}(hn:n≠0)(h:∀i,i < n->∀d,a0 i { s with drawn:=d }):aA (aV prog w) A (choose b0 n) a0 E s:=λD p B =>by
 show Sem.wp _ _ (.choose b0 n .pure) _ _ _ _;rw[Sem.wp_choose];exact⟨hn,h _ (Hk _ (Nat.pos_of_ne_zero hn)) _⟩
def K9 {α:Type}:∀(n:ak) (xs:ah α) {a0:ah α->aD->Prop} {s:aD},xs.length=n->(∀ys d,ys.Perm xs->a0 ys { s with drawn:=d })->aA (aV prog w) A (drawOrder n xs) a0 E s:=by
 intro H;induction H with
 |zero=>
  intro xs a0 s h B;have:xs=[]:=Hi h;subst this;exact aC (B [] s.drawn .nil)
 |succ n G=>
  intro F;cases F with
  |nil=>
   intro a0 s h B;cases h
  |cons x l=>
   intro a0 s h B;show aA _ _ (choose .order (x :: l).length>>=_) _ _ _;refine bO (K4 (by simp) λi D d=>?_);rw[cy D];dsimp only;refine wB (G _ (by rw[Hl D];simp at h |-;exact AN ((EL h)) ((EG h))) λys I J=>aC (B _ I ?_));exact(wN _ J).trans (yd D)
def ky.La {xs:ah au}{es:ah (Int×aw)}(r:ky w xs es):xs=es.map strOf/\∀e∈es,uU w e:=by
 induction r with
 |nil=>exact⟨rfl,λu h=>nomatch h⟩
 |cons r D=>
  refine⟨by rw[f9,<-D.1];rfl,λe B=>?_⟩;rcases bu.mp B with rfl |B
  ·exact⟨_,_,rfl⟩
  ·exact D.2 e B
def gF.go {es:aZ (Int×aw)}{t:gr}{b0:aw}{c0:ah (Int×aw)}(c:gF X B h a es ep t b0 i c0)(f:∀a0,a0∉B->a0∉J\/h.get? a0=ag)(g:∀a0 oT V,a0∉B->X.ok a0->h.get? a0=ae oT->rR oT V->H.get? a0=ae oT):gF X J H a es ep t b0 i c0:=by
 cases c with
 |text D=>exact .text D
 |drawn D G F e I K=>exact .drawn D ((f _ G).elim id λq=>by rw[q]at e;cases e) F (g _ _ _ G F e I) I K
 |one D E=>exact .one D E
 |done D E L=>exact .done D E L
def Lb (a0:ak):m5 #[] a0=0:=by simp[m5,AM]
def Lc (p:ak):m5 #[p] 0=0:=by simp[m5,AM]
def Ld (p:ak):m5 #[p] (p+1)=1:=by simp[m5,AM]
set_option backward.match.sparseCases true in def CL {es : aZ (Int × aw)} {t : gr} {a0 : ak} {QQ : ax (aw × ak) → aD → Prop} (ho : h.get? a = ae o) (hd : o.data = .set es ep t) (hf : t.fits es.size = aj) (b0 : t.led = !X.w.params.followText "set-order") (hb : X.w.params.followText "set-order" = az) (hs : es.size ≤ 1) (q : QQ (match es[m5 t.place a0]?, t.place[m5 t.place a0]? with
   |some (_,x0),ae a0=>ae (x0,a0+1)
   |_,_=>ag) (sh z h W)):aA (MX X) A (wO a a0 i ep) QQ E (sh z h W):=by
 unfold setNext;refine wB (rm (s:=sh z h W) ho hd hf ?_);dsimp only;unfold setsByText;refine wB (wB (pS (aC ?_)));show aA _ _ (if X.w.params.followText "set-order"=aj then _ else _) _ _ _;rw[aK (by rw[hb];exact je)];show aA _ _ (if (!t.plain && decide (es.size > 1))=aj then _ else _) _ _ _;rw (config:={}) [aK (by rw[cW,fq];exact λq=>absurd hs (Ah.mpr q.2))];show aA _ _ ((if (!t.led && !es.isEmpty)=aj then _ else _)>>=_) _ _ _;rw[aK (by rw[b0,hb];exact je)];exact wB (aC (aC q))
set_option tactic.hygienic true in theorem Le {o : Obj} {it : ay} {es : aZ (Int × aw)} {t : gr} {first : aw} {cur : ah (Int × aw)} {a0 : ax aw → aD → Prop} (hh : A.handled = ag) (hi : h.get? it = ae (qc first i a es.size ep)) (ho : h.get? a = ae o) (hd : o.data = .set es ep t) (hf : t.fits es.size = aj) (kF : es.size ≠ 0 → t.plain = az) (mE : t.led = !X.w.params.followText "set-order") (hc : gF X B h a es ep t first i cur) (ye : it ≠ a) (hQ : ∀ e rest, cur = e :: rest → ∀ H first', H.get? it = ae (qc first' (i + 1) a es.size ep) → fk it h H → gF X B h a es ep t first' (i + 1) rest → a0 (ae e.2) (sh z H W)) (hE : cur = [] → ∀ h₁ H e V, h₁.get? it = ae { cls := .type "set_iterator", data := .fields V } → fk it h h₁ → (∀ b o, h₁.get? b = ae o → H.get? b = ae o) → h₁.get? e = ag → (∃ o, H.get? e = ae o ∧ o.cls = .type "StopIteration") → E (.ref e) (sh z H W)) :
  aA (MX X) A (oq (.ref it) (aq "__next__")) a0 E (sh z h W):=by
 have hT:(sh z h W).TypeIs (.ref it) "set_iterator":=⟨_,hi,rfl⟩;refine ng (name:=aq "__next__") hT vi
  (gw vi hT KU ?_ (KV _))
 show aA _ _ (fieldsOf (.ref it)>>=_) _ _ _;refine wB (wpAny_fieldsOf hi rfl ?_);show aA _ _ (setEntries a>>=_) _ _ _;refine wB (Hn (s:=sh z h W) ho hd hf ?_);show aA _ _ (if ((es.size:Int) != (es.size:Int))=aj then _ else _) _ _ _;rw[aK (by simp)];have vj:∀{A:d8},A.handled=ag->cur=[]->∀(V:aZ aw) (h0:aG),h0.get? it=ae { cls:=.type "set_iterator",data:=.fields V }->fk it h h0->5<=V.size->
   aA (MX X) A (oj (.ref it) 2 .none>>=λu=>wM (.type "StopIteration") []>>=λe=>(AH e:dn PySem.Fin)) (λfin s'=>∃r,fin= .done (.ret r)/\a0 (ae r) s') E (sh z h0 W):=by
  intro A hh Lf V h0 e0 Lg kJ;refine wB (gQ (s:=sh z h0 W) e0 (by exact FI 5 0 3 0 kJ rfl) λh₁ e1 mJ=>?_);exact vh hh λH e x1 x2 x3=>hE Lf h₁ H e _ e1 (Lg.trans mJ) x1 x2 x3
 cases hc with
 |text hb=>
  rename_i j;show aA _ _ (wO a ((j:Int).toNat) ((i:Int).toNat) ((ep:Int).toNat)>>=_) _ _ _;simp only[eB];refine wB ?_;unfold setNext;refine wB (rm (s:=sh z h W) ho hd hf ?_);dsimp only;unfold setsByText;refine wB (wB (pS (aC ?_)));show aA _ _ (if X.w.params.followText "set-order"=aj then _ else _) _ _ _;rw[aN hb];rw[aK (by simp)];unfold setWalk;refine wB (wB (rm (s:=sh z h W) ho hd hf ?_));dsimp only;unfold setsByText;refine wB (wB (pS (aC ?_)));show aA _ _ (if X.w.params.followText "set-order"=aj then _ else _) _ _ _;rw[aN hb];refine wB (pS (aC (aC ?_)));show aA (MX X) A.in1 (match Ho (λ(e:Int×aw)=>(e.2,j)) (tw (X.w.params.setOrder a ep) es)[i]? with
   |some (x,next)=>oj (.ref it) 0 (bI ((next:ak):Int))>>=λu=>oj (.ref it) 1 (bI ((i:Int)+1))>>=λu=>ret x
   |none=>oj (.ref it) 2 .none>>=λu=>wM (.type "StopIteration") []>>=λe=>(AH e:dn PySem.Fin)) _ _ _
  cases hq:(tw (X.w.params.setOrder a ep) es)[i]? with
  |none=>
   dsimp only[Option.map_none];refine vj (show A.in1.handled=ag from hh) ?_ _ h hi (.refl ..) (by simp);rw[pT];rw[Hq]at hq
   simpa using hq
  |some e=>
   dsimp only[tR];refine wB (gQ (s:=sh z h W) hi (by simp) λh₁ e1 mJ=>?_);refine wB (gQ (s:=sh z h₁ W) e1 (by simp) λyf e2 yg=>?_);refine aC ⟨_,rfl,hQ e ((tw (X.w.params.setOrder a ep) es).toList.drop (i+1)) ?_ yf (bI j) e2 (mJ.trans yg) (.text hb)⟩;obtain⟨qi,he⟩:=Array.getElem?_eq_some_iff.mp hq;rw[ou (by simpa using qi)];simp[he]
 |drawn hb n1 n2 e ht hp=>
  rename_i T oT ps;obtain⟨r9,nT,nN⟩:=ht;refine bO (j4 (s:=sh z h W) e nN ?_);dsimp only;simp only[eB];cases hq:ps[i]? with
  |none=>
   have:(ps.map λ(p:ak)=>bI p).toArray[i]? =ag:=by simp;rw[nk]at hq;exact hq
   rw[this];dsimp only;refine wB (gQ (s:=sh z h W) hi (by simp) λh₁ e1 mJ=>?_);refine vj (show A.in1.handled=ag from hh) ?_ _ h₁ e1 mJ (by simp);rw[nk]at hq;rw[pT.mpr hq];rfl
  |some p=>
   have:(ps.map λ(p:ak)=>bI p).toArray[i]? =ae (bI p):=by simp[hq]
   rw[this];have qi:p < es.size:=hp p (cD hq);show aA _ _ (setNextDrawn a ((p:Int).toNat) ((ep:Int).toNat)>>=_) _ _ _;simp only[eB];refine wB ?_;unfold setNextDrawn;refine bO (rm (s:=sh z h W) ho hd hf ?_);dsimp only;rw[aK (by simp)];rw[wK qi];refine aC ?_;refine wB (gQ (s:=sh z h W) hi (by simp) λh₁ e1 mJ=>?_);refine aC ⟨_,rfl,hQ es[p] ((ps.drop (i+1)).filterMap λp=>es[p]?) ?_ h₁ (.ref T) e1 mJ (.drawn hb n1 n2 e ⟨r9,nT,nN⟩ hp)⟩;obtain⟨yh,he⟩:=cF.mp hq;rw[ou yh,he,AP,wK qi]
 |one hb hs=>
  show aA _ _ (wO a (((0:ak):Int).toNat) (((0:ak):Int).toNat) ((ep:Int).toNat)>>=_) _ _ _;simp only[eB];refine wB (CL ho hd hf mE hb hs ?_);have yi:t.place.size=es.size:=by simp only[SetTable.fits,cW,bU]at hf;exact hf.1
  obtain⟨el⟩:=es;obtain⟨pl,CM⟩:∃pl:ah ak,t.place=pl.toArray:=⟨t.place.toList,by simp⟩;rw[CM]at yi |-;cases el with
  |nil=>
   rw[nq.mp (show pl.length=0 from yi),Lb];exact vj (show A.in1.handled=ag from hh) rfl _ h hi (.refl ..) (by simp)
  |cons e l=>
   obtain hl:l=[]:=nq.mp (Hj.mp (Hr hs));subst hl;obtain⟨p,Lh⟩:=Hs.mp (show pl.length=1 from yi);subst Lh;rw[Lc];show aA _ _ (oj (.ref it) 0 (bI ((p+1:ak):Int))>>=_) _ _ _;refine wB (gQ (s:=sh z h W) hi (by simp) λh₁ e1 mJ=>?_);refine wB (gQ (s:=sh z h₁ W) e1 (by simp) λyf e2 yg=>?_);refine aC ⟨_,rfl,hQ e [] rfl yf (bI ((p+1:ak):Int)) e2 (mJ.trans yg) (.done hb (by simp) ?_)⟩;rw[CM,Ld];simp
 |done hb hs hj=>
  rename_i j;show aA _ _ (wO a ((j:Int).toNat) ((i:Int).toNat) ((ep:Int).toNat)>>=_) _ _ _;simp only[eB];refine wB (CL ho hd hf mE hb hs ?_);rw[Hq.mpr hj];exact vj (show A.in1.handled=ag from hh) rfl _ h hi (.refl ..) (by simp)
def range_items (es:aZ (Int×aw)):((dz es.size).filterMap λp=>es[p]?)=es.toList:=by
 obtain⟨l⟩:=es;show((dz l.length).filterMap λp=>l.toArray[p]?)=l;have:∀n,n<=l.length->((dz n).filterMap λp=>l.toArray[p]?)=l.take n:=by
  intro n;induction n with
  |zero=>intro _;rfl
  |succ n E=>
   intro D;have B:n < l.length:=D;rw[wQ,List.filterMap_append,E (by exact FI 1 0 0 0 D rfl),AQ];simp[cy B]
 rw[this l.length (a4 _),j5]
theorem Li {o:Obj}{es:aZ (Int×aw)}{t:gr}{b0:aw->aD->Prop}(ho:h.get? a=ae o)(hx:o.ExactSet)(hd:o.data= .set es ep t)(hf:t.fits es.size=aj)(h3:es.size<=3)(g0:es.size≠0->t.plain=az)(f0:∀c0,h.get? c0=ag->c0∉B/\X.ok c0)(hQ:∀H a0 d d0 e0,(∀b o,h.get? b=ae o->H.get? b=ae o)->h.get? a0=ag->H.get? a0=ae (qc d0 0 a es.size ep)->gF X B H a es ep t d0 0 e0->e0.Perm es.toList->b0 (.ref a0) (sh { z with drawn:=d } H W)):
  aA (MX X) A (f5 (.ref a)) b0 E (sh z h W):=by
 obtain V:(sh z h W).TypeIs (.ref a) "set":=⟨o,ho,hx.1⟩;refine ow V F.slot_set_iter (gw F.slot_set_iter V KW ?_ (F.args_set_iter_1 _));unfold Builtin.«frozenset.__iter__» V6 slotArgs;simp only[tS,qU,jb,↓AU,bind_assoc,q7,AW];unfold Builtin.Frozenset.addrOf V7;refine wB (aC ?_);try dsimp only
 refine wB (aC ?_);refine wB (wB (Hn (s:=sh z h W) ho hd hf (aC ?_)));refine wB ?_;unfold setDrawn;refine wB (rm (s:=sh z h W) ho hd hf ?_);dsimp only;unfold setsByText;refine wB (wB (pS (aC (aC ?_))));have tail:∀(d0:aw) (G:aG) (d:Drawn),(∀b o,h.get? b=ae o->G.get? b=ae o)->(∃e0,e0.Perm es.toList/\∀H L,H=G.push L->gF X B H a es ep t d0 0 e0)->
   aA (MX X) A.in1 (setEpoch a>>=λe=>newFields "set_iterator" [d0,bI (0:ak),.ref a,bI es.size,bI e]>>=λv=>ret v)
    (λS Y=>∃r,S= .done (.ret r)/\(∃T' r',Y.TypeIs r T'/\tT (.type T') "__next__"=pure (ae r')/\b0 r Y)) E (sh { z with drawn:=d } G W):=by
  intro d0 G d R D
  obtain⟨e0,M,D⟩:=D;refine wB (wpAny_setEpoch_of (s:=sh { z with drawn:=d } G W) (R _ _ ho) hd hf ?_);unfold newFields;refine wB (qZ ?_ (by size_fits));refine aC ⟨_,rfl,"set_iterator",_,⟨_,cV _ rfl,rfl⟩,vi.lookup,?_⟩;refine hQ _ G.objs.size d d0 e0 (λb o e=>be _ (R _ _ e)) ?_ (cV _ rfl) (D _ _ rfl) M
  cases q:h.get? G.objs.size with
  |none=>rfl
  |some o=>exact absurd (gN (R _ _ q)) (dP _)
 show aA (MX X) A.in1 (if (!X.w.params.followText "set-order" && (!t.plain && decide (es.size > 1)))=aj then _ else _) _ _ _;by_cases J:X.w.params.followText "set-order"=aj
 ·rw[aK (by rw[J];simp)];refine wB (aC ?_);refine tail (bI (0:ak)) h z.drawn (λu u e=>e) ⟨_,KZ (X.w.params.setOrder a ep) es,λH L u=>?_⟩;have:=gF.text (X:=X) (ρ:=B) (h:=H) (a:=a) (es:=es) (ep:=ep) (t:=t) (i:=0) (j:=0) J
  simpa using this
 ·rw[pO]at J;by_cases O:es.size > 1
  ·rw[aN (by rw[J,g0 (by lia)];simp[O])];refine wB (K9 es.size (dz es.size) (by simp) λK d M=>?_);obtain U:∀p∈K,p < es.size:=λp k=>nr.mp (M.mem_iff.mp k);have N:K.length=es.size:=by rw[M.length_eq,wR]
   refine wB (m6 ?_ (by rw[aO,N];show _<=2 ^ 24;exact FI 0 3 0 16777216 h3 rfl));refine tail _ _ d (λb o e=>be _ e) ⟨K.filterMap λp=>es[p]?,?_,λH L q=>?_⟩
   ·have:=M.filterMap λp=>es[p]?
    rwa [range_items]at this
   ·subst q;obtain⟨Z,j⟩:=f0 h.objs.size (eT h);have:=gF.drawn (X:=X) (ρ:=B) (h:=(h.push { cls:=.type "tuple",data:=.seq (K.map λ(p:ak)=>bI p).toArray }).push L) (a:=a) (es:=es) (ep:=ep) (t:=t) (i:=0) (ps:=K) J Z j (be _ (cV _ rfl)) ⟨rfl,_,rfl⟩ U
    simpa using this
  ·rw[aK (by simp[O])];refine wB (aC ?_);exact tail (bI (0:ak)) h z.drawn (λu u e=>e) ⟨_,.refl _,λH L u=>.one J (by exact(NL O))⟩
def dT.step {ex:ah ay}(r:dT X B h own ai it)(a0:Inv X B I h)(b0:Go X ex B h J H)(hx:∀c∈own,c∉ex):dT X J H own ai it:=by
 cases r with
 |simple r=>exact .simple (r.step a0 b0 hx)
 |enum U n b Z r=>exact .enum (b0.field U rfl n (a0.gZ b) (hx _ (.head _))) (b0.step.dt U n) b Z (r.step a0 b0 λc D=>hx c (.tail _ D))
 |zip R Y W n b j L d f w=>
  exact .zip (b0.field R rfl n.1 (a0.gZ b.1) (hx _ (.head _))) (b0.seq Y rfl n.2.1 (a0.gZ b.2.1)) (b0.seq W rfl n.2.2 (a0.gZ b.2.2)) ⟨b0.step.dt R n.1,b0.step.dt Y n.2.1,b0.step.dt W n.2.2⟩ b j L d
   (f.step a0 b0 λc D=>hx c (.tail _ (.tail _ (gO _ D)))) (w.step a0 b0 λc D=>hx c (.tail _ (.tail _ (hY _ D))))
 |set n b O F S N l M E K Q D=>
  exact .set (b0.step.dt Q n) b (b0.step.dt S O) F (b0.step.uY S O F.1 (Kp.set N).nd) N l M E K (b0.field Q rfl n (a0.gZ b) (hx _ (.head _)))
   (D.go (λT u=>by
    cases q:h.get? T with
    |none=>exact .inr rfl
    |some o=>exact .inl (b0.step.dt q u)) λT m V z A e k=>b0.step.uY e z A.1 (Kp.seq k.2.choose_spec).nd)
theorem dT.gj (r:dT X B h own ai it):eF X B h own:=by
 cases r with
 |simple r=>exact r.gj
 |enum J n b O r=>
  intro c D;rcases bu.mp D with rfl |D
  ·exact⟨n,b,.inr ⟨_,_,J,rfl,by simp⟩⟩
  ·exact r.gj c D
 |zip I V U n b j H d M K=>
  intro c D;rcases bu.mp D with rfl |D
  ·exact⟨n.1,b.1,.inr ⟨_,_,I,rfl,by simp⟩⟩
  rcases bu.mp D with rfl |D
  ·exact⟨n.2.2,b.2.2,.inl j⟩
  rcases dX.mp D with D |D
  ·exact M.gj c D
  ·exact K.gj c D
 |set n b R G S Q T L F E N D=>intro c D;rw[aJ.mp D];exact⟨n,b,.inr ⟨_,_,N,rfl,by simp[qc]⟩⟩
def dT.dr {b0:ah ay}(r:dT X B h own ai it)(D:Dr b0 B h H)(a0:eF X B h b0)(hn:∀c∈own,c∉b0):dT X B H own ai it:=by
 cases r with
 |simple r=>exact .simple (r.dr D hn)
 |enum k n b R r=>exact .enum (D.keep _ _ k (hn _ (.head _)) n) n b R (r.dr D λc E=>hn c (.tail _ E))
 |zip W Q l n b j I d z u=>
  exact .zip (D.keep _ _ W (hn _ (.head _)) n.1) (D.keep _ _ Q (a0.kp I Q (.seq rfl)) n.2.1) (D.keep _ _ l (hn _ (.tail _ (.head _))) n.2.2) n b j I d
   (z.dr D λc E=>hn c (.tail _ (.tail _ (gO _ E)))) (u.dr D λc E=>hn c (.tail _ (.tail _ (hY _ E))))
 |set n b M G N L Z K F J U E=>
  exact .set n b M G (D.keep _ _ N (a0.kp G N (.set L)) M) L Z K F J (D.keep _ _ U (hn _ (.head _)) n)
   (E.go (λT A=>.inl A) λT o V w S e Y=>D.keep _ _ e (by obtain⟨_,m,d⟩:=Y;exact a0.kp S e (.seq d)) w)
def Inv.fresh {b0:ay}(a0:Inv X B I h)(hf:h.get? b0=ag):b0∉B/\X.ok b0:=by
 refine⟨λG=>?_,λe=>?_,λH=>?_⟩
 ·obtain⟨i,E,F⟩:=qR.mp G;have gg:i < I.length:=a0.len ▸ E;obtain⟨J,D,b⟩:=a0.obj i I[i] b0 (cy gg) (by rw[cy E,F]);rw[hf]at D;cases D
 ·obtain⟨V,D,_⟩:=a0.tab;rw[<-e,hf]at D;cases D
 ·obtain⟨o,D⟩:=a0.gf b0 H;rw[hf]at D;cases D
def yj {b0:aw->aD->Prop}(r:bP X B h own ai it)(a0:Inv X B I h)(hh:A.handled=ag)(hr:(bx ai).run I λc0 Z=>match c0 with
   |.ok (ae (x0,mI))=>∀H t' v,Inv X B Z H->Dr own B h H->bP X B H own mI it->aF X B H x0 v->b0 v (sh z H t')
   |.ok .none=>∀H e,Inv X B Z H->Dr own B h H->eF X B H own->h.get? e=ag->(∃o,H.get? e=ae o/\o.cls= .type "StopIteration")->E (.ref e) (sh z H W)
   |.err _=>dm):
  aA (MX X) A (AX it) b0 E (sh z h W):=by
 unfold Builtin.SmallTypes.nextOf;refine wB (draw (I:=I) r a0 hh ((bx ai).mono (λc0 Z y=>?_) hr));cases c0 with
 |err k=>exact y
 |ok p=>cases p with
  |none=>exact y
  |some p=>exact λH t' v a b c d=>aC (y H t' v a b c d)
def Dr.widen (D:Dr own [] h H):Dr own B h H:=⟨D.there,λa o e n u=>D.keep a o e n (by simp)⟩
theorem Lj {e it:ay}{a:AI}{i:Int}{old:aw}{n0:ah aH}{c:ak}{b0:aD->Prop}{S:aw->aD->Prop}(he:oa h e it i old)(n:e∉B)(b:X.base.get? e=ag)(ne:e∉own)(r:bP X B h own a (.ref it))(a0:Inv X B I h)(hh:A.handled=ag)(hr:(bx (.enum i a)).run I λf0 Z=>match f0 with
   |.ok (ae (x0,l0))=>∀H t' v,Inv X B Z H->Dr (e :: own) B h H->dT X B H (e :: own) l0 (.ref e)->aF X B H x0 v->S v (sh z H t')
   |.ok .none=>∀H t',Inv X B Z H->Dr (e :: own) B h H->b0 (sh z H t')
   |.err _=>dm):
  aA (MX X) A (hZ (.ref e)) (λr c0=>match r with
   |none=>b0 c0
   |some v=>aA (MX X) A (rn (.Tuple n0 c pos) (.ref e) v) (λg o0=>S v o0) E' c0) E (sh z h W):=by
 obtain hT:(sh z h W).TypeIs (.ref e) "enumerate":=⟨_,he,rfl⟩;unfold pyNext;refine wB (nu (ng (name:=aq "__next__") hT F.slot_enumerate_next
  (gw F.slot_enumerate_next hT F.entry_enumerate_next ?_ (F.args_enumerate_next_1 _))))
 show aA _ _ (jd (.ref e) 2>>=_) _ _ _;refine wB (e5 he rfl (x:=.ref it) rfl ?_);refine wB (yj (I:=I) r a0 (show A.in1.handled=ag from hh) ((bx a).mono ?_ (show(bx a).run I _ from hr)));intros _ f0 Z _ y;cases f0 with
 |err k=>exact y
 |ok p=>cases p with
  |none=>
   intro H x I' D O ex hx;obtain⟨o,eo,co⟩:=hx;refine wB (l9 (T:="StopIteration") (b:=aj) ⟨o,eo,co⟩ oz ?_);exact aC (y H W I' (D.mono λd hm=>.tail _ hm))
  |some p=>
   obtain⟨x,l0⟩:=p;intros x l0 _ y;intros _ K J v _ f w r0 rv;obtain L:oa K e it i old:=w.keep _ _ he ne n;show aA _ _ (jd (.ref e) 3>>=_) _ _ _;refine wB (e5 L rfl (x:=bI i) rfl ?_);show aA _ _ (jd (.ref e) 4>>=_) _ _ _;refine wB (e5 L rfl (x:=.none) rfl ?_);show aA _ _ (mkInt i>>=_) _ _ _;refine wB (wpAny_mkInt ?_);show aA _ _ (oj (.ref e) 3 (bI (i+1))>>=_) _ _ (sh z K (J+1));refine wB (gQ L (by simp) ?_);intros _ e0 _ T m0
   replace T:oa e0 e it (i+1) old:=T
   show aA _ _ (oj (.ref e) 4 .none>>=_) _ _ (sh z e0 (J+1));refine wB (gQ T (by simp) ?_);intros _ G _ M g0
   replace M:oa G e it (i+1) old:=M
   show aA _ _ (wD [.int i J,v]>>=_) _ _ (sh z G (J+1));refine wB (m6 ?_);obtain U:oa (G.push { cls:=.type "tuple",data:=.seq #[.int i J,v] }) e it (i+1) old:=be _ M;show aA _ _ (Ht (.ref e)>>=_) _ _ (sh z (G.push { cls:=.type "tuple",data:=.seq #[.int i J,v] }) (J+1));refine wB ?_;unfold Builtin.SmallTypes.ownedTupleIsFree;refine wB (e5 U rfl (x:=.none) rfl (aC ?_));simp only[jB];refine wB (gP ?_);refine wB (e5 U rfl (x:=old) rfl ?_);refine wB (gQ U (by simp) ?_);intros _ d0 _ R i0
   replace R:oa d0 e it (i+1) v:=R
   show aA _ _ (Hu (.ref e) (.ref G.objs.size)>>=_) _ _ (sh z d0 (J+1));refine wB ?_;unfold Builtin.SmallTypes.ownedTupleHandOut;refine wB (gQ R (by simp) λu0 l j0=>?_);refine gQ l (by simp) λp0 Q k0=>?_
   replace Q:IsEnumOut p0 e it (i+1) v G.objs.size:=Q
   refine wB (ia (aC ⟨_,rfl,aC ?_⟩));refine wpAny_letOwnedTupleGo_enum Q λY j h0=>?_;obtain u:Dr [e] [] K G:=(Dr.same (.head _) m0 T).trans (Dr.same (.head _) g0 M);obtain Dp:Dr [e] [] G (G.push { cls:=.type "tuple",data:=.seq #[.int i J,v] }):=Dr.keeps _ _ λb o e=>be _ e;obtain m:Dr [e] [] (G.push { cls:=.type "tuple",data:=.seq #[.int i J,v] }) Y:=
    (((Dr.same (.head _) i0 R).trans (Dr.same (.head _) j0 l)).trans (Dr.same (.head _) k0 Q)).trans (Dr.same (.head _) h0 j)
   obtain V:Dr [e] [] K Y:=(u.trans Dp).trans m;obtain O:eF X B K [e]:=λc hc=>by rw[aJ.mp hc];exact⟨n,b,.inr ⟨_,_,L,rfl,by simp⟩⟩
   have hT:K.get? G.objs.size=ag:=by
    cases q:K.get? G.objs.size with
    |none=>rfl
    |some o=>obtain⟨o',q'⟩:=u.there _ _ q;exact absurd (gN q') (dP _)
   obtain⟨f1,f2⟩:=f.fresh hT;obtain s0:G.objs.size∉[e]:=λhm=>by rw[aJ.mp hm,L]at hT;cases hT
   refine y Y (J+1) (.ref G.objs.size) (f.dr O V) ((w.mono λd hm=>.tail _ hm).trans (V.widen.mono λc hc=>by rw[aJ.mp hc];exact .head _))
    (.enum j n b ne (r0.dr V.widen λc hc hm=>ne (aJ.mp hm ▸ hc))) ?_
   exact .pair f1 f2 (m.keep _ _ (cV _ rfl) s0 (by simp)) ⟨rfl,_,rfl⟩ (.int ..) (rv.dr V.widen O)
theorem Lk {o1 o2:ah ay}{a1 a2:AI}{q TI TO:ay}{v1 v2 x0 y0:aw}{U0:ah aH}{c:ak}{b0:aD->Prop}{S:aw->aD->Prop}(hz:i7 h q TI TO .none)(hI:jx h TI v1 v2)(hO:jx h TO x0 y0)(n:q∉B/\TI∉B/\TO∉B)(b:X.base.get? q=ag/\X.base.get? TI=ag/\X.base.get? TO=ag)(j:TO∈X.bad)(t1:X.ok TI)(d:TI≠TO/\q∉o1++o2/\TO∉o1++o2/\(∀c∈o1,c∉o2)/\TI∉o1++o2)(r1:bP X B h o1 a1 v1)(r2:bP X B h o2 a2 v2)(a0:Inv X B I h)(hh:A.handled=ag)(hr:(bx (.zip a1 a2)).run I λj0 Z=>match j0 with
   |.ok (ae (Ll,mI))=>∀H t' v,Inv X B Z H->Dr (q :: TO :: (o1++o2)) B h H->dT X B H (q :: TO :: (o1++o2)) mI (.ref q)->aF X B H Ll v->S v (sh z H t')
   |.ok .none=>∀H t',Inv X B Z H->Dr (q :: TO :: (o1++o2)) B h H->b0 (sh z H t')
   |.err _=>dm):
  aA (MX X) A (hZ (.ref q)) (λr A0=>match r with
   |none=>b0 A0
   |some v=>aA (MX X) A (rn (.Tuple U0 c pos) (.ref q) v) (λt l1=>S v l1) E' A0) E (sh z h W):=by
 obtain⟨n1,n2,n3⟩:=n;obtain⟨b1,b2,b3⟩:=b;have d':=d;obtain⟨d1,d2,d3,d4,d5⟩:=d;have x1:TI∉o1:=λG=>d5 (gO _ G);have q1:TI∉o2:=λG=>d5 (hY _ G);have L0:q∉o1:=λG=>d2 (gO _ G);have F0:q∉o2:=λG=>d2 (hY _ G);have j1:TO∉o1:=λG=>d3 (gO _ G);have Y0:TO∉o2:=λG=>d3 (hY _ G);have z0:q≠TO:=λe=>by rw[i7,e,hO]at hz;simp at hz
 have w1:TI≠q:=λe=>by rw[jx,e,hz]at hI;simp at hI
 have ml:∀a∈o1,a∈q :: TO :: (o1++o2):=λa G=>.tail _ (.tail _ (gO _ G));have mr:∀a∈o2,a∈q :: TO :: (o1++o2):=λa G=>.tail _ (.tail _ (hY _ G));have mz:∀a∈[q],a∈q :: TO :: (o1++o2):=λa G=>by rw[aJ.mp G];exact .head _
 have mO:∀a∈[TO],a∈q :: TO :: (o1++o2):=λa G=>by rw[aJ.mp G];exact .tail _ (.head _)
 have i0:∀{g:aG} {f0:aw},i7 g q TI TO f0->eF X B g [q]:=λe c hc=>by rw[aJ.mp hc];exact⟨n1,b1,.inr ⟨_,_,e,rfl,by simp⟩⟩
 have g0:∀{g:aG},eF X B g [TO]:=λ{g} c hc=>by rw[aJ.mp hc];exact⟨n3,b3,.inl j⟩
 have Z0:∀c∈o1,c∉[q]:=λc hc G=>L0 (aJ.mp G ▸ hc);have W0:∀c∈o2,c∉[q]:=λc hc G=>F0 (aJ.mp G ▸ hc);have h1:∀c∈o1,c∉[TO]:=λc hc G=>j1 (aJ.mp G ▸ hc);have m1:∀c∈o2,c∉[TO]:=λc hc G=>Y0 (aJ.mp G ▸ hc);have hT:(sh z h W).TypeIs (.ref q) "zip":=⟨_,hz,rfl⟩;unfold pyNext;refine wB (nu (ng (name:=aq "__next__") hT F.slot_zip_next
  (gw F.slot_zip_next hT F.entry_zip_next ?_ (F.args_zip_next_1 _))))
 show aA _ _ (jd (.ref q) 2>>=_) _ _ _;refine wB (e5 hz rfl (x:=.bool az) rfl ?_);show aA _ _ (jd (.ref q) 3>>=_) _ _ _;refine wB (e5 hz rfl (x:=.ref TI) rfl ?_);refine wB (j4 hI rfl ?_);show aA _ _ (Ht (.ref q)>>=_) _ _ _;refine wB ?_;unfold Builtin.SmallTypes.ownedTupleIsFree;refine wB (e5 hz rfl (x:=.none) rfl (aC ?_));simp only[jB];refine wB (gP ?_);refine wB (e5 hz rfl (x:=.ref TO) rfl ?_);refine wB (gQ hz (by simp) ?_);intros _ h0 _ L v0
 replace L:i7 h0 q TI TO .ellipsis:=L
 have f:Dr [q] [] h h0:=Dr.same (.head _) v0 L;have c1:Inv X B I h0:=a0.dr (i0 hz) f;refine wB ?_;simp only[List.zipIdx_cons,List.zipIdx_nil,pU,mc];refine wB (wB (wpAny_onRaise ?_));show aA _ _ (AX v1>>=_) _ _ (sh z h0 W);refine wB (yj (I:=I) (r1.dr f.widen Z0) c1 (show A.in1.handled=ag from hh) ((bx a1).mono ?_ (show(bx a1).run I _ from hr)));intros _ j0 Z _ y;cases j0 with
 |err k=>exact y
 |ok p=>cases p with
  |none=>
   intros _ m e _ p0 T A1 ex hx;have w0:i7 m q TI TO .ellipsis:=T.keep _ _ L L0 n1;refine gQ (s:=sh z m W) w0 (by simp) ?_;intros _ J _ R Y;have Q:Dr [q] [] m J:=Dr.same (.head _) Y R;obtain (⟨o,eo,co⟩):=hx;have M0:e≠q:=λq'=>by rw[q']at ex;rw[i7,ex]at L;cases L
   refine wB (l9 (T:="StopIteration") (b:=aj) ⟨o,(Y.2 e M0).trans eo,co⟩ oz ?_);refine aC (y J W (p0.dr (i0 w0) Q) ((f.widen.mono mz).trans ((T.mono ml).trans (Q.widen.mono mz))))
  |some p=>
   obtain⟨x,V0⟩:=p;intros x V0 _ y;intros _ m n0 v _ p0 T I0 rv;have u0:jx m TO x0 y0:=T.keep _ _ ((v0.2 TO z0.symm).trans hO) j1 n3;refine aC ?_;refine wB (j4 u0 rfl ?_);refine wB (Hv u0 ?_);intros _ J _ e0 Y
   replace e0:jx J TO v y0:=e0
   have Q:Dr [TO] [] m J:=Dr.same (.head _) Y e0;have i1:Inv X B Z J:=p0.dr g0 Q;refine wB (ia (aC ?_));refine wB (wB (wpAny_onRaise ?_));show aA _ _ (AX v2>>=_) _ _ (sh z J n0);have l0:bP X B J o2 a2 v2:=((r2.dr f.widen W0).dr T λc hc G=>d4 c G hc).dr Q.widen m1;have R:i7 J q TI TO .ellipsis:=(Y.2 q z0).trans (T.keep _ _ L L0 n1);have e1:Dr (q :: TO :: (o1++o2)) B h J:=(f.widen.mono mz).trans ((T.mono ml).trans (Q.widen.mono mO));refine wB (yj (I:=Z) l0 i1 (show A.in1.handled=ag from hh) ((bx a2).mono ?_ (show(bx a2).run Z _ from y)));intros _ j0 S0 _ y;cases j0 with
   |err k=>exact y
   |ok p=>cases p with
    |none=>
     intros _ c0 e _ k0 M z1 ex hx;have m0:i7 c0 q TI TO .ellipsis:=M.keep _ _ R F0 n1;refine gQ (s:=sh z c0 n0) m0 (by simp) ?_;intros _ D _ w u;have K:Dr [q] [] c0 D:=Dr.same (.head _) u w;obtain (⟨o,eo,co⟩):=hx;have M0:e≠q:=λq'=>by rw[q']at ex;rw[i7,ex]at R;cases R
     refine wB (l9 (T:="StopIteration") (b:=aj) ⟨o,(u.2 e M0).trans eo,co⟩ oz ?_);exact aC (y D n0 (k0.dr (i0 m0) K) (e1.trans ((M.mono mr).trans (K.widen.mono mz))))
    |some p=>
     obtain⟨x',R0⟩:=p;intros x' R0 _ y;intros _ c0 C0 v' _ k0 M G0 s1;have s0:jx c0 TO v y0:=M.keep _ _ e0 Y0 n3;refine aC ?_;refine wB (j4 s0 rfl ?_);refine wB (Hv s0 ?_);intros _ D _ V u
     replace V:jx D TO v v':=V
     have K:Dr [TO] [] c0 D:=Dr.same (.head _) u V;have B0:Inv X B S0 D:=k0.dr g0 K;have w:i7 D q TI TO .ellipsis:=(u.2 q z0).trans (M.keep _ _ R F0 n1);refine wB (ia (aC (aC ?_)));refine wB (j4 V rfl ?_);refine wB (m6 ?_);show aA _ _ (Hu (.ref q) (.ref D.objs.size)>>=_) _ _ (sh z (D.push { cls:=.type "tuple",data:=.seq #[v,v'] }) C0);refine wB ?_;unfold Builtin.SmallTypes.ownedTupleHandOut;have P0:i7 (D.push { cls:=.type "tuple",data:=.seq #[v,v'] }) q TI TO .ellipsis:=be _ w;refine wB (gQ P0 (by simp) ?_);intros _ B1 _ o0 Q0;refine gQ o0 (by simp) λT0 d0 H0=>?_
     replace d0:i7 T0 q TI TO (bI D.objs.size):=d0
     refine aC ⟨_,rfl,aC ?_⟩;refine wpAny_letOwnedTupleGo_zip d0 λl r0 J0=>?_;have Dp:Dr [q] [] D (D.push { cls:=.type "tuple",data:=.seq #[v,v'] }):=Dr.keeps _ _ λb o e=>be _ e;have Dq:Dr [q] [] (D.push { cls:=.type "tuple",data:=.seq #[v,v'] }) l:=((Dr.same (.head _) Q0 o0).trans (Dr.same (.head _) H0 d0)).trans (Dr.same (.head _) J0 r0);have U:Dr [q] [] D l:=Dp.trans Dq;have O:=i0 w;obtain⟨f1,f2⟩:=B0.fresh (eT D);have u1:D.objs.size∉[q]:=λG=>by have:=eT D;rw[aJ.mp G,w]at this;cases this
     have y1:∀c∈o1,c∉o2:=d4;have K0:bP X B l o1 V0 v1:=((((I0.dr Q.widen h1).dr M d4).dr K.widen h1).dr U.widen Z0);have N0:bP X B l o2 R0 v2:=(G0.dr K.widen m1).dr U.widen W0;have p1:TI∉[q]:=λG=>w1 (aJ.mp G);have g1:TI∉[TO]:=λG=>d1 (aJ.mp G);have E0:jx l TI v1 v2:=U.keep _ _ (K.keep _ _ (M.keep _ _ (Q.keep _ _ (T.keep _ _ (f.keep _ _ hI p1 (by simp)) x1 n2) g1 (by simp)) q1 n2) g1 (by simp)) p1 (by simp);have O0:jx l TO v v':=U.keep _ _ V (λG=>z0 (aJ.mp G).symm) (by simp);refine y l C0 (.ref D.objs.size) (B0.dr O U) (e1.trans ((M.mono mr).trans ((K.widen.mono mO).trans (U.widen.mono mz))))
      (.zip r0 E0 O0 ⟨n1,n2,n3⟩ ⟨b1,b2,b3⟩ j t1 d' K0 N0) ?_
     exact .pair f1 f2 (Dq.keep _ _ (cV _ rfl) u1 (by simp)) ⟨rfl,_,rfl⟩
      (((((rv.dr Q.widen g0).dr M l0.gj).dr K.widen g0)).dr U.widen O) ((s1.dr K.widen g0).dr U.widen O)
set_option backward.match.sparseCases true in set_option tactic.hygienic true in theorem vk {r : ay} {a0 : b8 → aD → Prop} (e : s.heap.get? r = ae o) (hc : ∀ n, o.cls = .type n → Cb n = az) (hQ : a0 () s) :
  aA (MX X) A (rn target (.ref r) v) a0 E s:=by
 have B:aA (MX X) A (do
   let (.ref r,.ref a):=((gu r,v):aw×aw) |(return:dn b8)
   let o <-load r
   match o.cls,o.data with
   |.type n,.fields V=>
    if ["enumerate","zip","dict_itemiterator","dict_reverseitemiterator","odict_iterator","itertools.zip_longest","itertools.pairwise"].contains n && V[0]? == ae (bI a)then
     jX "for.unpacks-the-owned-tuple"
     updateField r 0 .none
   |_,_=>pure ()) a0 E s:=by
  cases v with
  |ref a=>
   refine bO (wpAny_load e ?_);obtain⟨D,F,d,G⟩:=o;cases D with
   |type n=>
    cases d with
    |fields V=>
     show aA _ _ (if (["enumerate","zip","dict_itemiterator","dict_reverseitemiterator","odict_iterator","itertools.zip_longest","itertools.pairwise"].contains n && V[0]? == ae (bI a))=aj then _ else _) _ _ _;rw[aK (by rw[show(["enumerate","zip","dict_itemiterator","dict_reverseitemiterator","odict_iterator","itertools.zip_longest","itertools.pairwise"].contains n)=az from hc n rfl];simp)];exact aC hQ
    |_=>exact aC hQ
   |_=>exact aC hQ
  |_=>exact aC hQ
 cases target with
 |Tuple=>exact B
 |List=>exact B
 |_=>exact aC hQ
def Lm {n:aI}(hv:nJ v=aj)(e:v= .type n):Cb n=az:=by
 subst e;unfold nJ at hv;simp only[List.contains_eq_mem,bu,pK,tU,fq]at hv;rcases hv with rfl |rfl |rfl |rfl |rfl |rfl |rfl |rfl <;>rfl
set_option tactic.hygienic true in def bP.go {b0 : b8 → aD → Prop} (r : bP X B h own ai it) (a0 : Inv X B I h) (hQ : b0 () (sh z h W)) : aA (MX X) A (rn target it v) b0 E (sh z h W) := by
 cases r with
 |list e hi n b=>obtain⟨o,eo,c,d⟩:=hi;exact vk (s:=sh z h W) eo (λn e=>by rw[c]at e;cases e;rfl) hQ
 |range hi n b=>exact vk (s:=sh z h W) hi (λn e=>by cases e;rfl) hQ
 |obj e=>
  rename_i i a;obtain⟨hi,_⟩:=cF.mp e;have gg:i < I.length:=a0.len ▸ hi;obtain⟨o,eo,b⟩:=a0.obj i I[i] a (cy gg) e;exact vk (s:=sh z h W) eo (λn e=>Lm b.cls e) hQ
set_option tactic.hygienic true in theorem CN {b0 : aD → Prop} {S : aw → aD → Prop} (r : dT X B h own ai it) (a0 : Inv X B I h) (hh : A.handled = ag) (ht : fJ target ai = aj) (hr : (bx ai).run I fun res Z => match res with
   |.ok (ae (x0,mI))=>∀H t' v,Inv X B Z H->Dr own B h H->dT X B H own mI it->fJ target mI=aj->aF X B H x0 v->S v (sh z H t')
   |.ok .none=>∀H t',Inv X B Z H->Dr own B h H->b0 (sh z H t')
   |.err _=>dm):
  aA (MX X) A (hZ it) (λr ji=>match r with
   |none=>b0 ji
   |some v=>aA (MX X) A (rn target it v) (λg Lp=>S v Lp) E' ji) E (sh z h W):=by
 cases r with
 |simple r=>
  unfold pyNext;refine wB (nu (draw (I:=I) r a0 hh ((bx ai).mono (λres Z y=>?_) hr)));cases res with
  |err k=>exact y
  |ok p=>cases p with
   |none=>
    intro H e I' D O ex hx;obtain⟨o,eo,co⟩:=hx;refine wB (l9 (T:="StopIteration") (b:=aj) ⟨o,eo,co⟩ oz ?_);exact aC (y H W I' D)
   |some p=>
    obtain⟨x,mI⟩:=p;intro H t' v I' D r' rv;refine aC (r'.go I' (y H t' v I' D (.simple r') ?_ rv));cases r' <;>exact rq _
 |enum he n b ne r=>
  have yk:kn target=aj:=(AY _).symm.trans ht;cases target with
  |Tuple elts c pos=>
   refine Lj (I:=I) he n b ne r a0 hh ((bx _).mono (λres Z y=>?_) hr);cases res with
   |err k=>exact y
   |ok p=>cases p with
    |none=>exact y
    |some p=>exact λH t' v i1 i2 i3 i4=>y H t' v i1 i2 i3 rfl i4
  |_=>cases yk
 |set n b na xJ ho hd hf kF mE good hi hc=>
  rename_i a it o es ep t first i cur
  have O:eF X B h [it]:=λc hc=>by rw[aJ.mp hc];exact⟨n,b,.inr ⟨_,_,hi,rfl,by simp[qc]⟩⟩
  have ye:it≠a:=λq=>by rw[q,ho]at hi;cases hi;cases hd
  unfold pyNext;refine wB (nu (Le hh hi ho hd hf kF mE hc ye (λe rest q H first' e1 hs c1=>?_) λq h₁ H e V e1 hs x1 x2 x3=>?_))
  ·subst q;obtain⟨x,tx,rfl⟩:=good e (.head _);have D1:Dr [it] [] h H:=Dr.same (.head _) hs e1;obtain I':=a0.dr O D1;have hr:∀H t' v,Inv X B I H->Dr [it] B h H->dT X B H [it] (.set (rest.map strOf)) (.ref it)->fJ target (.set (rest.map strOf))=aj->aF X B H (.str x) v->S v (sh z H t'):=hr;refine aC (vk (s:=sh z H W) e1 (λn e=>by cases e;rfl) (hr H W _ I' D1.widen (.set n b na xJ (D1.keep _ _ ho (λhm=>ye (aJ.mp hm).symm) (by simp)) hd hf kF mE (λe he=>good e (.tail _ he)) e1
    (c1.go (λT hT=>.inl hT) λT oT V n1 n2 e ht=>D1.keep _ _ e (by obtain⟨_,m,d⟩:=ht;exact O.kp n2 e (.seq d)) (by simp))) ?_ (.str ..)))
   exact rq _
  ·subst q;obtain⟨o',eo,co⟩:=x3;obtain D1:Dr [it] [] h h₁:=Dr.same (.head _) hs e1;have D2:Dr [it] [] h H:=D1.trans (Dr.keeps _ _ x1);have hr:∀H t',Inv X B I H->Dr [it] B h H->b0 (sh z H t'):=hr;refine wB (l9 (T:="StopIteration") (b:=aj) ⟨o',eo,co⟩ oz ?_);exact aC (hr H W (a0.dr O D2) D2.widen)
 |zip hz hI hO n b j xI d r1 r2=>
  have yk:kn target=aj:=(AY _).symm.trans ht;cases target with
  |Tuple elts c pos=>
   refine Lk (I:=I) hz hI hO n b j xI d r1 r2 a0 hh ((bx _).mono (λres Z y=>?_) hr);cases res with
   |err k=>exact y
   |ok p=>cases p with
    |none=>exact y
    |some p=>exact λH t' v i1 i2 i3 i4=>y H t' v i1 i2 i3 rfl i4
  |_=>cases yk
def Cx.ok.less (x:(X.more j).ok a):X.ok a:=⟨x.1,λB=>x.2 (hY _ B)⟩
def Cx.ok.more (x:X.ok a)(e:h.get? a=ae o)(hb:∀b∈j,h.get? b=ag):(X.more j).ok a:=⟨x.1,λB=>by
 rcases dX.mp B with B |B
 ·rw[hb a B]at e;cases e
 ·exact x.2 B⟩
def gW.less:gW (X.more j) X.bad B B h h:=⟨λu u=>id,λu u E D e u=>⟨E,D.less,e⟩⟩
def gW.more (hb:∀b∈j,h.get? b=ag):gW X (j++X.bad) B B h h:=⟨λu u=>id,λu u E D e u=>⟨E,D.more e hb,e⟩⟩
def aF.less (r:aF (X.more j) B h x v):aF X B h x v:=aF.dK (X:=X.more j) (j:=X.bad) gW.less r
def aF.more (hb:∀b∈j,h.get? b=bq)(r:aF X B h x v):aF (X.more j) B h x v:=r.dK (gW.more hb)
def OB.less (b:OB (X.more j) B h ao o):OB X B h ao o:=OB.dK (X:=X.more j) (j:=X.bad) gW.less b
def OB.more (hb:∀b∈j,h.get? b=ag)(b:OB X B h ao o):OB (X.more j) B h ao o:=b.dK (gW.more hb)
def Inv.less (a0:Inv (X.more j) B I h):Inv X B I h:=
 ⟨a0.len,a0.nodup,λi D a F E=>by obtain⟨o,e,b⟩:=a0.obj i D a F E;exact⟨o,e,b.less⟩,a0.base,a0.new,a0.gd,a0.mods,a0.tab,λb G=>a0.gf b (hY _ G)⟩
def Inv.more (a0:Inv X B I h)(hk:∀a o,h.get? a=ae o->H.get? a=ae o)(hb:∀b∈j,h.get? b=ag/\∃o,H.get? b=ae o):Inv (X.more j) B I H:=by
 refine⟨a0.len,a0.nodup,λi E a G F=>?_,λb o e J=>hk _ _ (a0.base b o e J),a0.new,a0.gd,a0.mods,?_,λb D=>?_⟩
 ·obtain⟨o,e,b⟩:=a0.obj i E a G F;exact⟨o,hk _ _ e,(b.more (j:=j) λb D=>(hb b D).1).step (Go.keeps (X.more j) B hk []).step⟩
 ·obtain⟨V,e,c⟩:=a0.tab;exact⟨V,hk _ _ e,c⟩
 ·rcases dX.mp D with D |D
  ·exact(hb b D).2
  ·obtain⟨o,e⟩:=a0.gf b D;exact⟨o,hk _ _ e⟩
def KO.conv (hB:Y.base=X.base)(k:KO X a o o'):KO Y a o o':=by unfold KO at k |-;rw[hB];exact k
def Go.conv {ex:ah ay}(hB:Y.base=X.base)(a0:Go X ex B h J H):Go Y ex B h J H:=
 ⟨⟨a0.step.there,a0.step.ext,λa o e D I E=>by obtain⟨K,F,k⟩:=a0.step.keep a o e D I E;exact⟨K,F,k.conv hB⟩⟩,λa o e D f b=>a0.fr a o e D f (hB ▸ b)⟩
def Go.less {ex:ah ay}(a0:Go (X.more j) ex B h J H):Go X ex B h J H:=Go.conv (X:=X.more j) (Y:=X) rfl a0
def Go.more {ex:ah ay}(a0:Go X ex B h J H):Go (X.more j) ex B h J H:=Go.conv (X:=X) (Y:=X.more j) rfl a0
def En.less (a0:En (X.more j) U G Q N B h):En X U G Q N B h:=by
 refine⟨a0.kind,a0.glob,a0.blt,a0.kinds,a0.len,?_,a0.fX,a0.iw,a0.cells⟩;obtain⟨m,n,r⟩:=a0.ns;refine⟨m,n,λx i v I J D=>?_⟩;obtain⟨F,H,E⟩:=r x i v I J D;exact⟨F,H,E.less⟩
def En.more (a0:En X U G Q N B h)(hb:∀b∈j,h.get? b=ag):En (X.more j) U G Q N B h:=by
 refine⟨a0.kind,a0.glob,a0.blt,a0.kinds,a0.len,?_,a0.fX,a0.iw,a0.cells⟩;obtain⟨m,n,r⟩:=a0.ns;refine⟨m,n,λx i v I J D=>?_⟩;obtain⟨F,H,E⟩:=r x i v I J D;exact⟨F,H,E.more hb⟩
def mD.less {f:FL}{g:Flow}(r:mD (X.more j) B h f g):mD X B h f g:=by
 cases r with
 |next=>exact .next
 |brk=>exact .brk
 |cont=>exact .cont
 |ret D=>exact .ret D.less
def Ar.more (a:Ar X n u A l B h):Ar (X.more j) n u A l B h:=⟨a.handled,a.depth,a.units,a.frames,a.dR⟩
def cn.more (C:cn X):cn (X.more j):=by
 obtain⟨lim,H,K,J,N,I,O,D,L,F,M,G,r⟩:=C;have f:∀{x:AV} {v:aw},SV X x v->SV (X.more j) x v:=λ{x v} s B h=>by
  obtain E:∀a,(({}:aG).get? a)=ag:=λa=>by simp[Heap.get?]
  exact(s B {}).dK ⟨λu u=>id,λa o u u e u=>gh ((E a).symm.trans e)⟩
 refine⟨lim,H,K,J,N,I,O,D,L,F,M,G,λx v e=>?_⟩;rcases r x v e with ⟨v',e',s⟩ |⟨e0,v',e',s⟩
 ·exact .inl ⟨v',e',f s⟩
 ·exact .inr ⟨e0,v',e',f s⟩
def CO (hn:iM e=aj)(G:bH)(x:aw):foldedSetIterable e G x=pure x:=by
 unfold foldedSetIterable;cases e <;>first |rfl |(cases hn)
def aW.CP {ex:ah ay}{α d0 β e0:Type}{R:ah ay->aG->β->α->Prop}{R':ah ay->aG->e0->d0->Prop}{a0:d0->aD->Prop}{t:dn α}{m:P β}{g:β->P e0}(h1:aW (X.more j) A ex R B I h t m)(c0:Zs dE z)(b0:Go X ex br h₀ B h)(hr:(m>>=g).run I (aL X dE ex br h₀ R' a0 E)){Q':α->aD->Prop}(hE:∀{kx:aI} {Z:St},aL X dE ex br h₀ R' a0 E (.err kx) Z->aL X dE ex br h₀ R' a0 E' (.err kx) Z)(k:∀z' J Z H t' b a,Zs dE z'->Inv (X.more j) J Z H->Go X ex B h J H->Go X ex br h₀ J H->R J H b a->(g b).run Z (aL X dE ex br h₀ R' a0 E)->Q' a (sh z' H t')):aA (MX X) A t Q' E' (sh z h W):=by
 refine h1 z W Q' E' (m.mono (λr Z y=>?_) (show m.run I _ from hr));intro z' J H t' F D S;obtain S':Go X ex B h J H:=Go.less S;cases r with
 |ok b=>exact λa G=>k z' J Z H t' b a (c0.trans F) D S' (b0.trans S') G y
 |err k=>exact λe x=>hE y z' J H t' (c0.trans F) D.less (b0.trans S') e (x.oU b0.step.there)
def CQ {γ:Type}{g:ah AV->P γ}{p:Res γ->St->Prop}(hr:(lst i>>=g).run I p)(hg:∀l,(g l).run I p->(g l).run I (rU p)):(lst i>>=g).run I (rU p):=by
 obtain⟨l,e,hr⟩:=gY hr;have:=hg l hr;show(P.load i>>=λo=>(match o with |.list l=>P.pure l |_=>P.fail)>>=g).run I (rU p);rw[P.run_bind,P.run_load e];exact this
def yl:∀(ai:AI) {I:St} {p:Res (ax (AV×AI))->St->Prop},(bx ai).run I p->(bx ai).run I (rU p):=by
 intro ai;induction ai with
 |list J i=>
  intro I p B;cases J with
  |none=>exact B
  |some s=>
   exact CQ B λl D=>by
    cases q:l[i]? with
    |none=>simp only[q]at D |-;exact D
    |some v=>simp only[q]at D |-;exact D
 |set E=>
  intro I p B;cases E with
  |nil=>exact B
  |cons=>exact B
 |range c n s=>
  intro I p B;cases n with
  |zero=>exact B
  |succ=>exact B
 |zip a b G F=>
  intros a b _ G F;intros _ I p _ B;obtain H:=G (show(bx a).run I _ from B);refine(bx a).mono ?_ H;intros _ r Z _ y;cases r with
  |err k=>exact y.elim
  |ok r=>cases r with
   |none=>exact y
   |some x=>
    intros x _ y;obtain L:=F (show(bx b).run Z _ from y);refine(bx b).mono (λr Z y=>?_) L;cases r with
    |err k=>exact y.elim
    |ok r=>cases r with
     |none=>exact y
     |some x=>exact y
 |enum n a K=>
  intros n a _ K;intros _ I p _ B;obtain H:=K (show(bx a).run I _ from B);refine(bx a).mono (λr Z y=>?_) H;cases r with
  |err k=>exact y.elim
  |ok r=>cases r with
   |none=>exact y
   |some x=>exact y
 |obj i=>
  intro I p B;obtain⟨o,e,B⟩:=eU B;show(P.load i>>=_).run I (rU p);rw[P.run_bind,P.run_load e];cases o with
  |iter s k=>cases s with
   |none=>exact B
   |some s=>
    refine CQ B λl D=>?_;cases q:l[k]? with
    |none=>rw[q]at D;exact D
    |some v=>rw[q]at D;exact D
  |_=>exact B.elim
theorem Lq {t i:aH}{b:ah dy}{cb:DS}(hi:HI X F k U i ci)(ht:∀j,HA (X.more j) F k U t ca)(hb:∀j,iO (X.more j) F k U b cb)(n:ak):HS X F k U (.For t i b [] pos) (λrt=>do
   P.guard (iM i=aj)
   let n0 <-ci rt
   P.guard (fJ t n0=aj)
   forA cb ca n n0 rt):=by
 intros _ A l G Q N T I Y _ K _ V W O E _ hr;obtain⟨hm,hr⟩:=a6 hr;refine wpAny_For ?_ (CO hm G);refine hi K V W _ E ((ci ⟨F,Q,N⟩).mono ?_ (show(ci ⟨F,Q,N⟩).run I _ from hr));intros _ e0 Z _ y;cases e0 with
 |err kx=>exact λz' J H t' R L S e x=>y z' J H t' R L (S.nil _) e x
 |ok u=>
  intros u _ y;intros _ z1 k0 h1 t1 j d0 it _ Z1 I1 G1 r1 ho s0;obtain⟨f0,u0⟩:=a6 (show(P.guard (fJ t u=aj)>>=λd=>forA cb ca n u ⟨F,Q,N⟩).run Z (aL X V [G.locals] T Y (RS X U G Q) O E) from y);have i0:∃o,Y.get? G.locals=ae o:=by obtain⟨m,⟨o,es,ep,e,_⟩,_⟩:=K.en.ns;exact⟨o,e⟩
  have g0:G.locals∉d0:=λhm=>by obtain⟨o,e⟩:=i0;rw[ho _ hm]at e;cases e
  have N1:En (X.more j) U G Q N k0 h1:=by
   have M:=K.en.more (j:=j) s0;refine⟨M.kind,M.glob,M.blt,M.kinds,M.len,?_,?_,M.iw,λx c e1=>?_⟩
   ·obtain⟨m,n,r⟩:=M.ns;refine⟨m,G1.ns n M.fX (K.en.xP K.inv),λx i v e1 e2 e3=>?_⟩;obtain⟨v',e4,r4⟩:=r x i v e1 e2 e3;exact⟨v',e4,r4.step (Go.more G1).step⟩
   ·obtain⟨o,e⟩:=i0;exact G1.step.dt e M.fX
   ·obtain⟨a,e3,e4⟩:=M.cells x c e1;exact⟨a,G1.step.iQ e3,e4⟩
  refine codeAny_forLoop_any (λn s=>∃z B I h t2 N u,s=sh z h t2/\Zs V z/\Inv (X.more j) B I h/\Go X [G.locals] T Y B h/\En (X.more j) U G Q N B h/\dT (X.more j) B h d0 u it/\fJ t u=aj/\
   (forA cb ca n u ⟨F,Q,N⟩).run I (aL X V [G.locals] T Y (RS X U G Q) O E)) ?_ n ⟨z1,k0,Z,h1,t1,N,u,rfl,Z1,I1,G1.nil _,N1,r1,f0,u0⟩
  intros _ n s _ r0;obtain (⟨z,B,I,h,t2,N,u,rfl,R,L,S,M,r,f0,hr⟩):=r0;cases n with
  |zero=>exact hr.elim
  |succ n=>
   intros n _ hr;refine CN (X:=X.more j) (target:=t) (I:=I) (z:=z) (W:=t2) r L K.ar.handled f0 ((bx u).mono ?_ (yl u (show(bx u).run I _ from hr)));intros _ e0 Z _ y;cases e0 with
   |err k=>exact y
   |ok p=>cases p with
    |none=>
     intro H t' I' D;refine q8 ?_;exact y z B H t' R I'.less (S.dr D ho) .next ⟨.next,(M.dr D r.gj g0).less⟩
    |some p=>
     obtain⟨x,h0⟩:=p;intros x h0 _ y;intro H t' v I' D r' b0 rv;have G':=S.dr D ho;obtain N':=M.dr D r.gj g0;obtain K':Ctx (X.more j) k U A l G Q N B Z H:=⟨K.ok.more,(K.ar.step G').more,K.top,I',N',K.code⟩;refine(ht j K' rv).CP R G' y (λp=>p.vf K) λz2 p0 v0 h2 t2 m0 d Z2 I2 G2 j0 N2 o0=>?_;obtain K2:Ctx (X.more j) k U A l G Q m0 p0 v0 h2:=⟨K.ok.more,(K.ar.step j0).more,K.top,I2,N2,K.code⟩;have hx:∀c∈d0,c∉[G.locals]:=λc hc hm=>g0 (aJ.mp hm ▸ hc);obtain r2:=r'.step I' (Go.more G2) hx;refine(hb j K2).CP Z2 j0 o0 (λp=>p.vf K) λz3 f l0 h3 t3 p fl Z3 I3 G3 w rp a0=>?_;obtain⟨f1,c0⟩:=p;obtain⟨rf,N3⟩:=rp;have r3:=r2.step I2 (Go.more G3) hx;cases rf with
     |next=>exact⟨n,jD n,z3,f,l0,h3,t3,c0,h0,rfl,Z3,I3,w,N3,r3,b0,a0⟩
     |cont=>exact⟨n,jD n,z3,f,l0,h3,t3,c0,h0,rfl,Z3,I3,w,N3,r3,b0,a0⟩
     |brk=>exact a0 z3 f h3 t3 Z3 I3.less w _ ⟨.next,N3.less⟩
     |ret hx=>exact a0 z3 f h3 t3 Z3 I3.less w _ ⟨.ret hx.less,N3.less⟩
def Lr {γ:Type}{g:AI->P γ}{p:Res γ->St->Prop}(hr:(rL i>>=g).run I p):(∃l,I[i]? =ae (.list l)/\(g (.list (ae i) 0)).run I p)\/∃s k,I[i]? =ae (.iter s k)/\(g (.obj i)).run I p:=by
 obtain⟨B,e,hr⟩:=eU (i:=i) (g:=λo=>(match o with
  |.list _=>P.pure (AI.list (ae i) 0)
  |.iter _ _=>P.pure (AI.obj i)
  |_=>P.fail:P AI)>>=g) hr
 cases B with
 |list l=>exact .inl ⟨l,e,hr⟩
 |iter s k=>exact .inr ⟨s,k,e,hr⟩
 |_=>exact hr.elim
def vl {s:ax ak}(a0:Inv X B I h)(e:I[i]? =ae (.iter s k))(ea:B[i]? =ae a):(sh z h W).TypeIs (.ref a) "list_iterator":=by
 obtain⟨o,D,E⟩:=a0.obj i _ a e ea;cases s with
 |none=>exact⟨o,D,E.1⟩
 |some s=>exact⟨o,D,E.1⟩
def CR {Q':aw->aD->Prop}{γ:Type}{g:AI->P γ}{p:Res γ->St->Prop}(a0:Inv X B I h)(e:B[i]? =ae a)(hr:(rL i>>=g).run I p)(k:∀H own ai it,(∀b o,h.get? b=ae o->H.get? b=ae o)->bP X B H own ai it->(∀c∈own,h.get? c=ag)->(g ai).run I p->Q' it (sh z H W)):aA (MX X) A (f5 (.ref a)) Q' E (sh z h W):=by
 rcases Lr hr with ⟨l,e1,hr⟩ |⟨s,kk,e1,hr⟩
 ·obtain⟨O,n,G,K,len,_⟩:=ey a0 e1 e;refine AZ (s:=sh z h W) ⟨_,G,rfl,n,rfl⟩ ?_;refine k _ [h.objs.size] _ _ (λb o e=>be _ e) (.list e ⟨_,cV _ rfl,rfl,rfl⟩ (λJ=>dP _ (a0.lt J)) (a0.ew (eT h))) (λc D=>?_) hr;rw[aJ.mp D];exact eT h
 ·obtain F:=vl (z:=z) (W:=W) a0 e1 e;refine ow F j6 (gw j6 F ru ?_ (ry _));exact aC ⟨_,rfl,"list_iterator",_,F,j3.lookup,k h [] _ _ (λu u e=>e) (.obj e) (λu D=>nomatch D) hr⟩
def P.CS {β:Type}{m:P β}{p:Res β->St->Prop}(h:m.run I p):(m>>=P.pure).run I p:=by
 refine m.mono (λr Z y=>?_) h;cases r <;>exact y
set_option tactic.hygienic true in def Ls {b0 : aw → aD → Prop} (a0 : Inv X B I h) (hx : aF X B h x v) (hr : (jG x).run I (rT X z B h b0 E)) : aA (MX X) A (f5 v) b0 E (sh z h W) := by
 cases x with
 |ref i=>
  obtain⟨e⟩:=hx;exact CR a0 e (P.CS hr) λH own ai it hk r ho hr=>hr z B H W [] own it (.refl _) (a0.keeps hk) (Go.keeps X B hk []) (.simple r) ho (λu hb=>nomatch hb)
 |cL l=>
  obtain⟨⟨n1,n2,e,c,d,r⟩⟩:=hx;rename_i a o es ep t;obtain⟨xs,hp,r,hf,h3,kF,mE⟩:=r;obtain⟨rfl,good⟩:=r.La;refine Li (X:=X) (B:=B) e c d hf h3 kF (λT hT=>a0.fresh hT) λH it dr first cur hk hn hi hc hq=>?_
  have hr:∀l',l'.Perm l->rT X z B h b0 E (.ok (.set l')) I:=hr;obtain I':=a0.keeps hk;refine hr (cur.map strOf) ((hq.map strOf).trans hp) _ B H W [] [it] (.ref it) ⟨rfl,rfl⟩ I' (Go.keeps X B hk []) ?_ (λc hc=>by rw[aJ.mp hc];exact hn) (λu hb=>nomatch hb);exact .set (a0.fresh hn).1 (a0.ew hn) n1 n2 (hk _ _ e) d hf kF mE (λe he=>good e (hq.mem_iff.mp he)) hi hc
 |_=>exact hr.elim
def Lu (ha:HE X F k U e d):HI X F k U e (λrt=>do
   let v0 <-d rt
   jG v0):=by
 intro A l G Q N B I h K z W L E hr;refine ha K z W _ E ((d ⟨F,Q,N⟩).mono (λV Z y=>?_) (show(d ⟨F,Q,N⟩).run I _ from hr));intro z' J H t' M D O;cases V with
 |err kx=>exact λe x=>y z' J H t' M D O e x
 |ok x=>
  intro v rx;refine Ls D rx ((jG x).mono (λr a0 p=>?_) y);cases r with
  |ok ai=>exact λu R m f j T it b w G2 r2 ho hb=>p u R m f j T it (M.trans b) w (O.trans G2) r2 (λc Y=>by
    cases q:h.get? c with
    |none=>rfl
    |some o=>obtain⟨o',S⟩:=O.step.there c o q;rw[ho c Y]at S;cases S) (λc Y=>by
    cases q:h.get? c with
    |none=>rfl
    |some o=>obtain⟨o',S⟩:=O.step.there c o q;rw[hb c Y]at S;cases S)
  |err kx=>exact λu R m f b w G2 e x=>p u R m f (M.trans b) w (O.trans G2) e (x.oU O.step.there)
def cq.step {ex:ah ay}(S:Step X ex B h J H):∀{xs:ah (au×AV)} {V:ah (au×aw)},cq X B h xs V->cq X J H xs V:=by
 intro xs V r;induction r with
 |nil=>exact .nil
 |cons D _ E=>exact .cons (D.step S) E
def cq.names:∀{xs:ah (au×AV)} {V:ah (au×aw)},cq X B h xs V->V.map (·.1)=xs.map (·.1):=by
 intro xs V r;induction r with
 |nil=>rfl
 |cons E _ D=>rw[f9,f9,D]
def Ar.in1 {u':ak}(a:Ar X k u A l B h)(hu:u'+1<=u):Ar X k u' A.in1 l B h:=
 ⟨a.handled,a.depth,by have:=a.units;show A.units+1+u'<=9800;lia,a.frames,a.dR⟩
def Ar.less {k' u':ak}(a:Ar X k u A l B h)(hk:k'<=k)(hu:u'<=u):Ar X k' u' A l B h:=
 ⟨a.handled,by have:=a.depth;lia,by have:=a.units;lia,a.frames,a.dR⟩
def CT:∀(ks:ah m4) (g:aH->DE) (pos:fh),(∀w∈ks,HE X F k U (nK w) (g (nK w)))->ks.all kwOk=aj->
  ∀{A:d8} {l:ah bH} {G:bH} {Q:ah (au×ak)} {N:ah (ax AV)} {B:ah ay} {I:St} {h:aG},Ctx X k U A l G Q N B I h->
   aW X A [] (λB h kv V=>cq X B h kv (((me pos (mh ks G)).filterMap (·.1)).zip V)) B I h (evalAll ((me pos (mh ks G)).map (·.2))) (fU (ks.map (oQ g)) ⟨F,Q,N⟩):=by
 intro ks;induction ks with
 |nil=>
  intro g pos _ _ A l G Q N B I h K z W D E J;exact aC (J _ _ _ _ (.refl _) K.inv (.refl ..) _ .nil)
 |cons kd ks T=>
  obtain⟨nm,v,p⟩:=kd;intro g pos R O A l G Q N B I h K z W D E J;cases nm with
  |none=>exact absurd (show az=aj from O) je
  |some n=>
   have Lv:ks.all kwOk=aj:=O;refine wpAny_evalAll_cons ?_;refine wB ?_;refine(R _ (.head _) K).then J λz1 m o h1 t1 x v f j S L=>?_;refine wB (jC (aC ?_));refine(T g pos (λw hm=>R w (.tail _ hm)) Lv (K.step f j)).then L λz2 Y u h2 t2 xs V Z b M H=>?_;exact H _ _ _ _ (.refl _) Z (.refl ..) _ (.cons (S.step b.step) M)
def ym:∀(ks:ah m4) (pos:fh) (G:bH),ks.all kwOk=aj->(me pos (mh ks G)).all (·.1.isSome)=aj/\(me pos (mh ks G)).any (·.1.isNone)=az
 | [],_,_,_=>⟨rfl,rfl⟩
 |⟨ag,v,p⟩ :: ks,pos,G,ho=>absurd (show az=aj from ho) je
 |⟨ae n,v,p⟩ :: ks,pos,G,ho=>by
  obtain⟨a,b⟩:=ym ks pos G ho;obtain e:me pos (mh (⟨ae n,v,p⟩ :: ks) G)=(ae n,eval v G>>=λv=>tG pos>>=λu=>pure v) :: me pos (mh ks G):=rfl;rw[e,A2,pI,a,b];exact⟨rfl,rfl⟩
def plain_any:∀(T:ah aH) (pos:fh) (G:bH),T.all dg=aj->(lz pos (jA T G)).any (·.1)=az:=by
 intro l;induction l with
 |nil=>
  intro _ _ _;exact rfl
 |cons e T D=>
  intro pos G B;rw[A2,cW]at B;rw[kI B.1];show(az || (lz pos (jA T G)).any (·.1))=az;rw[D pos G B.2];rfl
def yn {f:aw}{e0:ah aw}{Pk:aG->Prop}{T:ah aH}{ks:ah m4}{g:aH->DE}{a0:aw->aD->Prop}{β:Type}{R':ah ay->aG->β->aw->Prop}{b0:ah AV->ah (au×AV)->P β}(K:Ctx X k U A l G Q N B I h)(ha:∀e∈T,HE X F k U e (g e))(hw:∀w∈ks,HE X F k U (nK w) (g (nK w)))(d0:lK T ks=aj)(hk:∀H,Pk H->∃kp,(kp=tW\/kp=pV\/kp=tX)/\oA (MX X) H (oB f) kp)(hr:(dG (T.map g) ⟨F,Q,N⟩>>=λV=>fU (ks.map (oQ g)) ⟨F,Q,N⟩>>=λkv=>b0 V kv).run I (aL X z [] B h R' a0 E))(cont:∀z' J Z H t' V vals kv c0,Inv X J Z H->Go X [] B h J H->aT X J H V vals->cq X J H kv c0->(b0 V kv).run Z (aL X z' [] J H R' a0 E)->Pk H/\aA (MX X) A (call f (e0++vals) c0) a0 E (sh z' H t')):
  aA (MX X) A (callWith pos f e0 (lz pos (jA T G)) (me pos (mh ks G))) a0 E (sh z h W):=by
 unfold lK at d0;rw[cW]at d0;obtain⟨w1,w2⟩:=ym ks pos G d0.2;refine wU (P:=Pk) (by rw[plain_any T pos G d0.1,w2];rfl) hk ?_;have S:aA (MX X) A (spliced (lz pos (jA T G))) (λV R=>aA (MX X) A (evalAll ((me pos (mh ks G)).map (·.2)))
   (λkv D=>Pk D.heap/\aA (MX X) A (call f (e0++V) (((me pos (mh ks G)).filterMap (·.1)).zip kv)) a0 E D) E R) E (sh z h W):=by
  obtain hp:∀e∈T,dg e=aj:=bW.mp d0.1;refine(xT T g pos ha (λe hm hf=>by rw[hp e hm]at hf;cases hf) K).then hr λz1 h0 g0 h1 t1 xs V I1 G1 m o=>?_;refine(CT ks g pos hw d0.2 (K.step I1 G1)).then o λj M O h2 t2 kv c0 u Y b L=>?_;exact cont j M O h2 t2 xs V kv _ u (G1.trans Y) (m.step Y.step) b L
 cases T with
 |nil=>
  refine evalArgs_kw2_nil w1 ?_;refine(CT ks g pos hw d0.2 K).then (show(fU (ks.map (oQ g)) ⟨F,Q,N⟩>>=λkv=>b0 [] kv).run I _ from hr) λj M O h2 t2 kv c0 u Y b L=>?_;exact cont j M O h2 t2 [] [] kv _ u Y .nil b L
 |cons e f0=>
  have he:dg e=aj:=by have:=d0.1;rw[A2,cW]at this;exact this.1
  exact evalArgs_kw2 w1 S (kI he)
def fW.step {ex:ah ay}{l:ah (au×ak)}{cl:ah (au×ay)}(S:Step X ex B h J H)(r:fW B l cl):fW J l cl:=r.mono λu u=>S.iQ
def Lw (f:au×l5->ah (au×ay)->dn (tY (ah (au×ay))))(hf:∀name kind c0,f (name,kind) c0=if kind == .cell then (do let a0 <-alloc { cls:=.type "cell",data:=.cell ag };pure (.yield ((name,a0) :: c0)))else pure (.yield c0)):
  ∀(names:ah (au×l5)) (e0:ah (au×ak)) (d0:ah (au×ay)) {B:ah ay} {I:St} {h:aG} {z:aD} {W:ak} {b0:ah (au×ay)->aD->Prop},Inv X B I h->fW B e0 d0->
   (kq names e0).run I (λr Z=>match r with
    |.ok Lx=>∀J H c0,Inv X J Z H->Go X [] B h J H->fW J Lx c0->(∀b o,h.get? b=ae o->H.get? b=ae o)->b0 c0 (sh z H W)
    |.err _=>eM)->aA (MX X) A (forIn names d0 f) b0 E (sh z h W):=by
 intro l;induction l with
 |nil=>
  intro e0 d0 B I h z W b0 D K F;rw[mc];exact aC (F B h d0 D (.refl ..) K λu u e=>e)
 |cons M r O=>
  obtain⟨n,U⟩:=M;intro e0 d0 B I h z W b0 D K F;rw[pU,hf];unfold kq at F;by_cases R:(U == oD)=aj
  ·rw[aN R]at F |-;refine wB (wB (tZ (aC ?_)));obtain G:=Go.alloc X [] B h { cls:=.type "cell",data:=.cell ag };obtain I':=D.alloc (ao:=.cell ag) (o:={ cls:=.type "cell",data:=.cell ag }) ⟨rfl,ag,rfl,.none⟩ rfl;refine O ((n,I.length) :: e0) _ I' (.cons (by rw[<-D.len];simp) (K.step G.step)) (P.mono _ (λr Z y=>?_) (show(kq r ((n,I.length) :: e0)).run (I++[.cell ag]) _ from F));cases r with
   |err k=>trivial
   |ok Q=>exact λJ H c0 S T N L=>y J H c0 S (G.trans T) N λb o e=>L b o (be _ e)
  ·rw[aK R]at F |-;exact wB (aC (O e0 d0 D K F))
def CU (f:au×aw->PUnit->dn (tY PUnit))(hf:∀n v u,f (n,v) u=(do qY G n v;pure (.yield ⟨⟩))):
  ∀(binds:ah (au×AV)) (vb:ah (au×aw)) (N:ah (ax AV)) {B:ah ay} {I:St} {h:aG},Inv X B I h->En X U G Q N B h->cq X B h binds vb->
   aW X A [G.locals] (λB h N c=>En X U G Q N B h) B I h (forIn vb A3 f) (qa U binds ⟨F,Q,N⟩)
 |_,_,N,B,I,h,D,H,.nil=>λz W J E M=>by rw[mc];exact aC (M _ _ _ _ (.refl _) D (.refl ..) _ H)
 |_,_,N,B,I,h,D,H,.cons (n:=n) (x:=x) (v:=v) hx hs=>λz W J E M=>by
  rw[pU,hf];refine wB (wB ?_);refine(xY (F:=F) D H hx n).then M λT V R j O K w S Z Y L=>?_;refine aC ?_;exact CU f hf _ _ K S Y (hs.step Z.step) T O J E L
theorem vm {b0:bN}{e0:ay}{i0:ah (au×ay)}{h0:ah (au×ak)}{f0:ah (au×AV)}{vb:ah (au×aw)}{k0:au}{j0:ax ay}{code:aw}{c0:ax bH}{d0:ay}(hk:b0.kind= .function)(hg:e0=gM)(hb:(match c0 with |some o0=>o0.builtins |none=>d0)=qO)(a0:Inv X B I h)(rb:cq X B h f0 vb)(rc:fW B h0 i0):
  aW X A [] (λJ H rt G=>rt.F=F/\En X b0 G rt.cel rt.loc J H/\h.get? G.locals=ag/\∃g0,G=newEnv b0 G.locals e0 g0 k0 j0 code c0 d0) B I h
   (newFunctionEnv b0 e0 i0 vb k0 j0 code c0 d0) (cP F b0 h0 f0):=by
 intro z W K E hr;obtain hr:(kq b0.names h0>>=λQ=>qa b0 f0 ⟨F,Q,b0.names.map λa=>ag⟩>>=λN=>P.pure (⟨F,Q,N⟩:RT)).run I _:=hr;unfold newFunctionEnv;refine wB (tZ ?_);generalize U:({ cls:=.type (if c0.isSome=aj then "dict" else "frame"),data:=.dict #[] }:Obj)=fo;have b:=Go.push X [] B h fo;obtain I0:=a0.push fo;have eL:(h.push fo).get? h.objs.size=ae fo:=cV _ (by subst U;rfl);obtain j:h.objs.size∉B:=λhm=>dP _ (a0.lt hm);refine wB (Lw _ (λr0 l g0=>by cases l0:l == oD <;>simp[l0]) b0.names h0 i0 I0 (rc.step b.step) ((kq b0.names h0).mono (λr Z y=>?_) (show(kq b0.names h0).run I _ from hr)));cases r with
 |err k=>trivial
 |ok Q=>
  intro Y h1 g0 I1 w f p0;obtain m:h1.get? h.objs.size=ae fo:=p0 _ _ eL;obtain S:h.objs.size∉Y:=w.step.dt eL j;have O:∀G:bH,G=newEnv b0 h.objs.size e0 g0 k0 j0 code c0 d0->aA (MX X) A (forIn vb A3 (λ(x:au×aw) (_:PUnit)=>do qY G x.1 x.2;pure (nv A3))>>=λa=>pure G) K E (sh z h1 W):=by
   intro G M;have D:En X b0 G Q (b0.names.map λa=>ag) Y h1:=by
    obtain n0:∀x,G.kindOf x=cM b0 x:=λx=>by subst M;cases c0 <;>rfl
    refine⟨by subst M;cases c0 <;>exact hk,by subst M;cases c0 <;>exact hg,by subst M;cases c0 <;>exact hb,λx=>?_,by simp,⟨λa=>ag,?_,λx i v a a T=>?_⟩,by subst M;cases c0 <;>exact S,by subst M;cases c0 <;>exact a0.ew (eT h),λx c e=>?_⟩
    ·rw[n0];unfold uS;cases cM b0 x with
     |none=>trivial
     |some kd=>cases kd <;>simp
    ·have u:G.locals=h.objs.size:=by subst M;cases c0 <;>rfl
     rw[u];exact⟨fo,#[],_,m,by subst U;rfl,λe M=>by simp at M,λx=>by simp[jw,wV]⟩
    ·rw[dA]at T;cases q:b0.names[i]? with
     |none=>rw[q]at T;cases T
     |some y=>rw[q]at T;cases T
    ·have m0:G.cells=g0:=by subst M;cases c0 <;>rfl
     rw[m0];exact f.get e
   have u:G.locals=h.objs.size:=by subst M;cases c0 <;>rfl
   refine wB ?_;refine CU (X:=X) (F:=F) _ (λa a a=>rfl) f0 vb _ I1 D (rb.step (b.trans w).step) z W _ E ((qa b0 f0 _).mono (λr s0 y2=>?_) (show(qa b0 f0 ⟨F,Q,b0.names.map λa=>ag⟩).run Z _ from y));intro z2 R h2 t2 Z2 I2 G2;have V:Go X [] B h R h2:=by
    have L:=((b.trans w).nil [G.locals]).trans G2;exact⟨L.step.drop (by rw[u];exact eT h),L.fr⟩
   cases r with
   |err k=>exact λe x=>y2 z2 R h2 t2 Z2 I2 V e (x.oU (b.trans w).step.there)
   |ok N=>
    intro _ N2;refine aC (y2 z2 R h2 t2 Z2 I2 V G ⟨rfl,N2,by rw[u];exact eT h,g0,?_⟩);rw[u];exact M
  cases c0 with
  |none=>exact O _ rfl
  |some o=>exact O _ rfl
def lookup_isSome_iff:∀(l:ah (au×aw)) (n:au),(l.lookup n).isSome=aj↔n∈l.map (·.1):=by
 intro l;induction l with
 |nil=>
  intro n;simp
 |cons B l E=>
  obtain⟨k,v⟩:=B;intro n;rw[gv,f9,bu];cases D:n == k with
  |true=>simp[bU.mp D]
  |false=>rw[E n];simp[og.mp D]
def Ly {names:ah au}{f:au×aw->(ah (au×aw)×ah (au×aw))->dn (tY (ah (au×aw)×ah (au×aw)))}(hf:∀(x:au×aw) (u:ah (au×aw)×ah (au×aw)),names.contains x.1=aj->(u.1.lookup x.1).isSome=az->f x u=pure (.yield (u.1++[(x.1,x.2)],u.2))):
  ∀(kvs slots ex:ah (au×aw)) {a0:(ah (au×aw)×ah (au×aw))->aD->Prop},(∀x∈kvs,x.1∈names)->((slots++kvs).map (·.1)).Nodup->a0 (slots++kvs,ex) s->aA M A (forIn kvs (slots,ex) f) a0 E s:=by
 intro l;induction l with
 |nil=>
  intro slots ex a0 _ _ h;rw[mc];simp at h;exact aC h
 |cons B r G=>
  obtain⟨n,v⟩:=B;intro slots ex a0 D nd h;rw[pU,hf (n,v) (slots,ex) (by simpa using D (n,v) (.head _)) ?_]
  ·refine wB (aC ?_);exact G (slots++[(n,v)]) ex (λx H=>D x (.tail _ H)) (by simpa using nd) (by simpa using h)
  ·rw[<-pO,lookup_isSome_iff];intro F;rw[dH,tD]at nd;exact nd.2.2 n F n (by simp) rfl
def Lz {α:Type}{f:au×aw->α->dn (tY α)}{u:α}:∀(l:ah (au×aw)) {a0:α->aD->Prop},(∀x∈l,f x u=pure (.yield u))->a0 u s->aA M A (forIn l u f) a0 E s:=by
 intro l;induction l with
 |nil=>
  intro a0 _ h;rw[mc];exact aC h
 |cons x l D=>
  intro a0 B h;rw[pU,B x (.head _)];exact wB (aC (D (λy F=>B y (.tail _ F)) h))
def LC:∀(S:ah (au×aw)),(S.map (·.1)).Nodup->∀(a0:ah (au×aw)),(∀x∈S,a0.lookup x.1=ae x.2)->((S.map (·.1)).filterMap λn=>(a0.lookup n).map λx=>(n,x))=S:=by
 intro l;induction l with
 |nil=>
  intro _ _ _;exact rfl
 |cons B S D=>
  obtain⟨n,v⟩:=B;intro nd a0 h;rw[f9,AP,h (n,v) (.head _)];simp only[tR];rw[D (pJ.mp nd).2 a0 λx E=>h x (.tail _ E)]
def LD:∀(S:ah (au×aw)),(S.map (·.1)).Nodup->∀x∈S,S.lookup x.1=ae x.2:=by
 intro S;induction S with
 |nil=>intro _ x B;cases B
 |cons p S E=>
  obtain⟨n,v⟩:=p;intro nd x B;rw[f9,pJ]at nd;rw[gv];rcases bu.mp B with rfl |B
  ·simp
  ·have D:(x.1 == n)=az:=by
    rw[og];intro q;apply nd.1;show n∈_;rw[<-q];exact Hw (f:=(·.1)) B
   rw[D];exact E nd.2 x B
def LF {α β:Type}:∀(l:ah α) (m:ah β),l.zip m=(l.take m.length).zip m:=by
 intro B;induction B with
 |nil=>
  intro m;simp
 |cons a l E=>
  intro D;cases D with
  |nil=>
   simp
  |cons b m=>
   simp[E m]
theorem LG {c0:ah aw}{a0:ah (au×aw)->aD->Prop}(h1:fd.params.posonlyargs=[])(h2:fd.params.vararg=ag)(h3:fd.params.kwonlyargs=[])(h4:fd.params.kwarg=ag)(nd:(fd.params.args.map (·.arg)).Nodup)(hn:c0.length<=(fd.params.args.map (·.arg)).length)(hk:(fd.params.args.map (·.arg)).drop c0.length=kvs.map (·.1))(hd:fd.defaults= .none\/∃b0 ot O n,fd.defaults= .ref b0/\s.heap.get? b0=ae ot/\ot.data= .seq O n)(hq:a0 (((fd.params.args.map (·.arg)).take c0.length).zip c0++kvs) s):aA M A (wW fd ⟨c0,kvs⟩) a0 E s:=by
 unfold bindArgs;simp only[h1,h2,h3,h4,t9,mn];generalize V:fd.params.args.map (·.arg)=ns at nd hn hk hq |-;have B:((ns.take c0.length).zip c0++kvs).map (·.1)=ns:=by
  rw[dH,<-hk];have:((ns.take c0.length).zip c0).map (·.1)=ns.take c0.length:=by
   rw[<-List.unzip_fst,List.unzip_zip_left];rw[er];exact ML
  rw[this,Hx]
 rw[LF ns c0];generalize W:(ns.take c0.length).zip c0=S0 at B hq |-;refine wB (Ly (names:=ns) (λx u S U=>?_) kvs S0 [] (λx J=>?_) (by rw[B];exact nd) ?_)
 ·rw[aN (by rw[S];rfl),aK (by rw[U];simp)]
 ·have:x.1∈kvs.map (·.1):=Hw J;rw[<-hk]at this;exact wX this
 have G:∀n∈ns,((S0++kvs).lookup n).isNone=az:=λn H=>by
  rw[<-B,<-lookup_isSome_iff]at H;cases q:(S0++kvs).lookup n with
  |none=>rw[q]at H;cases H
  |some v=>rfl
 have K:∀(dl:ah aw),aA M A (forIn ((ns.drop (ns.length - dl.length)).zip dl) (S0++kvs) λx u=>if (rz x.1 u).isNone=aj then pure (nv (u++[(x.1,x.2)]))else pure (nv u))
   (λu N=>u=S0++kvs/\N=s) E s:=λdl=>by
  refine Lz _ (λx J=>?_) ⟨rfl,rfl⟩;rw[aK];rw[G x.1 (wX (rA J).1)];simp
 have F:a0 (List.filterMap (λn=>Ho (λx=>(n,x)) (rz n (S0++kvs))) (ns++[])) s:=by
  rw[fS];have:=LC (S0++kvs) (by rw[B];exact nd) (S0++kvs) (LD _ (by rw[B];exact nd));rw[B]at this;rw[this];exact hq
 have seq:∀{I:ax (aZ aw)->aD->Prop},(∀o,I o s)->aA M A (q9 fd.defaults) I E s:=λ{I} D=>by
  rcases hd with hd |⟨b0,ot,O,n,hd,ho,yo⟩
  ·rw[hd];exact aC (D _)
  ·rw[hd];exact j4 ho yo (D _)
 refine bO (seq λo=>?_);rw[aK (by rw[cW,fq];lia)];rw[aK (by
  rw[wY];intro q;rw[List.isEmpty_eq_false_iff_exists_mem]at q;obtain⟨n,H⟩:=q;obtain⟨R,L⟩:=A4.mp H;rw[G n (Hy R)]at L;cases L)]
 refine bO (eA (K _) (λu N q=>?_) λw w q=>q);obtain⟨rfl,rfl⟩:=q;rw[mc];refine bO (aC ?_);rw[aK (by simp)];exact aC F
def Go.CV {ex:ah ay}(b0:Go X fH br h₀ B h)(a0:Go X ex B h J H)(hx:∀a∈ex,h₀.get? a=ag\/a∈fH):Go X fH br h₀ J H:=by
 have F:=(b0.mono (a0:=ex++fH) λu E=>hY _ E).trans (a0.mono (a0:=ex++fH) λu E=>gO _ E);refine⟨⟨F.step.there,F.step.ext,λa o e K I E=>F.step.keep a o e K I λD=>?_⟩,F.fr⟩;rcases dX.mp D with D |D
 ·rcases hx a D with q |q
  ·rw[q]at e;cases e
  ·exact E q
 ·exact E D
def aW.inner {ex:ah ay}{α d0 β e0:Type}{R:ah ay->aG->β->α->Prop}{R':ah ay->aG->e0->d0->Prop}{a0:d0->aD->Prop}{t:dn α}{m:P β}{g:β->P e0}(h1:aW X A ex R B I h t m)(b0:Zs dE z)(c0:Go X fH br h₀ B h)(hx:∀a∈ex,h₀.get? a=ag\/a∈fH)(hr:(m>>=g).run I (aL X dE fH br h₀ R' a0 E)){Q':α->aD->Prop}(hE:∀{kx:aI} {Z:St},aL X dE fH br h₀ R' a0 E (.err kx) Z->∀z' J H t',Zs dE z'->Inv X J Z H->Go X fH br h₀ J H->Go X ex B h J H->∀e,eS kx e h₀ H->E' (.ref e) (sh z' H t'))(k:∀z' J Z H t' b a,Zs dE z'->Inv X J Z H->Go X ex B h J H->Go X fH br h₀ J H->R J H b a->(g b).run Z (aL X dE fH br h₀ R' a0 E)->Q' a (sh z' H t')):aA (MX X) A t Q' E' (sh z h W):=by
 refine h1 z W Q' E' (m.mono (λr Z y=>?_) (show m.run I _ from hr));intro z' J H t' F D S;obtain S':=c0.CV S hx;cases r with
 |ok b=>exact λa G=>k z' J Z H t' b a (b0.trans F) D S S' G y
 |err k=>exact λe x=>hE y z' J H t' (b0.trans F) D S' S e (x.oU c0.step.there)
def aL.same {ex:ah ay}{kx:aI}{b0 c0:Type}{R':ah ay->aG->c0->b0->Prop}{a0:b0->aD->Prop}(y:aL X dE fH br h₀ R' a0 E (.err kx) Z):∀z' J H t',Zs dE z'->Inv X J Z H->Go X fH br h₀ J H->Go X ex B h J H->∀e,eS kx e h₀ H->E (.ref e) (sh z' H t'):=λz' J H t' D I G u e x=>y z' J H t' D I G e x
def LH {z':aD}{f:FL}{fl:Flow}{d0:aw->aD->Prop}(r:mD X B h f fl)(hr:(eP f).run I (aL X dE fH br h₀ (RV X) d0 E))(a0:Zs dE z')(b0:Inv X B I h)(c0:Go X fH br h₀ B h)(t:ak):d0 (Flow.value fl) (sh z' h t):=by
 cases r with
 |next=>exact hr _ _ _ _ a0 b0 c0 _ .none
 |brk=>exact hr.elim
 |cont=>exact hr.elim
 |ret D=>exact hr _ _ _ _ a0 b0 c0 _ D
def yp {ex:ah ay}{kx:aI}{e:ay}{t:ak}{c0:b8->aD->Prop}(e0:A.frames=ae (G :: l))(hf:G.frame=ae L)(a0:Inv X B I h)(R:Frs X (G :: l) B h)(d0:Inv X br jF h₀)(b0:Go X ex br h₀ B h)(x:eS kx e h₀ h)(hQ:∀H,Inv X B I H->Go X ex br h₀ B H->eS kx e h₀ H->c0 () (sh z H t)):aA (MX X) A (leaving G (.ref e)) c0 E (sh z h t):=by
 unfold leaving;refine wB (vd e0 rfl hf a0 R d0 b0 x λN D M=>?_);exact sd D.inv D.dR d0 D.go M λK F J=>hQ K F.inv F.go J.exc
theorem yq {binds:ah (au×AV)}(ra:aT X B h T V)(rk:cq X B h kw kvs)(hb:fV fd.params T kw=ae binds)(hd:fd.defaults= .none\/∃b0 ot O n,fd.defaults= .ref b0/\h.get? b0=ae ot/\ot.data= .seq O n):
  ∃vb,cq X B h binds vb/\∀{M:mX} {A:d8} {z:aD} {t:ak} {E:aw->aD->Prop} {a0:ah (au×aw)->aD->Prop},a0 vb (sh z h t)->aA M A (wW fd ⟨V,kvs⟩) a0 E (sh z h t):=by
 unfold fV B2 at hb;dsimp only at hb;split at hb
 ·rename_i hc;simp only[cW,ua,wZ,fq,bU]at hc;obtain⟨⟨⟨⟨⟨⟨c1,c2⟩,c3⟩,c4⟩,c5⟩,c6⟩,c7⟩:=hc;have e0:fd.params.args.map argName=fd.params.args.map (·.arg):=Hz λa u=>by cases a;rfl
  rw[e0]at c5 c6 c7 hb;cases hb;refine⟨((fd.params.args.map (·.arg)).take V.length).zip V++kvs,?_,λhQ=>LG c1 c2 c3 c4 c5 (by rw[ra.length];exact c6) (by rw[ra.length,rk.names];exact c7) hd hQ⟩;rw[ra.length];generalize (fd.params.args.map (·.arg)).take T.length=ns;clear c7 c6 c5 e0;induction ra generalizing ns with
  |nil=>simpa using rk
  |cons hx hs ih=>cases ns with
   |nil=>simpa using rk
   |cons n ns=>exact .cons hx (ih ns)
 ·cases hb
def Ar.deeper (a:Ar X (k+1) u A l B h)(he:Frs X [G] B h)(u':ak)(hu:u'+3<=u):Ar X k u' (A.deeper G) (G :: l) B h:=
 ⟨a.handled,by have:=a.depth;show A.depth+1+2 * k<=980;lia,by have:=a.units;show A.units+3+u'<=9800;lia,by show A.frames.map (G :: ·)=_;rw[a.frames];rfl,λe D=>by
  rcases bu.mp D with rfl |D
  ·exact he _ (.head _)
  ·exact a.dR e D⟩
theorem CW {g0:ah dy}{d:DS}{e0:ah (au×AV)}{vb:ah (au×aw)}{d0:aG}{f0:St}{c0:ah ay}{h0:aD}{l0:ak}{b0:aw->aD->Prop}(C:cn X)(ar:Ar X (k+1) (20 * k+44) A l B h)(a0:Inv X B I h)(ho:h.get? a=ae o)(hd:o.data= .func fd)(p0:fd.body= .stmts g0)(v0:fd.scope=U)(hk:U.kind= .function)(hg:U.isGenerator=az)(n0:U.isCoroutine=az)(u0:fd.globals=gM)(r0:fd.closure=[])(s0:fd.builtins=qO)(w0:h.CodeRec fd.code fd.qualname)(o0:cM U my=ae .cell->fd.code= .ref rQ)(k0:Inv X c0 f0 d0)(i0:Go X [] B h c0 d0)(rb:cq X c0 d0 e0 vb)(hb:iO X F k U g0 d)(m0:Zs z h0)(j0:∀{A':d8} {E':aw->aD->Prop} {Q':ah (au×aw)->aD->Prop},Q' vb (sh h0 d0 l0)->aA (MX X) A' (wW fd ⟨V,kvs⟩) Q' E' (sh z h W))(hr:(cP F U [] e0>>=λrt=>d rt>>=λx=>eP x.1).run f0 (aL X z [] B h (RV X) b0 E)):aA (MX X) A (call (.ref a) V kvs) b0 E (sh z h W):=by
 subst v0;refine ub (HB (by have:=ar.depth;show A.depth < 1000;lia) ho hd n0 hg p0 w0 ?_);refine j0 ?_;rw[r0];refine(vm (F:=F) (c0:=ag) hk u0 s0 k0 rb .nil).inner m0 i0 (λv S=>nomatch S) hr (λy=>y.same) ?_;intros _ z2 M u h2 t2 rt G _ Z2 I2 G2 R re L;obtain⟨hF,K,y0,w,he⟩:=re;refine⟨I2.lim C,codeAny_func ?_⟩;obtain⟨F',Q,N⟩:=rt;intros F' Q N _ L hF K;cases hF;have j:h.get? G.locals=ag:=by
  cases q:h.get? G.locals with
  |none=>rfl
  |some o=>obtain⟨o',q'⟩:=i0.step.there _ _ q;rw[y0]at q';cases q'
 have O:G.frame=ae G.locals:=by rw[he];rfl
 have T:G.scope.kind≠ .module:=by rw[K.kind];decide
 obtain Fe:Frs X [G] M h2:=λe S=>by
  rw[aJ.mp S];obtain (⟨m,⟨o,es,ep,e1,e2,e3,_⟩,_⟩):=K.ns;exact⟨T,G.locals,o,O,K.iw,K.fX,e1,es,ep,e2,e3⟩
 have D:=(ar.step R).deeper Fe (20 * k+40) (by exact gR _);obtain K2:Ctx X k fd.scope (A.deeper G) (G :: l) G Q N M u h2:=⟨C,D,⟨G,l,rfl,rfl⟩,I2,K,λq=>by rw[he];exact o0 q⟩;refine(hb K2).inner Z2 R (λb S=>by rw[aJ.mp S];exact .inl j) L (λy z' J H t' Z I' G' Y e x=>?_) λz3 A0 z0 h3 t3 p fl Z3 I3 G3 f rp x0=>?_
 ·refine yp D.frames O I' (D.dR.step Y) a0 G' x λh4 I4 G4 x4=>?_;exact y z' J h4 t' Z I4 G4 e x4
 ·have:=LH rp.1 x0 Z3 I3 f t3;cases fl <;>exact this
def LK {pa:fg}{b0:ah dy}(C:cn X)(ar:Ar X (k+1) (20 * k+44) A l B h)(a0:Inv X B I h)(hf:FnAt h a (ae (pa,b0,U)))(ra:aT X B h T V)(rk:cq X B h kw kvs)(hb:iO X F k U b0 (eu (cS U 20) b0)):
  aW X A [] (RV X) B I h (call (.ref a) V kvs) (B3 F pa b0 U T kw):=by
 intro z W Q E R;obtain⟨o,fd,w,Z,Y,u,f,K,N,G,H,L,O,M⟩:=hf;simp only[tR,A5,w6]at Y;obtain⟨rfl,S,rfl⟩:=Y;obtain⟨J,j,R⟩:=c9 R;obtain⟨m,b,D⟩:=yq ra rk j O;exact CW C ar a0 w Z S.symm rfl u f K N G H L M a0 (.refl ..) b hb (.refl z) D R
def CX (h:e9 U=aj):U.kind= .function/\U.isGenerator=az/\U.isCoroutine=az/\∀x∈U.names,x.2= .local->U.names.lookup x.1=ae .local:=by
 unfold e9 at h;simp only[cW,wY,fq,bW,pN,qS,bU]at h;obtain⟨⟨⟨⟨E,D⟩,B⟩,H⟩,_⟩:=h;exact⟨E,D,B,λx F G=>(H x F).resolve_left λq=>q G⟩
def yr (h:e9 U=aj)(q:cM U my=ae .cell):dm:=by
 unfold e9 at h;rw[cW]at h;obtain B:=h.2;rw[show U.names.lookup my=ae .cell from q]at B;exact absurd B (by decide)
def LL {pa:fg}{cs:ah (au×ak)}(a0:Inv X B I h)(hi:I[i]? =ae (.lam pa e U cs))(ha:B[i]? =ae a):
  ∃c0 b0 cl pm c d0,h.get? a=ae (wy c0 b0 pa e U cl pm c d0)/\fW B cs cl/\h.CodeRec (.ref c) b0:=by
 obtain⟨o,D,c0,b0,cl,pm,c,d0,rfl,G,E⟩:=a0.obj i _ a hi ha;refine⟨c0,b0,cl,pm,c,d0,D,G,?_⟩;obtain⟨⟨J,H,e,c,d,F⟩⟩:=E;exact⟨_,_,_,_,rfl,e,d,F⟩
theorem LQ (C:cn X)(ar:Ar X (k+1) (20 * k+44) A l B h)(a0:Inv X B I h)(hi:B[i]? =ae a)(ra:aT X B h T V)(rk:cq X B h kw kvs)(hb:∀U e,HE X F k U e (cE U 40 e)):
  aW X A [] (RV X) B I h (call (.ref a) V kvs) (B4 F i T kw):=by
 intros _ z W D E _ L;obtain (⟨ao,d0,L⟩):=eU L;cases ao with
 |lam pa e U cs=>
  intros pa e U cs _ d0 L;obtain⟨j,L⟩:=a6 L;obtain⟨hk,hg,g0,_⟩:=CX j;obtain (⟨h0,eb,L⟩):=c9 L;obtain (⟨Y,c0,cl,pm,c,k0,ho,rc,l0⟩):=LL a0 d0 hi;obtain⟨vb,rb,O⟩:=yq (fd:=kla_fn Y c0 pa e U cl pm (.ref c) k0) ra rk eb (.inl rfl);refine ub (kla_callFunE (by have:=ar.depth;show A.depth < 1000;lia) ho rfl g0 hg rfl l0 ?_);refine O ?_;refine(vm (F:=F) (c0:=ag) hk rfl rfl a0 rb rc).inner (.refl _) (.refl ..) (λd hm=>nomatch hm) L (λy=>y.same) ?_;intros _ z2 w b0 h2 t2 rt G _ Z2 I2 G2 f re u;obtain⟨hF,S,o0,i0,he⟩:=re;refine⟨I2.lim C,kla_codeExpr ?_⟩;obtain⟨F',Q,N⟩:=rt;intros F' Q N _ u hF S
  replace hF:F'=F:=hF
  subst F';have b:G.frame=ae G.locals:=by rw[he];rfl
  have e0:G.scope.kind≠ .module:=by rw[S.kind];decide
  obtain Fe:Frs X [G] w h2:=λe hm=>by
   rw[aJ.mp hm];obtain (⟨m,⟨o,es,ep,e1,e2,e3,_⟩,_⟩):=S.ns;exact⟨e0,G.locals,o,b,S.iw,S.fX,e1,es,ep,e2,e3⟩
  have M:=(ar.step f).deeper Fe (20 * k+40) (by exact gR _);obtain K2:Ctx X k U (A.deeper G) (G :: l) G Q N w b0 h2:=⟨C,M,⟨G,l,rfl,rfl⟩,I2,S,λq=>(yr j q).elim⟩;have R:(cE U 40 e ⟨F,Q,N⟩>>=P.pure).run b0 (aL X z [] B h (RV X) D E):=by
   rw[P.run_bind];refine(cE U 40 e ⟨F,Q,N⟩).mono (λr Z y=>?_) u;cases r <;>exact y
  refine(hb U e K2).inner Z2 f (λd hm=>nomatch hm) R (λy z' J H t' K I' G' f0 e x=>?_) λz3 m0 n0 h3 t3 x v Z3 I3 G3 j0 rx R=>?_
  ·refine yp M.frames b I' (M.dR.step f0) a0 G' x λh4 I4 G4 x4=>?_;exact y z' J h4 t' K I4 G4 e x4
  ·exact R z3 m0 h3 t3 Z3 I3 j0 v rx
 |_=>exact L.elim
def Inv.lM (a0:Inv X B I h)(C:cn X):X.K.In h:=λa o e=>a0.base a o (C.lM a o e) λq=>by rw[q,C.B']at e;cases e
def CY (C:ay)(a0:ah aw)(kw:ah (au×aw)):(oE "type.__call__" ⟨.ref C :: a0,kw⟩).weight=1:=by rfl
def LR (C:ay)(a0:ah aw)(kw:ah (au×aw)):(oE "type.__call__" ⟨.ref C :: a0,kw⟩).cUnits=1:=by rfl
def LU (C:ay)(a0:ah aw)(kw:ah (au×aw)):(oE "type.__call__" ⟨.ref C :: a0,kw⟩).envs=[]:=by rfl
def Ar.make (a:Ar X (k+1) u A l B h)(C:ay)(a0:ah aw)(kw:ah (au×aw))(he:Frs X [G] B h)(u':ak)(hu:u'+4<=u):
  Ar X k u' ((A.under (.builtin "type.__call__" ⟨.ref C :: a0,kw⟩)).deeper G) (G :: l) B h:=by
 refine⟨a.handled,?_,?_,?_,λe D=>?_⟩
 ·have:=a.depth;show A.depth+(oE "type.__call__" ⟨.ref C :: a0,kw⟩).weight+1+2 * k<=980;rw[CY];lia
 ·have:=a.units;show A.units+(oE "type.__call__" ⟨.ref C :: a0,kw⟩).cUnits+3+u'<=9800;rw[LR];lia
 ·show(pushEnvs (oE "type.__call__" ⟨.ref C :: a0,kw⟩).envs A.frames).map (G :: ·)=_;rw[LU,a.frames];rfl
 ·rcases bu.mp D with rfl |D
  ·exact he _ (.head _)
  ·exact a.dR e D
def LV {b0:ah ay}{c0:aG}(a0:En X U G Q N b0 c0)(d0:G.frame=ae G.locals):Frs X [G] b0 c0:=λe F=>by
 rw[aJ.mp F];obtain⟨m,⟨o,E,D,H,I,B,_⟩,_⟩:=a0.ns;exact⟨by rw[a0.kind];decide,G.locals,o,d0,a0.iw,a0.fX,H,E,D,I,B⟩
def P.g6 {β γ δ:Type}(m:P β)(f:β->P γ)(g:γ->P δ){p:Res δ->St->Prop}:((m>>=f)>>=g).run I p=(m>>=λb=>f b>>=g).run I p:=by
 show m.run I _=m.run I _
 congr 1
 try (funext r Z;cases r <;>rfl)
theorem LW (C:cn X)(ar:Ar X (k+1) (20 * k+44) A l B h)(a0:Inv X B I h)(ra:aT X B h T V)(rk:cq X B h kw kvs)(hb:∀U ss,iO X F k U ss (eu (cS U 20) ss)):
  aW X A [] (RV X) B I h (call (.ref X.gV) V kvs) (qb F T kw):=by
 intros _ z W D E _ K;have hK:=a0.lM C;obtain (⟨fI,v0,f,j⟩):=C.iN.init;have K:(lL F nH (.ref (I.length+1) :: T) kw>>=λr=>match r with |.none=>P.pure (AV.ref (I.length+1)) |_=>P.fail).run ((I++[.bc []])++[.inst I.length]) (aL X z [] B h (RV X) D E):=by
  have e:(I++[AO.bc []]).length=I.length+1:=by simp
  have qj:=K;unfold qb at qj;rw[<-e];exact qj
 refine ub (make_core (makes_of hK C.iN.makes) (looks_findIn hK f) (λself=>bind_fn hK self j) (.inl rfl) ?_);obtain b1:OB X B h (.bc []) j7:=⟨rfl,#[],_,rfl,λe he=>by simp at he,cZ _,λx=>by simp[jw,wV];exact .none⟩;obtain I1:=a0.alloc b1 rfl;obtain G1:=Go.alloc X [] B h j7;obtain b2:OB X (B++[h.objs.size]) (h.push j7) (.inst I.length) (pE X.gV h.objs.size):=⟨h.objs.size,by rw[<-a0.len];simp,rfl⟩;have I2:=I1.alloc b2 rfl;obtain G2:=Go.alloc X [] (B++[h.objs.size]) (h.push j7) (pE X.gV h.objs.size);have L:=G1.trans G2;obtain o0:(h.push j7).objs.size=h.objs.size+1:=j8 ..;rw[o0]at I2 L;have hx:((B++[h.objs.size])++[h.objs.size+1])[I.length+1]? =ae (h.objs.size+1):=by rw[<-a0.len];simp
 obtain Y:aF X ((B++[h.objs.size])++[h.objs.size+1]) ((h.push j7).push (pE X.gV h.objs.size)) (.ref (I.length+1)) (.ref (h.objs.size+1)):=.ref hx;obtain z0:aT X ((B++[h.objs.size])++[h.objs.size+1]) ((h.push j7).push (pE X.gV h.objs.size)) (.ref (I.length+1) :: T) (.ref (h.objs.size+1) :: V):=.cons Y (ra.step L.step);obtain s0:=rk.step L.step;generalize F0:(h.push j7).push (pE X.gV h.objs.size)=h2 at *;generalize B0:(B++[h.objs.size])++[h.objs.size+1]=CZ at *;generalize C0:(I++[AO.bc []])++[AO.inst I.length]=bF at *;have hf:=C.fns nH fI v0 (by decide) h2 I2.base;unfold lL at K;cases S:defOf nH with
 |none=>rw[S]at K;exact K.elim
 |some d=>
  obtain⟨pa,R,U⟩:=d;rw[S]at K hf;obtain⟨o,fd,ho,hd,hs,hk,hg,h0,w0,n0,p0,x0,k0,i0⟩:=hf;simp only[tR,A5,w6]at hs;obtain⟨rfl,m0,rfl⟩:=hs;have K:((P.opt (fV fd.params (.ref (I.length+1) :: T) kw)>>=λM=>cP F fd.scope [] M>>=λrt=>eu (cS fd.scope 20) R rt>>=λx=>eP x.1)>>=λr=>match r with |.none=>P.pure (AV.ref (I.length+1)) |_=>P.fail).run bF (aL X z [] B h (RV X) D E):=K;rw[P.g6]at K;obtain⟨M,eb,K⟩:=c9 K;rw[P.g6]at K;obtain⟨vb,rb,w⟩:=yq z0 s0 eb k0;refine HB (by
   have:=ar.depth;show A.depth+(oE "type.__call__" ⟨.ref X.gV :: V,kvs⟩).weight < 1000;rw[CY];lia) ho hd h0 hg m0.symm x0 ?_
  refine w ?_;rw[n0];refine(vm (F:=F) (c0:=ag) hk w0 p0 I2 rb .nil).inner (.refl z) L (λv hm=>nomatch hm) K (λy=>y.same) λz3 y0 u0 h3 t3 rt G Z3 I3 G3 c0 re f0=>?_;obtain⟨hF,N3,l0,r0,he⟩:=re;refine⟨I3.lim C,codeAny_func ?_⟩;obtain⟨F',Q,N⟩:=rt
  replace hF:F'=F:=hF
  subst F';have b0:G.frame=ae G.locals:=by rw[he];rfl
  have m:=(ar.step c0).make X.gV V kvs (LV N3 b0) (20 * k+40) (by exact a4 _);obtain K3:Ctx X k fd.scope ((A.under (.builtin "type.__call__" ⟨.ref X.gV :: V,kvs⟩)).deeper G) (G :: l) G Q N y0 u0 h3:=⟨C,m,⟨G,l,rfl,rfl⟩,I3,N3,λq=>by rw[he];exact i0 q⟩;have j0:h.get? G.locals=ag:=by
   cases q:h.get? G.locals with
   |none=>rfl
   |some o=>obtain⟨o',q'⟩:=L.step.there _ _ q;rw[l0]at q';cases q'
  rw[P.g6]at f0;refine(hb fd.scope R K3).inner Z3 c0 (λb hm=>by rw[aJ.mp hm];exact .inl j0) f0 (λy z' J H t' Z I' G' g0 e x=>?_) λz4 u E0 h4 t4 p fl Z4 I4 G4 d0 rp O=>?_
  ·refine yp m.frames b0 I' (m.dR.step g0) a0 G' x λh4 I4 G4 x4=>?_;exact y z' J h4 t' Z I4 G4 e x4
  ·have e0:u[I.length+1]? =ae (h.objs.size+1):=G4.step.iQ (G3.step.iQ hx);obtain⟨f1,A0⟩:=p;obtain⟨rf,_⟩:=rp;cases rf with
   |next=>exact⟨rfl,O z4 u h4 t4 Z4 I4 d0 _ (.ref e0)⟩
   |brk=>exact O.elim
   |cont=>exact O.elim
   | @ret x _ hv=>cases x with
    |none=>cases hv;exact⟨rfl,O z4 u h4 t4 Z4 I4 d0 _ (.ref e0)⟩
    |_=>exact O.elim
def LX:Cc (defOf jJ)=aj:=by decide +kernel
theorem LY {va ka:Arg}{a0:ah (au×aw)->aD->Prop}(h1:fd.params.posonlyargs=[])(h2:fd.params.args=[])(h3:fd.params.kwonlyargs=[])(h4:fd.params.vararg=ae va)(h5:fd.params.kwarg=ae ka)(hd:fd.defaults= .none\/∃b0 ot O n,fd.defaults= .ref b0/\s.heap.get? b0=ae ot/\ot.data= .seq O n)(hq:a0 [(va.arg,.ref s.heap.objs.size),(ka.arg,.ref (s.heap.objs.size+1))] { s with heap:=(s.heap.push { cls:=.type "tuple",data:=.seq #[v] }).push j7 }):aA M A (wW fd ⟨[v],[]⟩) a0 E s:=by
 unfold bindArgs;simp only[h1,h2,h3,h4,h5,t9,mn,mc];refine wB (aC ?_);have seq:∀{D:ax (aZ aw)->aD->Prop},(∀o,D o s)->aA M A (q9 fd.defaults) D E s:=λ{D} B=>by
  rcases hd with hd |⟨b0,ot,O,n,hd,ho,yo⟩
  ·rw[hd];exact aC (B _)
  ·rw[hd];exact j4 ho yo (B _)
 refine wB (seq λo=>?_);simp only[q7,fm,Option.isNone_some,w7,jb,jc,Nat.zero_sub,A6,HC,tS,qU,List.drop_nil,List.zip_nil_left,mc,mo];refine wB (aC (wB (aC ?_)));simp only[tS,qU,jb,jc,HD,mn];refine bO (m6 ?_ (by show 1<=2 ^ 24;decide));rw[aK (by simp)];refine wB (tZ ?_);refine wB (aC (aC ?_));have F:(s.heap.push { cls:=.type "tuple",data:=.seq #[v] }).objs.size=s.heap.objs.size+1:=j8 ..;simp only[rB,mn,F];exact hq
def C2:Obj.IsDictOf (mB X) j7 []:=⟨#[],_,⟨rfl,rfl,rfl⟩,rfl,λe B=>by simp at B,.nil,.nil⟩
set_option tactic.hygienic true in theorem LZ (C : cn X) (ar : Ar X (k + 1) (20 * k + 44) A l B h) (a0 : Inv X B I h) (hf : FnAt h a (defOf jJ)) (ra : aT X B h T V) (rk : cq X B h kw kvs) (hb : ∀ U ss, iO X F k U ss (eu (cS U 20) ss)) :
  aW X A [] (RV X) B I h (call (.ref a) V kvs) (oR F T kw):=by
 intros _ z W Q E _ hr;unfold oR at hr;have vn:=LX;cases vo:defOf jJ with
 |none=>rw[vo]at hr;exact hr.elim
 |some d=>
  obtain⟨pa,body,U⟩:=d;rw[vo]at hr hf vn;obtain⟨o,fd,ho,hd,hs,hk,hg,L2,L4,L5,L6,yt,L7,L8⟩:=hf;simp only[tR,A5,w6]at hs;obtain⟨rfl,nO,rfl⟩:=hs;cases ra with
  |nil=>exact hr.elim
  |cons hx hs=>
   cases hs with
   |cons _ _=>cases rk <;>exact hr.elim
   |nil=>
    cases rk with
    |cons _ _=>exact hr.elim
    |nil=>
     rename_i x v;unfold Cc at vn;simp only[cW,ua,bU,jZ]at vn;obtain⟨⟨⟨⟨⟨s1,s2⟩,s3⟩,va,s4,C3⟩,ka,s5,C4⟩,s6⟩:=vn;have hr:(cP F fd.scope [] [(aq "args",.one x),(aq "kwargs",.ref I.length)]>>=λrt=>eu (cS fd.scope 20) body rt>>=λx=>eP x.1).run (I++[.dict []]) (aL X z [] B h (RV X) Q E):=hr;have ea:∀a:Arg,argName a=a.arg:=λa=>by cases a;rfl
     rw[ea]at C3 C4;have G1:=Go.push X [] B h { cls:=.type "tuple",data:=.seq #[v] };have I1:=a0.push { cls:=.type "tuple",data:=.seq #[v] };obtain⟨n1,n2,e1,t1⟩:=xS a0 _ [v] rfl;have G2:=Go.alloc X [] B (h.push { cls:=.type "tuple",data:=.seq #[v] }) j7;have I2:=I1.alloc (ao:=.dict []) (o:=j7) ⟨[],C2,.nil,by simp⟩ rfl;have kJ:(h.push { cls:=.type "tuple",data:=.seq #[v] }).objs.size=h.objs.size+1:=j8 ..;rw[kJ]at G2 I2;have L9:aF X B (h.push { cls:=.type "tuple",data:=.seq #[v] }) (.one x) (.ref h.objs.size):=⟨⟨n1,n2,e1,t1⟩,hx.step G1.step⟩;have rd:(B++[h.objs.size+1])[I.length]? =ae (h.objs.size+1):=by rw[<-a0.len];simp
     refine CW C ar a0 ho hd nO.symm rfl hk hg L2 L4 L5 L6 yt L8 I2 (G1.trans G2) (e0:=[(aq "args",.one x),(aq "kwargs",.ref I.length)])
      (vb:=[(va.arg,.ref h.objs.size),(ka.arg,.ref (h.objs.size+1))]) ?_ (hb _ _) (.refl z) (λ{A' E' Q'} Ma=>LY (s:=sh z h W) s1 s2 s3 s4 s5 L7 Ma) hr
     rw[C3,C4];exact .cons (L9.step G2.step) (.cons (.ref rd) .nil)
def Mb (X:Cx)(k:ak):HF X (FN 0) k:=λu u u u u u u u u u u u u u u u B=>B.elim
set_option tactic.hygienic true in def Mc (hE : ∀ U e, HE X F k U e (cE U 40 e)) (hS : ∀ U ss, iO X F k U ss (eu (cS U 20) ss)) : HF X (B5 F) (k + 1) := by
 intro A l B I h C ar D fv f T V kw kvs rf ra rk;have qk:Ar X (k+1) (20 * k+44) A l B h:=ar.less (a4 _) (by lia);cases fv with
 |ref i=>obtain⟨e⟩:=rf;exact LQ C qk D e ra rk hE
 |fn n=>
  obtain⟨e⟩:=rf;rename_i a;show aW X A [] (RV X) B I h _ (if n == gE then qb F T kw else if n == jJ then oR F T kw else lL F n T kw);by_cases h1:(n == gE)=aj
  ·rw[aN h1];rw[bU.mp h1,C.cls]at e;cases e;exact LW C qk D ra rk hS
  ·rw[aK h1];have hf:=C.fns n a e (λq=>h1 (bU.mpr q)) h D.base;by_cases h2:(n == jJ)=aj
   ·rw[aN h2];rw[bU.mp h2]at hf;exact LZ C qk D hf ra rk hS
   ·rw[aK h2];unfold lL;cases vo:defOf n with
    |none=>exact aW.fail
    |some d=>
     obtain⟨pa,body,U⟩:=d;rw[vo]at hf;exact LK C qk D hf ra rk (hS _ _)
 |_=>exact aW.fail
def Md {es:aZ wu}{b0:au}{a0:b8->aD->Prop}(ho:s.heap.get? a=ae o)(hd:o.data= .dict es ep)(hk:qN es)(hQ:∀H o' mK yu,H.get? a=ae o'->o'.cls=o.cls->o'.data= .dict mK yu->qN mK->(mK.size=es.size\/(jw es b0=ag/\mK.size=es.size+1))->(∀x,jw mK x=if x=b0 then ae v else jw es x)->fk a s.heap H->
   a0 () { s with heap:=H,toks:=s.toks+1 }):aA M A (nsSet a b0 v) a0 E s:=λG p u=>by
 simp only[nsSet,strHash,Sem.wp_bind',Sem.wp_cmd_ask,Sem.wp_pure',Sem.wp_cmd_mkText];rw[Sem.wp_loadPart_of M G _ p { s with toks:=s.toks+1 } (o:=o) _ ho];have D:es.any (·.refKey)=az:=by
  rw[Array.any_eq_false'];intro e F;obtain⟨n,t,h⟩:=hk e F;simp[HG,h]
 simp only[hd,aRefKeyMayBeTheName_eq,aRefKeyMayBeTheNameByArray,D,w7,jb,jc,Sem.wp_cmd_updatePart];refine⟨by rw[ho];rfl,?_⟩;obtain⟨c,d,J,I⟩:=o;subst hd;cases B:es.findIdx? (·.key.isStr b0)with
 |some i=>
  refine hQ _ _ _ ep (iI _ ho (by simp only[rC,rD,B];rfl)) (by simp only[rC,rD,B]) (by simp only[rC,rD,B];rfl) (hk.modify _ _) (.inl (by simp)) (λx=>?_) (dY ..);exact findBy_modify (λn v=>v.isStr n) Value.isStr_inj es b0 x v i B
 |none=>
  refine hQ _ _ _ (ep+1) (iI _ ho (by simp only[rC,rD,B];rfl)) (by simp only[rC,rD,B]) (by simp only[rC,rD,B];rfl) (hk.push _ _ _ _) (.inr ⟨?_,by simp⟩) (λx=>?_) (dY ..)
  ·unfold nsFind wV;rw[A7,Array.find?_eq_none];rw[Array.findIdx?_eq_none_iff]at B;intro e F;have:=B e F
   simpa using this
  ·exact findBy_push (λn v=>v.isStr n) es b0 x _ _ v (λy=>by
    show(b0 == y)=decide (y=b0);by_cases h:y=b0
    ·subst h;simp
    ·have: ¬ b0=y:=λe=>h e.symm;simp[h,this]) B
theorem yv {d:ak}{l:ah (au×AV)}(a0:Inv X B I h)(hi:I[i]? =ae (.inst d))(hd:I[d]? =ae (.bc l))(ha:B[i]? =ae a):
  ∃da od es n,B[d]? =ae da/\InstAt h a (pE X.gV da) X.gV (ae od)/\h.get? da=ae od/\od.cls= .type "dict"/\od.data= .dict es n/\qN es/\es.size<=l.length/\∀x,jK X B h (l.lookup x) (jw es x):=by
 obtain⟨o,F,da,E,rfl⟩:=a0.obj i _ a hi ha;obtain⟨od,D,c,es,n,G,k,z,r⟩:=a0.obj d _ da hd E;exact⟨da,od,es,n,E,⟨F,rfl,rfl,D⟩,D,c,G,k,z,r⟩
def C5 {od:Obj}{es:aZ wu}(hd:od.data= .dict es n)(hk:qN es)(a0:au):lookIn a0 od=ae (jw es a0):=by
 unfold lookIn jw wV;rw[hd];dsimp only;have B:es.toList.any (·.refKey)=az:=by
  rw[HH];intro e D;obtain⟨n,t,h⟩:=hk e (by simpa using D);simp[HG,h]
 rw[B];have e:es.find? (λe=>e.key.isStr a0)=es.toList.find? (λe=>e.key.isStr a0):=by cases es;simp
 rw[e];cases es.toList.find? (λe=>e.key.isStr a0)<;>rfl
def C6 {γ:Type}{g:ak×ah (au×AV)->P γ}{p:Res γ->St->Prop}(hr:(uF i>>=g).run I p):∃d l,I[i]? =ae (.inst d)/\I[d]? =ae (.bc l)/\(g (d,l)).run I p:=by
 obtain⟨B,D,hr⟩:=eU (g:=λo=>(match o with
  |.inst d=>do
   match <-P.load d with
   |.bc l=>P.pure (d,l)
   |_=>P.fail
  |_=>P.fail)>>=g) hr
 cases B with
 |inst d=>
  obtain⟨ad,E,hr⟩:=eU (g:=λo=>(match o with
   |.bc l=>P.pure (d,l)
   |_=>P.fail)>>=g) hr
  cases ad with
  |bc l=>exact⟨d,l,D,E,hr⟩
  |_=>exact hr.elim
 |_=>exact hr.elim
def Me (hx:aF X B h x v)(hh:xB x=aj):handedIn v=aj:=by
 cases x with
 |none=>cases hx;rfl
 |bool b=>cases hx;rfl
 |int i=>obtain⟨t,rfl⟩:=hx;rfl
 |str i=>obtain⟨t,rfl⟩:=hx;rfl
 |ty n=>cases hx;rfl
 |bi n=>cases hh
 |_=>cases hx;rfl
theorem Mf (C:cn X)(a0:Inv X B I h)(hx:aF X B h x v)(n:au):aW X A [] (RV X) B I h (getAttr v n aj) (mx x n):=by
 intros _ z W Q E _ D;obtain⟨G,D⟩:=a6 D;obtain (⟨i,q,D⟩):=iz D;subst q;obtain⟨e⟩:=hx;obtain (⟨d,l,O,R,D⟩):=C6 D;obtain (⟨w,N,D⟩):=c9 D;obtain⟨H,D⟩:=a6 D;obtain⟨T,Y,S,m,_,L,U,c,M,J,_,r⟩:=yv a0 O R e;have q:=r n;rw[N]at q;obtain⟨V,K,F⟩:=q;exact get_value (s:=sh z h W) (a0.lM C) L C.iN.ga (findObj_own C.iN.hasDict (C.iN.attrs n G).1 rfl (by rw[C5 M J,K])) (Me F H) (D _ _ _ _ (.refl _) a0 (.refl ..) _ F)
theorem Mg (l:ah (au×AV))(k:au)(v:AV):∀x,(putField l k v).lookup x=if x=k then ae v else l.lookup x:=by
 intro x;have h1:∀l:ah (au×AV),(l.map λp=>if p.1 == k then (p.1,v)else p).lookup x=(l.lookup x).map λw=>if x=k then v else w:=by
  intro l;induction l with
  |nil=>rfl
  |cons p l ih=>
   obtain⟨y,w⟩:=p;have e:(if (y == k)=aj then (y,v)else (y,w))=(y,if y=k then v else w):=by
    by_cases hy:y=k
    ·subst hy;simp
    ·simp[hy]
   simp only[f9];rw[e,gv,gv];cases hb:x == y with
   |true=>rw[bU.mp hb];rfl
   |false=>exact ih
 have h2:∀l:ah (au×AV),(l.lookup k).isSome=l.any λp=>p.1 == k:=by
  intro l;induction l with
  |nil=>rfl
  |cons p l ih=>
   obtain⟨y,w⟩:=p;rw[gv,pI];cases hb:k == y with
   |true=>simp[bU.mp hb]
   |false=>rw[ih,show(y == k)=az from by rw[og]at hb |-;exact λq=>hb q.symm];rfl
 have h3:∀l:ah (au×AV),(l.lookup k).isSome=az->(l++[(k,v)]).lookup x=if x=k then ae v else l.lookup x:=by
  intro l;induction l with
  |nil=>
   intro _;simp only[mn,gv,List.lookup_nil];cases hb:x == k with
   |true=>simp[bU.mp hb]
   |false=>simp[og.mp hb]
  |cons p l ih=>
   obtain⟨y,w⟩:=p;intro hn;rw[gv]at hn;rw[rB,gv,gv];cases hb:k == y with
   |true=>rw[hb]at hn;cases hn
   |false=>
    rw[hb]at hn;cases hx:x == y with
    |true=>
     obtain vp:=bU.mp hx;subst vp;have: ¬ x=k:=λq=>by rw[q]at hb;simp at hb
     simp[this]
    |false=>exact ih hn
 unfold putField;split
 ·rename_i ha;rw[h1];rw[<-h2]at ha;by_cases hx:x=k
  ·subst hx;cases q:l.lookup x with
   |none=>rw[q]at ha;cases ha
   |some w=>simp
  ·cases q:l.lookup x <;>simp[hx]
 ·rename_i ha;rw[<-h2,pO]at ha;exact h3 l ha
def Mh (l:ah (au×AV))(k:au)(v:AV):l.length<=(putField l k v).length/\(l.lookup k=ag->(putField l k v).length=l.length+1):=by
 unfold putField;split
 ·rename_i ha;refine⟨by simp,λhn=>?_⟩;exfalso
  induction l with
  |nil=>cases ha
  |cons p l ih=>
   obtain⟨y,w⟩:=p;rw[gv]at hn;rw[pI]at ha;cases hb:k == y with
   |true=>rw[hb]at hn;cases hn
   |false=>
    rw[hb]at hn;rw[show(y == k)=az from by rw[og]at hb |-;exact λq=>hb q.symm]at ha;exact ih ha hn
 ·exact⟨by simp,λu=>by simp⟩
theorem Mi {u:aw}(C:cn X)(a0:Inv X B I h)(hx:aF X B h x v)(hy:aF X B h y u)(n:au):aW X A [] (λg g g g=>eM) B I h (setAttr v n u) (p5 x n y):=by
 intros _ z W Q E _ F;obtain⟨hn,F⟩:=a6 F;obtain (⟨i,q,F⟩):=iz F;subst q;obtain⟨e⟩:=hx;obtain (⟨d,l,e1,Y,F⟩):=C6 F;obtain⟨D,F⟩:=a6 F;obtain D:l.length<=64:=D;obtain⟨o,od,k,m,N,R,ed,c,dd,hk,J,r⟩:=yv a0 e1 Y e;obtain F:aL X z [] B h (λb b b b=>eM) Q E (.ok ()) (I.set d (.bc (putField l n y))):=F;refine set_plain (s:=sh z h W) (a0.lM C) R C.iN.sa ?_;refine osa_open (s:=sh z h (W+1)) (a0.lM C) R C.iN.over (C.iN.attrs n hn).2 λb=>?_;obtain⟨cd,f,O⟩:=any_some C.iN.hasDict;refine wB (aC (wB (wB (wpAny_loadPart R.at_ (bO ((looks_clsIn (a0.lM C) f).here ?_))))));rw[O];refine aC (a:=ae o) (bO (aC (bO ?_)));refine Md (s:=sh z h (W+1)) ed dd hk λH o' T L U f2 Z f4 V f6 f7=>?_;refine wB (wpAny_lookBehind U (by rw[Z];exact pastItsLine_dict (by rw[fF];exact(V).elim (λM=>TT (EL M) (CF 0 0 0 64 0 16777217 J D rfl)) (λM=>CF 0 1 0 64 0 16777217 (CH 0 1 0 0 (EL M.2) J) D rfl))) ?_);obtain S:jw k n=ag->l.lookup n=ag:=λq=>by
  have:=r n;rw[q]at this;cases ql:l.lookup n with
  |none=>rfl
  |some w=>rw[ql]at this;obtain⟨_,q,_⟩:=this;exact gh q
 obtain⟨I',G⟩:=a0.change (b0:=.bc (putField l n y)) Y N f7 U (by
  refine⟨f2.trans c,T,L,Z,f4,?_,λw=>?_⟩
  ·obtain⟨p1,j⟩:=Mh l n y;rcases V with q |⟨q,q'⟩
   ·exact TT (EL q) (TT J p1)
   ·have:=j (S q);exact CF 0 1 1 0 0 0 (CH 0 1 0 0 (EL q') J) (EG this) rfl
  ·rw[Mg,f6];by_cases K:w=n
   ·rw[aN K,aN K];exact .some hy
   ·rw[aK K,aK K];exact r w) []
 exact aC (F _ _ _ _ (.refl _) I' G () trivial)
def Mj {x a:au}(hd:HE X F k U (.Name x p) d):HE X F k U (.Attribute (.Name x p) a pos) (λrt=>do
   let v0 <-d rt
   mx v0 a):=by
 intro A l G Q N B I h K z W D E T;refine Attribute_name ?_;refine(hd K).then T λO R L V J y v M Y S H=>?_;exact Mf K.ok M S a O J D E H
def Mk {o:aH}{a:au}(hd:HE X F k U o d):HA X F k U (.Attribute o a pos) (λv rt=>do
   let ov <-d rt
   p5 ov a v
   P.pure rt.loc):=by
 intro A l G Q N B I h K x v Y z W D E T;show aA _ _ (lx [v] (eval o G)>>=_) _ _ _;refine wB (ez ?_);refine(hd K).value T λf u j w t1 y ov O M S J=>?_;refine wB (jC (wB (ez ?_)));refine(Mi K.ok O S (Y.step M.step) a).value J λb R V h2 m b b L Z b H=>?_;refine wpAny_release ?_;exact H _ _ _ _ (.refl _) L (.refl ..) () ((K.step O M).step L Z).en
theorem Ml {l:ay}{k:Int}{t:cK}{a0:b8->aD->Prop}(hl:IsL s.heap l O n)(h0:0<=k)(b0:k < 2 ^ 63)(hn:k < O.size)(hQ:∀H n',IsL H l (O.setIfInBounds k.toNat v) n'->fk l s.heap H->a0 () { s with heap:=H }):
  aA (aV prog w) A (setItem (.ref l) (.int k t) v) a0 E s:=by
 obtain qm:=hl.isList;unfold setItem;try with_reducible refine ez ?_
 first |refine wB (aC ?_) |skip
 refine wB (wpAny_sequenceKey qm.typeIs (by decide) ?_);refine wB (ng (name:=aq "__setitem__") qm.typeIs HJ
  (gw HJ qm.typeIs entry_list_setitem ?_ (args_list_setitem _ _ _)))
 show aA _ _ (V8 (.int k t)>>=_) _ _ s;refine wB (wpAny_listSubscript_int (fitsIndex_of h0 b0) ?_);clear b0;obtain (⟨j,rfl⟩):=Aq h0;have B:j < O.size:=by lia
 obtain qn:O[j]? =ae O[j]:=wK B;show aA _ _ ((seqItemAt l j>>=λr=>pure (r.map (j,·)))>>=_) _ _ s;refine wB (wB (wpAny_seqItemAt hl rfl (aC ?_)));rw[qn];show aA _ _ (setSeqItemAt l j v>>=_) _ _ s;refine wB (wpAny_setSeqItemAt hl rfl ?_);first
  |exact wB (aC (aC ⟨.none,rfl,aC (hQ _ _ (hl.update (·.setIfInBounds j v)) (dY ..))⟩))
  |exact aC ⟨.none,rfl,aC (hQ _ _ (hl.update (·.setIfInBounds j v)) (dY ..))⟩
def Mm (l:ah ((au ⊕ Int)×AV))(k:au ⊕ Int)(v:AV):(putD l k v).length<=l.length+1:=by
 unfold putD;split <;>simp
theorem Mn {u:AV}{w t:aw}(a0:Inv X B I h)(hx:aF X B h x v)(hy:aF X B h y w)(hu:aF X B h u t):aW X A [] (λg g g g=>eM) B I h (setItem v w t) (oN x y u):=by
 intros _ z W Q E _ D;obtain (⟨i,q,D⟩):=iz D;subst q;obtain⟨e⟩:=hx;obtain⟨Y,L,D⟩:=eU D;cases Y with
 |list l=>
  obtain⟨j,q,D⟩:=jm D;subst q;obtain⟨_,rfl⟩:=hy;obtain⟨F,D⟩:=a6 D;obtain D:aL X z [] B h (λa a a a=>eM) Q E (.ok ()) (I.set i (.list (l.set j.toNat u))):=D;obtain⟨O,n,o,T,len,K⟩:=ey a0 L e;refine Ml (s:=sh z h W) o F.1 (by lia) (by rw[cG,len];exact(Ha F.1).1 F.2.1) λH V J M=>?_;rw[List.setIfInBounds_toArray]at J;obtain⟨N,G⟩:=a0.change (b0:=.list (l.set j.toNat u)) L e M J ⟨_,V,rfl,T.set hu j.toNat,by rw[eJ];exact K⟩ [];exact D _ _ _ _ (.refl _) N G () trivial
 |dict l=>
  obtain⟨k,b,D⟩:=c9 D;obtain⟨F,D⟩:=a6 D;obtain D:aL X z [] B h (λa a a a=>eM) Q E (.ok ()) (I.set i (.dict (putD l k u))):=D;obtain⟨U,d,r,c⟩:=xV a0 L e;refine wpAny_setItem_pairs (knd:=mB X) (s:=sh z h W) (rZ hy b).1 d (λH Z M=>?_) (by rw[r.length,fF];exact FI 0 64 0 16777216 F rfl);obtain⟨f,R,S⟩:=tE.mp Z;obtain⟨N,G⟩:=a0.change (b0:=.dict (putD l k u)) L e M R ⟨_,S,r.put k hu,by have:=Mm l k u;exact CF 0 1 0 64 0 100 this F rfl⟩ [];exact D _ _ _ _ (.refl _) N G () trivial
 |_=>exact D.elim
def Mo {o i:aH}{b:DE}(hd:HE X F k U o d)(hb:HE X F k U i b):HA X F k U (.Subscript o i pos) (λv rt=>do
   let ov <-d rt
   let iv <-b rt
   oN ov iv v
   P.pure rt.loc):=by
 intro A l G Q N B I h K x v f z W D E u;show aA _ _ (lx [v] (eval o G)>>=_) _ _ _;refine wB (ez ?_);refine(hd K).value u λz1 b0 a0 h1 t1 y ov I1 V j L=>?_;refine wB (ez ?_);obtain S:=K.step I1 V;refine(hb S).value L λz2 Z w h2 t2 y2 iv R M J H=>?_;refine wB (jC (wB (ez ?_)));refine(Mn R (j.step M.step) J ((f.step V.step).step M.step)).value H λz3 c0 Y h3 t3 a a T m a O=>?_;refine wpAny_release ?_;exact O _ _ _ _ (.refl _) T (.refl ..) () ((S.step R M).step T m).en
def yw {c:n5}{a0:aw->aD->Prop}(hc:oP c=ae y)(kk:ak)(b0:fh)(hq:∀v t',SV X y v->a0 v (sh z h t')):aA (MX X) A (eval (.Constant c kk b0) G) a0 E (sh z h W):=by
 cases c with
 |none=>cases hc;exact GL (hq _ _ λu u=>.none)
 |bool b=>cases hc;exact GN (hq _ _ λu u=>.bool b)
 |int i=>cases hc;exact GO (hq _ _ λu u=>.int i _)
 |str x=>cases hc;exact GP (hq _ _ λu u=>.str x _)
 |_=>exact gh hc
theorem Mp {ck cv:n5}{k1 k2:ak}{p1 p2:fh}:HE X F k U (.Dict [ae (.Constant ck k1 p1)] [.Constant cv k2 p2] pos) (λc=>do
   let kv <-P.opt (oP ck)
   let vv <-P.opt (oP cv)
   let k <-P.opt (gC kv)
   let i0 <-P.alloc (.dict [(k,vv)])
   P.pure (.ref i0)):=by
 intros _ A l G Q N B I h _ K _ z W D E _ J;obtain (⟨kv,j,J⟩):=c9 J;obtain (⟨vv,u,J⟩):=c9 J;obtain (⟨L,Y,J⟩):=c9 J;have J:aL X z [] B h (RV X) D E (.ok (.ref I.length)) (I++[.dict [(L,vv)]]):=J;refine wpAny_Dict_pairs (knd:=mB X) (pairs:=[(eval (.Constant ck k1 p1) G,do let x <-eval (.Constant cv k2 p2) G;tG pos;pure x)]) rfl (by simp) (by simp) ?_;refine evalPairs_cons ?_;refine yw (X:=X) (h:=h.push { cls:=.type "dict",data:=.dict #[] }) j k1 p1 λV t1 r1=>?_;refine wB (yw (X:=X) (h:=h.push { cls:=.type "dict",data:=.dict #[] }) u k2 p2 λM t2 m=>wB (jC (aC ?_)));refine evalPairs_nil ⟨[(L,M)],⟨(rZ (r1 B h) Y).1,rfl,trivial⟩,tE.mpr ⟨_,cV _ rfl,C2⟩,λH w Z=>?_⟩;obtain⟨o',R,T⟩:=tE.mp w;have oW:∀b o,h.get? b=ae o->H.get? b=ae o:=λb o e=>(Z.2 b (jV (gN e))).trans (be _ e);have O:h.get? h.objs.size=ag:=eT h;have S:Step X [] B h (B++[h.objs.size]) H:=⟨λa o e=>⟨o,oW a o e⟩,⟨[h.objs.size],rfl,λa hm=>by rw[aJ.mp hm];exact O⟩,λa o e v v v=>⟨o,oW a o e,.refl ..⟩⟩;refine J z (B++[h.objs.size]) H _ (.refl _) (K.inv.snoc S.dK (λv=>id) oW (K.inv.fresh O).1 (K.inv.ew O) R ⟨_,T,.cons (m _ _) .nil,iZ rfl⟩) ⟨S,λa o e v f v=>⟨o,oW a o e,f⟩⟩ _ (.ref ?_);rw[<-K.inv.len];simp
set_option tactic.hygienic true in def Mq {β : Type} {a : β} {a0 : β → aD → Prop} (h : ∀ a, a0 a s) : aA M A (pure a) a0 E s := aC (h a)
def Mr (v:aw):MeetsIn prog w (j2.«enumerate.__new__» ⟨[.type "enumerate",v],[]⟩) (λA R s=>aA (aV prog w) A.in1 (f5 v) (λit s'=>R (.ok (.ret (.ref s'.heap.objs.size)))
  { s' with heap:=s'.heap.push { cls:=.type "enumerate",data:=.fields #[.none,.bool az,it,bI 0,.none,.none] } }) (λe s'=>R (.error e) s') s):=
 .of_wp λA R s h=>by
  have B:=sub_enumerate;obtain⟨D,g,d,W,os⟩:=s;have step:∀{Q':aw->aD->Prop},(∀it s',R (.ok (.ret (.ref s'.heap.objs.size))) { s' with heap:=s'.heap.push { cls:=.type "enumerate",data:=.fields #[.none,.bool az,it,bI 0,.none,.none] } }->Q' it s')->
   aA (aV prog w) A.in1 (f5 v) Q' (λe s'=>R (.error e) s') ⟨D,g,d,W,os⟩:=λE=>eA h E λu u q=>q
  wp_walk
  refine wpAny_stack_any λI=>Mq λc=>?_;cases c
  ·wp_walk using step
   intro it s' q
   wp_walk
   exact⟨_,rfl,q⟩
  ·wp_walk using step
   intro it s' q
   wp_walk
   exact⟨_,rfl,q⟩
def Ms (v1 v2:aw):MeetsIn prog w (j2.«zip.__new__» ⟨[.type "zip",v1,v2],[]⟩) (λA R s=>aA (aV prog w) A.in1 (f5 v1) (λi1 s1=>aA (aV prog w) A.in1 (f5 v2) (λi2 s2=>
   R (.ok (.ret (.ref (s2.heap.objs.size+2)))) { s2 with heap:=((s2.heap.push { cls:=.type "tuple",data:=.seq #[i1,i2] }).push { cls:=.type "tuple",data:=.seq #[.none,.none] }).push { cls:=.type "zip",data:=.fields #[.none,.bool az,.bool az,.ref s2.heap.objs.size,.ref (s2.heap.objs.size+1)] } }) (λe s'=>R (.error e) s') s1) (λe s'=>R (.error e) s') s):=
 .of_wp λA R s h=>by
  have E:=sub_zip;obtain⟨B,g,d,W,os⟩:=s;have step:∀{Q':aw->aD->Prop},(∀i1 s1,aA (aV prog w) A.in1 (f5 v2) (λi2 s2=>
   R (.ok (.ret (.ref (s2.heap.objs.size+2)))) { s2 with heap:=((s2.heap.push { cls:=.type "tuple",data:=.seq #[i1,i2] }).push { cls:=.type "tuple",data:=.seq #[.none,.none] }).push { cls:=.type "zip",data:=.fields #[.none,.bool az,.bool az,.ref s2.heap.objs.size,.ref (s2.heap.objs.size+1)] } }) (λe s'=>R (.error e) s') s1->Q' i1 s1)->
   aA (aV prog w) A.in1 (f5 v1) Q' (λe s'=>R (.error e) s') ⟨B,g,d,W,os⟩:=λD=>eA h D λu u q=>q
  wp_walk using step
  intro i1 s1 q;obtain⟨B,g,d,W,os⟩:=s1;have step:∀{Q':aw->aD->Prop},(∀i2 s2,R (.ok (.ret (.ref (s2.heap.objs.size+2)))) { s2 with heap:=((s2.heap.push { cls:=.type "tuple",data:=.seq #[i1,i2] }).push { cls:=.type "tuple",data:=.seq #[.none,.none] }).push { cls:=.type "zip",data:=.fields #[.none,.bool az,.bool az,.ref s2.heap.objs.size,.ref (s2.heap.objs.size+1)] } }->Q' i2 s2)->
   aA (aV prog w) A.in1 (f5 v2) Q' (λe s'=>R (.error e) s') ⟨B,g,d,W,os⟩:=λD=>eA q D λu u q=>q
  wp_walk using step
  intro i2 s2 q;obtain⟨B,g,d,W,os⟩:=s2
  wp_walk
  refine⟨_,rfl,?_⟩;have F:((B.push { cls:=.type "tuple",data:=.seq #[i1,i2] })).objs.size=B.objs.size+1:=j8 ..;have G:((B.push { cls:=.type "tuple",data:=.seq #[i1,i2] }).push { cls:=.type "tuple",data:=.seq #[.none,.none] }).objs.size=B.objs.size+2:=by rw[j8,F]
  dsimp only at q;rw[<-G,<-F]at q;exact q
def Mt {a0:aw->aD->Prop}(h:aA (aV prog w) A.in1.in1 (f5 v) (λit s'=>a0 (.ref s'.heap.objs.size) { s' with heap:=s'.heap.push { cls:=.type "enumerate",data:=.fields #[.none,.bool az,it,bI 0,.none,.none] } }) E s):
  aA (aV prog w) A (call (.type "enumerate") [v]) a0 E s:=
 HK F.called_enumerate (by decide) (F.typeCall_enumerate_1 _) (F.newCall_enumerate_1 _) (λobj=>F.args_object_init_2 obj _) F.entry_enumerate_new (Mr v)
  (eA h (λit s' q=>⟨⟨_,cV _ rfl,rfl⟩,q⟩) λu u q=>q)
def Mu {v1 v2:aw}{a0:aw->aD->Prop}(h:aA (aV prog w) A.in1.in1 (f5 v1) (λi1 s1=>aA (aV prog w) A.in1.in1 (f5 v2) (λi2 s2=>
   a0 (.ref (s2.heap.objs.size+2)) { s2 with heap:=((s2.heap.push { cls:=.type "tuple",data:=.seq #[i1,i2] }).push { cls:=.type "tuple",data:=.seq #[.none,.none] }).push { cls:=.type "zip",data:=.fields #[.none,.bool az,.bool az,.ref s2.heap.objs.size,.ref (s2.heap.objs.size+1)] } }) E s1) E s):
  aA (aV prog w) A (call (.type "zip") [v1,v2]) a0 E s:=
 HK F.called_zip (by decide) (F.typeCall_zip_2 _ _) (F.newCall_zip_2 _ _) (λobj=>F.args_object_init_3 obj _ _) F.entry_zip_new (Ms v1 v2)
  (eA h (λi1 s1 q=>eA q (λi2 s2 q=>⟨by
   have:=cV ((s2.heap.push { cls:=.type "tuple",data:=.seq #[i1,i2] }).push { cls:=.type "tuple",data:=.seq #[.none,.none] }) (o:={ cls:=.type "zip",data:=.fields #[.none,.bool az,.bool az,.ref s2.heap.objs.size,.ref (s2.heap.objs.size+1)] }) rfl;rw[j8,j8]at this;exact⟨_,this,rfl⟩,q⟩) λu u q=>q) λu u q=>q)
theorem Mv {r:ay}{a c:Int}{t u v:cK}{a0:aw->aD->Prop}(hr:wA s.heap r a b c t u v)(hs:(fG a && fG b && fG c && fG (-c) && fG (a - c) && fG (j9 a b c))=aj)(h:a0 (.ref s.heap.objs.size) { s with heap:=s.heap.push { cls:=.type "range_iterator",data:=.fields #[bI (a+(j9 a b c - 1) * c),bI (j9 a b c),bI (-c)] } }):
  aA (aV prog w) A (call (.builtin "range.__reversed__") [.ref r]) a0 E s:=by
 have B:s.TypeIs (.ref r) "range":=⟨_,hr,rfl⟩;refine gw F.slot_range_reversed B F.entry_range_reversed ?_ (F.args_range_reversed_1 _);obtain⟨D,g,d,W,os⟩:=s;unfold Builtin.«range.__reversed__» V9
 wp_walk using AutoSeq1.wpAny_loadPart' hr
 simp only[hs,qU,jb,jc,jB]
 wp_walk
 exact⟨_,rfl,h⟩
theorem Mw {r:ay}{a c:Int}{t u v:cK}{a0:aw->aD->Prop}(hr:wA s.heap r a b c t u v)(hs:(fG a && fG b && fG c && fG (-c) && fG (a - c) && fG (j9 a b c))=aj)(h:a0 (.ref s.heap.objs.size) { s with heap:=s.heap.push { cls:=.type "range_iterator",data:=.fields #[bI (a+(j9 a b c - 1) * c),bI (j9 a b c),bI (-c)] } }):
  j' (aV prog w) A (.call (.builtin "reversed.__new__") ⟨[.type "reversed",.ref r],[]⟩) (rE a0 E) s:=by
 have B:s.TypeIs (.ref r) "range":=⟨_,hr,rfl⟩;refine uc ?_;show aA _ A.in1 (do ud "reversed.__new__" ⟨[.type "reversed",.ref r],[]⟩;again (.builtin "reversed.__new__" ⟨[.type "reversed",.ref r],[]⟩)) _ _ s;refine wB (nh (F.newCall_reversed_1 _) (aC ⟨oF F.plain_reversed_new _,kb F.entry_reversed_new ?_⟩));rw[mq F.plain_reversed_new _];unfold Builtin.«reversed.__new__»;refine wB (nh (newClass_reversed _) ?_);try dsimp only
 refine wB (nh (a:=()) (by first |rfl |kernel_rfl) ?_);refine wB (nh (a:=()) (by first |rfl |kernel_rfl) ?_);try dsimp only
 refine wB (rF B F.slot_range_reversed.lookup ?_);try dsimp only
 refine wB (nh (F.slot_range_reversed.bind _) ?_);try dsimp only
 first
 |rw[aK (show ¬ ((ue "range.__reversed__" == dq)=aj) from je)]
 |(show aA _ _ (if (ue "range.__reversed__" == dq)=aj then _ else _) _ _ _;rw[aK (show ¬ ((ue "range.__reversed__" == dq)=aj) from je)])
 refine wB (gP ?_);refine wB (m:=runValue (.call (.builtin "range.__reversed__") ⟨[.ref r],[]⟩)) (show aA _ _ (call (.builtin "range.__reversed__") [.ref r]) _ _ _ from Mv hr hs ?_);first
 |exact aC h
 |exact wB (aC (aC h))
def Mx:lB (.type "range_iterator") (.type "reversed")=pure az:=by rw[rj];kernel_rfl
def My {r:ay}{a c:Int}{t u v:cK}{a0:aw->aD->Prop}(hr:wA s.heap r a b c t u v)(hs:(fG a && fG b && fG c && fG (-c) && fG (a - c) && fG (j9 a b c))=aj)(h:a0 (.ref s.heap.objs.size) { s with heap:=s.heap.push { cls:=.type "range_iterator",data:=.fields #[bI (a+(j9 a b c - 1) * c),bI (j9 a b c),bI (-c)] } }):
  aA (aV prog w) A (call (.type "reversed") [.ref r]) a0 E s:=by
 refine callType_other (U:="range_iterator") (Q₁:=λobj B=>obj= .ref s.heap.objs.size/\B={ s with heap:=s.heap.push { cls:=.type "range_iterator",data:=.fields #[bI (a+(j9 a b c - 1) * c),bI (j9 a b c),bI (-c)] } }) (by decide +kernel) F.create_reversed ⟨_,_,F.mro_reversed⟩ F.made_reversed Mx (F.typeCall_reversed_1 _) (Mw hr hs ⟨rfl,rfl⟩) ?_;rintro obj B ⟨rfl,rfl⟩;exact⟨⟨_,cV _ rfl,rfl⟩,h⟩
def yx {c:Int}(hb: -4096 < b/\b < 4096)(hc:c=1/\k=b.toNat\/c= -1/\k=(-b).toNat):j9 0 b c=k:=by
 unfold Builtin.Range.rangeSize;rcases hc with ⟨rfl,rfl⟩ |⟨rfl,rfl⟩
 ·simp only[show(1:Int) > 0 by decide,jB,HL];split <;>lia
 ·simp only[show ¬ ((-1:Int) > 0) by decide,jc];simp only[HM,HL];split <;>lia
def fits_of {i:Int}(h: -(2 ^ 63)<=i/\i < 2 ^ 63):fG i=aj:=by
 unfold Builtin.Range.rangeFitsLong;rw[cW,fq,fq];exact h
def Mz {c:Int}(hb: -4096 < b/\b < 4096)(hc:c=1/\k=b.toNat\/c= -1/\k=(-b).toNat):V' 0 b c=aj:=by
 unfold Builtin.Range.small;rw[yx hb hc];have D:(k:Int)<=4096:=by rcases hc with ⟨rfl,rfl⟩ |⟨rfl,rfl⟩<;>lia
 have B:(if c > 0 then fG (b+(c - 1))else fG (b+(c+1)))=aj:=by
  split <;>exact fits_of (by rcases hc with ⟨rfl,rfl⟩ |⟨rfl,rfl⟩<;>lia)
 rw[fits_of (i:=0) (by lia),fits_of (i:=b) (by lia),fits_of (i:=c) (by rcases hc with ⟨rfl,rfl⟩ |⟨rfl,rfl⟩<;>lia),fits_of (i:=(k:Int)) (by lia),B,rq];rfl
def lO.step {ex:ah ay}{a:AS}(r:lO X B h a v)(a0:Inv X B I h)(b0:Go X ex B h J H):lO X J H a v:=by
 cases r with
 |val r=>exact .val (r.step b0.step)
 |range n D E K F=>exact .range (b0.step.dt E n) D (b0.step.uY E n (a0.gZ D) (λu u q=>nomatch q)) K F
def MA (hd:HE X F k U e d):HR X F k U e (λrt=>do
   let v0 <-d rt
   P.pure (.val v0)):=by
 intro A l G Q N B I h K z W D E R;exact(hd K).then R λV O L S T x v M Y J H=>H _ _ _ _ (.refl _) M (.refl ..) _ (.val J)
def vq {f:au}{v:AV}{a0:aw->aD->Prop}(K:Ctx X k U A l G Q N B I h)(hk:cM U f=ae .globalImplicit)(hg:p8 f=ae v)(hn:(f == aq "__debug__" || f == aq "__classdict__")=az)(hQ:∀val z' J H t',Zs z z'->Inv X J I H->Go X [] B h J H->aF X J H v val->a0 val (sh z' H t')):aA (MX X) A (eval (.Name f p) G) a0 E (sh z h W):=by
 refine Ck (F:=λu u u=>P.fail) K.ok K.inv K.en f p z W a0 E ?_;unfold nG;rw[aK (by rw[hn];simp),hk];dsimp only;rw[hg];exact λz' J H t' Z D F val r=>hQ val z' J H t' Z D F r
def se (M:mX)(h:aG)(n:aI):oA M h (oB (.type n)) pV:=A8 rfl
def C7 (M:mX)(h:aG)(n:aI):oA M h (oB (.builtin n)) pV:=A8 rfl
def vt {l:ah AV}:∀{ns:ah Int},intsOf l=ae ns->l=ns.map .int:=by
 induction l with
 |nil=>exact λe=>dp e ▸ rfl
 |cons x l B=>cases x with
  |int i=>
   intro ns e;obtain⟨E,D,rfl⟩:=jZ.mp e;rw[B D];rfl
  |_=>exact λe=>gh e
def MB {l:ah AV}{p:Res AS->St->Prop}(h:(lJ l).run I p):
  (∃b,l=[.int b]/\(-4096 < b/\b < 4096)/\p (.ok (.range 0 b.toNat 1)) I)\/(∃b,l=[.int 0,.int b,.int (-1)]/\(-4096 < b/\b < 4096)/\p (.ok (.range 0 (-b).toNat (-1))) I):=by
 obtain⟨ns,e,h⟩:=c9 h;rw[vt e];cases ns with
 |nil=>exact h.elim
 |cons b r=>cases r with
  |nil=>obtain⟨g,h⟩:=a6 h;exact .inl ⟨_,rfl,g,h⟩
  |cons c r=>cases r with
   |nil=>exact h.elim
   |cons d r=>cases r with
    |nil=>obtain⟨g,H⟩:=a6 h;obtain⟨rfl,rfl,g⟩:=g;exact .inr ⟨_,rfl,g,H⟩
    |cons _ _=>exact h.elim
theorem src_range {T:ah aH}{g:aH->DE}(hk:cM U (aq "range")=ae .globalImplicit)(ha:∀e∈T,HE X F k U e (g e)):HR X F k U (.Call (.Name (aq "range") p) T [] q) (λrt=>do
   P.guard (lK T []=aj)
   let l0 <-dG (T.map g) rt
   lJ l0):=by
 intros _ A l G Q N B I h _ K _ z W D E _ f;obtain⟨m,f⟩:=a6 f;refine uf ?_;refine vq (v:=.ty "range") K hk (by kernel_rfl) (by decide +kernel) ?_;intros _ val z1 f0 h1 t1 _ Z1 I1 G1 rv;cases rv
 ·obtain K1:=K.step I1 G1;refine yn (R':=lO X) (b0:=λV kv=>match kv with | []=>lJ V |_=>P.fail) (Pk:=λw=>eM) (e0:=[]) K1 ha (λw hw=>nomatch hw) m (λH w=>⟨_,.inr (.inl rfl),se _ _ _⟩) ?_ ?_
  ·refine P.mono _ (λr Z y=>y.shift Z1 G1) (show(dG (T.map g) ⟨F,Q,N⟩>>=λV=>fU [] ⟨F,Q,N⟩>>=λkv=>match kv with | []=>lJ V |_=>P.fail).run I (aL X z [] B h (lO X) D E) from ?_);exact f
  ·intros _ j o a0 O t2 V e0 kv d0 _ I2 G2 R rk J;refine⟨trivial,?_⟩;have Y:∀(b c:Int) (t u v:cK) (kk:ak) (S:ak),-4096 < b/\b < 4096->(c=1/\kk=b.toNat\/c= -1/\kk=(-b).toNat)->aL X j [] o O (lO X) D E (.ok (.range 0 kk c)) a0->
     D (.ref O.objs.size) (sh j (O.push { cls:=.type "range",data:=.fields #[.int 0 t,.int b u,.int c v] }) S):=by
    intro b c t u v kk S hb hc hp;refine hp _ _ _ _ (.refl _) (I2.push _) (Go.push ..) _ (.range (λhm=>dP _ (I2.lt hm)) (I2.ew (eT O)) (cV _ rfl) hb hc)
   cases rk with
   |cons _ _=>exact J.elim
   |nil=>
   rcases MB J with ⟨b,rfl,hg,J⟩ |⟨b,rfl,hb,J⟩
   ·cases R with |cons M L=>
    cases L;obtain⟨tb,rfl⟩:=M;exact call_range_1 (s:=sh j O t2) (Y b 1 _ _ _ _ _ hg (.inl ⟨rfl,rfl⟩) J)
   ·cases R with |cons M L=>
    cases L with |cons c0 L=>
    cases L with |cons b0 L=>
    cases L;obtain⟨ta,rfl⟩:=M;obtain⟨tb,rfl⟩:=c0;obtain⟨tc,rfl⟩:=b0;exact call_range_3 (s:=sh j O t2) (by decide) (Y b (-1) _ _ _ _ _ hb (.inr ⟨rfl,rfl⟩) J) (.inl (GV (by lia)))
def aW.sf {a0:aw->aD->Prop}{α β:Type}{R:ah ay->aG->β->α->Prop}{t:dn α}{m:P β}{g:β->P AI}(h1:aW X A [] R B I h t m)(b0:Zs dE z)(c0:Go X [] br h₀ B h)(hr:(m>>=g).run I (rT X dE br h₀ a0 E)){Q':α->aD->Prop}(k:∀z' J Z H t' b a,Zs dE z'->Inv X J Z H->Go X [] B h J H->Go X [] br h₀ J H->R J H b a->(g b).run Z (rT X dE br h₀ a0 E)->Q' a (sh z' H t')):aA (MX X) A t Q' E (sh z h W):=by
 refine h1 z W Q' E (m.mono (λr Z y=>?_) (show m.run I _ from hr));intro z' J H t' F D S;obtain S':=c0.trans S;cases r with
 |ok b=>exact λa G=>k z' J Z H t' b a (b0.trans F) D S S' G y
 |err k=>exact λe x=>y z' J H t' (b0.trans F) D S' e (x.oU c0.step.there)
def bP.ref (r:bP X B h own ai it):∃a,it= .ref a:=by cases r <;>exact⟨_,rfl⟩
def bP.conv (hB:Y.base=X.base)(r:bP X B h own ai it):bP Y B h own ai it:=by
 cases r with
 |list e D n b=>exact .list e D n (hB ▸ b)
 |range D n b=>exact .range D n (hB ▸ b)
 |obj e=>exact .obj e
def bP.ext (r:bP X B h own ai it)(hk:∀b o,h.get? b=ae o->H.get? b=ae o):bP X B H own ai it:=by
 cases r with
 |list e D n b=>obtain⟨o,E,c,d⟩:=D;exact .list e ⟨o,hk _ _ E,c,d⟩ n b
 |range D n b=>exact .range (hk _ _ D) n b
 |obj e=>exact .obj e
def bP.there (r:bP X B h own ai it):∀c∈own,∃o,h.get? c=ae o:=by
 cases r with
 |list e E n b=>intro c D;rw[aJ.mp D];obtain⟨o,F,_⟩:=E;exact⟨o,F⟩
 |range E n b=>intro c D;rw[aJ.mp D];exact⟨_,E⟩
 |obj e=>exact λu D=>nomatch D
def vu {as:AS}{g:AI->P AI}{p:Res AI->St->Prop}{Q':aw->aD->Prop}(r:lO X B h as v)(a0:Inv X B I h)(hr:(eO as>>=g).run I p)(k:∀H own ai it,(∀b o,h.get? b=ae o->H.get? b=ae o)->bP X B H own ai it->(∀c∈own,h.get? c=ag)->(g ai).run I p->Q' it (sh z H W)):aA (MX X) A (f5 v) Q' E (sh z h W):=by
 cases r with
 |range n L F G D=>
  refine wpAny_pyIter_range (s:=sh z h W) F (Mz G D) ?_;rw[yx G D];refine k _ [h.objs.size] _ _ (λb o e=>be _ e) (.range (cV _ rfl) (λK=>dP _ (a0.lt K)) (a0.ew (eT h))) (λc D=>?_) hr;rw[aJ.mp D];exact eT h
 |val J=>
  obtain⟨i,q,hr⟩:=iz (g:=λi=>rL i>>=g) hr;subst q;obtain⟨e⟩:=J;exact CR a0 e hr k
def Go.fresh {c:ay}(a0:Go X [] br h₀ B h)(hc:h.get? c=ag):h₀.get? c=ag:=by
 cases q:h₀.get? c with
 |none=>rfl
 |some o=>obtain⟨E,D⟩:=a0.step.there c o q;rw[hc]at D;cases D
def MC {a:aH}{d:DR}(hk:cM U (aq "enumerate")=ae .globalImplicit)(ha:HR X F k U a d):HI X F k U (.Call (.Name (aq "enumerate") p) [a] [] q) (λrt=>do
   P.guard (dg a=aj)
   let x0 <-d rt
   let i0 <-eO x0
   P.pure (.enum 0 i0)):=by
 intro A l G Q N B I h K z W D E j;obtain⟨T,j⟩:=a6 j;refine uf ?_;refine vq (v:=.ty "enumerate") K hk (by kernel_rfl) (by decide +kernel) λval z1 c0 h1 t1 Z1 I1 G1 rv=>?_;cases rv
 ·obtain K1:=K.step I1 G1;refine wU (P:=λx=>eM) (by rw[kI T];rfl) (λH x=>⟨_,.inr (.inl rfl),se _ _ _⟩) ?_;show aA _ _ (A9 _ aj (lz q (jA [a] G)) []) _ _ _;rw[kI T];refine Ba (w8 ?_);refine(ha K1).sf Z1 G1 j λz2 O b0 u t2 as v Z2 V G2 L ra Z=>?_;refine Bb ⟨trivial,?_⟩;show aA _ _ (call (.type "enumerate") [v]) _ _ _;refine Mt ?_;refine vu ra V Z λJ Y ai it S m ho a0=>?_;obtain⟨f,rfl⟩:=m.ref;obtain R:∀b o,u.get? b=ae o->(J.push { cls:=.type "enumerate",data:=.fields #[.none,.bool az,.ref f,bI 0,.none,.none] }).get? b=ae o:=λb o e=>be _ (S _ _ e);have M:u.get? J.objs.size=ag:=by
   cases q:u.get? J.objs.size with
   |none=>rfl
   |some o=>exact absurd (gN (S _ _ q)) (dP _)
  obtain he:oa (J.push { cls:=.type "enumerate",data:=.fields #[.none,.bool az,.ref f,bI 0,.none,.none] }) J.objs.size f 0 .none:=cV _ rfl;refine HN (s:=sh z2 _ t2) he ?_;obtain⟨f1,f2⟩:=V.fresh M;refine a0 z2 O _ t2 [] (J.objs.size :: Y) (.ref J.objs.size) Z2 (V.keeps R) (L.trans (Go.keeps X O R [])) (.enum he f1 (V.ew M) (λhm=>?_) (m.ext λb o e=>be _ e)) (λc w=>?_) (λx hb=>nomatch hb)
  ·obtain⟨o,e⟩:=m.there _ hm;rw[eT]at e;cases e
  ·rcases bu.mp w with rfl |w
   ·exact L.fresh M
   ·exact L.fresh (ho c w)
set_option tactic.hygienic true in def MD {a : aH} {d : DR} (hk : cM U (aq "reversed") = ae .globalImplicit) (ha : HR X F k U a d) : HI X F k U (.Call (.Name (aq "reversed") p) [a] [] q) (fun rt => do
   P.guard (dg a=aj)
   let x0 <-d rt
   p9 x0):=by
 intro A l G Q N B I h K z W D E hr;obtain⟨kF,hr⟩:=a6 hr;refine uf ?_;refine vq (v:=.ty "reversed") K hk (by kernel_rfl) (by decide +kernel) λval z1 Wq h1 t1 Z1 I1 G1 rv=>?_;cases rv
 ·obtain K1:=K.step I1 G1;refine wU (P:=λw=>eM) (by rw[kI kF];rfl) (λH w=>⟨_,.inr (.inl rfl),se _ _ _⟩) ?_;show aA _ _ (A9 _ aj (lz q (jA [a] G)) []) _ _ _;rw[kI kF];refine Ba (w8 ?_);refine(ha K1).sf Z1 G1 hr λz2 CZ bF h2 t2 as v Z2 I2 G2 C8 ra C9=>?_;refine Bb ⟨trivial,?_⟩;show aA _ _ (call (.type "reversed") [v]) _ _ _;cases ra with
  |val _=>exact C9.elim
  |range n bb ME hb hc=>
   rename_i r b c t u v kk;obtain⟨hg,MF⟩:=a6 C9;obtain⟨_,rfl⟩:=hg;have Dc:(kk:Int)<=4096:=by rcases hc with ⟨_,rfl⟩ |⟨q,_⟩<;>lia
   obtain kJ:=yx hb hc;refine My (s:=sh z2 h2 t2) ME (by
    rw[kJ,fits_of (i:=0) (by lia),fits_of (i:=b) (by lia),fits_of (i:=1) (by lia),fits_of (i:=-1) (by lia),fits_of (i:=0 - 1) (by lia),fits_of (i:=(kk:Int)) (by lia)];rfl) ?_
   rw[kJ,show(0:Int)+((kk:Int) - 1) * 1=(kk:Int) - 1 by lia];obtain hi:tu (h2.push { cls:=.type "range_iterator",data:=.fields #[bI ((kk:Int) - 1),bI kk,bI (-1)] }) h2.objs.size ((kk:Int) - 1) kk (-1):=cV _ rfl;refine HO (s:=sh z2 _ t2) hi ?_;obtain hn:h2.get? h2.objs.size=ag:=eT h2;refine MF z2 CZ _ t2 [] [h2.objs.size] _ Z2 (I2.push _) (C8.trans (Go.push ..)) (.simple (.range hi (I2.fresh hn).1 (I2.ew hn))) (λc hc=>?_) (λw hb=>nomatch hb);rw[aJ.mp hc];exact C8.fresh hn
def MG {d:DR}(ha:HR X F k U e d):HI X F k U e (λrt=>do
   let v0 <-d rt
   eO v0):=by
 intro A l G Q N B I h K z W D E Z;refine(ha K).sf (.refl _) (.refl ..) Z λV H w h2 b as v j S G2 J u O=>?_;refine vu u S (P.CS O) λY M ai it L m o R=>?_;exact R V H Y b [] M it j (S.keeps L) (J.trans (Go.keeps X H L [])) (.simple m) (λc T=>J.fresh (o c T)) (λx f=>nomatch f)
theorem MH {a b:aH}{d e:DR}(hk:cM U (aq "zip")=ae .globalImplicit)(ha:HR X F k U a d)(hb:HR X F k U b e):HI X F k U (.Call (.Name (aq "zip") p) [a,b] [] q) (λrt=>do
   P.guard (dg a=aj/\dg b=aj)
   let x0 <-d rt
   let y0 <-e rt
   let i0 <-eO x0
   let a0 <-eO y0
   P.pure (.zip i0 a0)):=by
 intros _ A l G Q N B I h _ K _ z W D E _ hr;obtain⟨⟨e0,d0⟩,hr⟩:=a6 hr;refine uf ?_;refine vq (v:=.ty "zip") K hk (by kernel_rfl) (by decide +kernel) ?_;intros _ val z1 u0 h1 t1 _ Z1 I1 G1 rv;cases rv
 ·obtain K1:=K.step I1 G1;refine wU (P:=λx=>eM) (by rw[kI e0,kI d0];rfl) (λH x=>⟨_,.inr (.inl rfl),se _ _ _⟩) ?_;show aA _ _ (A9 _ aj (lz q (jA [a,b] G)) []) _ _ _;rw[kI e0,kI d0];refine Ba (w8 ?_);refine(ha K1).sf Z1 G1 hr ?_;intros _ z2 r0 s0 h2 t2 as v1 _ Z2 I2 G2 j0 ra g0;refine w8 ?_;refine(hb (K1.step I2 G2)).sf Z2 j0 g0 ?_;intros _ z3 M l0 h3 t3 bs v2 _ Z3 I3 G3 u rb p0;refine Bb ⟨trivial,?_⟩;show aA _ _ (call (.type "zip") [v1,v2]) _ _ _;obtain o0:=ra.step I2 G3;refine Mu ?_;refine vu o0 I3 p0 ?_;intros _ h4 o1 a1 i1 _ T r1 n0 k0;obtain I4:=I3.keeps T;obtain m0:=rb.step I3 (Go.keeps X M T []);refine vu m0 I4 k0 ?_;intros _ L o2 a2 i2 _ S r2 c0 h0;have Y:=I4.keeps S;generalize b0:({ cls:=.type "tuple",data:=.seq #[i1,i2] }:Obj)=T1;generalize f:({ cls:=.type "tuple",data:=.seq #[.none,.none] }:Obj)=T2;generalize m:({ cls:=.type "zip",data:=.fields #[.none,.bool az,.bool az,.ref L.objs.size,.ref (L.objs.size+1)] }:Obj)=T3;obtain s1:(L.push T1).objs.size=L.objs.size+1:=j8 ..;have s2:((L.push T1).push T2).objs.size=L.objs.size+2:=by rw[j8,s1]
  obtain g1:(((L.push T1).push T2).push T3).get? L.objs.size=ae T1:=be _ (be _ (cV _ (by rw[<-b0];rfl)));have g2:(((L.push T1).push T2).push T3).get? (L.objs.size+1)=ae T2:=by
   have:=be T3 (cV (L.push T1) (o:=T2) (by rw[<-f];rfl))
   rwa [s1]at this
  have g3:(((L.push T1).push T2).push T3).get? (L.objs.size+2)=ae T3:=by
   have:=cV ((L.push T1).push T2) (o:=T3) (by rw[<-m];rfl)
   rwa [s2]at this
  have V:∀b o,L.get? b=ae o->(((L.push T1).push T2).push T3).get? b=ae o:=λb o e=>be _ (be _ (be _ e));have J:∀n,L.get? (L.objs.size+n)=ag:=λn=>by
   cases q:L.get? (L.objs.size+n)with
   |none=>rfl
   |some o=>exact absurd (gN q) (n7.mpr (tm _ _))
  have hz:i7 (((L.push T1).push T2).push T3) (L.objs.size+2) L.objs.size (L.objs.size+1) .none:=by rw[<-m]at g3 |-;exact g3
  have hI:jx (((L.push T1).push T2).push T3) L.objs.size i1 i2:=by rw[<-b0]at g1 |-;exact g1
  have hO:jx (((L.push T1).push T2).push T3) (L.objs.size+1) .none .none:=by rw[<-f]at g2 |-;exact g2
  refine HP (s:=sh z3 _ t3) hz ?_;obtain old:∀c∈o1,∃o,L.get? c=ae o:=λc O=>by obtain⟨o,e⟩:=r1.there c O;exact⟨o,S _ _ e⟩
  obtain w:∀c∈o2,∃o,L.get? c=ae o:=r2.there;have Z:∀n,L.objs.size+n∉o1++o2:=λn R=>by
   rcases dX.mp R with R |R
   ·obtain⟨o,e⟩:=old _ R;rw[J]at e;cases e
   ·obtain⟨o,e⟩:=w _ R;rw[J]at e;cases e
  have f0:=Y.fresh (J 0);obtain f1:=Y.fresh (J 1);obtain f2:=Y.fresh (J 2);obtain IX:Inv (X.more [L.objs.size+1]) M l0 (((L.push T1).push T2).push T3):=Y.more V (λb hb=>by rw[aJ.mp hb];exact⟨J 1,_,g2⟩);have G5:Go X [] B h M L:=(u.trans (Go.keeps X M T [])).trans (Go.keeps X M S []);obtain G6:Go X [] B h M (((L.push T1).push T2).push T3):=G5.trans (Go.keeps X M V []);refine h0 z3 M _ t3 [L.objs.size+1] ((L.objs.size+2) :: (L.objs.size+1) :: (o1++o2)) (.ref (L.objs.size+2)) Z3 IX G6
   (.zip hz hI hO ⟨f2.1,f0.1,f1.1⟩ ⟨Y.ew (J 2),Y.ew (J 0),Y.ew (J 1)⟩ (gO _ (.head _)) ⟨f0.2.1,λR=>by
     rcases dX.mp R with R |R
     ·exact absurd (aJ.mp R) (jV (jD _))
     ·exact f0.2.2 R⟩ ⟨jV (jD _),Z 2,Z 1,λc O R=>?_,Z 0⟩
    (bP.conv (X:=X) (Y:=X.more [L.objs.size+1]) rfl ((r1.ext S).ext V)) (bP.conv (X:=X) (Y:=X.more [L.objs.size+1]) rfl (r2.ext V))) (λc O=>?_) (λb hb=>by rw[aJ.mp hb];exact G5.fresh (J 1))
  ·obtain⟨o,e⟩:=r1.there c O;rw[c0 c R]at e;cases e
  ·rcases bu.mp O with rfl |O
   ·exact G5.fresh (J 2)
   rcases bu.mp O with rfl |O
   ·exact G5.fresh (J 1)
   rcases dX.mp O with O |O
   ·exact u.fresh (n0 c O)
   ·exact(u.trans (Go.keeps X M T [])).fresh (c0 c O)
theorem gF.more {es:aZ (Int×aw)}{t:gr}{a0:aw}{b0:ah (Int×aw)}(hb:∀b∈j,h.get? b=ag)(c:gF X B h a es ep t a0 i b0):gF (X.more j) B h a es ep t a0 i b0:=by
 cases c with
 |text hb=>exact .text hb
 |drawn E H G e I F=>exact .drawn E H (G.more e hb) e I F
 |one hb D=>exact .one hb D
 |done hb D J=>exact .done hb D J
theorem dT.more (hb:∀b∈j,h.get? b=ag)(r:dT X B h own ai it):dT (X.more j) B h own ai it:=by
 cases r with
 |simple r=>exact .simple (bP.conv (X:=X) (Y:=X.more j) rfl r)
 |enum R n b K r=>exact .enum R n b K (bP.conv (X:=X) (Y:=X.more j) rfl r)
 |zip O J S n b W G d U T=>exact .zip O J S n b (hY _ W) (G.more J hb) d (bP.conv (X:=X) (Y:=X.more j) rfl U) (bP.conv (X:=X) (Y:=X.more j) rfl T)
 |set n b N F I L Q H E D V M=>exact .set n b N (F.more I hb) I L Q H E D V (M.more hb)
def Dd {C:ay}(hs:fk C h H)(e:h.get? C=ae o)(f:gX o):gW X X.bad B B h H:=⟨λu u=>id,λa J I G D k=>⟨I,G,by
 refine(hs.2 a λq=>?_).trans D;subst q;rw[e]at D;cases D;obtain⟨F,E,d,_⟩:=f;exact k.nd F E d⟩⟩
def aF.sameBut {C:ay}(hs:fk C h H)(e:h.get? C=ae o)(f:gX o)(r:aF X B h x v):aF X B H x v:=r.dK (Dd hs e f)
def Inv.sameBut {C:ay}(a0:Inv X B I h)(hs:fk C h H)(e:h.get? C=ae o)(f:gX o)(hC:C∉B)(hB:X.base.get? C=ag)(hb:C∉X.bad):Inv X B I H:=by
 refine⟨a0.len,a0.nodup,λi G a K E=>?_,λb J D M=>?_,a0.new,a0.gd,a0.mods,?_,λb F=>?_⟩
 ·obtain⟨O,Q,N⟩:=a0.obj i G a K E;exact⟨O,(hs.2 a λq=>hC (q ▸ cD E)).trans Q,N.dK (Dd hs e f)⟩
 ·exact(hs.2 b λq=>by rw[q,hB]at D;cases D).trans (a0.base b J D M)
 ·obtain⟨V,L,c⟩:=a0.tab;exact⟨V,(hs.2 _ λq=>a0.gZ hB q.symm).trans L,c⟩
 ·obtain⟨o,e⟩:=a0.gf b F;exact⟨o,(hs.2 b λq=>hb (q ▸ F)).trans e⟩
def Go.sameBut {ex:ah ay}{C:ay}(a0:Go X ex br h₀ B h)(hs:fk C h H)(hC:h₀.get? C=ag):Go X ex br h₀ B H:=by
 have I:∀a o,h₀.get? a=ae o->a≠C:=λa o e q=>by rw[q,hC]at e;cases e
 refine⟨⟨λa o e=>?_,a0.step.ext,λa o e F K L=>?_⟩,λa o e F f b=>?_⟩
 ·obtain⟨D,E⟩:=a0.step.there a o e;exact⟨D,(hs.2 a (I a o e)).trans E⟩
 ·obtain⟨D,E,k⟩:=a0.step.keep a o e F K L;exact⟨D,(hs.2 a (I a o e)).trans E,k⟩
 ·obtain⟨D,E,J⟩:=a0.fr a o e F f b;exact⟨D,(hs.2 a (I a o e)).trans E,J⟩
def De (e:B[i]? =ae a):(B++[D])[i]? =ae a:=by rw[ly (cF.mp e).1];exact e
def yy (hD:D∈j):gW (X.more j) X.bad B (B++[D]) h h:=⟨λu u=>De,λa o G F e u=>⟨λE=>by
 rcases dX.mp E with E |E
 ·exact G E
 ·rw[aJ.mp E]at F;exact F.2 (gO _ hD),F.less,e⟩⟩
def aF.adopt (hD:D∈j)(r:aF (X.more j) B h x v):aF X (B++[D]) h x v:=aF.dK (X:=X.more j) (j:=X.bad) (yy hD) r
def OB.adopt (hD:D∈j)(b:OB (X.more j) B h ao o):OB X (B++[D]) h ao o:=OB.dK (X:=X.more j) (j:=X.bad) (yy hD) b
def Inv.adopt (hD:D∈j)(a0:Inv (X.more j) B I h)(e:h.get? D=ae o)(b:OB (X.more j) B h ao o)(hn:D∉B)(hB:X.base.get? D=ag):Inv X (B++[D]) (I++[ao]) h:=
 a0.snoc (yy hD) (λu E=>hY _ E) (λu u e=>e) hn hB e (b.adopt hD)
def Go.adopt {ex:ah ay}(a0:Go X ex br h₀ B h)(hD:h₀.get? D=ag):Go X ex br h₀ (B++[D]) h:=by
 obtain⟨H,rfl,F⟩:=a0.step.ext;refine⟨⟨a0.step.there,⟨H++[D],jY ..,λa E=>?_⟩,a0.step.keep⟩,a0.fr⟩;rcases dX.mp E with E |E
 ·exact F a E
 ·rw[aJ.mp E];exact hD
def MI (b0:En X U G Q N B h):∀(names:ah (au×l5)) (d0 cs:ah (au×ak)) (c0:ah (au×ay)) (f:au×l5->ah (au×ay)->dn (tY (ah (au×ay)))),
  (∀n kd c,f (n,kd) c=if kd == .free then (do let a0 <-w9 G n;pure (.yield ((n,a0) :: c)))else pure (.yield c))->fW B d0 c0->fK ⟨F,Q,N⟩ names d0=ae cs->∃cl,fW B cs cl/\forIn names c0 f=pure cl:=by
 intro l;induction l with
 |nil=>
  intro d0 cs c0 f D E e;cases e;exact⟨c0,E,by rw[mc]⟩
 |cons J r L=>
  obtain⟨n,kd⟩:=J;intro d0 cs c0 f D E e;have e:(if (kd == kc)=aj then (match Q.lookup n with |some c=>fK ⟨F,Q,N⟩ r ((n,c) :: d0) |none=>ag)else fK ⟨F,Q,N⟩ r d0)=ae cs:=e;rw[pU,D];by_cases M:(kd == kc)=aj
  ·rw[aN M]at e |-;cases K:Q.lookup n with
   |none=>rw[K]at e;cases e
   |some c=>
    rw[K]at e;obtain⟨a,O,R⟩:=b0.cells n c K;obtain⟨cl,I,H⟩:=L ((n,c) :: d0) cs ((n,a) :: c0) f D (.cons O E) e;refine⟨cl,I,?_⟩;rw[show w9 G n=pure a from by unfold cellOf;rw[R]]
    simpa using H
  ·rw[aK M]at e |-;obtain⟨cl,I,H⟩:=L d0 cs c0 f D E e;exact⟨cl,I,by simpa using H⟩
def Df {cs:ah (au×ak)}(a0:En X U G Q N B h)(e:fK ⟨F,Q,N⟩ aP.names []=ae cs):∃cl,fW B cs cl/\closureFor aP G=pure cl:=by
 obtain⟨cl,H,E⟩:=MI a0 (F:=F) aP.names [] cs [] (λx c=>match x with |(n,D)=>if D == .free then (do let a <-w9 G n;pure (.yield ((n,a) :: c)))else pure (.yield c)) (λn D c=>rfl) .nil e;refine⟨cl,H,?_⟩;unfold closureFor;obtain I:(forIn aP.names ([]:ah (au×ay)) λx r=>match x with |(n,D)=>if (D == kc)=aj then do let a <-w9 G n;pure (nv ((n,a) :: r))else pure (nv r))=pure cl:=E;simp only[bind_pure];exact I
theorem MJ (G:bH)(x:au):(relabel aP G).names.lookup x=(aP.names.lookup x).map λk=>if (k == kc && G.scope.kind == .function && G.kindOf x == ae .cell)=aj then .cell else k:=by
 show(aP.names.map λ(n,k)=>if (k == kc && G.scope.kind == .function && G.kindOf n == ae .cell)=aj then (n,oD)else (n,k)).lookup x=_;induction aP.names with
 |nil=>rfl
 |cons p r B=>
  obtain⟨n,k⟩:=p;simp only[f9];have e:(if (k == kc && G.scope.kind == .function && G.kindOf n == ae .cell)=aj then (n,oD)else (n,k))=(n,if (k == kc && G.scope.kind == .function && G.kindOf n == ae .cell)=aj then oD else k):=by split <;>rfl
  rw[e,gv,gv];cases D:x == n with
  |true=>rw[bU.mp D];rfl
  |false=>exact B
def En.relabel {b0:bH}(a0:En X aP b0 Q N B h)(hs:b0.scope=aP):En X aP { b0 with scope:=PySem.relabel aP G } Q N B h:=by
 refine⟨?_,a0.glob,a0.blt,λx=>?_,a0.len,a0.ns,a0.fX,a0.iw,a0.cells⟩
 ·have:=a0.kind;rw[hs]at this;exact this
 ·show uS (cM aP x) ((PySem.relabel aP G).names.lookup x);rw[MJ];unfold cM;cases aP.names.lookup x with
  |none=>trivial
  |some D=>
   cases D with
   |free=>
    show uS (ae .free) (ae (if (kc == kc && G.scope.kind == HQ && G.kindOf x == ae oD)=aj then oD else kc));generalize (kc == kc && G.scope.kind == HQ && G.kindOf x == ae oD)=c;cases c
    ·exact .inr rfl
    ·exact .inl rfl
   |_=>first |rfl |trivial
theorem MK {s:aD}{g0:aH}{d0:bN}{i0:aw}(a0:ak->aD->Prop)(turn:∀n s,a0 n s->aA (aV prog w) A (hZ it) (λr b0=>match r with
   |none=>R (.ok .next) b0
   |some v0=>aA (aV prog w) A (rn target it v0) (λg b0=>aA (aV prog w) A (lr target G v0) (λg f0=>
     aA (aV prog w) A (forIn ifs aj λc r=>if r=aj then do let ok <-tq c G (eval c G);pure (nv ok)else pure (nv r)) (λok c0=>
      if ok=aj then aA (aV prog w) A (eval elt G) (λx h0=>
       aA (aV prog w) A (call (.builtin "list.append") [i0,x]) (λg e0=>∃m,m < n/\a0 m e0) (m9 (aV prog w) A G λe s'=>R (.error e) s') h0) (m9 (aV prog w) A G λe s'=>R (.error e) s') c0
      else ∃m,m < n/\a0 m c0) (m9 (aV prog w) A G λe s'=>R (.error e) s') f0) (m9 (aV prog w) A G λe s'=>R (.error e) s') b0) (m9 (aV prog w) A G λe s'=>R (.error e) s') b0) (m9 (aV prog w) A G λe s'=>R (.error e) s') s)(n:ak)(h:a0 n s):j' (aV prog w) A (.compLoop (.ListComp elt [⟨target,g0,ifs,0⟩] d0 pos) 0 it i0 G) R s:=by
 refine codeAny_loop rfl a0 (λn s K=>?_) n h;show aA _ A ((compTurn (.ListComp elt [⟨target,g0,ifs,0⟩] d0 pos) 0 it i0 G).onRaise (λx=>do noteFrame x G;theTreesLotGoes x)) _ _ s;refine wpAny_noted ?_;rw[compTurn_list];refine wB (jC (wB (eA (turn n s K) (λr b0 B=>?_) λu u H=>H)));cases r with
 |none=>exact aC B
 |some v=>
  refine wB (eA B (λu b0 B=>?_) λu u H=>H);refine wB (eA B (λu f0 E=>wB (eA E (λok c0 D=>?_) λu u H=>H)) λu u H=>H);cases ok with
  |false=>exact aC ⟨rfl,D⟩
  |true=>
   exact wB (wB (eA D (λx h0 F=>wB (eA F (λu e0 J=>aC (aC ⟨rfl,J⟩)) λu u H=>H)) λu u H=>H))
def Dg {l:ay}{x:aw}{a0:aw->aD->Prop}(hl:IsL s.heap l O n)(b0:O.size<=Bc)(hQ:∀H n',IsL H l (O.push x) n'->fk l s.heap H->a0 .none { s with heap:=H }):
  aA (aV prog w) A (call (.builtin "list.append") [.ref l,x]) a0 E s:=
 nj F.slot_list_append ⟨_,hl,rfl⟩ F.entry_list_append (F.args_list_append_2 _ _) (PySem.list_append l O n x b0) ⟨hl,hQ _ _ (hl.update (·.push x)) (dY ..)⟩
def MM (ct:aH->DT):∀(ifs:ah aH),(∀c∈ifs,HT X F k U c (ct c))->∀(b:aB) {A:d8} {l:ah bH} {G:bH} {Q:ah (au×ak)} {N:ah (ax AV)} {B:ah ay} {I:St} {h:aG},Ctx X k U A l G Q N B I h->
  aW X A [] (RB X) B I h (forIn ifs b λc r=>if r=aj then do let ok <-tq c G (eval c G);pure (nv ok)else pure (nv r)) ((ifs.map ct).foldlM (λb t=>if b then t ⟨F,Q,N⟩else P.pure az) b):=by
 intro T;induction T with
 |nil=>
  intro _ b A l G Q N B I h K;intro z W D E H;rw[mc];exact aC (H _ _ _ _ (.refl _) K.inv (.refl ..) _ rfl)
 |cons c ifs R=>
  intro J b A l G Q N B I h K;intro z W D E H;rw[pU];have H:((if b=aj then ct c ⟨F,Q,N⟩else P.pure az)>>=λb=>(ifs.map ct).foldlM (λb t=>if b then t ⟨F,Q,N⟩else P.pure az) b).run I (aL X z [] B h (RB X) D E):=H;cases b with
  |false=>
   rw[aK (by simp)]at H |-;refine wB (aC ?_);exact R (λL O=>J L (.tail _ O)) az K z W D E H
  |true=>
   rw[aN rfl]at H |-;refine wB (wB ?_);refine(J c (.head _) K).then H λV w j o Z x v u Y S M=>?_;obtain rfl:x=v:=S;refine aC ?_;exact R (λL O=>J L (.tail _ O)) x (K.step u Y) V Z D E M
def MN {f0:bH}{z':aD}{t':ak}{ex:ah ay}{b0:aw->aD->Prop}{g0:ax (aw->dn b8)}{j0:aw}{kx:aI}{e:ay}{β α:Type}{R':ah ay->aG->β->α->Prop}{Qf:α->aD->Prop}(K:Ctx X k U A l G Q N B I h)(i0:f0.frame=G.frame)(hC:h.get? f0.locals=ag)(h0:f0.locals∉J)(k0:f0.locals∉X.bad)(p:aL X z ex B h R' Qf E (.err kx) Z)(c0:Zs z z')(a0:Inv X J Z H)(d0:Go X [] B h J H)(hn:H.Ns f0.locals m)(x:eS kx e h H):m9 (MX X) A f0 (λe s'=>xb (MX X) A E g0 b0 j0 f0.locals (.error e) s') (.ref e) (sh z' H t'):=by
 obtain⟨e0,l',rfl,M⟩:=K.top;obtain⟨L,hL⟩:∃L,G.frame=ae L:=by
  obtain⟨_,L,_,q,_⟩:=K.ar.dR e0 (.head _);exact⟨L,M ▸ q⟩
 refine vd (jF:=I) K.ar.frames (M.trans i0.symm) (i0.trans hL) a0 (K.ar.dR.step d0) K.inv d0 x λY O x1=>?_;have w:∃m,(sh z' Y t').heap.Ns f0.locals m/\∀F,fk f0.locals (sh z' Y t').heap F->∀D:bH,D.locals=f0.locals->aA (MX X) A (PySem.passOn "comprehension.variables-let-go" (.ref e) D:dn aw) (λv v=>dm) E { sh z' Y t' with heap:=F }:=by
  refine⟨m,O.ns _ _ hn,λF S D v=>?_⟩;obtain⟨oC,f,l0,eC,dC,kC,_⟩:=O.ns _ _ hn;have fC:gX oC:=⟨f,l0,dC,kC⟩;have hB:X.base.get? f0.locals=ag:=K.inv.ew hC;have I2:Inv X J Z F:=O.inv.sameBut S eC fC h0 hB k0;have G2:Go X [] B h J F:=O.go.sameBut S hC;have u:∀{a:ay} {W:Obj} {V:aZ aw},Y.get? a=ae W->W.data= .fields V->F.get? a=ae W:=λ{a W V} b da=>by
   refine(S.2 a λq=>?_).trans b;rw[q,eC]at b;cases b;rw[dC]at da;cases da
  have F2:Frs X (e0 :: l') J F:=λen R=>by
   obtain⟨q1,L,o,q2,q3,q4,q5,q6⟩:=O.dR en R;refine⟨q1,L,o,q2,q3,q4,(S.2 L λq=>?_).trans q5,q6⟩;obtain⟨_,L',o',r2,_,_,r5,_⟩:=K.ar.dR en R;rw[q2]at r2;cases r2;rw[q,hC]at r5;cases r5
  obtain⟨a1,a2,a3,oe,V,b1,b2,j,b4,T,oT,ts,c1,c2,c3,c4,c5,c6,c7⟩:=id x1;have x2:mC kx e h F:=⟨a1,a2,a3,oe,V,u b1 j,b2,j,b4,T,oT,ts,c1,c2,c3,u c4 c6,c5,c6,c7⟩;unfold PySem.passOn;refine bO (e5 (u b1 j) j c1 ?_);rw[aK (by simp)];refine bO (sd (z:=z') (t:=t') (jF:=I) I2 F2 K.inv G2 x2 λh3 W3 x3=>?_);exact tQ (p z' J h3 t' c0 W3.inv (W3.go.nil _) e x3.exc)
 cases g0 <;>exact w
def aW.qo {ex:ah ay}{α d0 β e0:Type}{R:ah ay->aG->β->α->Prop}{R':ah ay->aG->e0->d0->Prop}{a0:d0->aD->Prop}{t:dn α}{m:P β}{g:β->P e0}(h1:aW (X.more j) A ex R B I h t m)(b0:Zs dE z)(c0:Go X [] br h₀ B h)(hx:∀a∈ex,h₀.get? a=ag)(hr:(m>>=g).run I (aL X dE fH br h₀ R' a0 E)){Q':α->aD->Prop}(hE:∀{kx:aI} {Z:St},aL X dE fH br h₀ R' a0 E (.err kx) Z->∀z' J H t',Zs dE z'->Inv (X.more j) J Z H->Go X [] br h₀ J H->Go X ex B h J H->∀e,eS kx e h₀ H->E' (.ref e) (sh z' H t'))(k:∀z' J Z H t' b a,Zs dE z'->Inv (X.more j) J Z H->Go X ex B h J H->Go X [] br h₀ J H->R J H b a->(g b).run Z (aL X dE fH br h₀ R' a0 E)->Q' a (sh z' H t')):aA (MX X) A t Q' E' (sh z h W):=by
 refine h1 z W Q' E' (m.mono (λr Z y=>?_) (show m.run I _ from hr));intro z' J H t' F D S;obtain G:Go X ex B h J H:=Go.less S;obtain S':=c0.CV G λa L=>.inl (hx a L);cases r with
 |ok b=>exact λa K=>k z' J Z H t' b a (b0.trans F) D G S' K y
 |err k=>exact λe x=>hE y z' J H t' (b0.trans F) D S' G e (x.oU c0.step.there)
set_option maxRecDepth 100000 in
def Dh:Slot "set_iterator" "__iter__" "set_iterator.__iter__":=
 .of (owner:="set_iterator") (n:="__iter__") (by rw[rg,rh];kernel_rfl) (by decide +kernel) (by decide +kernel) (by decide +kernel)
  (by first |exact .inl (by decide +kernel) |exact .inr (by decide +kernel)) (by rw[rj];kernel_rfl)
set_option maxRecDepth 100000 in
def MO (a:aw):pR "set_iterator.__iter__" ⟨[a],[]⟩:=by
 unfold argsOk;rw[signature?_of (id:="set_iterator.__iter__") (n:=['_','_','r','e','t','i','_','_']) (o:=['r','o','t','a','r','e','t','i','_','t','e','s']) (by kernel_rfl) CK];kernel_rfl
set_option maxRecDepth 100000 in
def MP:AJ table "set_iterator.__iter__"=ae j2.«dict_keyiterator.__iter__»:=
 Hh (id':="dict_keyiterator.__iter__") (by kernel_rfl) (by first |rfl |decide +kernel |(unfold String.splitOn;simp +decide [String.splitOnAux])) (by decide +kernel) (by kernel_rfl)
set_option tactic.hygienic true in theorem dT.self {b0 : aw → aD → Prop} (r : dT X B h own ai it) (a0 : Inv X B I h) (MQ : ∀ i, ai = .obj i → ∃ s k, I[i]? = ae (.iter s k)) (hQ : b0 it (sh z h W)) : aA (MX X) A (f5 it) b0 E (sh z h W) := by
 cases r with
 |simple r=>
  cases r with
  |list e hi n b=>exact wpAny_pyIter_listiter (s:=sh z h W) hi hQ
  |range hi n b=>exact HO (s:=sh z h W) hi hQ
  |obj e=>
   rename_i i a;obtain⟨s,k,e1⟩:=MQ i rfl;obtain⟨o,eo,bo⟩:=a0.obj i _ a e1 e;have hc:o.cls= .type "list_iterator":=by cases s with
    |none=>exact bo.1
    |some s=>exact bo.1
   obtain hT:(sh z h W).TypeIs (.ref a) "list_iterator":=⟨_,eo,hc⟩;refine ow hT j6 (gw j6 hT ru ?_ (ry _));exact aC ⟨_,rfl,"list_iterator",_,hT,j3.lookup,hQ⟩
 |enum he n b ne r=>exact HN (s:=sh z h W) he hQ
 |zip hz hI hO n b j xI d r1 r2=>exact HP (s:=sh z h W) hz hQ
 |set n b na xJ ho hd hf kF mE good hi hc=>
  obtain hT:(sh z h W).TypeIs (.ref _) "set_iterator":=⟨_,hi,rfl⟩;refine ow hT Dh (gw Dh hT MP ?_ (MO _));exact aC ⟨_,rfl,"set_iterator",_,hT,vi.lookup,hQ⟩
def Di {l:ah bH}{t d0:aH}{A0:fh}{ce:DE}{ct:aH->DT}{o0:ax (aw->dn b8)}{a0:aw->aD->Prop}{ex:ah ay}{cs:ah (au×ak)}{O0 L0:Type}{R':ah ay->aG->O0->L0->Prop}{Qf:L0->aD->Prop}{g:AV->P O0}(K:Ctx X k U A l G Q N B I h)(hi:HI X F k U d0 ci)(ht:∀j,HA (X.more j) F k aP t ca)(he:∀j,HE (X.more j) F k aP elt ce)(I0:∀j,∀c∈ifs,HT (X.more j) F k aP c (ct c))(hm:iM d0=aj)(C0:e9 aP=aj)(c1:fK ⟨F,Q,N⟩ aP.names []=ae cs)(hr:(ci ⟨F,Q,N⟩>>=λai=>P.guard (fJ t ai=aj)>>=λ_=>cP F aP cs []>>=λr2=>cw ce (ifs.map ct) ca n ai r2 []>>=λl=>cz l>>=g).run I (aL X z ex B h R' Qf E))(j1:∀z' J Z H t' i D C m,Zs z z'->Inv X J Z H->Go X [] B h J H->J[i]? =ae D->H.Ns C m->h.get? C=ag->C∉J->C∉X.bad->(g (.ref i)).run Z (aL X z ex B h R' Qf E)->xb (MX X) A E o0 a0 (.ref D) C (.ok .next) (sh z' H t')):
  aA (MX X) A (comprehension (.ListComp elt [⟨t,d0,ifs,0⟩] aP pos) aP G A0 (wF []) az (eval d0 G) o0) a0 E (sh z h W):=by
 revert X h B I A F U aP k W n E z pos G Q N elt ci ca ifs l t d0 A0 ce ct o0 a0 ex cs O0 L0 R' Qf g K hi ht he I0 hm C0 c1 hr j1;intros _ X h B I A F U aP k W n E z pos G Q N elt ci ca ifs l t;intros _ d0 A0 ce ct o0 a0 ex cs;intros _ O0 L0;intros _ R' Qf g _ K hi ht he I0 hm C0 c1 hr j1;obtain⟨v1,_,_,R0⟩:=CX C0;obtain (⟨cl,L1,d1⟩):=Df K.en c1;refine wpAny_comprehension_free (gs:=[]) (g:=⟨t,d0,ifs,0⟩) rfl (λx=>CO hm G x) d1 v1 R0 ?_;refine hi K z W _ E ((ci ⟨F,Q,N⟩).mono ?_ (show(ci ⟨F,Q,N⟩).run I _ from hr));intros _ f1 E1 _ y;cases f1 with
 |err kx=>exact λz' J H t' R L S e x=>y z' J H t' R L (S.nil _) e x
 |ok ai=>
  intros ai _ y;intros ai _ y;intros _ z1 v0 h1 t1 j p0 it _ Z1 I1 G1 r1 ho b2;obtain⟨F1,y⟩:=a6 (show(P.guard (fJ t ai=aj)>>=λ_=>cP F aP cs []>>=λr2=>cw ce (ifs.map ct) ca n ai r2 []>>=λl=>cz l>>=g).run E1 (aL X z ex B h R' Qf E) from y);refine oh ?_ (by show 0<=2 ^ 24;decide);generalize Z0:({ cls:=.type "list",data:=.seq ([]:ah aw).toArray }:Obj)=Lo;have f:h1.get? h1.objs.size=ag:=eT h1;have p1:(h1.push Lo).get? h1.objs.size=ae Lo:=cV _ (by rw[<-Z0];rfl);have a1:∀b o,h1.get? b=ae o->(h1.push Lo).get? b=ae o:=λb o e=>be _ e;generalize c2:h1.objs.size=D at *;generalize d2:h1.push Lo=h2 at *;have G2:Go X [] B h v0 h2:=G1.trans (Go.keeps X v0 a1 []);have J1:∀b∈[D],h1.get? b=ag:=λb hb=>by rw[aJ.mp hb];exact f
  have I2:Inv ((X.more j).more [D]) v0 E1 h2:=I1.more a1 λb hb=>by rw[aJ.mp hb];exact⟨f,_,p1⟩
  have r2:dT ((X.more j).more [D]) v0 h2 p0 ai it:=(r1.more J1).dr (Dr.keeps [] v0 a1) (λ_ hc=>nomatch hc) (λ_ _ hc=>nomatch hc);have K0:h.get? D=ag:=G1.fresh f;have B0:D∉v0:=(I1.fresh f).1;have eX:(X.more j).more [D]=X.more ([D]++j):=rfl;rw[eX]at I2 r2;generalize R1:[D]++j=bb at *;have V0:D∈bb:=by rw[<-R1];exact .head _
  have j0:D∉p0:=λhm=>by
   obtain⟨_,_,q⟩:=r1.gj D hm;rcases q with q |⟨o,V,q,_⟩
   ·obtain⟨o,e⟩:=I1.gf D q;rw[f]at e;cases e
   ·rw[f]at q;cases q
  refine(vm (F:=F) (X:=X.more bb) (f0:=[]) (vb:=[]) (c0:=ae G) v1 K.en.glob K.en.blt I2 .nil (L1.step G2.step)).qo Z1 G2 (λ_ hm=>nomatch hm) y (λp z' J H t' R L S _ e x=>p z' J H t' R L.less (S.nil _) e x) ?_;intros _ z3 N0 i1 h3 t3 rt T _ Z3 I3 G3 T1 re r0;obtain⟨hF,N3,o1,M1,B1⟩:=re;obtain⟨F',Y,n0⟩:=rt;intros F' Y n0 _ r0 hF N3
  replace hF:F'=F:=hF
  subst F';intros Y n0 _ r0 N3;have M0:T.scope=aP:=by rw[B1];rfl
  have m0:T.frame=G.frame:=by rw[B1];rfl
  have N4:En (X.more bb) aP { T with scope:=PySem.relabel aP G } Y n0 N0 h3:=N3.relabel M0;have Q0:h.get? T.locals=ag:=G2.fresh o1;have y1:T.locals∉X.bad:=λhm=>by obtain⟨o,e⟩:=K.inv.gf _ hm;rw[Q0]at e;cases e
  have l0:T.locals∉p0:=λhm=>by
   obtain⟨_,_,q⟩:=r2.gj _ hm;rcases q with q |⟨o,V,q,_⟩
   ·obtain⟨o,e⟩:=I2.gf _ q;rw[o1]at e;cases e
   ·rw[o1]at q;cases q
  have hx:∀c∈p0,c∉[T.locals]:=λc hc hm=>l0 (aJ.mp hm ▸ hc);have r3:dT (X.more bb) N0 h3 p0 ai it:=r2.step I2 (Go.more G3) (λ_ _ hm=>nomatch hm);have O1:h3.get? D=ae Lo:=G3.seq p1 (by rw[<-Z0]) B0 (I1.fresh f).2.1;have n1:D∉N0:=G3.step.dt p1 B0;have W0:j' (MX X) A (.compLoop (.ListComp elt [⟨t,d0,ifs,0⟩] aP pos) 0 it (.ref D) { T with scope:=PySem.relabel aP G }) (xb (MX X) A E o0 a0 (.ref D) T.locals) (sh z3 h3 t3):=by
   refine MK (λn s=>∃z' J Z H t' b0 g0 u O n',s=sh z' H t'/\Zs z z'/\Inv (X.more bb) J Z H/\Go X [] B h J H/\En (X.more bb) aP { T with scope:=PySem.relabel aP G } Y b0 J H/\dT (X.more bb) J H p0 g0 it/\fJ t g0=aj/\D∉J/\
    H.get? D=ae { cls:=.type "list",data:=.seq (l7 O) n' }/\aT (X.more bb) J H u O/\u.length<=4097/\(cw ce (ifs.map ct) ca n g0 ⟨F,Y,b0⟩ u>>=λl=>cz l>>=g).run Z (aL X z ex B h R' Qf E)) ?_ n
    ⟨z3,N0,i1,h3,t3,n0,ai,[],[],0,rfl,Z3,I3,T1,N4,r3,F1,n1,by rw[O1,<-Z0],.nil,by simp,r0⟩
   intros _ n s _ hh;obtain (⟨z',J,Z,H,t',b0,g0,u,O,n',rfl,Z',I',G',N',r',x1,f0,gD,T0,A1,s0⟩):=hh;have err:∀{kx:aI} {w:St},aL X z ex B h R' Qf E (.err kx) w->∀{z5:aD} {c0:ah ay} {h5:aG} {t5:ak},Zs z z5->Inv (X.more bb) c0 w h5->Go X [] B h c0 h5->(∃o,h5.get? T.locals=ae o/\gX o)/\T.locals∉c0->∀e,eS kx e h h5->
     m9 (MX X) A { T with scope:=PySem.relabel aP G } (λe s'=>xb (MX X) A E o0 a0 (.ref D) T.locals (.error e) s') (.ref e) (sh z5 h5 t5):=by
    intros _ kx w _ p _ z5 c0 h5 t5 _ Z5 I5 G5 N5 _ e _ x;obtain⟨⟨o,eo,es,ep,d,ks⟩,U1⟩:=N5;exact MN (f0:={ T with scope:=PySem.relabel aP G }) (m:=λx=>jw es x) K m0 Q0 U1 y1 p Z5 I5.less G5 ⟨o,es,ep,eo,d,ks,λ_=>rfl⟩ x
   have g1:∀{U0:ah (ax AV)} {c0 i0:ah ay} {h5 h6:aG} {u1:ah ay},En (X.more bb) aP { T with scope:=PySem.relabel aP G } Y U0 c0 h5->Go X u1 c0 h5 i0 h6->(∃o,h6.get? T.locals=ae o/\gX o)/\T.locals∉i0:=by
    intro U0 c0 i0 h5 h6 u1 M S;obtain (⟨m,⟨o,es,ep,e,d,ks,_⟩,_⟩):=M.ns;exact⟨S.fr _ o e M.fX ⟨es,ep,d,ks⟩ M.iw,S.step.dt e M.fX⟩
   cases n with
   |zero=>exact s0.elim
   |succ n=>
    intros n _ s0;intros n _ s0;have s0:(bx g0>>=λo=>(match o with
      |Option.none=>P.pure u
      |some (v,jH)=>ca v ⟨F,Y,b0⟩>>=λN=>(ifs.map ct).foldlM (λb t=>if b then t ⟨F,Y,N⟩else P.pure az) aj>>=λok=>if ok then (P.guard (u.length<=4096)>>=λ_=>ce ⟨F,Y,N⟩>>=λx=>cw ce (ifs.map ct) ca n jH ⟨F,Y,N⟩ (u++[x]))else cw ce (ifs.map ct) ca n jH ⟨F,Y,N⟩ u)>>=λl=>cz l>>=g).run Z (aL X z ex B h R' Qf E):=by
     rw[<-P.g6];exact s0
    refine CN (X:=X.more bb) (target:=t) (I:=Z) (z:=z') (W:=t') r' I' K.ar.handled x1 ((bx g0).mono ?_ (yl g0 (show(bx g0).run Z _ from s0)));intros _ f1 w _ y5;cases f1 with
    |err kx=>exact y5
    |ok o=>cases o with
     |none=>
      intros _ h5 t5 _ I5 D5;have y5:(cz u>>=g).run w (aL X z ex B h R' Qf E):=y5;have G5:Go X [] B h J h5:=G'.dr D5 ho;have J0:h5.get? D=ae { cls:=.type "list",data:=.seq (l7 O) n' }:=D5.keep _ _ gD j0 f0;have k0:=aT.jl (λr=>r.dr D5 r'.gj) T0;have N5:=N'.dr D5 r'.gj l0;obtain⟨hl,y6⟩:=a6 (show(P.guard (u.length<=4096)>>=λ_=>(P.alloc (.list u)>>=λi=>P.pure (.ref i))>>=g).run w (aL X z ex B h R' Qf E) from by
       rw[<-P.g6];exact y5)
      have y6:(g (.ref w.length)).run (w++[.list u]) (aL X z ex B h R' Qf E):=y6;have hB:X.base.get? D=ag:=K.inv.ew K0;have I6:Inv X (J++[D]) (w++[.list u]) h5:=I5.adopt V0 J0 ⟨O,n',rfl,k0,by exact FI 0 4096 0 10000 hl rfl⟩ f0 hB;have G6:Go X [] B h (J++[D]) h5:=G5.adopt K0;obtain (⟨m,w1,_⟩):=N5.ns;have Y0:T.locals≠D:=λq=>by
       obtain (⟨o,es,ep,e,d,_⟩):=w1;have e':h5.get? T.locals=ae o:=e;rw[q,J0]at e';cases e';cases d
      refine j1 z' (J++[D]) (w++[.list u]) h5 t5 w.length D T.locals m Z' I6 G6 (by rw[<-I5.len];simp) w1 Q0 (λhm=>?_) y1 y6;rcases dX.mp hm with hm |hm
      ·exact N5.fX hm
      ·exact Y0 (aJ.mp hm)
     |some q=>
      intros q _ y5;obtain⟨xv,u0⟩:=q;intros xv u0 _ y5;intros xv u0 _ y5;intros _ h5 t5 v _ I5 D5 r5 S0 rv;have y5:((ca xv ⟨F,Y,b0⟩>>=λN=>(ifs.map ct).foldlM (λb t=>if b then t ⟨F,Y,N⟩else P.pure az) aj>>=λok=>if ok then (P.guard (u.length<=4096)>>=λ_=>ce ⟨F,Y,N⟩>>=λx=>cw ce (ifs.map ct) ca n u0 ⟨F,Y,N⟩ (u++[x]))else cw ce (ifs.map ct) ca n u0 ⟨F,Y,N⟩ u)>>=λl=>cz l>>=g).run w (aL X z ex B h R' Qf E):=y5;rw[P.g6]at y5;have G5:Go X [] B h J h5:=G'.dr D5 ho;have J0:h5.get? D=ae { cls:=.type "list",data:=.seq (l7 O) n' }:=D5.keep _ _ gD j0 f0;have k0:=aT.jl (λr=>r.dr D5 r'.gj) T0;have N5:=N'.dr D5 r'.gj l0;have K5:Ctx (X.more bb) k aP A l { T with scope:=PySem.relabel aP G } Y b0 J w h5:=⟨K.ok.more,(K.ar.step G5).more,by obtain (⟨e0,l',q1,q2⟩):=K.top;exact⟨e0,l',q1,q2.trans m0.symm⟩,I5,N5,λq=>(yr C0 q).elim⟩;have W1:∀a∈[T.locals],h.get? a=ag:=λa hm=>by rw[aJ.mp hm];exact Q0
      refine(ht bb K5 rv).qo Z' G5 W1 y5 (λp z6 i0 h6 t6 Z6 I6 G6 Gx e x=>err p Z6 I6 G6 (g1 N5 Gx) e x) ?_;intros _ z6 i0 Q1 h6 t6 y0 u6 _ Z6 I6 P0 G6 N6 y6;have K6:Ctx (X.more bb) k aP A l { T with scope:=PySem.relabel aP G } Y y0 i0 Q1 h6:=⟨K.ok.more,(K.ar.step G6).more,K5.top,I6,N6,λq=>(yr C0 q).elim⟩;have r6:=r5.step I5 (Go.more P0) hx;have s1:=P0.seq J0 rfl f0 (I1.fresh f).2.1;have G0:D∉i0:=P0.step.dt J0 f0;have l1:=k0.step (Go.more P0).step;rw[P.g6]at y6;refine(MM ct ifs (I0 bb) aj K6).qo Z6 G6 (λ_ hm=>nomatch hm) y6 (λp z7 m1 h7 t7 Z7 I7 G7 Gx e x=>err p Z7 I7 G7 (g1 N6 Gx) e x) ?_;intros _ z7 m1 K1 h7 t7 ok Y1 _ Z7 I7 E0 G7 a2 y7;obtain rfl:ok=Y1:=a2;have K7:=K6.step I7 (Go.more E0);have r7:=r6.step I6 (Go.more E0) (λ_ _ hm=>nomatch hm);have e1:=E0.seq s1 rfl G0 (I1.fresh f).2.1;have h0:D∉m1:=E0.step.dt s1 G0;have F0:=l1.step (Go.more E0).step;cases ok with
      |false=>exact⟨n,jD n,z7,m1,K1,h7,t7,y0,u0,u,O,n',rfl,Z7,I7,G7,K7.en,r7,S0,h0,e1,F0,A1,y7⟩
      |true=>
       rw[aN rfl];rw[aN rfl,P.g6]at y7;obtain⟨D1,y7⟩:=a6 y7;rw[P.g6]at y7;refine(he bb K7).qo Z7 G7 (λ_ hm=>nomatch hm) y7 (λp z8 z0 h8 t8 Z8 I8 G8 Gx e x=>err p Z8 I8 G8 (g1 K7.en Gx) e x) ?_;intros _ z8 z0 N1 h8 t8 xe ve _ Z8 I8 w0 G8 re y8;have K8:=K7.step I8 (Go.more w0);have r8:=r7.step I7 (Go.more w0) (λ_ _ hm=>nomatch hm);have C1:=w0.seq e1 rfl h0 (I1.fresh f).2.1;have x0:D∉z0:=w0.step.dt e1 h0;have H0:=F0.step (Go.more w0).step;refine Dg (s:=sh z8 h8 t8) C1 (by rw[cG,H0.length,fF];exact FI 0 4096 0 16777216 D1 rfl) ?_;intros _ h9 n9 _ b1 S1;rw[List.push_toArray]at b1;have OD:eF (X.more bb) z0 h8 [D]:=λc hc=>by
        rw[aJ.mp hc];exact⟨x0,K.inv.ew K0,.inl (gO _ V0)⟩
       have D9:Dr [D] [] h8 h9:=Dr.same (.head _) S1 b1;have Y0:T.locals∉[D]:=λhm=>by
        obtain (⟨m,⟨o,es,ep,e,d,_⟩,_⟩):=K8.en.ns;have e':h8.get? T.locals=ae o:=e;rw[aJ.mp hm,C1]at e';cases e';cases d
       have H1:Go X [] B h z0 h9:=G8.dr D9.widen (λc hc=>by rw[aJ.mp hc];exact K0);exact⟨n,jD n,z8,z0,N1,h9,t8,y0,u0,u++[xe],O++[ve],n9,rfl,Z8,I8.dr OD D9,H1,K8.en.dr D9.widen OD Y0,r8.dr D9.widen OD (λc hc hm=>j0 (aJ.mp hm ▸ hc)),S0,x0,b1,
        (H0.append (.cons re .nil)).jl (λr=>r.dr D9.widen OD),by simp;exact D1,y8⟩
  refine codeAny_compStart_list W0 ?_;refine dT.self (X:=X.more bb) (I:=i1) r3 I3 ?_ W0;intros _ i _ hi;subst hi;cases n with
  |zero=>exact r0.elim
  |succ n=>
   intros n _ hr y r0;have X1:(bx (.obj i)).run i1 _:=r0;obtain⟨o,e,P1⟩:=eU X1;cases o with
   |iter s kk=>exact⟨s,kk,e⟩
   |_=>exact P1.elim
def Dj {t a0:aH}{ce:DE}{ct:aH->DT}(hi:HI X F k U a0 ci)(ht:∀j,HA (X.more j) F k aP t ca)(he:∀j,HE (X.more j) F k aP elt ce)(c0:∀j,∀c∈ifs,HT (X.more j) F k aP c (ct c)):
  HE X F k U (.ListComp elt [⟨t,a0,ifs,0⟩] aP pos) (λrt=>do
   P.guard (iM a0=aj)
   P.guard (e9 aP=aj)
   let cs <-P.opt (fK rt aP.names [])
   let b0 <-ci rt
   P.guard (fJ t b0=aj)
   let r2 <-cP rt.F aP cs []
   let l0 <-cw ce (ifs.map ct) ca n b0 r2 []
   cz l0):=by
 intro A l G Q N B I h K z W L E M;obtain⟨hm,M⟩:=a6 M;obtain⟨Y,M⟩:=a6 M;obtain⟨cs,V,M⟩:=c9 M;rw[eval_ListComp];have qj:(ci ⟨F,Q,N⟩>>=λb=>P.guard (fJ t b=aj)>>=λv=>cP F aP cs []>>=λr2=>cw ce (ifs.map ct) ca n b r2 []>>=λl=>cz l>>=P.pure).run I (aL X z [] B h (RV X) L E):=by
  obtain e:∀l,(cz l>>=P.pure)=cz l:=λl=>by
   show(⟨_,_⟩:P AV)=_
   congr 1
   try (funext I p;show(cz l).run I _=(cz l).run I p;congr 1;funext r Z;cases r <;>rfl)
  simp only[e];exact M
 refine Di (o0:=ag) (g:=P.pure) K hi ht he c0 hm Y V qj λz' J Z H t' i D C m Z' I' G' hD R S O u T=>?_;refine⟨m,R,λh2 w=>?_⟩;obtain⟨o,f,ep,e,d,ks,_⟩:=R;exact T z' J h2 t' Z' (I'.sameBut w e ⟨f,ep,d,ks⟩ O (K.inv.ew S) u) (G'.sameBut w S) _ (.ref hD)
def MS {N:ah (ax AV)}{t:aH}{a:DA}(hd:HE X F k U e d)(ha:HA X F k U t a)(K:Ctx X k U A l G Q N B I h)(a0:oo e (ae t) pos.line G=pure az)(hq:kn e=az)(hp:dg t=aj):
  aW X A [G.locals] (RS X U G Q) B I h (exec (.Assign [t] e pos) G) (d ⟨F,Q,N⟩>>=λv=>a v ⟨F,Q,N⟩>>=λN=>P.pure (.next,N)):=by
 intro z W D E j;rw[wL];refine wB (jC ?_);show aA _ _ (oo e (ae t) pos.line G>>=_) _ _ _;rw[a0];refine bO (aC ?_);rw[aK (by simp)];refine wB ?_;refine(hd K).value j λz1 Y T o f x v V u M H=>?_;rw[vg hq];refine wB (aC ?_);rw[qh t [] G hp];show aA _ _ (lr t G v>>=λy=>pure Flow.next) _ _ _;refine wB ?_;refine(ha (K.step V u) M).then H λz2 S O b w L y Z m R J=>?_;exact aC (J _ _ _ _ (.refl _) Z (.refl ..) _ ⟨.next,R⟩)
def MT {a0:ah Comprehension}{b0:fh}(t:aH)(c0:ak)(G:bH):∃b,oo (.ListComp elt a0 aP b0) (ae t) c0 G=pure b/\(b=aj->∃y py,t= .Name y py):=by
 cases t with
 |Name y py=>exact⟨_,rfl,λu=>⟨y,py,rfl⟩⟩
 |_=>exact⟨az,rfl,λq=>by cases q⟩
theorem MU {t a0 c0:aH}{b0:fh}{ce:DE}{ct:aH->DT}{a:DA}(hi:HI X F k U a0 ci)(ht:∀j,HA (X.more j) F k aP t ca)(he:∀j,HE (X.more j) F k aP elt ce)(d0:∀j,∀c∈ifs,HT (X.more j) F k aP c (ct c))(ha:HA X F k U c0 a):
  HS X F k U (.Assign [c0] (.ListComp elt [⟨t,a0,ifs,0⟩] aP b0) pos) (λrt=>do
   P.guard (kn (.ListComp elt [⟨t,a0,ifs,0⟩] aP b0)=az/\dg c0=aj)
   let v0 <-(do
    P.guard (iM a0=aj)
    P.guard (e9 aP=aj)
    let cs <-P.opt (fK rt aP.names [])
    let e0 <-ci rt
    P.guard (fJ t e0=aj)
    let r2 <-cP rt.F aP cs []
    let l0 <-cw ce (ifs.map ct) ca n e0 r2 []
    cz l0)
   let f0 <-a v0 rt
   P.pure (.next,f0)):=by
 intros _ A l G Q N B I h _ K _ z W L E _ M;obtain⟨⟨hq,hp⟩,M⟩:=a6 M;obtain⟨b,hb,m0⟩:=MT (elt:=elt) (a0:=[⟨t,a0,ifs,0⟩]) (aP:=aP) (b0:=b0) c0 pos.line G;cases b with
 |false=>
  exact MS (d:=λrt=>do
    P.guard (iM a0=aj)
    P.guard (e9 aP=aj)
    let cs <-P.opt (fK rt aP.names [])
    let O <-ci rt
    P.guard (fJ t O=aj)
    let r2 <-cP rt.F aP cs []
    let l <-cw ce (ifs.map ct) ca n O r2 []
    cz l) (Dj hi ht he d0) ha K hb hq hp z W L E M
 |true=>
  obtain (⟨y,py,rfl⟩):=m0 rfl;rw[exec_Assign_Name_used _ _ _ _ hb];refine wB (jC (wB ?_));have M:((P.guard (iM a0=aj)>>=λp=>P.guard (e9 aP=aj)>>=λp=>P.opt (fK ⟨F,Q,N⟩ aP.names [])>>=λcs=>ci ⟨F,Q,N⟩>>=λO=>P.guard (fJ t O=aj)>>=λp=>cP F aP cs []>>=λr2=>cw ce (ifs.map ct) ca n O r2 []>>=λl=>cz l)>>=λv=>a v ⟨F,Q,N⟩>>=λN=>P.pure (FL.next,N)).run I (aL X z [G.locals] B h (RS X U G Q) L E):=M;rw[P.g6]at M;obtain⟨hm,M⟩:=a6 M;rw[P.g6]at M;obtain⟨r0,M⟩:=a6 M;rw[P.g6]at M;obtain (⟨cs,j0,M⟩):=c9 M;have qj:(ci ⟨F,Q,N⟩>>=λO=>P.guard (fJ t O=aj)>>=λp=>cP F aP cs []>>=λr2=>cw ce (ifs.map ct) ca n O r2 []>>=λl=>cz l>>=λv=>a v ⟨F,Q,N⟩>>=λN=>P.pure (FL.next,N)).run I (aL X z [G.locals] B h (RS X U G Q) L E):=by
   rw[P.g6]at M;refine(ci ⟨F,Q,N⟩).mono (λr Z y=>?_) (show(ci ⟨F,Q,N⟩).run I _ from M);cases r with
   |err kx=>exact y
   |ok O=>
    have y:((P.guard (fJ t O=aj)>>=λp=>cP F aP cs []>>=λr2=>cw ce (ifs.map ct) ca n O r2 []>>=λl=>cz l)>>=λv=>a v ⟨F,Q,N⟩>>=λN=>P.pure (FL.next,N)).run Z (aL X z [G.locals] B h (RS X U G Q) L E):=y;rw[P.g6]at y;refine(P.guard (fJ t O=aj)).mono (λr Z y=>?_) (show(P.guard (fJ t O=aj)).run Z _ from y);cases r with
    |err kx=>exact y
    |ok _=>
     have y:((cP F aP cs []>>=λr2=>cw ce (ifs.map ct) ca n O r2 []>>=λl=>cz l)>>=λv=>a v ⟨F,Q,N⟩>>=λN=>P.pure (FL.next,N)).run Z (aL X z [G.locals] B h (RS X U G Q) L E):=y;rw[P.g6]at y;refine(cP F aP cs []).mono (λr Z y=>?_) (show(cP F aP cs []).run Z _ from y);cases r with
     |err kx=>exact y
     |ok r2=>
      have y:((cw ce (ifs.map ct) ca n O r2 []>>=λl=>cz l)>>=λv=>a v ⟨F,Q,N⟩>>=λN=>P.pure (FL.next,N)).run Z (aL X z [G.locals] B h (RS X U G Q) L E):=y;rw[P.g6]at y;exact y
  show aA _ A (do let _ <-comprehension (.ListComp elt [⟨t,a0,ifs,0⟩] aP b0) aP G _ (wF []) az (eval a0 G) (ae (lr (.Name y py) G))) _ _ _;refine wB (eA (Di (o0:=ae (lr (.Name y py) G)) (a0:=λp s'=>L .next s') (g:=λv=>a v ⟨F,Q,N⟩>>=λN=>P.pure (FL.next,N)) K hi ht he d0 hm r0 j0 qj ?_) (λp s' q=>aC (aC q)) λp p q=>q);intros _ z' J Z H t' i D C m _ Z' I' G' hD k0 S T n0 i0;show aA (MX X) A (lr (.Name y py) G (.ref D)) _ E (sh z' H t');obtain K':=K.step I' G';refine(ha K' (.ref hD)).inner Z' (G'.nil [G.locals]) (λa hm=>.inr hm) i0 (λy=>y.same) ?_;intros _ z3 u x0 h3 t3 w0 y0 _ Z3 I3 G3 p0 R u0;obtain (⟨o,es,ep,e,d,ks,s0⟩):=k0;have Y:C∉[G.locals]:=λV=>by
   obtain (⟨m2,⟨o2,_,_,f,_⟩,_⟩):=K.en.ns;rw[<-aJ.mp V,S]at f;cases f
  obtain (⟨o',e',ko⟩):=G3.step.keep C o e T (K.inv.gZ (K.inv.ew S)) (λV=>absurd V Y);have d':o'.data= .dict es ep:=ko.data.trans d;refine⟨m,⟨o',es,ep,e',d',ks,s0⟩,?_⟩;intros _ h4 _ w;obtain o0:C∉u:=G3.step.dt e T;obtain I4:=I3.sameBut w e' ⟨es,ep,d',ks⟩ o0 (K.inv.ew S) n0;obtain G4:=p0.sameBut w S;refine u0 z3 u h4 t3 Z3 I4 G4 .next ⟨.next,?_⟩;refine⟨R.kind,R.glob,R.blt,R.kinds,R.len,?_,R.fX,R.iw,R.cells⟩;obtain (⟨m3,⟨o3,g0,h0,e3,r3⟩,q3⟩):=R.ns;exact⟨m3,⟨o3,g0,h0,(w.2 _ λq=>Y (by rw[q];exact .head _)).trans e3,r3⟩,λx i v e1 f e4=>by obtain⟨v',a1,a2⟩:=q3 x i v e1 f e4;exact⟨v',a1,a2.sameBut w e' ⟨es,ep,d',ks⟩⟩⟩
theorem yz {x:au}{v:AV}{c0:aw->aD->Prop}(C:cn X)(a0:Inv X B I h)(b0:En X U G Q N B h)(hk:cM U x=ae .globalImplicit)(hg:p8 x=ae v)(hn:(x == aq "__debug__" || x == aq "__classdict__")=az)(hQ:∀v',SV X v v'->c0 v' (sh z h W)):
  aA (MX X) A (eval (.Name x p) G) c0 E (sh z h W):=by
 rw[HU]at hn;have oW:=b0.kinds x;rw[hk]at oW;refine wpAny_Name ?_ hn.1;obtain⟨J,H,D,F,r⟩:=C.gl;have q:aA (MX X) A (loadGlobal G x) c0 E (sh z h W):=by
  rcases r x v hg with ⟨v',e,sv⟩ |⟨e0,v',e,sv⟩
  ·exact PySem.Calls.loadGlobal_global (by rw[b0.glob];exact a0.ns D (by decide)) e (hQ _ sv)
  ·exact PySem.Calls.loadGlobal_builtin (by rw[b0.glob];exact a0.ns D (by decide)) e0 (by rw[b0.blt];exact a0.ns F (by decide)) e (hQ _ sv)
 rw[loadName_read b0.kind oW];exact q
theorem MV {x:au}{v:AV}{rt:RT}{p:Res (ah (ax AV))->St->Prop}(hr:(nameA U x v rt).run I p):(nameA U x v rt).run I (λr Z=>match r with |.ok b0=>p (.ok b0) Z |.err _=>dm):=by
 unfold nameA at hr |-;cases B:cM U x with
 |none=>rw[B]at hr;exact hr.elim
 |some E=>
  rw[B]at hr;cases E with
  | «local»=>
   dsimp only at hr |-;cases D:lH U x with
   |none=>rw[D]at hr;exact hr.elim
   |some i=>rw[D]at hr;exact hr
  |cell=>
   dsimp only at hr |-;unfold km at hr |-;obtain⟨c,F,hr⟩:=c9 hr;obtain⟨o,G,hr⟩:=eU hr;rw[F];show(P.load c>>=_).run I _;rw[P.run_bind,P.run_load G];cases o with
   |cell w=>exact hr
   |_=>exact hr.elim
  |_=>exact hr.elim
def Dk {c0:b8->aD->Prop}(a0:Inv X B I h)(b0:En X U G Q N B h)(hx:aF X B h x v)(n:au){β:Type}{g:ah (ax AV)->P β}{p:Res β->St->Prop}(hr:(nameA U n x ⟨F,Q,N⟩>>=g).run I p)(hQ:∀z' J Z H t' d0,Zs z z'->Inv X J Z H->Go X [G.locals] B h J H->En X U G Q d0 J H->(g d0).run Z p->c0 () (sh z' H t')):aA (MX X) A (qY G n v) c0 E (sh z h W):=by
 refine xY (F:=F) a0 b0 hx n z W c0 E ((nameA U n x ⟨F,Q,N⟩).mono (λr Z y=>?_) (MV (show(nameA U n x ⟨F,Q,N⟩).run I _ from hr)));cases r with
 |ok d0=>exact λz' J H t' D M L u K=>hQ z' J Z H t' d0 D M L K y
 |err _=>exact y.elim
def Dl:lB (.type "AttributeError") (.type "AttributeError")=pure aj:=oG (by decide +kernel)
def Dm:lB (.type "AttributeError") (.type "BaseException")=pure aj:=oG (by decide +kernel)
def MW:lB (.type "TypeError") (.type "BaseException")=pure aj:=oG (by decide +kernel)
def MY:lB (.type "TypeError") (.type "TypeError")=pure aj:=oG (by decide +kernel)
def MZ:lB (.type "TypeError") (.type "AttributeError")=pure az:=oG (by decide +kernel)
def M4:lB (.type "AttributeError") (.type "TypeError")=pure az:=oG (by decide +kernel)
def Dn:lB (.type ((HV "AttributeError").elim "type" λx=>x.metatype)) (.type "tuple")=pure az:=oG (by decide +kernel)
def M6:lB (.type ((HV "TypeError").elim "type" λx=>x.metatype)) (.type "tuple")=pure az:=oG (by decide +kernel)
def Ds {n:au}(h:uK e=ae n):∃p,e= .Name n p:=by
 cases e with
 |Name m p=>exact⟨p,bZ (Expr.Name · p) (dp h)⟩
 |_=>exact gh h
def M7 {c:n5}(h:constOf e=ae c):∃k p,e= .Constant c k p:=by
 cases e with
 |Constant d k p=>exact⟨k,p,bZ (Expr.Constant · k p) (dp h)⟩
 |_=>exact gh h
def M8 {es:ah aH}(h:uL e=ae es):∃k p,e= .Tuple es k p:=by
 cases e with
 |Tuple d k p=>exact⟨k,p,bZ (Expr.Tuple · k p) (dp h)⟩
 |_=>exact gh h
def M9 (h:BW e=aj):∃p,e= .List [] p:=by
 cases e with
 |List B p=>exact⟨p,bZ (Expr.List · p) (ua.mp h)⟩
 |_=>exact Az h
def yA {l:ah aH}{n:au}{ns:ah au}(h:namesOf l=ae (n :: ns)):∃p r,l= .Name n p :: r/\namesOf r=ae ns:=by
 cases l with
 |nil=>cases h
 |cons e l=>
  obtain⟨m,F,h⟩:=qT.mp h;obtain⟨H,G,D⟩:=jZ.mp h;obtain⟨p,q⟩:=Ds F;obtain⟨B,E⟩:=List.cons.inj D;rw[q,B];exact⟨p,l,rfl,G.trans (bZ ae E)⟩
def Dt {l:ah aH}(h:namesOf l=ae []):l=[]:=by
 cases l with
 |nil=>rfl
 |cons e l=>
  obtain⟨m,D,h⟩:=qT.mp h;obtain⟨E,F,B⟩:=jZ.mp h;cases B
theorem Na {c:aH}{f:aI->aB}(h:takes c=ae f):(∃p,c= .Name (aq "AttributeError") p/\f=λk=>k == "AttributeError")\/
  ∃p1 p2 kk tp,c= .Tuple [.Name (aq "TypeError") p1,.Name (aq "AttributeError") p2] kk tp/\f=λk=>k == "TypeError" || k == "AttributeError":=by
 unfold takes at h;cases F:uL c with
 |none=>
  rw[F]at h;obtain⟨B,h⟩:=tH.mp h;obtain⟨p,q⟩:=Ds B;exact .inl ⟨p,q,(dp h).symm⟩
 |some I=>
  rw[F]at h;obtain⟨B,h⟩:=tH.mp h;obtain⟨p1,r,G,D⟩:=yA B;obtain⟨p2,J,H,E⟩:=yA D;obtain⟨kk,tp,q⟩:=M8 F;rw[G,H,Dt E]at q;exact .inr ⟨p1,p2,kk,tp,q,(dp h).symm⟩
def yB {α:Type}{l:ah α}{x:α}(h:l.head? =ae x)(h1:l.length=1):l=[x]:=by
 obtain⟨y,rfl⟩:=Hs.mp h1;cases h;rfl
theorem Nb {hb:ah dy}{c0:Flow->aD->Prop}(d0:Zs dE z)(a0:Inv X B I h)(b0:En X U G Q N B h)(e0:Go X [G.locals] br h₀ B h)(hr:(rP U hb ⟨F,Q,N⟩).run I (aL X dE [G.locals] br h₀ (RS X U G Q) c0 E)):aA (MX X) A (execs hb G) c0 E' (sh z h W):=by
 obtain⟨s,J,D⟩:=c9 hr;clear hr;obtain⟨b,hr⟩:=a6 D;clear D;rw[yB J b];cases s with
 |Pass p=>
  refine tP (wpAny_Pass (q8 ?_));exact hr _ _ _ _ d0 a0 e0 _ ⟨.next,b0⟩
 |Assign ts e V=>
  obtain⟨m,q,D⟩:=c9 hr;clear hr;obtain⟨x,S,H⟩:=c9 D;clear D;obtain⟨f,D⟩:=a6 H;clear H;rw[yB S f]at q;obtain⟨K,r,J,Y⟩:=yA q;rw[Dt Y]at J;subst J;obtain⟨c,q,H⟩:=c9 D;clear D;obtain⟨kk,O,J⟩:=M7 q;subst J;obtain⟨v,R,hr⟩:=c9 H;clear H;refine tP ?_;rw[wL];refine wB (jC ?_);show aA _ _ (oo (.Constant c kk O) (ae (.Name x K)) V.line G>>=_) _ _ _;rw[ya rfl];refine bO (aC ?_);rw[aK (by simp)];refine wB (yw (X:=X) (h:=h) R kk O λval k o=>?_);rw[vg rfl];refine wB (aC ?_);rw[qh (.Name x K) [] G rfl];show aA _ _ (lr (.Name x K) G val>>=λy=>pure Flow.next) _ _ _;refine wB (assign_Name ?_);refine Dk (F:=F) a0 b0 (o B h) x hr λz1 w l h1 k M T u L j D=>?_;exact aC (q8 (D _ _ _ _ (d0.trans T) u (e0.trans L) _ ⟨.next,j⟩))
 |Return e q=>
  obtain⟨J,q,D⟩:=c9 hr;clear hr;subst q;obtain⟨q,hr⟩:=a6 D;clear D;obtain⟨p,q⟩:=M9 q;subst q;obtain⟨_,hr⟩:=a6 (show(P.guard (([]:ah AV).length<=4096)>>=λy=>P.alloc (.list [])>>=λi=>P.pure (FL.ret (.ref i),N)).run I _ from hr);have hr:aL X dE [G.locals] br h₀ (RS X U G Q) c0 E (.ok (.ret (.ref I.length),N)) (I++[.list []]):=hr;refine tP (He (List_ ?_));refine Au ?_;refine oh ?_ (cZ _);obtain L:=Go.alloc X [G.locals] B h { cls:=.type "list",data:=.seq ([]:ah aw).toArray };obtain CI:=Go.alloc X [] B h { cls:=.type "list",data:=.seq ([]:ah aw).toArray };refine hr _ _ _ _ d0 (a0.alloc (ao:=.list []) ⟨[],0,rfl,.nil,by simp⟩ rfl) (e0.trans L) _ ⟨.ret (.ref ?_),b0.step a0 CI⟩;rw[<-a0.len];simp
 |_=>exact hr.elim
def Nc {hb:ah dy}{rt:RT}{p:Res (FL×ah (ax AV))->St->Prop}(hr:(rP U hb rt).run I p):∃Nd Nf,hb=Nd :: Nf:=by
 obtain⟨s,B,hr⟩:=c9 hr;exact⟨s,[],yB B (a6 hr).1⟩
theorem Ng {k:ak}{x:au}{np ap hp:fh}{c:aH}{hb o:ah dy}{dS:DS}(hd:HE X F k U e d)(ho:iO X F k U o dS):
  HS X F k U (.Try [.Assign [.Name x np] e ap] [.ExceptHandler (ae c) ag hb hp] o [] pos) (λrt=>do
   P.guard (nE e=aj/\kn e=az/\BX U c=aj)
   P.uC (d rt) (λv=>do
     let g0 <-nameA U x v rt
     dS { rt with loc:=g0 })
    λk=>match takes c with
     |some f0=>if f0 k then rP U hb rt else P.fail
     |Option.none=>P.fail):=by
 intros _ A l G Q N B I h _ K _ z W D E _ hr;obtain⟨⟨g1,g2,S⟩,hr⟩:=a6 hr;refine wpAny_Try_except ?_;refine tP ?_;rw[wL];refine wB (jC ?_);show aA _ _ (oo e (ae (.Name x np)) ap.line G>>=_) _ _ _;rw[ya g1];refine bO (aC ?_);rw[aK (by simp)];refine wB ?_;refine hd K z W _ _ ((d ⟨F,Q,N⟩).mono ?_ (show(d ⟨F,Q,N⟩).run I _ from hr));intros _ r b _ y;intros _ z1 H h1 t1 _ Z1 I1 G1;have N1:=K.en.step K.inv G1;cases r with
 |ok v=>
  intro val rv;rw[vg g2];refine wB (aC ?_);rw[qh (.Name x np) [] G rfl];show aA _ _ (lr (.Name x np) G val>>=λa=>pure Flow.next) _ _ _;refine wB (assign_Name ?_);refine Dk (F:=F) I1 N1 rv x (show(nameA U x v ⟨F,Q,N⟩>>=λh0=>dS ⟨F,Q,h0⟩).run b _ from y) ?_;intro z2 p0 r0;intros _ h2 _ t2 d0 Z2 I2 G2 N2 k0;refine aC (q8 ?_);have b0:=(G1.nil [G.locals]).trans G2;exact ho (K.next I2 b0 N2) z2 t2 D E ((dS ⟨F,Q,d0⟩).mono (λa a p=>p.shift (Z1.trans Z2) b0) k0)
 |err R=>
  intros R _ y;intros _ m _ xa;obtain (⟨e0,l',rfl,a0⟩):=K.top;obtain⟨L,hL⟩:∃L,G.frame=ae L:=by
   obtain⟨_,L,_,q,_⟩:=K.ar.dR e0 (.head _);exact⟨L,a0 ▸ q⟩
  obtain R1:=K.ar.dR.step G1;refine vd (jF:=I) K.ar.frames a0 hL I1 R1 K.inv (G1.nil [G.locals]) xa ?_;intros _ h2 _ W2 x2;refine sd (jF:=I) W2.inv W2.dR K.inv W2.go x2 ?_;intros _ w _ M x3;have N3:=(M.en (W2.en N1))
  change ((match takes c with
     |some f=>if f R then rP U hb ⟨F,Q,N⟩else P.fail
     |Option.none=>P.fail):P _).run b _ at y
  cases ht:takes c with
  |none=>rw[ht]at y;exact y.elim
  |some f=>
   intros f _ ht;rw[ht]at y;dsimp only at y;cases Y:f R with
   |false=>rw[Y]at y;exact y.elim
   |true=>
    rw[Y,aN rfl]at y;obtain (⟨Z,O,rfl⟩):=Nc y;have i0:∀(J:aG),Inv X H b J->Go X [G.locals] B h H J->Frs X (e0 :: l') H J->En X U G Q N H J->mC R m h J->∀(A':d8) (E':aw->aD->Prop) (t4:ak),
      aA (MX X) A' (setFlight (.ref m) ag) (λa c0=>aA (MX X) A' (execs (Z :: O) G) D E' c0) E' (sh z1 J t4):=by
     intro J I4 G4 R4 N4 x4 A' E' t4;refine sd (jF:=I) I4 R4 K.inv G4 x4 λh5 W5 x5=>?_;exact Nb (F:=F) Z1 W5.inv (W5.en N4) W5.go y
    have u:∀(J:aG) (t4:ak),mC R m h J->(sh z1 J t4).TypeIs (.ref m) R:=λJ t4 x4=>by
     obtain⟨_,_,_,oe,_,q1,q2,_⟩:=x4;exact⟨oe,q1,q2⟩
    rcases Na ht with ⟨p,rfl,rfl⟩ |⟨p1,p2,kk,tp,rfl,rfl⟩
    ·dsimp only at Y;rw[bU]at Y;subst Y;have S:cM U (aq "AttributeError")=ae .globalImplicit:=bU.mp (bW.mp S _ (.head _));refine wpAny_handleBy_builtin (X:="AttributeError") (T:="AttributeError") (b:=aj) Dm Dn Dl ?_;refine yz (v:=.ty "AttributeError") K.ok M.inv N3 S (by kernel_rfl) (by decide +kernel) λv' sv=>?_;cases sv H w
     ·refine⟨rfl,u _ _ x3,?_⟩;rw[aN rfl];exact i0 w M.inv M.go M.dR N3 x3 _ _ _
    ·dsimp only at Y;have S:cM U (aq "TypeError")=ae .globalImplicit/\cM U (aq "AttributeError")=ae .globalImplicit:=⟨bU.mp (bW.mp S _ (.head _)),bU.mp (bW.mp S _ (.tail _ (.head _)))⟩;have j:∀{b1 b2:aB},lB (.type R) (.type "TypeError")=pure b1->lB (.type R) (.type "AttributeError")=pure b2->(b1 || b2)=aj->
       aA (MX X) A (handleBy (.ref m) G [.ExceptHandler (ae (.Tuple [.Name (aq "TypeError") p1,.Name (aq "AttributeError") p2] kk tp)) ag (Z :: O) hp]) D E (sh z1 w t1):=by
      intros _ b1 b2 _ s1 s2 hb;refine wpAny_handleBy_tup2 (T1:="TypeError") (T2:="AttributeError") MW M6 Dm Dn s1 s2 ?_;refine Tuple_ (Av ?_ rfl);refine yz (v:=.ty "TypeError") K.ok M.inv N3 S.1 (by kernel_rfl) (by decide +kernel) λv1 n0=>?_;cases n0 H w;refine Av ?_ rfl;refine yz (v:=.ty "AttributeError") K.ok M.inv N3 S.2 (by kernel_rfl) (by decide +kernel) λv2 m0=>?_;cases m0 H w;refine Au ?_;refine m6 ?_ (by show 2<=2 ^ 24;decide);obtain I4:=M.inv.push { cls:=.type "tuple",data:=.seq [lA "TypeError",.type "AttributeError"].toArray };have G4:=Go.push X [] H w { cls:=.type "tuple",data:=.seq [lA "TypeError",.type "AttributeError"].toArray };have x4:mC R m h (w.push { cls:=.type "tuple",data:=.seq [lA "TypeError",.type "AttributeError"].toArray }):=by
       obtain⟨a1,a2,a3,j0⟩:=x3;obtain (⟨oe,V,l0⟩):=j0;obtain (⟨b1,b2,b3,b4,o0⟩):=l0;obtain (⟨T,oT,ts,c1,c2,c3,c4,c5⟩):=o0;exact⟨a1,a2,a3,oe,V,be _ b1,b2,b3,b4,T,oT,ts,c1,c2,c3,be _ c4,c5⟩
      refine⟨_,rfl,IsTup.new _ _,u _ _ x4,?_⟩;rw[aN hb];exact i0 _ I4 (M.go.trans (G4.nil _)) (M.dR.step G4) (N3.step M.inv G4) x4 _ _ _
     rw[pN,bU,bU]at Y;rcases Y with rfl |rfl
     ·exact j MY MZ rfl
     ·exact j M4 Dl rfl
theorem Nh {i0 b0:au}{e0:fg}{h0:aH}{d0:bN}{c P:ay}{c0:ak}{f0:ah (au×ay)}{a0:aw->aD->Prop}(j0:closureFor d0 G=pure f0)(l0:G.globals=gM)(hg:s.heap.Ns gM mg)(g0:G.code= .ref c)(C:CodeHd s.heap c P)(hP:s.heap.get? P=ae (jW #[]))(k0:gM≠P)(hb:s.heap.BuiltinsAt mg P)(h:∀c' xH H W pm oc V t ps,HW P s.heap H->s.heap.objs.size<=c'->H.get? c'=ae oc->oc.cls= .type "code"->oc.data= .fields V->V[1]? =ae (.str b0 t)->H.get? P=ae (jW ps)->
   a0 (.ref H.objs.size) { s with heap:=H.push (wy i0 b0 e0 h0 d0 f0 pm c' xH),toks:=W }):
  aA M A (makeFunction i0 b0 e0 (.expr h0) d0 G [] [] [] pos c0) a0 E s:=by
 rw[makeFunction_eq];simp only[HX,HD,tS,jB,pure_bind];obtain⟨bm,ob,U,J,_,L,T,K,D,B⟩:=hb;have Y:∀(c':ay) (H:aG),H.CodeRec (.ref c') b0->(∃I,s.heap.objs.size<=I/\H.IsCode c' I #[]/\H.TableAt c' I #[])->∃oc V t,H.get? c'=ae oc/\oc.cls= .type "code"/\oc.data= .fields V/\V[1]? =ae (.str b0 t):=by
  intros _ c' H _ j Z;obtain (⟨c2,o2,u,t2,e2,g2,d2,X⟩):=j;obtain (⟨I,_,_,w,_⟩):=Z;obtain (⟨o3,n0,g3,c3,d3,_⟩):=w;cases e2;rw[g2]at g3;cases g3;exact⟨o2,u,t2,g2,c3,d2,X⟩
 unfold makeTail;rw[j0,l0];refine wB (aC ?_);obtain tr:TriplesOk (#[]:aZ aw).toList:=trivial;cases f0 with
 |nil=>
  simp only[tS,jB];refine wB (aC ?_);refine wB (HY g0 (C.code hP tr) (C.tab hP) rfl ?_);intros _ c' H _ W S O f k F R N;obtain⟨oc,V,t,z,X,m,l⟩:=Y c' H F N;have sg:=hg.extBut S k0;refine wB (HZ sg U J (S _ _ L T) K D B ?_);refine wB (wpAny_nsGet sg ?_);exact wB (aC (qZ (h c' .none H W _ oc V t _ S O z X m l R.2) (by size_fits)))
 |cons q r=>
  intros q r _ j0 h;simp only[List.isEmpty_cons,jb,jc];refine wB (wpAny_newTextTuple ?_);refine wB (HY g0 ((C.keeps λb o e=>be _ e).code (be _ hP) tr) ((C.keeps λb o e=>be _ e).tab (be _ hP)) rfl ?_);intros _ c' H _ W S O f k F R N;have Ni:∃I,s.heap.objs.size<=I/\H.IsCode c' I #[]/\H.TableAt c' I #[]:=by
   obtain (⟨I,a1,a2⟩):=N;exact⟨I,dW (by rw[j8];exact gR _) a1,a2⟩
  obtain⟨oc,V,t,z,X,m,l⟩:=Y c' H F Ni;obtain sg:=(hg.push _).extBut S k0;obtain qn:HW P s.heap H:=λb o m0 e=>S b o m0 (be _ e);obtain Nj:s.heap.objs.size<=c':=dW (by rw[j8];exact gR _) O;refine wB (HZ sg U J (qn _ _ L T) K D B ?_);refine wB (wpAny_nsGet sg ?_);exact wB (aC (qZ (h c' _ H W _ oc V t _ qn Nj z X m l R.2) (by size_fits)))
theorem Inv.lam {o:Obj}{V:aZ aw}(a0:Inv X B I h)(hk:∀b o,b≠cJ->h.get? b=ae o->H.get? b=ae o)(ht:H.get? cJ=ae (jW V))(hl:jh ao=aj)(b:OB X B H ao o)(hf:o.isFreed=az):
  Inv X (B++[H.objs.size]) (I++[ao]) (H.push o)/\Go X [] B h (B++[H.objs.size]) (H.push o):=by
 have D:h.get? H.objs.size=ag:=by
  cases q:h.get? H.objs.size with
  |none=>rfl
  |some E=>
   by_cases e:H.objs.size=cJ
   ·rw[<-e]at ht;exact absurd (gN ht) (dP _)
   ·exact absurd (gN (hk _ _ e q)) (dP _)
 have G:Go X [] B h (B++[H.objs.size]) (H.push o):=by
  refine⟨⟨λa E e=>?_,⟨[H.objs.size],rfl,λa F=>by rw[aJ.mp F];exact D⟩,λa E e u J u=>⟨E,be _ (hk a E J e),.refl ..⟩⟩,λa E e u f u=>?_⟩
  ·by_cases q:a=cJ
   ·subst q;exact⟨_,be _ ht⟩
   ·exact⟨E,be _ (hk a E q e)⟩
  ·have J:a≠cJ:=λq=>by
    subst q;obtain⟨U,W,_⟩:=a0.tab;rw[W]at e;cases e;obtain⟨_,_,q,_⟩:=f;cases q
   exact⟨E,be _ (hk a E J e),f⟩
 obtain N:H.objs.size∉B:=λF=>by
  obtain⟨i,L,Z⟩:=qR.mp F;have gg:i < I.length:=a0.len ▸ L;obtain⟨O,Q,_⟩:=a0.obj i I[i] _ (cy gg) (by rw[cy L,Z]);rw[D]at Q;cases Q
 refine⟨⟨by simp[a0.len],?_,λi S a M K=>?_,λT O e J=>be _ (hk _ _ J (a0.base T O e J)),λa F=>?_,a0.gd,a0.mods,⟨V,be _ ht,.inr ⟨ao,by simp,hl⟩⟩,λb R=>?_⟩,G⟩
 ·refine tD.mpr ⟨a0.nodup,by simp,λa Y b R e=>?_⟩;rw[aJ.mp R]at e;exact N (e ▸ Y)
 ·by_cases L:i < I.length
  ·rw[ly L]at M;rw[ly (by rw[a0.len];exact L)]at K;obtain⟨O,Q,T⟩:=a0.obj i S a M K;exact⟨O,be _ (hk _ _ (λq=>a0.Cg (q ▸ cD K)) Q),T.step G.step⟩
  ·have gg:i=I.length:=by
    have:=(cF.mp M).1;simp at this;exact AN (FI 1 1 0 0 this rfl) ((NL L))
   subst gg;simp at M;rw[<-a0.len]at K;simp at K;subst M K;exact⟨o,cV _ hf,b.step (Go.alloc X [] B H o).step⟩
 ·rcases dX.mp F with F |F
  ·exact a0.new a F
  ·rw[aJ.mp F];exact a0.ew D
 ·obtain⟨E,A⟩:=a0.gf b R;exact G.step.there b E A
theorem Nk {T:fg}{a0:aH}:HE X F k U (.Lambda T a0 aP pos) (λrt=>do
   P.guard (BZ T=aj/\cM U my=ae .cell)
   let d0 <-P.get
   P.guard (d0.all (λo=>!jh o)=aj)
   let cs <-P.opt (fK rt aP.names [])
   let i0 <-P.alloc (.lam T a0 aP cs)
   P.pure (.ref i0)):=by
 intros _ A l G Q N B I h _ K _ z W D E _ M;obtain⟨⟨g1,g2⟩,M⟩:=a6 M;obtain⟨g3,M⟩:=a6 (show(P.guard (I.all (λo=>!jh o)=aj)>>=_).run I _ from M);obtain (⟨cs,c0,M⟩):=c9 M;have M:aL X z [] B h (RV X) D E (.ok (.ref I.length)) (I++[.lam T a0 aP cs]):=M;have Z:defaultsOf T G=([],[]):=by
  obtain⟨_,_,_,_,e,_,g⟩:=T;cases e with
  |nil=>cases g with
   |nil=>rfl
   |cons=>cases g1
  |cons=>cases g1
 obtain (⟨cl,rc,f0⟩):=Df K.en c0;obtain (⟨V,m,S⟩):=K.inv.tab;have S:V= #[]:=by
  rcases S with q |⟨ao,hm,q⟩
  ·exact q
  ·have:=bW.mp g3 ao hm;rw[q]at this;cases this
 subst S;obtain (⟨mg,mb,n1,n2,_⟩):=K.ok.gl;obtain (⟨bm,ob,b1,b2,b3,b4,b5,b6⟩):=K.ok.bt mg n1;obtain (⟨oc,vc,u,tf,R,tg,b0,text,tt,c1,cr⟩):=K.ok.cd;refine kla_eval Z (Nh (s:=sh z h W) f0 K.en.glob (K.inv.ns n1 (by decide)) (K.code g2) ⟨oc,vc,u,tf,R,tg,b0,text,tt,K.inv.base _ _ c1 (by decide),cr⟩ m (by decide) ⟨bm,ob,b1,b2,b3,b4,K.inv.base _ _ b5 b4,b6⟩ λj e0 H h0 pm j0 g0 t' ps hx L q1 q2 q3 q4 f=>?_);have hk:∀b o,b≠cJ->h.get? b=ae o->H.get? b=ae o:=λb o hb e=>hx b o hb e;have L:h.objs.size<=j:=L;have O:h.get? j=ag:=Bd L;have w:X.ok j:=⟨λq=>(by rw[q]at O;rw[O]at m;cases m),λhb=>by obtain⟨o,e⟩:=K.inv.gf _ hb;rw[O]at e;cases e⟩;have Y:j∉B:=λhm=>dP _ (gT (K.inv.lt hm) L);obtain⟨I',J⟩:=K.inv.lam hk f (ao:=.lam T a0 aP cs) rfl (o:=wy "<lambda>" (G.qual++"<lambda>") T a0 aP cl pm j e0) ⟨_,_,_,_,_,_,rfl,rc,⟨⟨Y,w,q1,q2,q3,q4⟩⟩⟩ rfl;refine M _ _ _ _ (.refl _) I' J _ (.ref ?_);rw[<-K.inv.len];simp
def eS.Nl {e:ay}{k:aI}(x:H3 h H e k)(ho:nJ (.type k)=az)(hf:k≠"frame"):eS k e h H:=by
 obtain⟨D,t,F,E,B⟩:=x.there;exact⟨x.new,ho,hf,D,_,F,E,B,by simp,.inl rfl⟩
def Nm:tT (.type "list_iterator") "__len__"=pure ag:=by rw[rg,rh];kernel_rfl
def Nn {a0:aw->aD->Prop}(hT:s.TypeIs (.ref a) "list_iterator")(hh:A.handled=ag)(h:∀H W e,H3 s.heap H e "TypeError"->E (.ref e) { s with heap:=H,toks:=W }):
  aA (aV prog w) A (call (.builtin "len") [.ref a]) a0 E s:=by
 refine Calls.call_function_entry kind_len plain_len entry_len (args_len1 _) ?_;unfold Builtin.«len»;refine wB (m:=oneArg "len" _) (aC ?_);refine wB (m:=oq (.ref a) (aq "__len__")) (wpAny_callSpecial?_none (name:=aq "__len__") hT Nm ?_);dsimp only;refine wB (gP ?_);refine wB (wpAny_typeNameOf' hT (by decide) ?_);exact wpAny_raiseErrorMade plainExc_TypeError hh h (by show _<=2 ^ 24;decide +kernel)
def Np {a0:aw->aD->Prop}(h:aA (aV prog w) A.in1 (f5 v) a0 E s):aA (aV prog w) A (call (.builtin "iter") [v]) a0 E s:=by
 refine call_function_tree (by decide +kernel) (by decide +kernel) kdk_entry_iter (kdk_args_iter _) ?_;unfold Builtin.«iter»;refine wB (m:=someArgs "iter" 1 2 _) (nh (a:=[v]) (by first |rfl |kernel_rfl!) ?_);show aA _ _ (f5 v>>=_) _ _ _;exact wB (eA h (λD B q=>aC q) λu u q=>q)
def Nq:Slot "object" "__init__" "object.__init__":=
 .of (owner:="object") (n:="__init__") (by rw[rg,rh];kernel_rfl) (by decide +kernel) (by decide +kernel) (by decide +kernel)
  (by first |exact .inl (by decide +kernel) |exact .inr (by decide +kernel)) (by rw[rj];kernel_rfl)
def mro_object:mroOf (.type "object")=pure [.type "object"]:=by rw[mroOf_type];kernel_rfl
def Nr:tT (.type "object") "__new__"=pure (ae (.builtin "object.__new__")):=by rw[rg,rh];kernel_rfl
def Du:TypeCalled "object" "object.__new__" "object.__init__":=
 ⟨by decide +kernel,by decide +kernel,⟨_,_,mro_object⟩,madeBy_type mro_object Nr (by decide +kernel),by decide +kernel,by rw[rj];kernel_rfl,Nq⟩
def Nt:checkTypeCall "object" ⟨[],[]⟩=pure ():=by kernel_rfl
def Nu:ud "object.__new__" ⟨[.type "object"],[]⟩=pure ():=by kernel_rfl
def Nv:MeetsIn prog w (j2.«object.__new__» ⟨[.type "object"],[]⟩) (λA R s=>R (.ok (.ret (.ref s.heap.objs.size))) { s with heap:=s.heap.push { cls:=.type "object",data:=.plain } }):=
 .of_wp λA R s h=>by
  obtain D:=Du.made;obtain⟨B,g,d,W,os⟩:=s;unfold Builtin.«object.__new__»
  wp_walk
  exact⟨_,rfl,h⟩
def Nw {a0:aw->aD->Prop}(h:a0 (.ref s.heap.objs.size) { s with heap:=s.heap.push { cls:=.type "object",data:=.plain } }):aA (aV prog w) A (call (.type "object") []) a0 E s:=
 callType_meetsIn (Q₁:=λobj B=>obj= .ref s.heap.objs.size/\B={ s with heap:=s.heap.push { cls:=.type "object",data:=.plain } }) Du Nt Nu F.entry_object_new F.entry_object_init Nv ⟨rfl,rfl⟩
  (by
   rintro obj B ⟨rfl,rfl⟩;have G:xc { s with heap:=s.heap.push { cls:=.type "object",data:=.plain } } (.ref s.heap.objs.size) "object":=⟨_,cV _ rfl,rfl⟩;exact⟨G,F.args_object_init_1 _,λu R s=>R (.ok (.ret .none)) s,Meets.of_wp λprog w A R s D=>aC ⟨_,rfl,D⟩,rfl,h⟩)
def Inv.place {o:Obj}(a0:Inv X B I h)(hk:∀b o,h.get? b=ae o->H.get? b=ae o)(hD:h.get? D=ag)(e:H.get? D=ae o)(b:OB X B h ao o):Inv X (B++[D]) (I++[ao]) H/\Go X [] B h (B++[D]) H:=by
 obtain E:∀b∈[D],h.get? b=ag:=λb E=>by rw[aJ.mp E];exact hD
 refine⟨(a0.more (j:=[D]) hk λb F=>⟨E b F,?_⟩).adopt (.head _) e ((b.more E).step (Go.keeps (X.more [D]) B hk []).step) (a0.fresh hD).1 (a0.ew hD),(Go.keeps X B hk []).adopt hD⟩;rw[aJ.mp F];exact⟨_,e⟩
def si (a0:Inv X B I h)(D:ay):(B++[D])[I.length]? =ae D:=by rw[<-a0.len];simp
def nQ {γ:Type}{p:Res γ->St->Prop}{β:Type}{b:β}{g:β->P γ}(hr:(P.pure b>>=g).run I p):(g b).run I p:=hr
def jn {γ:Type}{p:Res γ->St->Prop}{g:AV->P γ}(ra:aT X B h T V)(hr:(one T>>=g).run I p):∃x v,V=[v]/\aF X B h x v/\(g x).run I p:=by
 cases ra with
 |nil=>exact hr.elim
 |cons D E=>
  obtain⟨q,hr⟩:=a6 (g:=λu=>P.pure _>>=g) hr;cases E with
  |nil=>exact⟨_,_,rfl,D,hr⟩
  |cons _ _=>cases q
def yC {γ:Type}{p:Res γ->St->Prop}{g:b8->P γ}(ra:aT X B h T V)(hr:(rN T>>=g).run I p):V=[]/\(g ()).run I p:=by
 obtain⟨q,hr⟩:=a6 hr;cases ra with
 |nil=>exact⟨rfl,hr⟩
 |cons _ _=>cases q
def g7 {γ:Type}{p:Res γ->St->Prop}{g:b8->P γ}(rk:cq X B h kw kvs)(hr:(noKw kw>>=g).run I p):kvs=[]/\(g ()).run I p:=by
 obtain⟨q,hr⟩:=a6 hr;cases rk with
 |nil=>exact⟨rfl,hr⟩
 |cons _ _=>cases q
def vw {n:au}{γ:Type}{p:Res γ->St->Prop}{g:AV×ah (au×AV)->P γ}(rk:cq X B h kw kvs)(hr:(p6 n kw>>=g).run I p):
  ∃x v l ks,kvs=(n,v) :: ks/\aF X B h x v/\cq X B h l ks/\(g (x,l)).run I p:=by
 cases rk with
 |nil=>exact hr.elim
 |cons E F=>
  obtain⟨q,D⟩:=a6 (g:=λu=>P.pure _>>=g) hr;clear hr;cases q;exact⟨_,_,_,_,rfl,E,F,D⟩
def Dv {γ:Type}{p:Res γ->St->Prop}{g:aB->P γ}(rk:cq X B h kw kvs)(hr:(uI kw>>=g).run I p):
  ∃b,kvs=(if b then [(aq "reverse",.bool aj)]else [])/\(g b).run I p:=by
 cases rk with
 |nil=>exact⟨az,rfl,hr⟩
 |cons D E=>
  obtain⟨x,v,l,F,q,D,E,hr⟩:=vw (g:=λq=>BU q.1>>=λu=>noKw q.2>>=λu=>P.pure aj>>=g) (.cons D E) hr;rw[q];cases x with
  |bool b=>cases b with
   |true=>
    obtain⟨rfl,hr⟩:=g7 E hr;cases D;exact⟨aj,rfl,hr⟩
   |false=>exact hr.elim
  |_=>exact hr.elim
def Dw {γ:Type}{p:Res γ->St->Prop}{g:b8->P γ}(hr:(isCallable x>>=g).run I p):∃m,x= .ref m/\(g ()).run I p:=by
 obtain⟨m,q,hr⟩:=iz (g:=λi=>P.load i>>=λo=>(match o with
  |.lam .. =>P.pure ()
  |_=>P.fail)>>=g) hr
 obtain⟨o,_,hr⟩:=eU hr;cases o with
 |lam _ _ _ _=>exact⟨m,q,hr⟩
 |_=>exact hr.elim
def Nx {b:BI}(e:p7 x=ae b):x=Ju b:=by
 cases x with
 |bi n=>
  unfold p7 at e;dsimp only at e;by_cases B:n="len"
  ·rw[aN B]at e;cases e;rw[B];rfl
  rw[aK B]at e;by_cases B:n="iter"
  ·rw[aN B]at e;cases e;rw[B];rfl
  rw[aK B]at e;by_cases B:n="sum"
  ·rw[aN B]at e;cases e;rw[B];rfl
  rw[aK B]at e;by_cases B:n="sorted"
  ·rw[aN B]at e;cases e;rw[B];rfl
  rw[aK B]at e;by_cases B:n="min"
  ·rw[aN B]at e;cases e;rw[B];rfl
  rw[aK B]at e;obtain⟨B,e⟩:=tH.mp e;cases e;rw[B];rfl
 |ty n=>
  unfold p7 at e;dsimp only at e;by_cases B:n="object"
  ·rw[aN B]at e;cases e;rw[B];rfl
  rw[aK B]at e;by_cases B:n="list"
  ·rw[aN B]at e;cases e;rw[B];rfl
  rw[aK B]at e;by_cases B:n="set"
  ·rw[aN B]at e;cases e;rw[B];rfl
  rw[aK B]at e;obtain⟨B,e⟩:=tH.mp e;cases e;rw[B];rfl
 |_=>exact gh e
def Ny (a0:Inv X B I h)(hh:A.handled=ag)(ra:aT X B h T V)(rk:cq X B h kw kvs):aW X A [] (RV X) B I h (call (.builtin "len") V kvs) (jI F T kw .len):=by
 intro z W Q E D;obtain⟨x,v,rfl,J,D⟩:=jn ra D;obtain⟨rfl,D⟩:=g7 rk D;cases G:gb x with
 |some l=>
  rw[G]at D;obtain⟨a,O,rfl,⟨o,e,c,n,d⟩,r⟩:=u7 J G;obtain L:=Kj G;refine len_tuple (s:=sh z h W) (items:=O.toArray) ⟨o,e,c,n,d⟩ (by rw[cG,r.length];lia) ?_;rw[cG,r.length];exact D _ _ _ _ (.refl _) a0 (.refl ..) _ (.int ..)
 |none=>
  rw[G]at D;obtain⟨j,q,D⟩:=iz D;subst q;obtain⟨e⟩:=J;obtain⟨o,i,D⟩:=eU D;cases o with
  |list l=>
   obtain⟨M,n,q,r,len,L⟩:=ey a0 i e;refine Calls.call_len_list (s:=sh z h W) (items:=M.toArray) q.isList (by rw[cG];lia) ?_;rw[cG,len];exact D _ _ _ _ (.refl _) a0 (.refl ..) _ (.int ..)
  |iter s k=>
   refine Nn (s:=sh z h W) (vl a0 i e) hh λH K N x=>?_;exact D _ _ _ _ (.refl _) (a0.keeps x.keeps) (Go.keeps X B x.keeps []) _ (eS.Nl x (by rfl) (by decide))
  |_=>exact D.elim
def Nz (a0:Inv X B I h)(ra:aT X B h T V)(rk:cq X B h kw kvs):aW X A [] (RV X) B I h (call (.builtin "iter") V kvs) (jI F T kw .iter):=by
 intro z W Q E D;obtain⟨x,v,rfl,K,D⟩:=jn ra D;obtain⟨rfl,D⟩:=g7 rk D;obtain⟨i,q,D⟩:=iz D;subst q;obtain⟨e⟩:=K;refine Np ?_;obtain⟨J,H,D⟩:=eU D;cases J with
 |list l=>
  obtain⟨O,n,L,M,len,_⟩:=ey a0 H e;refine AZ (s:=sh z h W) ⟨_,L,rfl,n,rfl⟩ ?_;have D:aL X z [] B h (RV X) Q E (.ok (.ref I.length)) (I++[.iter (ae i) 0]):=D;exact D _ _ _ _ (.refl _) (a0.alloc (ao:=.iter (ae i) 0) ⟨rfl,_,e,rfl⟩ rfl) (Go.alloc ..) _ (.ref (si a0 _))
 |iter s kk=>
  have G:=vl (z:=z) (W:=W) a0 H e;refine ow G j6 (gw j6 G ru ?_ (ry _));obtain D:aL X z [] B h (RV X) Q E (.ok (.ref i)) I:=D;exact aC ⟨_,rfl,"list_iterator",_,G,j3.lookup,D _ _ _ _ (.refl _) a0 (.refl ..) _ (.ref e)⟩
 |_=>exact D.elim
def NC (a0:Inv X B I h)(ra:aT X B h T V)(rk:cq X B h kw kvs):aW X A [] (RV X) B I h (call (.type "object") V kvs) (jI F T kw .object):=by
 intro z W Q E D;obtain⟨rfl,D⟩:=yC ra D;obtain⟨rfl,D⟩:=g7 rk D;have D:aL X z [] B h (RV X) Q E (.ok (.ref I.length)) (I++[.obj]):=D;exact Nw (s:=sh z h W) (D _ _ _ _ (.refl _) (a0.alloc (ao:=.obj) ⟨rfl,rfl⟩ rfl) (Go.alloc ..) _ (.ref (si a0 _)))
def ints_of {ns:ah Int}:∀{V:ah aw},aT X B h (ns.map .int) V->n8 V ns:=by
 induction ns with
 |nil=>intro V r;cases r;exact .nil
 |cons i ns D=>
  intro V r;cases r with |cons F E=>
  obtain⟨t,rfl⟩:=F;exact .cons _ _ (D E)
theorem ND (a0:Inv X B I h)(hh:A.handled=ag)(ra:aT X B h T V)(rk:cq X B h kw kvs):aW X A [] (RV X) B I h (call (.builtin "sum") V kvs) (jI F T kw .sum):=by
 intros _ z W Q E _ D;obtain (⟨x,v,rfl,S,D⟩):=jn ra D;obtain⟨rfl,D⟩:=g7 rk D;obtain (⟨i,q,D⟩):=iz D;subst q;obtain⟨e⟩:=S;obtain (⟨l,j,D⟩):=gY D;obtain⟨ns,Y,D⟩:=c9 D;obtain⟨O,n,U,N,len,_⟩:=ey a0 j e;have M:=ints_of (vt Y ▸ N);obtain⟨J,G⟩:=(show AllInts O.toArray from M.allInts).items;refine sum_intListG (s:=sh z h W) hh (xs:=J) (by rw[<-G];exact U.isList) λH Z k K=>?_;have R:preSum (numAt J) J.size=ns.sum:=by
  have L:=nums_intItems J;rw[<-G]at L;rw[preSum_eq,gy (by simp),<-L,<-M.numsOf]
 rw[R];exact D _ _ _ _ (.refl _) (a0.keeps K) (Go.keeps X B K []) _ (.int ..)
def NH (a0:Inv X B I h)(ra:aT X B h T V)(rk:cq X B h kw kvs):aW X A [] (RV X) B I h (call (.type "type") V kvs) (jI F T kw .type):=by
 intro z W Q E D;obtain⟨x,v,rfl,G,D⟩:=jn ra D;obtain⟨rfl,D⟩:=g7 rk D;cases x with
 |int i=>obtain⟨t,rfl⟩:=G;exact call_type_of (Tx:="int") rfl (by decide) (D _ _ _ _ (.refl _) a0 (.refl ..) _ (.ty "int"))
 |str i=>obtain⟨t,rfl⟩:=G;exact call_type_of (Tx:="str") rfl (by decide) (D _ _ _ _ (.refl _) a0 (.refl ..) _ (.ty "str"))
 |_=>exact D.elim
def NI {α:Type}(xs:aZ α)(p:ak)(x:α):1<=(SetTable.insertAt xs p x).size:=by
 unfold SetTable.insertAt;simp;exact CF 0 0 1 0 1 0 ZZ AL rfl
def jM.laid {L:aB}{t:gr}(h:jM L t)(es:aZ (Int×aw))(hs:Int)(x:aw):jM L (layNew t es hs x).2.1:=by
 obtain B:∀(t:gr) (n:ak),t.led=L->1<=n->jM L (t.standIn n):=λt n F G=>⟨rfl,by show 7<=4 * n+4;lia,F⟩;unfold layNew;cases t.freeSlot hs with
 |none=>exact B t _ h.led (by exact FI 0 0 1 1 ZZ rfl)
 |some p=>
  obtain⟨E,H⟩:=p;have D:jM L (t.put E).1:=by
   refine⟨?_,h.mask,h.led⟩;show(if H4 t.dummies E=aj then _ else t.dummies)= #[];rw[h.xK];rw[aK (by simp[H4])]
  dsimp only;unfold SetTable.orStandIn;split
  ·exact D
  ·exact B _ _ D.led (NI ..)
def jM.Dx {L:aB}{t:gr}(h:jM L t)(hf:t.fits n=aj)(hn:n<=3):t.tooFull=az:=by
 unfold SetTable.fits at hf;rw[cW,bU]at hf;unfold SetTable.tooFull SetTable.fill;rw[h.xK,hf.1];have:=h.mask;simp
 lia
theorem add_str {L:aB}{es:aZ (Int×aw)}{t:gr}{k:au}{W:cK}{a0:aB->aD->Prop}(ho:s.heap.get? a=ae o)(hex:o.ExactSet)(hd:o.data= .set es ep t)(Dy:ElemsOf (PySem.strKind prog w) es.toList)(hf:t.fits es.size=aj)(NJ:∀e∈es.toList,lq k e.2=az)(kJ:es.size<=2)(hT:jM L t)(h:∀H o' mK yu t',fk a s.heap H->H.get? a=ae o'->o'.ExactSet->o'.data= .set mK yu t'->mK.toList.Perm (es.toList++[(lh w k,.str k W)])->t'.fits mK.size=aj->jM L t'->t'.plain=az->a0 aj { s with heap:=H }):
  aA (aV prog w) A (setAddHashed a (.str k W) (lh w k)) a0 E s:=by
 have NK:(PySem.strKind prog w).is k (.str k W)=aj:=by show lq k (.str k W)=aj;simp[lq]
 obtain Dz:(qV k W).scannable=aj:=rfl;have hb:es.size < scanBound:=by unfold scanBound;exact FI 0 2 1 4096 kJ rfl
 unfold setAddHashed setAddHashedIn;refine ez (bO (rm ho hd hf ?_));dsimp only;rw[byScan_of Dz hb Dy];simp only[↓AU];unfold setAddByScan;refine wB ?_;refine wB (gP ?_);refine wB (wpAny_setScan_of (knd:=PySem.strKind prog w) (k:=k) NK ho hd hf Dy ?_);obtain hr:List.findIdx? (λe=>(PySem.strKind prog w).is k e.2) es.toList=ag:=List.findIdx?_eq_none_iff.mpr λe he=>NJ e he;rw[hr];dsimp only;have NM:∀(b:aB) {ji:aD} {Q':b8->aD->Prop},Q' () ji->aA (aV prog w) A (match b with |true=>jX "set.scan.the-table-gave-way" |false=>pure ()) Q' E ji:=
  λb ji Q' hq=>by cases b <;>first |exact aC hq |exact gP hq
 obtain sj:=layNew_perm t es (lh w k) (.str k W);obtain qp:=layNew_fits t es (lh w k) (.str k W);obtain oX:=hT.laid es (lh w k) (.str k W);generalize Wr:layNew t es (lh w k) (.str k W)=Ln at sj qp oX |-;obtain⟨iR,t1,NN,gave⟩:=Ln;dsimp only at sj qp oX |-;rw[Hm]at sj;have yD:iR.size=es.size+1:=by rw[<-Be,sj.length_eq,bK,Be];rfl
 obtain NQ:=oX.Dx qp (by exact CF 0 1 0 2 0 3 (EL yD) kJ rfl);refine wB (NM _ ?_);have fin:∀t2:gr,t2.fits iR.size=aj->jM L t2->t2.plain=az->t2.tooFull=az->aA (aV prog w) A (do
    storeSet a iR t2
    if (!NN && t2.tooFull)=aj then do
      (match (Bf t2 iR (Bg iR.size)).2.2 with |true=>jX "set.scan.the-table-gave-way" |false=>pure ())
      storeSet a (Bf t2 iR (Bg iR.size)).1 (Bf t2 iR (Bg iR.size)).2.1
      pure (ae aj)
     else pure (ae aj)) (λr s'=>r=ae aj/\a0 aj s') E s:=by
  intro t2 f2 l2 p2 n2;refine wB (wpAny_storeSet_of ho hd ?_ (fits_of_scanBound (by unfold scanBound;exact CF 0 1 0 2 1 4096 (EL yD) kJ rfl)));rw[n2,w7,aK (by simp)];refine aC ⟨rfl,?_⟩;obtain hg:(s.heap.update a (H5 iR t2)).get? a=ae { o with data:=.set iR (ep+1) t2 }:=by
   have:=iI (H5 iR t2) ho (by rw[putSet_of iR t2 hd];rfl);rw[putSet_of iR t2 hd]at this;exact this
  exact h _ _ _ _ _ (dY ..) hg hex rfl sj f2 l2 p2
 have Ws:t1.plain=aj\/t1.plain=az:=by cases t1.plain <;>simp
 obtain off:jM L { t1 with plain:=az }:=⟨oX.xK,oX.mask,oX.led⟩;split
 ·refine wB ?_;rw[hashByValue_scannable 8 Dz];refine aC ?_;refine eA (fin { t1 with plain:=az } (H6 qp) off rfl (off.Dx (H6 qp) (by exact CF 0 1 0 2 0 3 (EL yD) kJ rfl))) (λr s' q=>?_) λu u q=>q;obtain⟨rfl,q⟩:=q;exact aC q
 ·rename_i hp;refine bO (aC ?_);simp only[↓AU];refine eA (fin t1 qp oX (by simpa using hp) NQ) (λr s' q=>?_) λu u q=>q;obtain⟨rfl,q⟩:=q;exact aC q
def NR:∀{es:ah (Int×aw)},(∀e∈es,uU w e)->ky w (es.map strOf) es:=by
 intro l;induction l with
 |nil=>
  intro _;exact .nil
 |cons e es B=>
  intro h;obtain⟨x,t,rfl⟩:=h e (.head _);exact .cons (B λe D=>h e (.tail _ D))
def kG.keep {xs:ah au}(x:kG w h S xs)(hk:∀o,h.get? S=ae o->H.get? S=ae o):kG w H S xs:=by
 obtain⟨o,D,B,t,a,b⟩:=x;exact⟨o,D,B,t,hk o a,b⟩
theorem NS {a0 l:ay}{xs:ah au}(hh:A.handled=ag)(e0:l≠a0)(c0:S≠a0)(f0:S≠l)(b0:∀(i:ak) (v:aw),O[i]? =ae v->∃x t,xs[i]? =ae x/\v= .str x t)(d0:O.size=xs.length)(h0:xs.Nodup)(h3:xs.length<=3)(hR:∀H W,(∀b o,b≠S->b≠a0->s.heap.get? b=ae o->H.get? b=ae o)->kG w H S xs->R (.ok (.ret .none)) { s with heap:=H,toks:=W }):
  ∀(k i:ak) (h:aG) (W:ak),xs.length - i=k->i<=xs.length->(∀b o,b≠S->b≠a0->s.heap.get? b=ae o->h.get? b=ae o)->h.IsListIter a0 l i->h.IsList l O->kG w h S (xs.take i)->
   j' (aV prog w) A (.builtin "set.update.loop" ⟨[.ref S,.ref a0],[]⟩) R { s with heap:=h,toks:=W }:=by
 have B:=Walks.list (prog:=prog) (w:=w) (A:=A.in1) hh a0 l e0 O;have m0:S∉[a0,l]:=by simp[c0,f0]
 intros _ k;induction k with
 |zero=>
  intros _ i h W _ f hi G N hl Y;have X:i=xs.length:=Aj hi (H7 f);refine kb F.entry_set_update_loop ?_;rw[mq F.plain_set_update_loop _];show aA _ A.in1 (hZ (.ref a0)>>=_) _ _ _;refine wB (B.done _ _ _ ⟨by rw[d0,<-X];exact N,hl⟩ λH k0 J=>?_);show aA _ A.in1 (ret dq) _ _ _;refine aC (hR _ _ (λb o z Z e=>J b o (by simpa using Z) (G b o z Z e)) ?_);rw[X,j5]at Y;exact Y.keep λo e=>J S o (by simpa using c0) e
 |succ k ih=>
  intros k _ ih;intros _ i h W _ f hi G N hl Y;have K:i < xs.length:=H8 (by rw[f];exact Bh k);refine kb F.entry_set_update_loop ?_;rw[mq F.plain_set_update_loop _];show aA _ A.in1 (hZ (.ref a0)>>=_) _ _ _;refine wB (B.item i _ _ _ (by rw[d0];exact K) ⟨N,hl⟩ ?_);intros _ v H k0 _ hP M J;obtain (⟨x,t,hx,rfl⟩):=b0 i v hP;have vA:=Y.keep λo e=>J S o (by simpa using c0) e;show aA _ A.in1 (lx [qV x t] (setAdd S (.str x t))>>=_) _ _ _;refine wB (ez ?_);unfold setAdd;refine ez ?_;refine wB ((PySem.strKind prog w).pyHash (k:=x) (by show lq x (.str x t)=aj;simp[lq]) ?_);obtain (⟨o,es,ep,tb,ho,j0,hd,D,E,hf,hT,n0⟩):=vA;have i0:es.size=i:=by
   have:=E.length_eq;simp at this
   lia
  have V:xs[i]=x:=by
   rw[cy K]at hx;exact dp hx
  have T:x∉xs.take i:=by
   intro hm;obtain⟨j,hj,ej⟩:=qR.mp hm;rw[List.getElem_take]at ej;have yE:j < i:=by simp at hj;exact TT hj ML
   exact absurd ((wH h0).mp (ej.trans V.symm)) (by exact NE (yE))
  refine add_str (s:={ s with heap:=H,toks:=_ }) (L:=!w.params.followText "set-order") ho j0 hd ?_ hf ?_ (by exact TT (EL i0) (CF 1 0 0 3 0 2 K h3 rfl)) hT λZ o2 l0 g0 t2 Q g2 x2 d2 p2 f2 l2 m=>?_
  ·intros _ e _ L;obtain (⟨y,u,rfl⟩):=D e L;exact⟨⟨y,by show lq y (.str y u)=aj;simp[lq],rfl⟩,rfl⟩
  ·intros _ e _ L;cases hq:lq x e.2 with
   |false=>rfl
   |true=>
    obtain (⟨y,u,rfl⟩):=D e L;obtain⟨t',e'⟩:=GH hq;cases e';exact absurd (E.mem_iff.mp (mu.mpr ⟨_,L,rfl⟩)) T
  ·refine aC ⟨oF F.plain_set_update_loop _,ih (i+1) Z _ (bZ Nat.pred f) K (λb ob z U e=>(Q.2 b z).trans (J b ob (by simpa using U) (G b ob z U e))) (M.1.at λo e=>(Q.2 a0 c0.symm).trans e) (M.2.at λo e=>(Q.2 l f0.symm).trans e) ⟨o2,l0,g0,t2,g2,x2,d2,?_,?_,f2,l2,λa=>m⟩⟩
   ·intros _ e _ L;rcases dX.mp (p2.mem_iff.mp L)with L |L
    ·exact D e L
    ·rw[aJ.mp L];exact⟨x,t,rfl⟩
   ·rw[H9 K,V];refine(p2.map strOf).trans ?_;rw[dH];exact E.append (.refl _)
theorem NW {a0:aw->aD->Prop}(a:aw)(h:a0 (.ref s.heap.objs.size) { s with heap:=s.heap.push { cls:=.type "set",dict:=ag,data:=.set #[] 0 (.fresh 0 0 (!w.params.followText "set-order")) } }):
  j' (aV prog w) A (.call (.builtin "set.__new__") ⟨[.type "set",a],[]⟩) (rE a0 E) s:=by
 refine uc ?_;show aA _ A.in1 (do ud "set.__new__" ⟨[.type "set",a],[]⟩;again (.builtin "set.__new__" ⟨[.type "set",a],[]⟩)) _ _ s;refine wB (nh (F.newCall_set_1 a) (aC ⟨oF F.plain_set_new _,kb F.entry_set_new ?_⟩));rw[mq F.plain_set_new _];unfold Builtin.«set.__new__» Ia;have B:=sub_set_self;obtain⟨D,g,d,W,os⟩:=s;dsimp only
 wp_walk
 refine pS (aC ?_);dsimp only;simp only[newObj];refine wB (tZ (aC ?_));exact aC h
def NX:ud "set.__new__" ⟨[.type "set"],[]⟩=pure ():=by kernel_rfl
def NY {a0:aw->aD->Prop}(h:a0 (.ref s.heap.objs.size) { s with heap:=s.heap.push { cls:=.type "set",dict:=ag,data:=.set #[] 0 (.fresh 0 0 (!w.params.followText "set-order")) } }):
  j' (aV prog w) A (.call (.builtin "set.__new__") ⟨[.type "set"],[]⟩) (rE a0 E) s:=by
 refine uc ?_;show aA _ A.in1 (do ud "set.__new__" ⟨[.type "set"],[]⟩;again (.builtin "set.__new__" ⟨[.type "set"],[]⟩)) _ _ s;refine wB (nh NX (aC ⟨oF F.plain_set_new _,kb F.entry_set_new ?_⟩));rw[mq F.plain_set_new _];unfold Builtin.«set.__new__» Ia;have B:=sub_set_self;obtain⟨D,g,d,W,os⟩:=s;dsimp only
 wp_walk
 refine pS (aC ?_);dsimp only;simp only[newObj];refine wB (tZ (aC ?_));exact aC h
def DB:kG w (h.push { cls:=.type "set",dict:=ag,data:=.set #[] 0 (.fresh 0 0 (!w.params.followText "set-order")) }) h.objs.size []:=
 ⟨_,#[],0,_,cV _ rfl,⟨rfl,rfl,rfl⟩,rfl,λe B=>by simp at B,by simp,by rfl,⟨rfl,by show 7<=7;decide,rfl⟩,λq=>absurd rfl q⟩
set_option maxHeartbeats 3200000 in
theorem NZ {l:ay}{xs:ah au}{a0:aw->aD->Prop}(hh:A.handled=ag)(hl:s.heap.IsList l O)(b0:∀(i:ak) (v:aw),O[i]? =ae v->∃x t,xs[i]? =ae x/\v= .str x t)(c0:O.size=xs.length)(d0:xs.Nodup)(h3:xs.length<=3)(h:∀(H:aG) (W:ak),kG w H s.heap.objs.size xs->(∀b o,s.heap.get? b=ae o->H.get? b=ae o)->a0 (.ref s.heap.objs.size) { s with heap:=H,toks:=W }):
  aA (aV prog w) A (call (.type "set") [.ref l]) a0 E s:=by
 obtain⟨c,tl,h0⟩:=F.called_set.mro;have m:=F.called_set.made;have f0:=F.called_set.sub;refine ub (uc ?_);show aA _ _ (callAny (.type "set") _) _ _ _;refine aC ⟨Ib _ (by decide +kernel),kb F.entry_type_call ?_⟩;rw[Ic (Ie "set" [.ref l] []) rfl];have h1:=F.called_set.notType;have h2:=F.called_set.canCreate;have m0:=F.typeCall_set_1 (.ref l);repeat (any_goals (first |assumption |wp_step))
 generalize K:Ig 0 0 (!w.params.followText "set-order")=fr;refine xd (NW (.ref l) (E:=E) (a0:=λobj I=>obj= .ref s.heap.objs.size/\I={ s with heap:=s.heap.push { cls:=.type "set",dict:=ag,data:=.set #[] 0 fr } }) ⟨rfl,by rw[K]⟩) λr I u=>?_;cases r with
 |error e=>exact u
 |ok fl=>
  cases fl with
  |ret obj=>
   obtain⟨rfl,rfl⟩:=u;have hS:(s.heap.push { cls:=.type "set",dict:=ag,data:=.set #[] 0 fr }).get? s.heap.objs.size=ae { cls:=.type "set",dict:=ag,data:=.set #[] 0 fr }:=cV _ rfl;have hT:xc { s with heap:=s.heap.push { cls:=.type "set",dict:=ag,data:=.set #[] 0 fr } } (.ref s.heap.objs.size) "set":=⟨_,hS,rfl⟩;have Z:kG w (s.heap.push { cls:=.type "set",dict:=ag,data:=.set #[] 0 fr }) s.heap.objs.size []:=by rw[<-K];exact DB
   have D:fr=Ig 0 0 fr.led:=by rw[<-K];rfl
   generalize fr.led=led at D;subst D;have n0:=F.called_set.init.lookup;have l0:=F.called_set.init.bind (.ref s.heap.objs.size);repeat (any_goals (first |assumption |wp_step))
   refine xd (Ih (R:=rE (λr J=>r= .none/\∃H W,J={ s with heap:=H,toks:=W }/\
     kG w H s.heap.objs.size xs/\(∀b o,s.heap.get? b=ae o->H.get? b=ae o)) E) F.called_set.init.plain F.entry_set_init (check_set_init_1 hT ?_)) λR J B=>?_
   ·obtain⟨ol,U,V,nl,X⟩:=hl;obtain⟨j0,M,k,G⟩:=ol;simp only at V X;subst V;subst X;have N7:(s.heap.push { cls:=.type "set",dict:=ag,data:=.set #[] 0 (.fresh 0 0 led) }).get? l=ae { cls:=.type "list",dict:=M,data:=.seq O nl,slots:=G }:=be _ U;have g0:=F.sub_list_set;have i0:=F.sub_list_frozenset;have k0:(lA "list" == lA "dict")=az:=by decide
    have S:(s.heap.push { cls:=.type "set",dict:=ag,data:=.set #[] 0 (.fresh 0 0 led) }).IsList l O:=⟨_,N7,rfl,nl,rfl⟩;unfold Builtin.«set.__init__» noKeywords Wa;generalize f:f5=PI
    wp_walk
    subst f;refine AZ S ?_;refine bO (wpAny_runValue ?_);have Y:l < s.heap.objs.size:=gN U;have e0:A.in1.in1.handled=ag:=by simp[hh]
    have z:(s.heap.push { cls:=.type "set",dict:=ag,data:=.set #[] 0 (.fresh 0 0 led) }).objs.size=s.heap.objs.size+1:=j8 ..;have T:l≠(s.heap.push { cls:=.type "set",dict:=ag,data:=.set #[] 0 (.fresh 0 0 led) }).objs.size:=by
     rw[z];exact jV (Bi Y)
    refine NS (s:={ s with heap:=(s.heap.push { cls:=.type "set",dict:=ag,data:=.set #[] 0 (.fresh 0 0 led) }).push { cls:=.type "list_iterator",data:=.fields #[.ref l,.int 0 0] } }) e0 T (by rw[z];exact jV (jD _)) (Ai Y) b0 c0 d0 h3 (λH W hk N=>?_) xs.length 0 _ s.toks (by lia) (cZ _) (λb o y y e=>e)
     ⟨_,cV _ rfl,rfl,rfl⟩ (S.push _) (by rw[ug];exact Z.keep λo e=>be _ e)
    show aA _ _ _ _ _ _;refine aC ?_;show aA _ _ (ret dq) _ _ _;refine aC ⟨rfl,H,W,rfl,N,λb o e=>?_⟩;have hb:=gN e;exact hk b o (jV hb) (by rw[z];exact jV (Bi hb)) (be _ (be _ e))
   ·cases R with
    |error e=>exact B
    |ok L=>
     cases L with
     |ret r=>
      obtain⟨rfl,H,W,rfl,N,j⟩:=B;repeat (any_goals (first |assumption |wp_step))
      exact h _ _ N j
     |_=>exact B.elim
  |_=>exact u.elim
set_option maxHeartbeats 1000000 in
set_option maxRecDepth 100000 in
theorem N8 {a0:aw->aD->Prop}(h:a0 (.ref s.heap.objs.size) { s with heap:=s.heap.push { cls:=.type "set",dict:=ag,data:=.set #[] 0 (.fresh 0 0 (!w.params.followText "set-order")) } }):
  aA (aV prog w) A (call (.type "set") []) a0 E s:=by
 obtain⟨c,Y,N⟩:=F.called_set.mro;have K:=F.called_set.made;have M:=F.called_set.sub;refine ub (uc ?_);show aA _ _ (callAny (.type "set") _) _ _ _;refine aC ⟨Ib _ (by decide +kernel),kb F.entry_type_call ?_⟩;rw[Ic (Ie "set" [] []) rfl];have X:=F.called_set.notType;have W:=F.called_set.canCreate;have R:=F.typeCall_set_0;repeat (any_goals (first |assumption |wp_step))
 generalize J:(!w.params.followText "set-order")=led at h;refine xd (NY (E:=E) (a0:=λobj D=>obj= .ref s.heap.objs.size/\D={ s with heap:=s.heap.push { cls:=.type "set",dict:=ag,data:=.set #[] 0 (.fresh 0 0 led) } }) ⟨rfl,by rw[J]⟩) λr D L=>?_;cases r with
 |error e=>exact L
 |ok V=>
  cases V with
  |ret obj=>
   obtain⟨rfl,rfl⟩:=L;have T:(s.heap.push { cls:=.type "set",dict:=ag,data:=.set #[] 0 (.fresh 0 0 led) }).get? s.heap.objs.size=ae { cls:=.type "set",dict:=ag,data:=.set #[] 0 (.fresh 0 0 led) }:=cV _ rfl;have U:xc { s with heap:=s.heap.push { cls:=.type "set",dict:=ag,data:=.set #[] 0 (.fresh 0 0 led) } } (.ref s.heap.objs.size) "set":=⟨_,T,rfl⟩;have S:=F.called_set.init.lookup;have O:=F.called_set.init.bind (.ref s.heap.objs.size);repeat (any_goals (first |assumption |wp_step))
   refine xd (Ih (R:=rE (λr G=>r= .none/\a0 (.ref s.heap.objs.size) G) E) F.called_set.init.plain F.entry_set_init (check_set_init U ?_)) λI G B=>?_
   ·unfold Builtin.«set.__init__» noKeywords
    wp_walk
    exact⟨rfl,h⟩
   ·cases I with
    |error e=>exact B
    |ok H=>
     cases H with
     |ret r=>
      obtain⟨rfl,Z⟩:=B;repeat (any_goals (first |assumption |wp_step))
     |_=>exact B.elim
  |_=>exact L.elim
def kG.rel {xs:ah au}(a0:Inv X B I h)(hS:h.get? S=ag)(h3:xs.length<=3)(x:kG X.w H S xs):aF X B H (.cL xs) (.ref S):=by
 obtain⟨o,G,J,t,a,b,c,d,e,f,g,i⟩:=x;obtain⟨F,E⟩:=a0.fresh hS;have D:=e.length_eq;simp at D;exact⟨⟨F,E,a,b,c,⟨_,e,NR d,f,by exact TT (EL D) h3,i,g.led⟩⟩⟩
def sk {l:ah AV}:∀{xs:ah au},strsOf l=ae xs->l=xs.map .str:=by
 induction l with
 |nil=>exact λe=>dp e ▸ rfl
 |cons x l B=>cases x with
  |str i=>
   intro ns e;obtain⟨E,D,rfl⟩:=jZ.mp e;rw[B D];rfl
  |_=>exact λe=>gh e
def N9 (a0:Inv X B I h)(hh:A.handled=ag)(ra:aT X B h T V)(rk:cq X B h kw kvs):aW X A [] (RV X) B I h (call (.type "set") V kvs) (jI F T kw .set):=by
 intro z W Q E D;obtain⟨rfl,D⟩:=g7 rk D;cases ra with
 |nil=>
  have D:aL X z [] B h (RV X) Q E (.ok (.cL [])) I:=D;exact N8 (s:=sh z h W) (D _ _ _ _ (.refl _) (a0.push _) (Go.push ..) _ (DB.rel a0 (eT h) (by simp)))
 |cons U Y=>
  obtain⟨x,v,q,o,D⟩:=jn (.cons U Y) D;rw[q];obtain⟨i,q,D⟩:=iz D;subst q;obtain⟨e⟩:=o;obtain⟨l,u,D⟩:=gY D;obtain⟨G,b,D⟩:=c9 D;obtain⟨⟨J,M⟩,D⟩:=a6 D;have D:aL X z [] B h (RV X) Q E (.ok (.cL G)) I:=D;obtain⟨O,n,f,K,len,_⟩:=ey a0 u e;rw[sk b]at K len;refine NZ (s:=sh z h W) (O:=O.toArray) (xs:=G) hh f.isList (λj v S=>?_) (by rw[cG,len,aO]) J M λH k Z R=>?_
  ·have N:j < G.length:=by
    rw[<-aO (f:=AV.str),<-len];exact(cF.mp (show O[j]? =ae v by simpa using S)).1
   obtain⟨w,L,t,q⟩:=K.get (i:=j) (x:=.str G[j]) (by rw[dA,cy N];rfl);rw[show O[j]? =ae v by simpa using S]at L;exact⟨_,t,cy N,(dp L).trans q⟩
  ·exact D _ _ _ _ (.refl _) (a0.keeps R) (Go.keeps X B R []) _ (Z.rel a0 (eT h) M)
def Inv.DC {b0:AO}(a0:Inv X B I h)(hi:I[i]? =ae ao)(ha:B[i]? =ae a)(hk:∀b o,b≠a->h.get? b=ae o->H.get? b=ae o)(he:H.get? a=ae o')(hf:o'.isFreed=az)(b:OB X B h b0 o')(ex:ah ay)(hq:jh ao=aj->jh b0=aj:=by intro q0;cases q0):
  Inv X B (I.set i b0) H/\Go X ex B h B H:=by
 obtain⟨o,E,_⟩:=a0.obj i ao a hi ha;obtain g:=iI (λu=>o') E hf;obtain D:=dY h a (λu=>o');obtain⟨G,J⟩:=a0.change hi ha D g b ex hq;obtain kk:∀b o,(h.update a (λu=>o')).get? b=ae o->H.get? b=ae o:=λb F e=>by
  by_cases q:b=a
  ·subst q;rw[g]at e;cases e;exact he
  ·exact hk b F q ((D.2 b q).symm.trans e)
 exact⟨G.keeps kk,J.trans (Go.keeps X B kk ex)⟩
def next_item {it l:ay}{x:aw}{a0:ax aw->aD->Prop}(ho:s.heap.get? it=ae o)(hc:o.cls= .type "list_iterator")(hd:o.data= .fields #[.ref l,.int i 0])(hl:s.heap.IsList l O)(hx:O[i]? =ae x)(hQ:∀H o',H.get? it=ae o'->o'.cls= .type "list_iterator"->o'.data= .fields #[.ref l,.int (i+1:ak) 0]->fk it s.heap H->a0 (ae x) { s with heap:=H }):
  aA (aV prog w) A (hZ (.ref it)) a0 E s:=by
 unfold pyNext;refine wB (nu (yb ho hc hd hl hx λH o' a b c d=>?_));exact aC (hQ H o' a b c d)
def next_end {o:Obj}{it l:ay}{a0:ax aw->aD->Prop}(hh:A.handled=ag)(ho:s.heap.get? it=ae o)(hc:o.cls= .type "list_iterator")(hd:o.data= .fields #[.ref l,.int i 0])(hl:s.heap.IsList l O)(hx:O[i]? =ag)(hQ:∀H o',H.get? it=ae o'->o'.cls= .type "list_iterator"->o'.data= .fields #[.none,.int i 0]->(∀b o,b≠it->s.heap.get? b=ae o->H.get? b=ae o)->a0 ag { s with heap:=H }):
  aA (aV prog w) A (hZ (.ref it)) a0 E s:=by
 unfold pyNext;refine wB (nu (yc hh ho hc hd hl hx λB H e o' a b c d k u hx=>?_));obtain⟨F,D,I⟩:=hx;refine wB (l9 (T:="StopIteration") (b:=aj) ⟨F,D,I⟩ oz ?_);exact aC (hQ H o' (k _ _ a) b c λJ L G K=>k _ _ ((d.2 J G).trans K))
def Oa {o:Obj}{it:ay}{a0:ax aw->aD->Prop}{V:aZ aw}(hh:A.handled=ag)(ho:s.heap.get? it=ae o)(hc:o.cls= .type "list_iterator")(hd:o.data= .fields V)(h0:V[0]? =ae .none)(hQ:∀H,(∀b o,s.heap.get? b=ae o->H.get? b=ae o)->a0 ag { s with heap:=H }):
  aA (aV prog w) A (hZ (.ref it)) a0 E s:=by
 unfold pyNext;refine wB (nu (CJ hh ho hc hd h0 λH e k u F=>?_));obtain⟨G,B,D⟩:=F;refine wB (l9 (T:="StopIteration") (b:=aj) ⟨G,B,D⟩ oz ?_);exact aC (hQ H k)
theorem Ob {a0 l:ay}{O:ah aw}(hh:A.handled=ag)(e0:l≠a0)(c0:S≠a0)(d0:S≠l)(hn:O.length<=10000):
  ∀(r k:ak) (h:aG) (b0:ah aw) (c:ak) (oI:Obj),O.length - k=r->k<=O.length->b0.length<=k->h.get? a0=ae oI->oI.cls= .type "list_iterator"->oI.data= .fields #[.ref l,.int k 0]->h.IsList l O.toArray->
   h.get? S=ae { cls:=.type "list",data:=.seq b0.toArray c }->
   (∀H c' sm,(∀b o,b≠S->b≠a0->h.get? b=ae o->H.get? b=ae o)->H.get? a0=ae sm->sm.cls= .type "list_iterator"->sm.data= .fields #[.none,.int O.length 0]->H.get? S=ae { cls:=.type "list",data:=.seq (b0++O.drop k).toArray c' }->R (.ok (.ret .none)) { s with heap:=H })->
   j' (aV prog w) A (.builtin "list.extend.loop" ⟨[.ref S,.ref a0,.none],[]⟩) R { s with heap:=h }:=by
 intro r;induction r with
 |zero=>
  intro k h b0 c oI E u G Y L K J Q Z;have D:k=O.length:=Aj u (H7 E);refine kb F.entry_extend_loop ?_;rw[mq F.plain_extend_loop _];show aA _ A.in1 (hZ (.ref a0)>>=_) _ _ _;refine wB (next_end (s:={ s with heap:=h }) (show A.in1.handled=ag from hh) Y L K J (by simp;exact(EG D)) λH T a b c' d=>?_);refine aC (Z H c T (λb o M X e=>d b o X e) a b (by rw[c',D]) ?_);rw[d S _ c0 Q,D,Ii,fS]
 |succ r m=>
  intro k h b0 c oI E u G Y L K J Q Z;have B:k < O.length:=H8 (by rw[E];exact Bh _);refine kb F.entry_extend_loop ?_;rw[mq F.plain_extend_loop _];show aA _ A.in1 (hZ (.ref a0)>>=_) _ _ _;refine wB (next_item (s:={ s with heap:=h }) Y L K J (x:=O[k]) (by simp[B]) λH T a b c' d=>?_);obtain vA:H.get? S=ae { cls:=.type "list",data:=.seq b0.toArray c }:=(d.2 S c0).trans Q;show aA _ A.in1 (mv S (·.push O[k])>>=_) _ _ _;refine wB (mw vA rfl ?_ (by rw[cG];show _<=2 ^ 24;exact TT G (CF 1 0 0 10000 0 16777216 B hn rfl)) (by rw[Ij,cG];show _<=2 ^ 24+1;exact CF 1 0 0 10000 1 16777217 (CH 0 0 1 0 G B) hn rfl));obtain V:=dY H S (bQ (·.push O[k]));obtain g:=iI (bQ (·.push O[k])) vA rfl;obtain⟨U,N⟩:∃U,bQ (·.push O[k]) { cls:=.type "list",data:=.seq b0.toArray c }={ cls:=.type "list",data:=.seq (b0++[O[k]]).toArray U }:=by
   refine⟨if (b0.toArray.push O[k]).size == b0.toArray.size then c else c+1,?_⟩;simp[bQ]
  rw[N]at g;refine aC ⟨oF F.plain_extend_loop _,m (k+1) _ (b0++[O[k]]) U T (bZ Nat.pred E) (by exact B) (by simp;exact G) ((V.2 a0 c0.symm).trans a) b c' ?_ g λX c3 o2 e1 e2 z e4 f=>?_⟩
  ·obtain⟨ol,q1,q2⟩:=J;exact⟨ol,(V.2 l d0.symm).trans ((d.2 l e0).trans q1),q2⟩
  ·refine Z X c3 o2 (λW o3 M j e=>e1 W o3 M j ((V.2 W M).trans ((d.2 W j).trans e))) e2 z e4 ?_;rw[f,jY,ou B];rfl
theorem DD {a0:aw->aD->Prop}{it:ay}(ho:s.heap.get? it=ae o)(hc:o.cls= .type "list_iterator")(h:j' (aV prog w) A.in1 (.builtin "list.extend.loop" ⟨[.ref s.heap.objs.size,.ref it,.none],[]⟩) (rE (λr b0=>r= .none/\a0 (.ref s.heap.objs.size) b0) E)
   { s with heap:=(s.heap.push { cls:=.type "list",data:=.seq #[] }).update s.heap.objs.size (bQ (λc=>(#[]:aZ aw))) }):
  aA (aV prog w) A (call (.type "list") [.ref it]) a0 E s:=by
 have I:it≠s.heap.objs.size:=λe=>dP _ (e ▸ gN ho);refine callType_codes (Q₁:=λobj B=>obj= .ref s.heap.objs.size/\B={ s with heap:=s.heap.push { cls:=.type "list",data:=.seq #[] } }) F.called_list (F.typeCall_list_1 _) F.entry_list_init
  (code_list_new _ ⟨rfl,rfl⟩) λobj B H=>?_
 obtain⟨rfl,rfl⟩:=H;have J:(s.heap.push { cls:=.type "list",data:=.seq #[] }).get? s.heap.objs.size=ae { cls:=.type "list",data:=.seq #[] }:=cV _ rfl;refine⟨⟨_,J,rfl⟩,F.args_list_init_2 _ _,?_⟩;show aA _ A.in1.in1 (do let old <-GI (.ref s.heap.objs.size);tz (.ref s.heap.objs.size) (λu=>#[]);letGo old.toList.reverse;Ik (.ref s.heap.objs.size) (.ref it) .none) _ _ _;refine wB ?_;unfold Builtin.List.listItems;refine wB (j4 J rfl (aC ?_));show aA _ A.in1.in1 (mv s.heap.objs.size (λu=>#[])>>=λu=>letGo (#[]:aZ aw).toList.reverse>>=λu=>Ik (.ref s.heap.objs.size) (.ref it) .none) _ _ _;refine wB (mw J rfl ?_);refine wB (ia ?_);have D:xc { s with heap:=(s.heap.push { cls:=.type "list",data:=.seq #[] }).update s.heap.objs.size (bQ (λu=>(#[]:aZ aw))) } (.ref it) "list_iterator":=
  ⟨o,((dY ..).2 it I).trans (be _ ho),hc⟩
 unfold Builtin.List.listExtendWith;refine bO (wpAny_typeOf D ?_);have K:Il (.ref s.heap.objs.size) (.ref it)=az:=by simp[Il,I.symm]
 rw[aK (by rw[K];decide)];refine wB (ow D j6 (gw j6 D ru ?_ (ry _)));refine aC ⟨_,rfl,"list_iterator",_,D,j3.lookup,?_⟩;refine bO (ez ?_);unfold Builtin.List.listLengthHint;refine bO (rF D F.nolen_li ?_);show aA _ A.in1.in1 (specialOf (gu it) (aq "__length_hint__")>>=_) _ _ _;refine bO (rF D F.hint_li ?_)
 (generalize G:("list_iterator.__length_hint__":aI)=DF;(fail_if_success (clear G DF));wp_delta;rw[show splitId DF=ae ("list_iterator","__length_hint__") from by subst G;decide +kernel];subst G)
 refine bO (l9 (b:=aj) D (by rw[rj];kernel_rfl) ?_);refine aC ?_;rw[aK (by decide)];exact aC ⟨oF F.plain_extend_loop _,h⟩
set_option tactic.hygienic true in theorem Oc (a0 : Inv X B I h) (hh : A.handled = ag) (ra : aT X B h T V) (rk : cq X B h kw kvs) : aW X A [] (RV X) B I h (call (.type "list") V kvs) (jI F T kw .list) := by
 intro z W Q E hr;intros z W Q E _ hr;obtain (⟨x,v,rfl,hx,hr⟩):=jn ra hr;obtain⟨rfl,hr⟩:=g7 rk hr;obtain (⟨i,q,hr⟩):=iz hr;subst q;obtain⟨e⟩:=hx;rename_i a;obtain⟨ao,e1,hr⟩:=eU hr;obtain⟨o,eo,bo⟩:=a0.obj i ao a e1 e;have mL:h.get? h.objs.size=ag:=eT h;have gS:((h.push { cls:=.type "list",data:=.seq #[] }).update h.objs.size (bQ (λu=>(#[]:aZ aw)))).get? h.objs.size=ae { cls:=.type "list",data:=.seq #[] }:=
  iI (bQ (λu=>(#[]:aZ aw))) (cV _ rfl) rfl
 obtain sb:=dY (h.push { cls:=.type "list",data:=.seq #[] }) h.objs.size (bQ (λu=>(#[]:aZ aw)));have kp:∀b o,h.get? b=ae o->((h.push { cls:=.type "list",data:=.seq #[] }).update h.objs.size (bQ (λu=>(#[]:aZ aw)))).get? b=ae o:=λb o e=>by
  refine(sb.2 b λq=>?_).trans (be _ e);rw[q,mL]at e;cases e
 cases ao with
 |list l=>
  obtain⟨O,n,hl,rl,len,hlen⟩:=ey a0 e1 e;obtain⟨hg,hr⟩:=a6 hr;have hr:aL X z [] B h (RV X) Q E (.ok (.ref I.length)) (I++[.list l]):=hr;refine call_list_seq (s:=sh z h W) a (.inl rfl) hl rfl rfl (λH c' hk g=>?_) (by rw[cG];show _<=2 ^ 24;exact CF 0 0 0 4096 0 16777216 (EL len) hg rfl);obtain⟨I1,G1⟩:=a0.place hk mL g (ao:=.list l) ⟨O,c',rfl,rl,hlen⟩;exact hr _ _ _ _ (.refl _) I1 G1 _ (.ref (si a0 _))
 |iter s k=>
  cases s with
  |none=>
   obtain⟨c,V,d,d0⟩:=bo;obtain⟨hg,hr⟩:=a6 hr;have hr:aL X z [] B h (RV X) Q E (.ok (.ref I.length)) (I++[.list []]):=hr;refine DD (s:=sh z h W) eo c ?_;refine kb PySem.F.entry_extend_loop ?_;rw[mq PySem.F.plain_extend_loop _];show aA _ A.in1.in1 (hZ (.ref a)>>=_) _ _ _;refine bO (Oa (s:=sh z _ W) (show A.in1.in1.handled=ag from hh) (kp _ _ eo) c d d0 λH hk=>?_);intros H _ hk;obtain⟨I1,G1⟩:=a0.place (λb o e=>hk _ _ (kp _ _ e)) mL (hk _ _ gS) (ao:=.list []) ⟨[],0,rfl,.nil,by simp⟩;exact aC ⟨rfl,hr _ _ _ _ (.refl _) I1 G1 _ (.ref (si a0 _))⟩
  |some s=>
   obtain⟨c,la,es,d⟩:=bo;obtain⟨l,e2,hr⟩:=gY hr;obtain⟨⟨Od,DH⟩,hr⟩:=a6 hr;obtain⟨hg,hr⟩:=a6 (show(P.guard ((l.drop k).length<=4096)>>=λu=>P.alloc (.list (l.drop k))>>=λi=>P.pure (AV.ref i)).run (I.set i (.iter .none 0)) (aL X z [] B h (RV X) Q E) from hr);have hr:aL X z [] B h (RV X) Q E (.ok (.ref (I.set i (.iter .none 0)).length)) (I.set i (.iter .none 0)++[.list (l.drop k)]):=hr;obtain⟨O,m,hl,rl,len,_⟩:=ey a0 e2 es;obtain yF:la≠a:=λq=>by
    obtain⟨ol,q1,_,n,q2⟩:=hl.isList;rw[q,eo]at q1;cases q1;rw[d]at q2;cases q2
   obtain Oe:h.objs.size≠a:=λq=>by rw[<-q,mL]at eo;cases eo
   obtain Of:h.objs.size≠la:=λq=>by
    obtain⟨ol,q1,_⟩:=hl.isList;rw[<-q,mL]at q1;cases q1
   refine DD (s:=sh z h W) eo c ?_;refine Ob (s:=sh z h W) (O:=O) (show A.in1.handled=ag from hh) yF Oe Of (by exact CF 0 0 0 4096 0 10000 (EL len) DH rfl) (O.length - k) k _ [] 0 o rfl (by exact TT Od (EG len)) (cZ _) (kp _ _ eo) c d (by
    obtain⟨ol,q1,q2⟩:=hl.isList;exact⟨ol,kp _ _ q1,q2⟩) gS λH c' sm hk g1 g2 g3 g4=>?_
   refine⟨rfl,?_⟩;obtain b1:OB X B h (.list (l.drop k)) { cls:=.type "list",data:=.seq (O.drop k).toArray c' }:=⟨O.drop k,c',rfl,rl.drop k,by simp;exact CF 0 4096 10000 0 0 0 DH AL rfl⟩;obtain I1:=a0.alloc b1 rfl;obtain G1:=Go.alloc X [] B h { cls:=.type "list",data:=.seq (O.drop k).toArray c' };have ei:(I++[AO.list (l.drop k)])[i]? =ae (.iter (ae s) k):=by
    rw[ly (cF.mp e1).1];exact e1
   obtain ea:(B++[h.objs.size])[i]? =ae a:=De e;obtain fo:sm.isFreed=az:=om g3;obtain Dc:∀b ob,b≠a->(h.push { cls:=.type "list",data:=.seq (O.drop k).toArray c' }).get? b=ae ob->H.get? b=ae ob:=by
    intro b ob hb eb;intros b ob _ hb eb;by_cases q:b=h.objs.size
    ·subst q;rw[cV _ rfl]at eb;cases eb
     simpa using g4
    ·refine hk b ob q hb (kp b ob ?_);exact(Bj _ _ _ q).symm.trans eb
   obtain⟨I2,G2⟩:=I1.DC (b0:=.iter .none 0) ei ea Dc g1 fo ⟨g2,_,g3,rfl⟩ [];obtain qi:i < I.length:=(cF.mp e1).1;rw[List.set_append_left _ _ qi]at I2;exact hr _ _ _ _ (.refl _) I2 (G1.trans G2) _ (.ref (by rw[eJ,<-a0.len];simp))
 |_=>exact hr.elim
theorem eS.DJ {k:aI}{e:ay}(x:eS k e h₀ h)(hk:∀a o V,h.get? a=ae o->o.data= .fields V->H.get? a=ae o):eS k e h₀ H:=by
 obtain⟨a,b,G,B⟩:=x;obtain (⟨o,V,I,F,E,J,D⟩):=B;refine⟨a,b,G,o,V,hk _ _ _ I E,F,E,J,?_⟩;rcases D with D |⟨T,oT,ts,d1,d2,d3,d4,d5,d6,d7⟩
 ·exact .inl D
 ·exact .inr ⟨T,oT,ts,d1,d2,d3,hk _ _ _ d4 d6,d5,d6,d7⟩
def Og {b0:ax aw->aD->Prop}(r:bP X B h own ai it)(a0:Inv X B I h)(hh:A.handled=ag)(hr:(bx ai).run I λc0 Z=>match c0 with
   |.ok (ae (x0,d0))=>∀H t' v,Inv X B Z H->Dr own B h H->bP X B H own d0 it->aF X B H x0 v->b0 (ae v) (sh z H t')
   |.ok .none=>∀H t',Inv X B Z H->Dr own B h H->b0 ag (sh z H t')
   |.err _=>dm):aA (MX X) A (hZ it) b0 E (sh z h W):=by
 unfold pyNext;refine wB (nu (draw (I:=I) r a0 hh ((bx ai).mono (λc0 Z y=>?_) hr)));cases c0 with
 |err k=>exact y
 |ok p=>cases p with
  |none=>
   intro H e F D O ex K;obtain⟨o,G,M⟩:=K;refine wB (l9 (T:="StopIteration") (b:=aj) ⟨o,G,M⟩ oz ?_);exact aC (y H W F D)
  |some p=>
   obtain⟨x,d0⟩:=p;intro H t' v F D L J;exact aC (y H t' v F D L J)
def Oh (a0:Inv (X.more [S]) B I h)(hS:S∉B)(hB:X.base.get? S=ag):eF (X.more [S]) B h [S]:=λc D=>by
 rw[aJ.mp D];exact⟨hS,hB,.inl (by show S∈[S]++X.bad;simp)⟩
def DK {g:aB}(l:ah aw)(kw:ah (au×aw)):(oE (lp g) ⟨l,kw⟩).quiet=aj:=by
 cases g
 ·exact oF PySem.F.plain_min_loop _
 ·exact oF PySem.F.plain_max_loop _
def Oi {n:Int}{t tb:cK}{a0:aw->aD->Prop}(h:a0 (.bool (decide (n < b))) s):aA (aV prog w) A (tI .Lt (.int n t) (.int b tb)) a0 E s:=
 CmpOf.ints_lt (P:=λj w=>if j=0 then w= .int n t else w= .int b tb) (λj=>if j=0 then n else b) (λj w B=>by by_cases D:j=0 <;>simp[D]at B |- <;>exact⟨_,B⟩) 0 1 _ _ _ _ _ (by simp) (by simp) (by simpa using h)
def Oj {n:Int}{t tb:cK}{a0:aw->aD->Prop}(h:a0 (.bool (decide (b < n))) s):aA (aV prog w) A (tI .Gt (.int n t) (.int b tb)) a0 E s:=
 CmpOf.ints_gt (P:=λj w=>if j=0 then w= .int n t else w= .int b tb) (λj=>if j=0 then n else b) (λj w B=>by by_cases D:j=0 <;>simp[D]at B |- <;>exact⟨_,B⟩) 0 1 _ _ _ _ _ (by simp) (by simp) (by simpa using h)
set_option maxHeartbeats 1000000 in
theorem Ol {g:aB}{d:aw}{q:ay}{old:ax (aw×Int×cK)}{c:ak}(gS:s.heap.get? S=ae (bC "list" (qe old) c))(h:aA (aV prog w) A.in1 (hZ it) (λo s1=>∃c,s1.heap.get? S=ae (bC "list" (qe old) c)/\match o with
   |none=>old.elim (∀t,R (.ok (.ret d)) { s1 with toks:=t }) λp=>R (.ok (.ret p.1)) (upd s1 S #[])
   |some x0=>aA (aV prog w) A.in1 (call (.ref q) [x0]) (λy s2=>∃n t c,y= .int n t/\s2.heap.get? S=ae (bC "list" (qe old) c)/\
     j' (aV prog w) A (.builtin (lp g) ⟨[it,.ref q,.ref S],[(aq "default",d)]⟩) R (if rV g n old then upd s2 S #[x0,.int n t]else s2))
    (λe s2=>∃c,s2.heap.get? S=ae (bC "list" (qe old) c)/\R (.error e) (upd s2 S #[])) s1) (λ_ _=>dm) s):
  j' (aV prog w) A (.builtin (lp g) ⟨[it,.ref q,.ref S],[(aq "default",d)]⟩) R s:=by
 obtain E:=DK (g:=g) [it,.ref q,.ref S] [(aq "default",d)];have D:(qe old).size<=Bc:=by rw[fF];cases old <;>exact iZ rfl
 cases g
 ·refine kb PySem.F.entry_min_loop ?_;rw[show A.under (.builtin (lp az) ⟨[it,.ref q,.ref S],[(aq "default",d)]⟩)=A.in1 from mq PySem.F.plain_min_loop _];show aA _ A.in1 (q9 (.ref S)>>=_) _ _ _;refine wB (j4 gS rfl ?_);show aA _ A.in1 (tryCatch (hZ it) _>>=_) _ _ _;refine wB (rG (eA h (λo s1 h=>?_) λu u q=>q.elim));obtain⟨J,H,h⟩:=h;cases o with
  |none=>
   cases old with
   |none=>exact wB (gP (aC (h _)))
   |some p=>
    show aA _ A.in1 (mv S (λu=>#[])>>=_) _ _ _;exact wB (mw H rfl (hz:=D) (wB (ia (aC h))))
  |some x=>
   show aA _ A.in1 (tryCatch (lx [x] (call (.ref q) [x])) _>>=_) _ _ _;refine wB (rG (ez (eA h (λy s2 h=>?_) λe s2 h=>?_)))
   ·obtain⟨n,t,I,rfl,B,h⟩:=h;cases old with
    |none=>
     show aA _ A.in1 (mv S (λu=>#[x,.int n t])>>=_) _ _ _;exact wB (mw B rfl (hz:=D) (aC ⟨E,h⟩))
    |some p=>
     obtain⟨G,b,F⟩:=p;show aA _ A.in1 (tryCatch (lx [x,.int n t] (tI .Lt (.int n t) (.int b F)>>=_)) _>>=_) _ _ _;refine wB (rG (ez (wB (Oi ?_))));refine wB (ez (qM (wB (ia (aC ?_)))));rw[show rV az n (ae (G,b,F))=decide (n < b) from rfl]at h;generalize decide (n < b)=y at h |-;cases y with
     |true=>
      rw[aN rfl]at h;show aA _ A.in1 (mv S (λu=>#[x,.int n t])>>=_) _ _ _;exact wB (mw B rfl (hz:=D) (wB (ia (aC ⟨E,h⟩))))
     |false=>
      rw[aK je]at h;exact wB (ia (aC ⟨E,h⟩))
   ·obtain⟨I,B,h⟩:=h;show aA _ A.in1 (mv S (λu=>#[])>>=_) _ _ _;exact wB (mw B rfl (hz:=D) (wB (ia (tQ h))))
 ·refine kb PySem.F.entry_max_loop ?_;rw[show A.under (.builtin (lp aj) ⟨[it,.ref q,.ref S],[(aq "default",d)]⟩)=A.in1 from mq PySem.F.plain_max_loop _];show aA _ A.in1 (q9 (.ref S)>>=_) _ _ _;refine wB (j4 gS rfl ?_);show aA _ A.in1 (tryCatch (hZ it) _>>=_) _ _ _;refine wB (rG (eA h (λo s1 h=>?_) λu u q=>q.elim));obtain⟨J,H,h⟩:=h;cases o with
  |none=>
   cases old with
   |none=>exact wB (gP (aC (h _)))
   |some p=>
    show aA _ A.in1 (mv S (λu=>#[])>>=_) _ _ _;exact wB (mw H rfl (hz:=D) (wB (ia (aC h))))
  |some x=>
   show aA _ A.in1 (tryCatch (lx [x] (call (.ref q) [x])) _>>=_) _ _ _;refine wB (rG (ez (eA h (λy s2 h=>?_) λe s2 h=>?_)))
   ·obtain⟨n,t,I,rfl,B,h⟩:=h;cases old with
    |none=>
     show aA _ A.in1 (mv S (λu=>#[x,.int n t])>>=_) _ _ _;exact wB (mw B rfl (hz:=D) (aC ⟨E,h⟩))
    |some p=>
     obtain⟨G,b,F⟩:=p;show aA _ A.in1 (tryCatch (lx [x,.int n t] (tI .Gt (.int n t) (.int b F)>>=_)) _>>=_) _ _ _;refine wB (rG (ez (wB (Oj ?_))));refine wB (ez (qM (wB (ia (aC ?_)))));rw[show rV aj n (ae (G,b,F))=decide (b < n) from rfl]at h;generalize decide (b < n)=y at h |-;cases y with
     |true=>
      rw[aN rfl]at h;show aA _ A.in1 (mv S (λu=>#[x,.int n t])>>=_) _ _ _;exact wB (mw B rfl (hz:=D) (wB (ia (aC ⟨E,h⟩))))
     |false=>
      rw[aK je]at h;exact wB (ia (aC ⟨E,h⟩))
   ·obtain⟨I,B,h⟩:=h;show aA _ A.in1 (mv S (λu=>#[])>>=_) _ _ _;exact wB (mw B rfl (hz:=D) (wB (ia (tQ h))))
def Om (a v d:aw):pR "min" ⟨[a],[(aq "default",d),(aq "key",v)]⟩:=by unfold argsOk;kernel_rfl
def Oo (a v d:aw):pR "max" ⟨[a],[(aq "default",d),(aq "key",v)]⟩:=by unfold argsOk;kernel_rfl
def Oq {g:aB}{n:Int}{t:cK}{old:ax (Int×AV)}{ov:ax (aw×Int×cK)}(rx:aF X B h x v)(ro:qf X B h old ov):
  qf X B h (ae (uH g n x old)) (if rV g n ov then ae (v,n,t)else ov):=by
 cases old with
 |none=>rw[show ov=ag from ro];exact⟨v,t,rfl,rx⟩
 |some p=>
  obtain⟨w,u,rfl,D⟩:=ro;show qf X B h (ae (if (if g then decide (p.1 < n)else decide (n < p.1))then (n,x)else p)) (if (if g then decide (p.1 < n)else decide (n < p.1))then _ else _);generalize (if g then decide (p.1 < n)else decide (n < p.1))=b;cases b with
  |true=>exact⟨v,t,rfl,rx⟩
  |false=>exact⟨w,u,rfl,D⟩
theorem Ot {X:Cx}{r0:St}{a0:aw->aD->Prop}{kk dd:AV}{q:ay}{d:aw}{g:aB}(C:cn X)(hF:∀X,cn X->HF X F k)(I0:Inv X B r0 h)(ar:Ar X k (20 * k+36) A l B h)(d0:∀v s,a0 v s->R (.ok (.ret v)) s)(k0:∀e s,E e s->R (.error e) s)(e0:h.get? S=ag)(rk:aF X B h kk (.ref q))(rd:aF X B h dd d)(n:ak):
  ∀(ai:AI) (z1:aD) (b0:ah ay) (c0:St) (h1:aG) (t1:ak) (old:ax (Int×AV)) (ov:ax (aw×Int×cK)) (c:ak),Zs z z1->Inv (X.more [S]) b0 c0 h1->Go X [] B h b0 h1->bP (X.more [S]) b0 h1 [] ai (.ref a)->S∉b0->
   h1.get? S=ae (bC "list" (qe ov) c)->qf (X.more [S]) b0 h1 old ov->(oO F kk dd g n ai old).run c0 (aL X z [] B h (RV X) a0 E)->
   j' (MX X) A (.builtin (lp g) ⟨[.ref a,.ref q,.ref S],[(aq "default",d)]⟩) R (sh z1 h1 t1):=by
 obtain f0:X.base.get? S=ag:=I0.ew e0;induction n with
 |zero=>exact λb b b b b b b b b b b b b b b b hr=>hr.elim
 |succ n ih=>
  intro ai z1 b0 c0 h1 t1 old ov c Z1 I1 G1 r1 hS gS ro hr;have D:∀{N:ah ay} {T:St} {L:aG} {xs:aZ aw} {c:ak} (ys:aZ aw),Inv (X.more [S]) N T L->Go X [] B h N L->S∉N->L.get? S=ae (bC "list" xs c)->
    Inv (X.more [S]) N T (L.update S (bQ λb=>ys))/\Go X [] B h N (L.update S (bQ λb=>ys))/\Dr [S] N L (L.update S (bQ λb=>ys))/\eF (X.more [S]) N L [S]:=@λN T L xs c ys f G5 l0 g5=>by
   obtain sb:=dY L S (bQ λb=>ys);obtain g:=iI (bQ λb=>ys) g5 rfl;obtain O:=Oh f l0 f0;obtain D:Dr [S] [] L (L.update S (bQ λb=>ys)):=Dr.same (.head _) sb g;exact⟨f.dr O D,G5.dr D.widen λc hc=>by rw[aJ.mp hc];exact e0,D.widen,O⟩
  refine Ol gS (eA (Og (X:=X.more [S]) (I:=c0) (z:=z1) (W:=t1) (E:=λb b=>dm) (b0:=λo s'=>∃J Z H t',s'=sh z1 H t'/\Inv (X.more [S]) b0 Z H/\Dr [] b0 h1 H/\match o with
   |none=>aL X z [] B h (RV X) a0 E (.ok (old.elim dd (·.2))) Z
   |some vx=>J=b0/\∃x j,bP (X.more [S]) b0 H [] j (.ref a)/\aF (X.more [S]) b0 H x vx/\(F kk [x] []>>=λr=>dF r>>=λi=>oO F kk dd g n j (ae (uH g i x old))).run Z (aL X z [] B h (RV X) a0 E)) r1 I1 (show A.in1.handled=ag from ar.handled)
    ((bx ai).mono (λj0 T y5=>?_) (yl ai (show(bx ai).run c0 _ from hr)))) (λo s1 x=>?_) λb b q=>q)
  ·cases j0 with
   |err kx=>exact y5
   |ok o=>cases o with
    |none=>exact λH t' I' D'=>⟨b0,T,H,t',rfl,I',D',y5⟩
    |some p=>exact λH t' v I' D' r' rv=>⟨b0,T,H,t',rfl,I',D',rfl,p.1,p.2,r',rv,y5⟩
  ·obtain⟨_,T,L,t5,rfl,f,D5,y⟩:=x;obtain G5:Go X [] B h b0 L:=G1.dr D5 λc hc=>nomatch hc;obtain U:=D5.keep _ _ gS pK hS;refine⟨c,U,?_⟩;cases o with
   |none=>
    obtain⟨I6,G6,D6,O6⟩:=D #[] f G5 hS U;cases old with
    |none=>
     rw[show ov=ag from ro];exact λt=>d0 _ _ (y z1 b0 L t Z1 f.less G5 _ (rd.step G5.step))
    |some p=>
     obtain⟨v,t,q,rv⟩:=ro;rw[q];exact d0 _ _ (y z1 b0 _ t5 Z1 I6.less G6 _ ((rv.dr D5 r1.gj).dr D6 O6).less)
   |some vx=>
    obtain⟨_,x,j,r5,rx,y⟩:=y;have h0:qf (X.more [S]) b0 L old ov:=by
     cases old with
     |none=>exact ro
     |some p=>exact ro.imp λb q=>q.imp λb q=>⟨q.1,q.2.dr D5 r1.gj⟩
    obtain o0:aF (X.more [S]) b0 L kk (.ref q):=(rk.more (j:=[S]) (λb hb=>by rw[aJ.mp hb];exact e0)).step (Go.more G5).step;obtain m0:Ar (X.more [S]) k (20 * k+30) A.in1 l b0 L:=((ar.step G5).in1 (by exact RR 31 36 rfl)).more;refine(hF (X.more [S]) C.more C.more m0 f o0 (.cons rx .nil) .nil).qo Z1 G5 (λb hm=>nomatch hm) y (λp z' J H t' K I G Gx e x=>?_) λz6 g0 i0 h6 t6 r vr Z6 I6 W G6 rr m=>?_
    ·obtain M:=Gx.seq U rfl hS (f.gZ f0);obtain Y:=Gx.step.dt U hS;obtain⟨I7,G7,D7,O7⟩:=D #[] I G Y M;refine⟨c,M,k0 _ _ (p z' J _ t' K I7.less G7 e (x.DJ λa o V ea da=>((dY H S (bQ λb=>(#[]:aZ aw))).2 a λq=>?_).trans ea))⟩;rw[q,M]at ea;cases ea;cases da
    ·obtain⟨i,q,m⟩:=jm m;subst q;obtain⟨t2,rfl⟩:=rr;obtain Y:=W.step.dt U hS;obtain M:=W.seq U rfl hS (f.gZ f0);have p0:qf (X.more [S]) g0 h6 old ov:=by
      cases old with
      |none=>exact h0
      |some p=>exact h0.imp λb q=>q.imp λb q=>⟨q.1,q.2.step (Go.more W).step⟩
     obtain n0:=rx.step (Go.more W).step;obtain r6:=r5.step f (Go.more W) (λb hc=>nomatch hc);refine⟨i,t2,c,rfl,M,?_⟩;obtain rb:=Oq (g:=g) (n:=i) (t:=t2) n0 p0;cases hb:rV g i ov with
     |false=>
      rw[hb]at rb;exact ih j z6 g0 i0 h6 t6 _ ov c Z6 I6 G6 r6 Y M rb m
     |true=>
      rw[hb]at rb;obtain⟨I7,G7,D7,O7⟩:=D #[vx,.int i t2] I6 G6 Y M;obtain⟨c2,qr⟩:∃c2,(h6.update S (bQ λb=>#[vx,.int i t2])).get? S=ae (bC "list" #[vx,.int i t2] c2):=⟨_,nx M λb=>#[vx,.int i t2]⟩;obtain⟨w,u,q1,q2⟩:=rb;exact ih j z6 g0 i0 _ t6 (ae (uH g i x old)) (ae (vx,i,t2)) c2 Z6 I7 G7 (r6.dr D7 (λb hc=>nomatch hc)) Y qr ⟨w,u,q1,q2.dr D7 O7⟩ m
set_option tactic.hygienic true in theorem Ou {X : Cx} (C : cn X) (hF : ∀ X, cn X → HF X F k) (a0 : Inv X B I h) (ar : Ar X k (20 * k + 38) A l B h) (ra : aT X B h T V) (rk : cq X B h kw kvs) (g : aB) :
  aW X A [] (RV X) B I h (call (.builtin (JD g)) V kvs) (jI F T kw (.best g)):=by
 intro z W Q E hr;intros z W Q E _ hr;obtain (⟨x,v,rfl,hx,hr⟩):=jn ra hr;obtain (⟨dd,d,l1,ks,rfl,rd,rk,hr⟩):=vw rk hr;obtain (⟨kk,kv,l2,Wt,rfl,Ov,rk,hr⟩):=vw rk hr;obtain⟨rfl,hr⟩:=g7 rk hr;obtain (⟨i,q,hr⟩):=iz hr;subst q;obtain⟨e⟩:=hx;rename_i a;obtain (⟨m,q,hr⟩):=Dw hr;obtain q:kk= .ref m:=q;subst q;cases Ov with
 | @mk q ek=>
 obtain hr:(oO F (.ref m) dd g 65 (.obj i) ag).run I (aL X z [] B h (RV X) Q E):=hr;obtain⟨s,kx,e1⟩:∃s kx,I[i]? =ae (.iter s kx):=by
  obtain (⟨o,e1,h2⟩):=eU (show(P.load i>>=λo=>match o with
   |.iter bq _=>P.pure bq
   |.iter (ae s) k=>(do
    let l <-lst s
    match l[k]? with
    |some v=>(do P.store i (.iter (ae s) (k+1));P.pure (ae (v,AI.obj i)))
    |Option.none=>(do P.store i (.iter bq 0);P.pure bq))
   |_=>P.fail).run I _ from hr)
  cases o with
  |iter s kx=>exact⟨s,kx,e1⟩
  |_=>exact h2.elim
 obtain hT:=vl (z:=z) (W:=W) a0 e1 e;obtain mL:h.get? h.objs.size=ag:=eT h;obtain gS:(h.push { cls:=.type "list",data:=.seq ([]:ah aw).toArray }).get? h.objs.size=ae (bC "list" #[] 0):=cV _ rfl
 set_option backward.match.sparseCases true in
 obtain fin:j' (MX X) A (.builtin (lp g) ⟨[.ref a,.ref q,.ref h.objs.size],[(aq "default",d)]⟩) (λr s'=>match r with |.ok (.ret v)=>Q v s' |.ok _=>dm |.error e=>E e s') (sh z (h.push { cls:=.type "list",data:=.seq ([]:ah aw).toArray }) W):=
  Ot C hF a0 (ar.less (a4 _) (by exact RR 36 38 rfl)) (λu u q=>q) (λu u q=>q) mL (.ref ek) rd 65 (.obj i) z B I _ W ag ag 0 (.refl z) (a0.more (λb o e=>be _ e) λb hb=>by rw[aJ.mp hb];exact⟨mL,_,gS⟩) (Go.push ..) (.obj e) (a0.fresh mL).1 gS rfl hr
 obtain hq:=DK (g:=g) [.ref a,.ref q,.ref h.objs.size] [(aq "default",d)];cases g
 ·refine kmk_tree PySem.F.kind_min PySem.F.plain_min PySem.F.entry_min (Om _ _ _) ?_;show aA _ A.in1 (Im "min" ["key","default"] 0 ⟨[],[(aq "default",d),(aq "key",.ref q)]⟩>>=_) _ _ _;refine wB (aC (a:=[ae (.ref q),ae d]) ?_);refine wB (aC ?_);refine wB (ow hT j6 (gw j6 hT ru ?_ (ry _)));refine aC ⟨_,rfl,"list_iterator",_,hT,j3.lookup,?_⟩;refine wB (oh ?_ (cZ _));exact aC ⟨hq,fin⟩
 ·refine kmk_tree PySem.F.kind_max PySem.F.plain_max PySem.F.entry_max (Oo _ _ _) ?_;show aA _ A.in1 (Im "max" ["key","default"] 0 ⟨[],[(aq "default",d),(aq "key",.ref q)]⟩>>=_) _ _ _;refine wB (aC (a:=[ae (.ref q),ae d]) ?_);refine wB (aC ?_);refine wB (ow hT j6 (gw j6 hT ru ?_ (ry _)));refine aC ⟨_,rfl,"list_iterator",_,hT,j3.lookup,?_⟩;refine wB (oh ?_ (cZ _));exact aC ⟨hq,fin⟩
def DL {c0:ak->ak->(aB->aD->Prop)->aD->Prop}{lt:ak->ak->aB}{α:Type}(hc:∀i a0 C,i < n->a0 < n->i≠a0->C (lt i a0) s->c0 i a0 C s){b0:α->aD->Prop}{a:α}:
  ∀(t:KasT α),mF n lt t=ae a->b0 a s->t.kasWp c0 b0 s
 |.ret b,e,q=>by cases e;exact q
 |.ask i a0 k,e,q=>by
  have e:(if i < n/\a0 < n/\i≠a0 then mF n lt (k (lt i a0))else ag)=ae a:=e;by_cases h:i < n/\a0 < n/\i≠a0
  ·rw[aN h]at e;exact hc i a0 _ h.1 h.2.1 h.2.2 (DL hc (k (lt i a0)) e q)
  ·rw[aK h]at e;cases e
def DO {lt lt':ak->ak->aB}{α:Type}(h:∀i a0,i < n->a0 < n->lt i a0=lt' i a0):∀(t:KasT α),mF n lt t=mF n lt' t
 |.ret _=>rfl
 |.ask i a0 k=>by
  show(if i < n/\a0 < n/\i≠a0 then mF n lt (k (lt i a0))else ag)=(if i < n/\a0 < n/\i≠a0 then mF n lt' (k (lt' i a0))else ag);by_cases q:i < n/\a0 < n/\i≠a0
  ·rw[aN q,aN q,h i a0 q.1 q.2.1];exact DO h _
  ·rw[aK q,aK q]
def DP:∀(r:ah ak),(∀x∈r,x < 4)->r∈ranks r.length:=by
 intro l;induction l with
 |nil=>
  intro _;exact .head _
 |cons x r B=>
  intro h;have:=B λy D=>h y (.tail _ D);have E:=h x (.head _);show _∈(ranks r.length).flatMap _;rw[List.mem_flatMap];refine⟨r,this,?_⟩;have:x=0\/x=1\/x=2\/x=3:=by lia
  rcases this with rfl |rfl |rfl |rfl <;>simp
def Ow:(ranks 2).all (rW 2)=aj:=by decide +kernel
def Ox:(ranks 3).all (rW 3)=aj:=by decide +kernel
def Oy:(ranks 4).all (rW 4)=aj:=by decide +kernel
def Oz {r:ah ak}(h2:2<=n)(h4:n<=4)(hr:r.length=n)(hx:∀x∈r,x < 4):rW n r=aj:=by
 obtain B:=DP r hx;rw[hr]at B;have:n=2\/n=3\/n=4:=by lia
 rcases this with rfl |rfl |rfl
 ·exact bW.mp Ow r B
 ·exact bW.mp Ox r B
 ·exact bW.mp Oy r B
def yG {α:Type}{p q:α->aB}:∀{l:ah α},(∀x∈l,p x=aj->q x=aj)->∀{a:α},a∈l->q a=aj->p a=az->l.countP p < l.countP q:=by
 intro l;induction l with
 |nil=>
  intro _ a B _ _;exact nomatch B
 |cons b l I=>
  intro h a B G F;rw[uh,uh];obtain J:=Io (l:=l) (p:=p) (q:=q) λx E=>h x (.tail _ E);rcases bu.mp B with rfl |B
  ·rw[G,F];simp;exact FI 0 0 1 1 J rfl
  ·have:=I (λx E=>h x (.tail _ E)) B G F;obtain H:=h b (.head _);cases D:p b with
   |true=>rw[H D];simp;exact this
   |false=>cases q b <;>simp <;>lia
def nL.rank {α:Type}{lt:α->α->aB}(a0:nL lt){l:ah α}{x y:α}(hx:x∈l):lt x y=decide (iy lt l x < iy lt l y):=by
 cases h:lt x y with
 |true=>
  have:=yG (p:=λz=>lt z x) (q:=λz=>lt z y) (l:=l) (λz u B=>a0.trans _ _ _ B h) hx h (a0.uV x);exact(ja this).symm
 |false=>
  have:=Io (l:=l) (p:=λz=>lt z y) (q:=λz=>lt z x) λz u B=>by
   rcases a0.neg z x y B with q |q
   ·exact q
   ·rw[h]at q;cases q
  exact(pH (n7.mpr this)).symm
def lP {α β:Type}{lt:α->α->aB}{lt':β->β->aB}(f:β->α):∀(l:ah β),(∀x∈l,∀y∈l,lt (f x) (f y)=lt' x y)->sortBy lt (l.map f)=(sortBy lt' l).map f/\∀x∈sortBy lt' l,x∈l
 | [],_=>⟨rfl,λu h=>h⟩
 |x :: l,h=>by
  obtain⟨H,F⟩:=lP f l λa K b J=>h a (.tail _ K) b (.tail _ J);have E:∀(m:ah β),(∀y∈m,y∈l)->sortBy.cf lt (f x) (m.map f)=(sortBy.cf lt' x m).map f/\∀y∈sortBy.cf lt' x m,y=x\/y∈m:=by
   intro m;induction m with
   |nil=>intro _;exact⟨rfl,λy I=>.inl (aJ.mp I)⟩
   |cons y m D=>
    intro G;obtain⟨a,b⟩:=D λz B=>G z (.tail _ B);rw[f9];rw[show sortBy.cf lt (f x) (f y :: m.map f)=(if lt (f y) (f x)=aj then f y :: sortBy.cf lt (f x) (m.map f)else f x :: f y :: m.map f) from rfl,show sortBy.cf lt' x (y :: m)=(if lt' y x=aj then y :: sortBy.cf lt' x m else x :: y :: m) from rfl];rw[h y (.tail _ (G y (.head _))) x (.head _)];cases lt' y x with
    |true=>
     simp only[jB];refine⟨by rw[a,f9],λz B=>?_⟩;rcases bu.mp B with rfl |B
     ·exact .inr (.head _)
     ·exact(b z B).imp id λq=>.tail _ q
    |false=>
     simp only[jb,jc];refine⟨by simp,λz B=>?_⟩
     simpa using B
  obtain⟨a,b⟩:=E (sortBy lt' l) F;refine⟨?_,λz B=>?_⟩
  ·rw[f9];show sortBy.cf lt (f x) (sortBy lt (l.map f))=_;rw[H,a];rfl
  ·rcases b z B with rfl |q
   ·exact .head _
   ·exact .tail _ (F z q)
def OA {α:Type}{lt:α->α->aB}(a0:nL lt)(l:ah α)(h2:2<=l.length)(h4:l.length<=4)(d:α):∃p:aZ ak,mF l.length (λi b0=>lt (l.getD i d) (l.getD b0 d)) (kas_sort l.length)=ae p/\p.toList.map (λi=>l.getD i d)=sortBy lt l:=by
 have M:∀x∈l.map (iy lt l),x < 4:=by
  intro x G;obtain⟨y,E,rfl⟩:=mu.mp G;have:iy lt l y < l.countP λu=>aj:=yG (λu u u=>rfl) E rfl (a0.uV y);rw[Ip]at this;exact TT this h4
 have B:∀i b0,i < l.length->b0 < l.length->lt (l.getD i d) (l.getD b0 d)=fY (l.map (iy lt l)) i b0:=by
  intro i b0 H J;have D:l.getD i d=l[i]:=by simp[H]
  have I:l.getD b0 d=l[b0]:=by simp[J]
  unfold fY;rw[a0.rank (l:=l) (by rw[D];exact pW H),D,I];simp[H,J]
 obtain F:=Oz h2 h4 (r:=l.map (iy lt l)) (by simp) M;unfold rW at F;rw[bU]at F;obtain⟨p,D,I⟩:=jZ.mp F;refine⟨p,by rw[DO B];exact D,?_⟩;rw[I];have L:l=(dz l.length).map (λi=>l.getD i d):=by
  apply Iq (by simp);intro i K N;simp[K]
 have:=(lP (lt:=lt) (lt':=fY (l.map (iy lt l))) (λi=>l.getD i d) (dz l.length) (λx G y E=>B x y (nr.mp G) (nr.mp E))).1;rw[<-L]at this;exact this.symm
def DQ {κ:SortKind}{it:ah Keyed}{lt:Keyed->Keyed->aB}{c0:SortSt->aD->Prop}(a0:nL lt)(h2:2<=it.length)(h4:it.length<=4)(hc:∀(i b0:ak) (hi:i < it.length) (hj:b0 < it.length) (C:aB->aD->Prop),i≠b0->C (lt it[i] it[b0]) s->aA (aV prog w) A (keyLt' κ it[i].1 it[b0].1) C (λc c=>dm) s)(hQ:∀Z,(jy Z).toList=sortBy lt it->qQ Z=ag->c0 Z s):
  aA (aV prog w) A ((sortRuns').run (pG κ it.toArray #[] 7 ag)) (λr s'=>c0 r.2 s') E s:=by
 obtain⟨p,H,G⟩:=OA a0 it h2 h4 (dq,dq);have B:∀i,kas_item it.toArray i=it.getD i (dq,dq):=λi=>by
  unfold kas_item;simp[Array.getD,List.getD];by_cases h:i < it.length <;>simp[h]
 obtain run:=kas_runs (prog:=prog) (w:=w) (A:=A) (E:=E) (κ:=κ) (it:=it.toArray) (n:=it.length) (Q:=λu Z s'=>c0 Z s') (G:=λI s'=>I=p/\s'=s) (s:=s) h2 (by exact FI 0 4 1 64 h4 rfl)
  (λI Z s' N L M K=>by
   obtain⟨rfl,rfl⟩:=K;refine hQ Z ?_ M;rw[L,uj,<-G];exact Hz λi u=>B i)
  (DL (n:=it.length) (lt:=λi b0=>lt (it.getD i (dq,dq)) (it.getD b0 (dq,dq))) (λi b0 C hi hj F J=>by
   unfold kas_cmp;rw[B,B];have H:it.getD i (dq,dq)=it[i]:=by simp[hi]
   have G:it.getD b0 (dq,dq)=it[b0]:=by simp[hj]
   rw[H,G]at J |-;exact hc i b0 hi hj C F J) _ H ⟨rfl,rfl⟩)
 have D:pG κ it.toArray #[] 7 ag=kas_st κ it.toArray (l7 (dz it.length)):=by
  obtain e:=kas_range it.toArray;rw[show it.toArray.size=it.length from cG ..]at e;show pG κ it.toArray #[] 7 ag=pG κ ((l7 (dz it.length)).map (kas_item it.toArray)) #[] 7 ag;rw[e]
 rw[D];exact run
def DV:nL gG:=⟨λx=>by simp[gG],λx y z B D=>by simp only[gG,fq]at *;lia,λx y z h=>by simp only[gG,fq]at *;lia⟩
def DW:[0,1].all (λn=>(ranks n).all λr=>(sortBy (fY r) (dz n).reverse).reverse == sortBy (λi a0=>fY r a0 i) (dz n))=aj:=by decide +kernel
def OC:(ranks 2).all (λr=>(sortBy (fY r) (dz 2).reverse).reverse == sortBy (λi a0=>fY r a0 i) (dz 2))=aj:=by decide +kernel
def OE:(ranks 3).all (λr=>(sortBy (fY r) (dz 3).reverse).reverse == sortBy (λi a0=>fY r a0 i) (dz 3))=aj:=by decide +kernel
def OF:(ranks 4).all (λr=>(sortBy (fY r) (dz 4).reverse).reverse == sortBy (λi a0=>fY r a0 i) (dz 4))=aj:=by decide +kernel
def DX {α:Type}{lt:α->α->aB}(a0:nL lt)(l:ah α)(h4:l.length<=4):(sortBy lt l.reverse).reverse=sortBy (λx y=>lt y x) l:=by
 revert α lt a0 l h4;intros _ α;intros _ lt _ a0 _ l _ h4;cases l with
 |nil=>rfl
 |cons d N=>
 generalize O:d :: N=l at *;have Q:∀x∈l.map (iy lt l),x < 4:=by
  intro x E;obtain⟨y,D,rfl⟩:=mu.mp E;have:iy lt l y < l.countP λu=>aj:=yG (λu u u=>rfl) D rfl (a0.uV y);rw[Ip]at this;exact TT this h4
 have F:∀i j,i < l.length->j < l.length->lt (l.getD i d) (l.getD j d)=fY (l.map (iy lt l)) i j:=by
  intro i j H K;have I:l.getD i d=l[i]:=by simp[H]
  have M:l.getD j d=l[j]:=by simp[K]
  unfold fY;rw[a0.rank (l:=l) (by rw[I];exact pW H),I,M];simp[H,K]
 obtain B:=DP _ Q;rw[aO]at B;have G:(sortBy (fY (l.map (iy lt l))) (dz l.length).reverse).reverse=sortBy (λi j=>fY (l.map (iy lt l)) j i) (dz l.length):=by
  generalize l.map (iy lt l)=r at B;have:l.length=0\/l.length=1\/l.length=2\/l.length=3\/l.length=4:=by lia
  rcases this with e |e |e |e |e <;>rw[e]at B |-
  ·exact bU.mp (bW.mp (bW.mp DW 0 (by simp)) r B)
  ·exact bU.mp (bW.mp (bW.mp DW 1 (by simp)) r B)
  ·exact bU.mp (bW.mp OC r B)
  ·exact bU.mp (bW.mp OE r B)
  ·exact bU.mp (bW.mp OF r B)
 have J:l=(dz l.length).map (λi=>l.getD i d):=by
  apply Iq (by simp);intro i L R;simp[L]
 obtain a:=(lP (lt:=lt) (lt':=fY (l.map (iy lt l))) (λi=>l.getD i d) (dz l.length).reverse (λx E y D=>F x y (nr.mp (Ir.mp E)) (nr.mp (Ir.mp D)))).1;obtain b:=(lP (lt:=λx y=>lt y x) (lt':=λi j=>fY (l.map (iy lt l)) j i) (λi=>l.getD i d) (dz l.length) (λx E y D=>F y x (nr.mp D) (nr.mp E))).1;rw[uk,<-J]at a;rw[<-J]at b;rw[a,b,<-uk,G]
def DY {α:Type}(lt:α->α->aB):∀(l:ah α),l.length < 2->sortBy lt l=l
 | [],_=>rfl
 | [x],_=>rfl
 |_ :: _ :: _,h=>by simp at h;exact XX 3 2 (CH 3 2 0 0 h ZZ) rfl
def DZ {I:SortSt}{kS:ay}{b:aB}{e e1:ak}{b0:aZ aw}{it:ah Keyed}{P:PySem.Fin->aD->Prop}(gk:s.heap.get? kS=ae (bC "list" b0 e))(ga:s.heap.get? a=ae (bC "list" #[] e1))(c0:kS≠a)(e0:b0.size<=4)(h4:it.length<=4)(a0:(jy I).toList=sortBy gG (if b then it.reverse else it))(d0:qQ I=ag)(h:∀H c,(∀b o,b≠a->b≠kS->s.heap.get? b=ae o->H.get? b=ae o)->H.get? a=ae (bC "list" (ft b gG it).toArray c)->(∃ok n xs,H.get? kS=ae ok/\ok.data= .seq xs n)->P (.done (.ret .none)) { s with heap:=H }):
  aA (aV prog w) A (ksk_tail a b e1 (.ref kS) I) P E s:=by
 have B:(if b then ((jy I).map (·.2)).reverse else (jy I).map (·.2))=(ft b gG it).toArray:=by
  apply xf.mp;unfold ft;cases b with
  |false=>simp only[jb,jc]at a0 |-;rw[uj,a0]
  |true=>
   simp only[jB]at a0 |-;rw[Iu,uj,a0,<-uk,DX DV it h4]
 have F:(ft b gG it).toArray.size<=4:=by
  rw[<-B];have U:(jy I).size<=4:=by
   rw[<-Be,a0];have:∀(lt:Keyed->Keyed->aB) (l:ah Keyed),(sortBy lt l).length=l.length:=by
    intro lt l;induction l with
    |nil=>rfl
    |cons x l Q=>
     have K:∀m:ah Keyed,(sortBy.cf lt x m).length=m.length+1:=by
      intro m;induction m with
      |nil=>rfl
      |cons y m S=>
       rw[show sortBy.cf lt x (y :: m)=(if lt y x=aj then y :: sortBy.cf lt x m else x :: y :: m) from rfl];split
       ·rw[fm,S,fm]
       ·rfl
     show(sortBy.cf lt x (sortBy lt l)).length=_;rw[K,Q];rfl
   rw[this];split <;>simp <;>exact h4
  cases b <;>simp <;>exact U
 obtain N:=dY s.heap kS (bQ λu=>(#[]:aZ aw));obtain D:(s.heap.update kS (bQ λu=>(#[]:aZ aw))).get? a=ae (bC "list" #[] e1):=(N.2 a c0.symm).trans ga;obtain J:=nx gk λu=>(#[]:aZ aw);obtain L:=dY (s.heap.update kS (bQ λu=>(#[]:aZ aw))) a (bQ λu=>(ft b gG it).toArray);obtain G:=nx D λu=>(ft b gG it).toArray;unfold ksk_tail;try dsimp only
 refine wB (oH gk rfl ?_ (by rw[fF];exact FI 0 4 0 16777216 e0 rfl) (cZ _));refine wB (ia ?_);refine wB (xg D rfl ?_);rw[B];refine wB (oH D rfl ?_ (cZ _) (dW F (by rw[fF];exact RR 4 16777217 rfl)));rw[d0];simp only[AW,jb,jc];refine aC (h _ _ (λM o R T O=>(L.2 M R).trans ((N.2 M T).trans O)) G ⟨_,_,_,(L.2 kS c0).trans J,rfl⟩)
theorem yH {kS:ay}{b:aB}{e e1:ak}{a0:ah aw}{kz:ah Int}{P:PySem.Fin->aD->Prop}(gk:s.heap.get? kS=ae (bC "list" a0.toArray e))(ga:s.heap.get? a=ae (bC "list" #[] e1))(b0:kS≠a)(hi:n8 a0 kz)(hl:a0.length=V.length)(h4:V.length<=4)(h:∀H c,(∀b o,b≠a->b≠kS->s.heap.get? b=ae o->H.get? b=ae o)->H.get? a=ae (bC "list" (ft b gG (a0.zip V)).toArray c)->(∃ok n xs,H.get? kS=ae ok/\ok.data= .seq xs n)->P (.done (.ret .none)) { s with heap:=H }):
  aA (aV prog w) A (ksk_end a b V.toArray e1 (.ref kS) a0.toArray) P E s:=by
 have step:∀t:dn PySem.Fin,aA (aV prog w) A t P E s->aA (aV prog w) A (if b=aj then (do let _ <-jX "list.sort.reverse";t)else t) P E s:=by
  intro t L;split
  ·exact bO (gP L)
  ·exact L
 have O:a0.toArray.zip V.toArray=(a0.zip V).toArray:=by apply xf.mp;rw[ksk_zip]
 have M:(a0.zip V).length=V.length:=by simp[hl]
 have D:(if b=aj then (a0.zip V).toArray.reverse else (a0.zip V).toArray)=(if b=aj then (a0.zip V).reverse else a0.zip V).toArray:=by cases b <;>simp
 unfold ksk_end;try dsimp only
 refine step _ ?_;rw[O,D];by_cases B:V.toArray.size < 2
 ·rw[aN B,aN B];refine bO (aC ?_);rw[Iv];refine bO (aC ?_);try dsimp only
  rw[cG]at B;refine DZ (I:=pG An (if b=aj then (a0.zip V).reverse else a0.zip V).toArray #[] 7 ag) gk ga b0 (by simp;exact CF 0 0 1 2 0 4 (EL hl) B rfl) (by lia) ?_ rfl h;show(if b=aj then (a0.zip V).reverse else a0.zip V)=_;rw[DY _ _ (by split <;>simp <;>lia)]
 ·rw[aK B,aK B];rw[cG]at B;rw[ksk_kind (keys:=a0.toArray) (by simpa using hi) (by simp;exact TT (NL B) (EG hl))];refine bO (aC ?_);refine bO (DQ (κ:=oneType') (lt:=gG) DV (by split <;>simp <;>lia) (by split <;>simp <;>exact TT MR h4) (λi j F I C v G=>?_) (c0:=λZ Q=>aA (aV prog w) A (ksk_tail a b e1 (.ref kS) Z) P E Q) λZ e1 N=>?_)
  ·obtain K:=pW F;obtain J:=pW I;generalize (if b=aj then (a0.zip V).reverse else a0.zip V)[i]=x at K G |-;generalize (if b=aj then (a0.zip V).reverse else a0.zip V)[j]=y at J G |-;have qn:x∈a0.zip V:=by cases b <;>simpa using K
   have OG:y∈a0.zip V:=by cases b <;>simpa using J
   obtain⟨U,R⟩:=x;obtain⟨T,S⟩:=y;obtain⟨n,t,rfl⟩:=hi.all _ (rA qn).1;obtain⟨m,u,rfl⟩:=hi.all _ (rA OG).1;rw[keyLt'_oneType];exact oneLt_int G
  ·exact DZ gk ga b0 (by simp;exact TT (EL hl) h4) (by lia) e1 N h
def aT.ofMap {α:Type}{f:α->AV}{g:α->aw}(l:ah α)(hx:∀x∈l,aF X B h (f x) (g x)):aT X B h (l.map f) (l.map g):=by
 induction l with
 |nil=>exact .nil
 |cons x l D=>exact .cons (hx x (.head _)) (D λy E=>hx y (.tail _ E))
theorem OH {ks:ah (Int×AV)}:∀{keys V:ah aw},n8 keys (ks.map (·.1))->aT X B h (ks.map (·.2)) V->∃zz:ah ((Int×AV)×Keyed),ks=zz.map (·.1)/\keys.zip V=zz.map (·.2)/\∀z∈zz,lu z.2.1=z.1.1/\aF X B h z.1.2 z.2.2:=by
 induction ks with
 |nil=>intro _ _ _ r;cases r;exact⟨[],rfl,HX,λu I=>nomatch I⟩
 |cons p ks F=>
  intros p ks _ F;intro _ _ E r;cases E with
  |cons n t E=>cases r with
   |cons H r=>
    obtain⟨zz,J,K,G⟩:=F E r;refine⟨(p,(_,_)) :: zz,by rw[J];rfl,by rw[Bk,K];rfl,λz D=>?_⟩;rcases bu.mp D with rfl |D
    ·exact⟨rfl,H⟩
    ·exact G z D
def OI {ks:ah (Int×AV)}{a0:ah aw}(b:aB)(hi:n8 a0 (ks.map (·.1)))(r:aT X B h (ks.map (·.2)) V):
  aT X B h ((sortBy (λx y=>if b then decide (y.1 < x.1)else decide (x.1 < y.1)) ks).map (·.2)) (ft b gG (a0.zip V)):=by
 obtain⟨G,rfl,K,F⟩:=OH hi r;unfold ft;rw[K];obtain a:=lP (lt:=λx y:Int×AV=>if b then decide (y.1 < x.1)else decide (x.1 < y.1)) (lt':=λE D:(Int×AV)×Keyed=>if b then decide (D.1.1 < E.1.1)else decide (E.1.1 < D.1.1)) (λz=>z.1) G (λu u u u=>rfl);have c:=lP (lt:=λx y:Keyed=>if b then gG y x else gG x y) (lt':=λE D:(Int×AV)×Keyed=>if b then decide (D.1.1 < E.1.1)else decide (E.1.1 < D.1.1)) (λz=>z.2) G (λx I y H=>by
  unfold gG;rw[(F x I).1,(F y H).1])
 rw[a.1,c.1,oJ,oJ];exact aT.ofMap _ λz J=>(F z (c.2 z J)).2
def yI (a0:Inv (X.more j) B I h)(ho:∀c∈own,c∈j/\c∉B/\X.base.get? c=ag):eF (X.more j) B h own:=λc D=>
 ⟨(ho c D).2.1,(ho c D).2.2,.inl (gO _ (ho c D).1)⟩
theorem OJ {X:Cx}{h1:aG}{t1:ak}{a0:aw->aD->Prop}{PF:PySem.Fin->aD->Prop}{kk:AV}{q kS:ay}{b:aB}{e1:ak}{l:ah AV}{g:ah (Int×AV)->P AV}(C:cn X)(hF:∀X,cn X->HF X F k)(I0:Inv X B I h)(ar:Ar X k (20 * k+30) A le B h)(rk:aF X B h kk (.ref q))(d0:a∈j)(c0:kS∈j)(b0:∀b∈j,h.get? b=ag)(g0:kS≠a)(I1:Inv (X.more j) B I h1)(G1:Go X [] B h B h1)(v0:h1.get? kS=ae (bC "list" #[] 0))(C0:h1.get? a=ae (bC "list" #[] e1))(n0:a∉B)(m0:kS∉B)(r0:aT (X.more j) B h1 l V)(h4:V.length<=4)(u0:(nD F kk l>>=g).run I (aL X z [] B h (RV X) a0 E))(B0:∀z' J Z H t' ks out c,Zs z z'->Inv (X.more j) J Z H->Go X [] B h J H->a∉J->H.get? a=ae (bC "list" out c)->
   aT (X.more j) J H ((sortBy (λx y=>if b then decide (y.1 < x.1)else decide (x.1 < y.1)) ks).map (·.2)) out.toList->(g ks).run Z (aL X z [] B h (RV X) a0 E)->PF (.done (.ret .none)) (sh z' H t')):
  aA (MX X) A (ksk_rest a (.ref q) b V.toArray e1 (.ref kS)) PF E (sh z h1 t1):=by
 have u:X.base.get? a=ag:=I0.ew (b0 _ d0);have Y:X.base.get? kS=ag:=I0.ew (b0 _ c0);unfold ksk_rest;refine wB (gP ?_);first
  |rw[List.forIn_toArray]
  |(rw[<-Iw];simp only[List.toList_toArray])
  |rw[<-Iw]
 refine wB (ksk_fold (Cd X j F z B h kk a kS e1 l V g (aL X z [] B h (RV X) a0 E)) V 0 _ (.mk (acc:=[]) (keys:=[]) rfl (.refl z) I1 G1 n0 m0 v0 C0 .nil rfl rfl r0 u0) ?step ?done);case step=>
  rintro G v s' hx @⟨z',J,Z,H,t',O,K,e,rfl,Z',m,G',R,U,gk,ga,hi,N,L,T,S⟩;rw[ke]at N L S;rw[ke];have hj:G < V.length:=(cF.mp hx).1;have f0:G < l.length:=by rw[<-T.length];exact hj
  rw[ou f0]at S;have S:(F kk [l[G]] []>>=λr=>dF r>>=λi=>nD F kk (l.drop (G+1))>>=λrs=>g (O++((i,l[G]) :: rs))).run Z (aL X z [] B h (RV X) a0 E):=S;obtain⟨v',ev,rv⟩:=T.get (cy f0);rw[hx]at ev;cases ev;have OK:aF (X.more j) J H kk (.ref q):=(rk.more (j:=j) b0).step (Go.more G').step;have qk:Ar (X.more j) k (20 * k+30) A le J H:=(ar.step G').more;refine wB (nu ((hF (X.more j) C.more C.more qk m OK (.cons rv .nil) .nil).qo Z' G' (λd hm=>nomatch hm) S (λp z5 p0 h5 t5 Z5 I5 G5 Gx e x=>?_) λz6 x0 E0 h6 t6 r vr Z6 I6 W G6 rr e0=>?_))
  ·have i0:=Gx.seq ga rfl R (m.gZ u);have f:=Gx.seq gk rfl U (m.gZ Y);have A0:=Gx.step.dt ga R;have w0:=Gx.step.dt gk U;refine wB (gP (wB (xh f rfl ?_)));refine wB (oH f rfl ?_ (by rw[cG,fF];exact TT (EL N) (CF 1 0 0 4 0 16777216 hj h4 rfl)) (cZ _));refine wB (ia ?_);have s1:=dY h5 kS (bQ λd=>(#[]:aZ aw));have g1:=nx f λd=>(#[]:aZ aw);have w:=(s1.2 a g0.symm).trans i0;refine wB (oH w rfl ?_ (cZ _) (by rw[cG,fF];exact FI 0 4 0 16777217 h4 rfl));have s2:=dY (h5.update kS (bQ λd=>(#[]:aZ aw))) a (bQ λd=>V.toArray);have g2:=nx w λd=>V.toArray;have O5:eF (X.more j) p0 h5 [a,kS]:=yI I5 λc M=>by
    rcases bu.mp M with rfl |M
    ·exact⟨d0,A0,u⟩
    ·rw[aJ.mp M];exact⟨c0,w0,Y⟩
   have D:Dr [a,kS] [] h5 ((h5.update kS (bQ λd=>(#[]:aZ aw))).update a (bQ λd=>V.toArray)):=(Dr.same (Bl _ (aJ.mpr rfl)) s1 g1).trans (Dr.same (.head _) s2 g2);refine tQ (p z5 p0 _ t5 Z5 (I5.dr O5 D).less (G5.dr D.widen λc M=>?_) e (x.DJ λa2 o F0 ea da=>?_))
   ·rcases bu.mp M with rfl |M
    ·exact b0 _ d0
    ·rw[aJ.mp M];exact b0 _ c0
   ·refine D.keep _ _ ea (λhm=>?_) (by simp);rcases bu.mp hm with rfl |hm
    ·rw[i0]at ea;cases ea;cases da
    ·rw[aJ.mp hm,f]at ea;cases ea;cases da
  ·obtain⟨i,q,e0⟩:=jm e0;subst q;obtain⟨t2,rfl⟩:=rr;have w:=W.seq ga rfl R (m.gZ u);have j0:=W.seq gk rfl U (m.gZ Y);have y0:=W.step.dt ga R;have s0:=W.step.dt gk U;have l0:=T.step (Go.more W).step;try dsimp only
   have s1:=dY h6 kS (bQ (·.push (.int i t2)));obtain⟨c2,qr⟩:∃c2,(h6.update kS (bQ (·.push (.int i t2)))).get? kS=ae (bC "list" (l7 (K++[.int i t2])) c2):=by
    have:=nx j0 (·.push (.int i t2));have ee:(l7 K).push (tJ i t2)=l7 (K++[.int i t2]):=by simp
    simp only[ee]at this;exact⟨_,this⟩
   have O6:eF (X.more j) x0 h6 [kS]:=yI I6 λc M=>by rw[aJ.mp M];exact⟨c0,s0,Y⟩
   have D:Dr [kS] [] h6 (h6.update kS (bQ (·.push (.int i t2)))):=Dr.same (.head _) s1 qr;refine wB (oH j0 rfl ?_ (by rw[cG,fF];exact TT (EL N) (CF 1 0 0 4 0 16777216 hj h4 rfl)) (dW (n6 (Ij ..)) (by rw[cG,fF];exact CF 1 0 0 4 1 16777217 (CH 0 0 1 0 (EL N) hj) h4 rfl)));refine aC ⟨rfl,.mk (acc:=O++[(i,l[G])]) (keys:=K++[.int i t2]) rfl Z6 (I6.dr O6 D) (G6.dr D.widen (λc M=>by rw[aJ.mp M];exact b0 _ c0)) y0 s0 qr ((s1.2 a g0.symm).trans w) ?_ (by simp[N]) ?_ (aT.jl (λr=>r.dr D.widen O6) l0) ?_⟩
   ·rw[dH];exact ksk_snoc hi
   ·rw[dH,L,H9 f0];rfl
   ·simp only[jY,rB,mn];exact e0
 case done=>
  rintro s' @⟨z',J,Z,H,t',O,K,e,rfl,Z',m,G',R,U,gk,ga,hi,N,L,T,S⟩;rw[ke]at N L S;have o0:=T.length;rw[List.drop_of_length_le (by exact(EG o0))]at S;have S:(g O).run Z (aL X z [] B h (RV X) a0 E):=by
   have S:(g (O++[])).run Z (aL X z [] B h (RV X) a0 E):=S;rw[fS]at S;exact S
  rw[gy (by exact(EG o0))]at L;try dsimp only
  refine wB (xh gk rfl ?_);refine yH (s:=sh z' H t') gk ga g0 hi N h4 λh2 c h0 k0 z0=>?_;have O':eF (X.more j) J H [a,kS]:=yI m λc M=>by
   rcases bu.mp M with rfl |M
   ·exact⟨d0,R,u⟩
   ·rw[aJ.mp M];exact⟨c0,U,Y⟩
  have D:Dr [a,kS] [] H h2:=⟨λb o eb=>by
   by_cases q1:b=a
   ·subst q1;exact⟨_,k0⟩
   by_cases q2:b=kS
   ·subst q2;obtain⟨ok,n,xs,g,_⟩:=z0;exact⟨ok,g⟩
   exact⟨o,h0 b o q1 q2 eb⟩,λb o eb hn d=>h0 b o (λq=>hn (by rw[q];exact .head _)) (λq=>hn (by rw[q];exact Bl _ (aJ.mpr rfl))) eb⟩
  have rs:=OI (X:=X.more j) (B:=J) (h:=h2) (ks:=O) (a0:=K) (V:=V) b hi (by rw[L];exact aT.jl (λr=>r.dr D.widen O') T);refine B0 z' J Z h2 t' O (ft b gG (K.zip V)).toArray c Z' (m.dr O' D) (G'.dr D.widen λc M=>?_) R k0 (by simpa using rs) S
  ·rcases bu.mp M with rfl |M
   ·exact b0 _ d0
   ·rw[aJ.mp M];exact b0 _ c0
theorem D3 {X:Cx}{b0:aw->aD->Prop}{l:ah AV}{la q:ay}{kk:AV}{b:aB}{kw:ah (au×aw)}(C:cn X)(hF:∀X,cn X->HF X F k)(a0:Inv X B I h)(ar:Ar X k (20 * k+38) A le B h)(ei:I[i]? =ae (.list l))(ea:B[i]? =ae la)(h4:l.length<=4)(rk:aF X B h kk (.ref q))(c0:pR "sorted" ⟨[.ref la],kw⟩)(e0:∀x,pR "list.sort" ⟨[.ref x],kw⟩)(ht:∀x,j2.«list.sort» ⟨[.ref x],kw⟩=ksk_tree x (.ref q) b)(hr:(nD F kk l>>=λks=>cz ((sortBy (λx y=>if b then decide (y.1 < x.1)else decide (x.1 < y.1)) ks).map (·.2))).run I (aL X z [] B h (RV X) b0 E)):
  aA (MX X) A (call (.builtin "sorted") [.ref la] kw) b0 E (sh z h W):=by
 obtain (⟨V,n,hl,rl,len,_⟩):=ey a0 ei ea;refine call_function_entry_kw kind_sorted plain_sorted entry_sorted c0 ?_;unfold Builtin.«sorted»;refine wB (m:=checkCount "sorted" 1 1 _) (aC ?_);refine wB (collect_list (s:=sh z h W) hl.isList ?_ (by rw[fF];exact CF 0 0 0 4 0 16777216 (EL len) h4 rfl));refine wB (oh ?_ (by rw[fF];exact CF 0 0 0 4 0 16777216 (EL len) h4 rfl));have N:((h.push (bC "list" #[] 0)).update h.objs.size (bQ (· ++V.toArray))).objs.size=h.objs.size+1:=by
  rw[Iy,Bm]
 have M:(((h.push (bC "list" #[] 0)).update h.objs.size (bQ (· ++V.toArray))).push (bC "list" V.toArray 0)).get? (h.objs.size+1)=ae (bC "list" V.toArray 0):=by
  rw[<-N];exact cV _ rfl
 have keep:∀b o,h.get? b=ae o->(((h.push (bC "list" #[] 0)).update h.objs.size (bQ (· ++V.toArray))).push (bC "list" V.toArray 0)).get? b=ae o:=λb o q=>by
  have R:b < h.objs.size:=gN q;rw[Bj _ _ _ (by rw[N];exact jV (Bi R)),Heap.get?_update_ne _ _ _ _ (jV R),Bj _ _ _ (jV R)];exact q
 have U:(((h.push (bC "list" #[] 0)).update h.objs.size (bQ (· ++V.toArray))).push (bC "list" V.toArray 0)).objs.size=h.objs.size+2:=by rw[Bm,N]
 show aA _ _ _ _ _ (sh z (((h.push (bC "list" #[] 0)).update h.objs.size (bQ (· ++V.toArray))).push (bC "list" V.toArray 0)) W);rw[N];have G:h.get? (h.objs.size+1)=ag:=Bd (gR _);have T:h.get? (h.objs.size+3)=ag:=Bd (by exact RR 0 3 rfl);generalize f0:h.objs.size+1=D at *;generalize g0:((h.push (bC "list" #[] 0)).update h.objs.size (bQ (· ++V.toArray))).push (bC "list" V.toArray 0)=hA at *;refine wB (ez (Iz IA ⟨_,M,rfl⟩ IB ?body (e0 _)));case body=>
  show aA (MX X) A.in1.in1 (j2.«list.sort» ⟨[.ref D],kw⟩) _ _ _;rw[ht D];have s1:=dY hA D (bQ λd=>(#[]:aZ aw));obtain⟨e1,qt⟩:∃e1,(hA.update D (bQ λd=>(#[]:aZ aw))).get? D=ae (bC "list" #[] e1):=⟨_,nx M λd=>#[]⟩;have Y:((hA.update D (bQ λd=>(#[]:aZ aw))).push (bC "tuple" V.toArray 0)).objs.size=h.objs.size+3:=by rw[Bm,Iy,U]
  unfold ksk_tree;refine wB (xh M rfl ?_);refine wB (oH M rfl ?_ (by rw[cG,fF];exact CF 0 0 0 4 0 16777216 (EL len) h4 rfl) (cZ _));refine wB (xg qt rfl ?_);refine wB (m6 ?_ (by show V.length<=_;rw[fF];exact CF 0 0 0 4 0 16777216 (EL len) h4 rfl));refine wB (oh ?_ (cZ _));refine ez ?_;have gk:(((hA.update D (bQ λd=>(#[]:aZ aw))).push (bC "tuple" V.toArray 0)).push (bC "list" #[] 0)).get? (h.objs.size+3)=ae (bC "list" #[] 0):=by
   rw[<-Y];exact cV _ rfl
  have ga:(((hA.update D (bQ λd=>(#[]:aZ aw))).push (bC "tuple" V.toArray 0)).push (bC "list" #[] 0)).get? D=ae (bC "list" #[] e1):=be _ (be _ qt);have hk:∀b o,h.get? b=ae o->(((hA.update D (bQ λd=>(#[]:aZ aw))).push (bC "tuple" V.toArray 0)).push (bC "list" #[] 0)).get? b=ae o:=λb o e=>
   be _ (be _ ((s1.2 b λq=>by rw[q,G]at e;cases e).trans (keep b o e)))
  have L:∀c∈[D,h.objs.size+3],h.get? c=ag:=λc O=>by
   rcases bu.mp O with rfl |O
   ·exact G
   ·rw[aJ.mp O];exact T
  have I1:=a0.more (j:=[D,h.objs.size+3]) hk λc O=>⟨L c O,by
   rcases bu.mp O with rfl |O
   ·exact⟨_,ga⟩
   ·rw[aJ.mp O];exact⟨_,gk⟩⟩
  have f:h.objs.size+3≠D:=by exact NT (FI 0 1 1 3 (EG f0) rfl)
  have j:aT (X.more [D,h.objs.size+3]) B (((hA.update D (bQ λd=>(#[]:aZ aw))).push (bC "tuple" V.toArray 0)).push (bC "list" #[] 0)) l V:=
   (aT.jl (λr=>r.more L) rl).step (Go.keeps (X.more [D,h.objs.size+3]) B hk []).step
  have m:=OJ C hF a0 ((ar.in1 (u':=20 * k+34) (by exact RR 35 38 rfl)).in1 (u':=20 * k+30) (by exact RR 31 34 rfl)) (z:=z) (t1:=W) (a0:=b0) (E:=E) (PF:=λS s'=>∃v,S= .done (.ret v)/\aA (MX X) A.in1 (ret (gu D)) (λS s'=>∃v,S= .done (.ret v)/\b0 v s') E s') rk (j:=[D,h.objs.size+3]) (a:=D) (kS:=h.objs.size+3)
   (.head _) (Bl _ (aJ.mpr rfl)) L f (b:=b) (e1:=e1) I1 (Go.keeps X B hk []) gk ga (a0.fresh G).1 (a0.fresh T).1 j (by exact TT (EL len) h4) hr
   (λz' J Z H t' ks w c Z' I' G' d0 u rs K=>by
    obtain⟨hg,K⟩:=a6 K;have K:aL X z [] B h (RV X) b0 E (.ok (.ref Z.length)) (Z++[.list ((sortBy (λx y=>if b then decide (y.1 < x.1)else decide (x.1 < y.1)) ks).map (·.2))]):=K;refine⟨_,rfl,aC ⟨_,rfl,?_⟩⟩;have I2:=I'.adopt (D:=D) (.head _) u (ao:=.list ((sortBy (λx y=>if b then decide (y.1 < x.1)else decide (x.1 < y.1)) ks).map (·.2))) ⟨w.toList,c,by simp[bC],rs,by exact FI 0 4096 0 10000 hg rfl⟩ d0 (a0.ew G);exact K z' _ _ _ Z' I2 (G'.adopt G) _ (.ref (by rw[<-I'.len];simp)))
  rw[Y];exact m
theorem OL {X:Cx}(C:cn X)(hF:∀X,cn X->HF X F k)(a0:Inv X B I h)(ar:Ar X k (20 * k+38) A le B h)(ra:aT X B h T V)(rk:cq X B h kw kvs):
  aW X A [] (RV X) B I h (call (.builtin "sorted") V kvs) (jI F T kw .sorted):=by
 intros _ z W Q E _ D;obtain (⟨x,v,rfl,M,D⟩):=jn ra D;obtain (⟨kk,kv,O,N,rfl,G,rk,D⟩):=vw rk D;obtain (⟨b,rfl,D⟩):=Dv rk D;obtain (⟨i,q,D⟩):=iz D;subst q;obtain⟨J⟩:=M;obtain (⟨l,L,D⟩):=gY D;obtain⟨K,D⟩:=a6 D;obtain (⟨m,q,D⟩):=Dw D;obtain q:kk= .ref m:=q;subst q;obtain⟨H⟩:=G;cases b with
 |false=>exact D3 (b:=az) C hF a0 ar L J K (.ref H) (ksk_s1 _ _) (λu=>ksk_l1 _ _) (λu=>ksk_t1 _ _) D
 |true=>exact D3 (b:=aj) C hF a0 ar L J K (.ref H) (ksk_s2 _ _ _) (λu=>ksk_l2 _ _ _) (λu=>ksk_t2 _ _ _) D
def OM {X:Cx}{fv:AV}{f:aw}(C:cn X)(hF:∀X,cn X->HF X F k)(a0:Inv X B I h)(ar:Ar X k (20 * k+38) A le B h)(rf:aF X B h fv f)(ra:aT X B h T V)(rk:cq X B h kw kvs):aW X A [] (RV X) B I h (call f V kvs) (xC F fv T kw):=by
 obtain G:=ar.handled;intro z W Q E J;obtain⟨b,H,D⟩:=c9 J;clear J;obtain q:=Nx H;subst q;clear H;cases b with
 |len=>cases rf;exact Ny a0 G ra rk z W Q E D
 |iter=>cases rf;exact Nz a0 ra rk z W Q E D
 |object=>cases rf;exact NC a0 ra rk z W Q E D
 |sum=>cases rf;exact ND a0 G ra rk z W Q E D
 |list=>cases rf;exact Oc a0 G ra rk z W Q E D
 |set=>cases rf;exact N9 a0 G ra rk z W Q E D
 |type=>cases rf;exact NH a0 ra rk z W Q E D
 |sorted=>cases rf;exact OL C hF a0 ar ra rk z W Q E D
 |best g=>cases rf;exact Ou C hF a0 ar ra rk g z W Q E D
def OO:∀(l:ah au) (n:ak),aT X B h (l.map .str) (strsFrom n l):=by
 intro D;induction D with
 |nil=>
  intro _;exact .nil
 |cons x l E=>
  intro n;exact .cons (.str x n) (E (n+1))
def OP {xs:ah au}:∀{V:ah aw},aT X B h (xs.map .str) V->∃ll,V=strValues ll/\ll.map (·.1)=xs:=by
 induction xs with
 |nil=>intro V r;cases r;exact⟨[],rfl,rfl⟩
 |cons x xs E=>
  intro V r;cases r with |cons G F=>
  obtain⟨t,rfl⟩:=G;obtain⟨ll,H,D⟩:=E F;exact⟨(x,t) :: ll,by rw[H];rfl,by rw[f9,D]⟩
def OQ {s:au}{t:cK}(a0:Inv X B I h)(ra:aT X B h T V)(rk:cq X B h kw kvs):aW X A [] (RV X) B I h (call (.builtin "str.startswith") (.str s t :: V) kvs) (e8 F (.str s) .startswith T kw):=by
 intro z W Q E D;obtain⟨x,v,rfl,G,D⟩:=jn ra (nQ D);obtain⟨rfl,D⟩:=g7 rk D;obtain⟨p,q,D⟩:=xQ D;subst q;obtain⟨u,rfl⟩:=G;obtain D:aL X z [] B h (RV X) Q E (.ok (.bool (pA s p))) I:=D;exact SC.startswith (D _ _ _ _ (.refl _) a0 (.refl ..) _ (.bool _))
theorem OR {s:au}{t:cK}(a0:Inv X B I h)(ra:aT X B h T V)(rk:cq X B h kw kvs):aW X A [] (RV X) B I h (call (.builtin "str.split") (.str s t :: V) kvs) (e8 F (.str s) .split T kw):=by
 intros _ z W Q E _ D;obtain (⟨x,v,rfl,M,D⟩):=jn ra (nQ D);obtain⟨rfl,D⟩:=g7 rk D;obtain (⟨c,q,D⟩):=xQ D;subst q;obtain (⟨u,rfl⟩):=M;obtain⟨⟨L,N,O⟩,D⟩:=a6 D;obtain⟨R,D⟩:=a6 (show(P.guard (((aU s c).map AV.str).length<=4096)>>=λw=>P.alloc (.list ((aU s c).map .str))>>=λi=>P.pure (AV.ref i)).run I (aL X z [] B h (RV X) Q E) from D);have D:aL X z [] B h (RV X) Q E (.ok (.ref I.length)) (I++[.list ((aU s c).map .str)]):=D;have G:∀(V:ah aw) (K:ak),aT X B h ((aU s c).map .str) V->Q (.ref h.objs.size) (sh z (h.push { cls:=.type "list",data:=.seq V.toArray }) K):=λV K r=>
  D _ _ _ _ (.refl _) (a0.alloc (ao:=.list ((aU s c).map .str)) ⟨V,0,rfl,r,by exact FI 0 4096 0 10000 R rfl⟩ rfl) (Go.alloc ..) _ (.ref (si a0 _))
 cases H:(decide (s.length < c.length) || decide (IC s < IC c))
 ·cases J:(l4 s c 0 s.length (s.length+1)).isEmpty
  ·refine nj PySem.F.slot_str_split (pP _ _ _) PySem.F.entry_str_split (PySem.F.args_str_split_2 _ _) (meets_str_split_sep s c t u H L J (by show _<=2 ^ 24;exact FI 0 4096 0 16777216 N rfl) (by show _<=2 ^ 24;exact FI 0 4096 0 16777216 O rfl)) ?_;refine G (strsFrom W (mZ s (l4 s c 0 s.length (s.length+1)) c.length)) _ ?_;have e:aU s c=mZ s (l4 s c 0 s.length (s.length+1)) c.length:=(aK (Bn H)).trans (aK (Bn J));rw[e];exact OO _ _
  ·refine nj PySem.F.slot_str_split (pP _ _ _) PySem.F.entry_str_split (PySem.F.args_str_split_2 _ _) (meets_str_split_not_found s c t u H L J) ?_;have e:aU s c=[s]:=(aK (Bn H)).trans (aN J);exact G [.str s t] W (by rw[e];exact .cons (.str s t) .nil)
 ·refine nj PySem.F.slot_str_split (pP _ _ _) PySem.F.entry_str_split (PySem.F.args_str_split_2 _ _) (meets_str_split_cannot_occur s c t u H) ?_;have e:aU s c=[s]:=aN H;exact G [.str s t] W (by rw[e];exact .cons (.str s t) .nil)
theorem OS {s:au}{t:cK}(a0:Inv X B I h)(ra:aT X B h T V)(rk:cq X B h kw kvs):aW X A [] (RV X) B I h (call (.builtin "str.join") (.str s t :: V) kvs) (e8 F (.str s) .join T kw):=by
 intros _ z W Q E _ D;obtain (⟨x,v,rfl,G,D⟩):=jn ra (nQ D);obtain⟨rfl,D⟩:=g7 rk D;obtain (⟨i,q,D⟩):=iz D;subst q;obtain⟨L⟩:=G;obtain (⟨l,M,D⟩):=gY D;obtain (⟨J,ex,D⟩):=c9 D;obtain⟨N,D⟩:=a6 D;obtain D:aL X z [] B h (RV X) Q E (.ok (.str (jv s J))) I:=D;obtain⟨V,n,O,H,len,_⟩:=ey a0 M L;obtain⟨S,rfl,R⟩:=OP (sk ex ▸ H);exact SC.join (s:=sh z h W) O.isList R N λK k=>D z B h k (.refl _) a0 (.refl ..) _ (.str _ K)
def OT (a0:Inv X B I h)(ea:B[i]? =ae a)(ra:aT X B h T V)(rk:cq X B h kw kvs):aW X A [] (RV X) B I h (call (.builtin "list.append") (.ref a :: V) kvs) (e8 F (.ref i) .append T kw):=by
 intro z W Q E D;obtain⟨x,v,rfl,M,D⟩:=jn ra (nQ D);obtain⟨rfl,D⟩:=g7 rk D;obtain⟨l,K,D⟩:=gY D;obtain⟨L,D⟩:=a6 D;obtain D:aL X z [] B h (RV X) Q E (.ok .none) (I.set i (.list (l++[x]))):=D;obtain⟨V,n,U,N,len,_⟩:=ey a0 K ea;refine Dg (s:=sh z h W) U (by rw[cG];show _<=2 ^ 24;exact CF 0 0 0 4096 0 16777216 (EL len) L rfl) λH J G S=>?_;obtain b:OB X B h (.list (l++[x])) { cls:=.type "list",data:=.seq (V.toArray.push v) J }:=⟨V++[v],J,by simp,N.append (.cons M .nil),by simp;exact FI 0 4096 0 9999 L rfl⟩;obtain⟨R,O⟩:=a0.change K ea S G b [];exact D _ _ _ _ (.refl _) R O _ .none
theorem OU (a0:Inv X B I h)(ea:B[i]? =ae a)(ra:aT X B h T V)(rk:cq X B h kw kvs):aW X A [] (RV X) B I h (call (.builtin "list.extend") (.ref a :: V) kvs) (e8 F (.ref i) .extend T kw):=by
 intros _ z W Q E _ D;obtain (⟨x,v,rfl,O,D⟩):=jn ra (nQ D);obtain⟨rfl,D⟩:=g7 rk D;obtain (⟨j,q,D⟩):=iz D;subst q;cases O with
 | @mk c Z=>
 obtain (⟨l,M,D⟩):=gY D;obtain (⟨L,u,D⟩):=gY D;obtain⟨⟨w,S,o⟩,D⟩:=a6 D;obtain D:aL X z [] B h (RV X) Q E (.ok .none) (I.set i (.list (l++L))):=D;obtain⟨V,n,K,R,len,_⟩:=ey a0 M ea;obtain⟨G,k,H,J,N,_⟩:=ey a0 u Z;refine nj PySem.F.slot_list_extend ⟨_,K,rfl⟩ PySem.F.entry_list_extend (PySem.F.args_list_extend_2 _ _) (AutoSeq1.list_extend_list_list_0 a V.toArray n c G.toArray k (extend_door (by rw[cG,cG,fF];lia)) (by rw[cG,fF];exact CF 0 0 0 4096 0 16777216 (EL len) S rfl) (by rw[cG,cG,fF];lia)) ⟨K,H,?_⟩;obtain g:=ID K (λx=>x++G.toArray);obtain b:OB X B h (.list (l++L)) { cls:=.type "list",data:=.seq (V.toArray++G.toArray) (if (V.toArray++G.toArray).size == V.toArray.size then n else n+1) }:=⟨V++G,_,by rw[GW],R.append J,by simp;lia⟩;obtain⟨Y,U⟩:=a0.change M ea (dY ..) g b [];exact D _ _ _ _ (.refl _) Y U _ .none
def OV {α:Type}:∀{l:ah α} {x:α},l.getLast? =ae x->l=l.dropLast++[x]:=λ{l x} e=>by
 obtain⟨B,rfl⟩:=List.getLast?_eq_some_iff.mp e;simp
theorem aT.snoc_inv {l:ah AV}:∀{V:ah aw},aT X B h (l++[x]) V->∃ws v,V=ws++[v]/\aT X B h l ws/\aF X B h x v:=by
 induction l with
 |nil=>
  intro V r;cases r with |cons H D=>cases D;exact⟨[],_,rfl,.nil,H⟩
 |cons y l F=>
  intro V r;cases r with |cons G D=>
  obtain⟨ws,v,rfl,I,E⟩:=F D;exact⟨_ :: ws,v,rfl,.cons G I,E⟩
theorem OW (a0:Inv X B I h)(ea:B[i]? =ae a)(ra:aT X B h T V)(rk:cq X B h kw kvs):aW X A [] (RV X) B I h (call (.builtin "list.pop") (.ref a :: V) kvs) (e8 F (.ref i) .pop T kw):=by
 intros _ z W Q E _ G;obtain⟨rfl,G⟩:=yC ra (nQ G);obtain⟨rfl,G⟩:=g7 rk G;obtain (⟨l,N,G⟩):=gY G;obtain (⟨x,ex,G⟩):=c9 G;obtain G:aL X z [] B h (RV X) Q E (.ok x) (I.set i (.list l.dropLast)):=G;obtain (⟨V,n,J,K,len,H⟩):=ey a0 N ea;rw[OV ex]at K;obtain (⟨D,v,rfl,Y,S⟩):=K.snoc_inv;have L:(D++[v]).toArray.size - 1=D.length:=by rw[cG,bK];rfl
 refine nj PySem.F.slot_list_pop ⟨_,J,rfl⟩ PySem.F.entry_list_pop (PySem.F.args_list_pop_1 _) (PySem.MeetsSeq.list_pop_last a _ n v (by rw[L];simp) (by rw[cG,len,fF];exact FI 0 10000 0 16777216 H rfl)) ⟨J,?_⟩;obtain g:=ID J (λO=>O.eraseIdxIfInBounds ((D++[v]).toArray.size - 1));have U:(D++[v]).toArray.eraseIdxIfInBounds ((D++[v]).toArray.size - 1)=D.toArray:=by
  rw[L,kl_erase,fS]
 obtain b:OB X B h (.list l.dropLast) { cls:=.type "list",data:=.seq ((D++[v]).toArray.eraseIdxIfInBounds ((D++[v]).toArray.size - 1)) (if ((D++[v]).toArray.eraseIdxIfInBounds ((D++[v]).toArray.size - 1)).size == (D++[v]).toArray.size then n else n+1) }:=⟨D,_,by rw[U],Y,by simp;exact FI 0 10000 0 10001 H rfl⟩;obtain⟨R,M⟩:=a0.change N ea (dY ..) g b [];exact G _ _ _ _ (.refl _) R M _ (S.step M.step)
def vB {xs:aZ aw}(g:h.get? a=ae o)(d:o.data= .seq xs n):dJ h (.ref a)=(lu (xs.getD 0 .none),lu (xs.getD 1 .none)):=by
 show(match h.get? a with |some o=>(match o.data with |.seq xs _=>(lu (xs.getD 0 .none),lu (xs.getD 1 .none)) |_=>(0,0)) |none=>(0,0))=_;rw[g];show(match o.data with |.seq xs _=>(lu (xs.getD 0 .none),lu (xs.getD 1 .none)) |_=>(0,0))=_;rw[d]
def yJ:nL cX:=by
 refine⟨λx=>by simp[cX],λx y z B D=>?_,λx y z h=>?_⟩
 ·simp only[cX,pN,cW,fq,bU]at *;rcases B with B |⟨e1,B⟩<;>rcases D with D |⟨e2,D⟩
  ·exact .inl (um B D)
  ·exact .inl (e2 ▸ B)
  ·exact .inl (e1.symm ▸ D)
  ·exact .inr ⟨e1.trans e2,um B D⟩
 ·simp only[cX,pN,cW,fq,bU]at *;rcases Int.lt_trichotomy x.1 y.1 with c |c |c
  ·exact .inl (.inl c)
  ·rcases h with h |⟨e,h⟩
   ·exact .inr (.inl (c ▸ h))
   ·rcases uo (x.2 < y.2)with d |d
    ·exact .inl (.inr ⟨c,d⟩)
    ·exact .inr (.inr ⟨c.symm.trans e,GS (Hb.1 d) h⟩)
  ·exact .inr (.inl (h.elim (um c) λh=>h.1 ▸ c))
def D4 (h:aG):nL (jj h):=⟨λx=>yJ.uV _,λx y z B D=>yJ.trans _ _ _ B D,λx y z h=>yJ.neg _ _ _ h⟩
def OX (a:ay):j2.«list.sort» ⟨[.ref a],[]⟩=rX a az:=rfl
def OY (a:ay):j2.«list.sort» ⟨[.ref a],[(aq "reverse",.bool aj)]⟩=rX a aj:=rfl
theorem OZ {x y:aw}{C:aB->aD->Prop}(hx:nM s.heap x)(hy:nM s.heap y)(a0:dJ s.heap x≠dJ s.heap y)(hC:C (cX (dJ s.heap x) (dJ s.heap y)) s):aA (aV prog w) A (keyLt' (tuples' aj) x y) C E s:=by
 obtain (⟨a,o,B,Q,D,O,S,n,rfl,J,V,I⟩):=hx;obtain (⟨c,p,G,T,F,U,R,m,rfl,L,N,K⟩):=hy;have k1:dJ s.heap (.ref a)=(B,D):=vB J I;have k2:dJ s.heap (.ref c)=(G,F):=vB L K;rw[k1,k2]at a0 hC;refine kat_lt J I L K ?_;refine kat_cons (tn ?_);by_cases H:B=G
 ·subst H;rw[IE];refine kat_yes (kat_cons (tn ?_));obtain M:D≠F:=λq=>a0 (by rw[q]);rw[og.mpr M];refine kat_no ?_;refine kat_one _ _ ?_;have:cX (B,D) (B,F)=decide (D < F):=by simp[cX]
  rw[this]at hC;exact PySem.P.lt_int hC
 ·rw[og.mpr H];refine kat_no ?_;have:cX (B,D) (G,F)=decide (B < G):=by simp[cX,H]
  rw[this]at hC;exact oneLt_int hC
def nM.keep (x:nM h v)(hk:∀a o xs n,h.get? a=ae o->o.cls= .type "tuple"->o.data= .seq xs n->H.get? a=ae o):nM H v/\dJ H v=dJ h v:=by
 obtain⟨a,o,G,F,B,E,D,n,rfl,g,c,d⟩:=x;obtain g':=hk _ _ _ _ g c d;exact⟨⟨a,o,G,F,B,E,D,n,rfl,g',c,d⟩,by rw[vB g d,vB g' d]⟩
def D8 (b:aB)(lt:Keyed->Keyed->aB)(it:ah Keyed):(ft b lt it).length=it.length:=by
 unfold ft;rw[aO];have:∀(lt:Keyed->Keyed->aB) (l:ah Keyed),(sortBy lt l).length=l.length:=by
  intro lt l;induction l with
  |nil=>rfl
  |cons x l E=>
   have B:∀m:ah Keyed,(sortBy.cf lt x m).length=m.length+1:=by
    intro m;induction m with
    |nil=>rfl
    |cons y m D=>
     unfold sortBy.cf;split
     ·rw[fm,D,fm]
     ·rfl
   show(sortBy.cf lt x (sortBy lt l)).length=_;rw[B,E];rfl
 exact this _ _
set_option backward.match.sparseCases true in
theorem O2 {b:aB}{PF:PySem.Fin->aD->Prop}(ho:s.heap.get? a=ae (bC "list" V.toArray n))(h4:V.length<=4)(hT:∀v∈V,nM s.heap v)(a0:(V.map (dJ s.heap)).Nodup)(h:∀H c,(∀b' o,b'≠a->s.heap.get? b'=ae o->H.get? b'=ae o)->H.get? a=ae (bC "list" (ft b (jj s.heap) (V.zip V)).toArray c)->PF (.done (.ret .none)) { s with heap:=H }):
  aA (aV prog w) A (rX a b) PF E s:=by
 have s1:=dY s.heap a (bQ λy=>(#[]:aZ aw));obtain⟨M,qt⟩:∃M,(s.heap.update a (bQ λy=>(#[]:aZ aw))).get? a=ae (bC "list" #[] M):=⟨_,nx ho λy=>#[]⟩;unfold rX;refine wB (xh ho rfl ?_);refine wB (oH ho rfl ?_ (by rw[cG,fF];exact FI 0 4 0 16777216 h4 rfl) (cZ _));refine wB (xg qt rfl ?_);refine wB (m6 ?_ (by show V.length<=_;rw[fF];exact FI 0 4 0 16777216 h4 rfl));refine wB (oh ?_ (cZ _));refine ez ?_;have u:∀b' o,b'≠a->s.heap.get? b'=ae o->(((s.heap.update a (bQ λy=>(#[]:aZ aw))).push (bC "tuple" V.toArray 0)).push (bC "list" #[] 0)).get? b'=ae o:=λb' o R e=>
  be _ (be _ ((s1.2 b' R).trans e))
 have J:(((s.heap.update a (bQ λy=>(#[]:aZ aw))).push (bC "tuple" V.toArray 0)).push (bC "list" #[] 0)).get? a=ae (bC "list" #[] M):=be _ (be _ qt);show aA (aV prog w) A _ PF E { s with heap:=((s.heap.update a (bQ λy=>(#[]:aZ aw))).push (bC "tuple" V.toArray 0)).push (bC "list" #[] 0) };generalize ((s.heap.update a (bQ λy=>(#[]:aZ aw))).push (bC "tuple" V.toArray 0)).push (bC "list" #[] 0)=H2 at *;have W:∀v∈V,nM H2 v/\dJ H2 v=dJ s.heap v:=λv F=>(hT v F).keep λa' o xs m g c y=>u a' o (λq=>by rw[q,ho]at g;cases g;exact absurd c (by show ¬ (lA "list"=lA "tuple");decide)) g;have L:(ft b (jj s.heap) (V.zip V)).length<=4:=by rw[D8];simp;exact h4
 have step:∀t:dn PySem.Fin,aA (aV prog w) A t PF E { s with heap:=H2 }->aA (aV prog w) A (if b=aj then (do let _ <-jX "list.sort.reverse";t)else t) PF E { s with heap:=H2 }:=by
  intro t ht;split
  ·exact wB (gP ht)
  ·exact ht
 have tail:∀I:SortSt,(jy I).toList=sortBy (jj s.heap) (if b then (V.zip V).reverse else V.zip V)->qQ I=ag->aA (aV prog w) A (do
   let B:=(<-wC a) != M
   tz (.ref a) λy=>if b then ((jy I).map (·.2)).reverse else (jy I).map (·.2)
   if let ae e:=qQ I then jX "list.sort.comparison-raised";throw e
   if B then jX "list.sort.modified";raiseError "ValueError" "list modified during sort"
   ret .none) PF E { s with heap:=H2 }:=by
  intro I D T;have Q:(if b then ((jy I).map (·.2)).reverse else (jy I).map (·.2))=(ft b (jj s.heap) (V.zip V)).toArray:=by
   apply xf.mp;unfold ft;cases b with
   |false=>simp only[jb,jc]at D |-;rw[uj,D]
   |true=>
    simp only[jB]at D |-;rw[Iu,uj,D,<-uk,DX (D4 s.heap) (V.zip V) (by simp;exact h4)]
  obtain s2:=dY H2 a (bQ λy=>(ft b (jj s.heap) (V.zip V)).toArray);obtain X:=nx J λy=>(ft b (jj s.heap) (V.zip V)).toArray;refine wB (xg J rfl ?_);rw[Q];refine wB (oH J rfl ?_ (cZ _) (by rw[cG,fF];exact FI 0 4 0 16777217 L rfl));rw[T];simp only[AW,jb,jc];exact aC (h _ _ (λb' o R e=>(s2.2 b' R).trans (u b' o R e)) X)
 have hz:V.toArray.zip V.toArray=(V.zip V).toArray:=by apply xf.mp;rw[ksk_zip]
 have K:(if b=aj then (V.zip V).toArray.reverse else (V.zip V).toArray)=(if b=aj then (V.zip V).reverse else V.zip V).toArray:=by cases b <;>simp
 try dsimp only
 refine step _ ?_;rw[hz,K];by_cases G:V.toArray.size < 2
 ·rw[aN G,aN G];refine bO (aC ?_);rw[Iv];refine wB (aC ?_);try dsimp only
  rw[cG]at G;refine tail (pG An (if b=aj then (V.zip V).reverse else V.zip V).toArray #[] 7 ag) ?_ rfl;show(if b=aj then (V.zip V).reverse else V.zip V)=_;rw[DY _ _ (by split <;>simp <;>exact G)]
 ·rw[aK G,aK G];rw[cG]at G;have U:∃N:ah aw,KatTups H2 V N/\N.length=V.length/\∀v∈N,∃x t,v= .int x t:=by
   clear tail a0 G L h4 hz K ho J qt s1 u h step;induction V with
   |nil=>exact⟨[],.nil,rfl,λy S=>nomatch S⟩
   |cons v V Y=>
    obtain⟨N,k1,k2,k3⟩:=Y (λv F=>hT v (.tail _ F)) λv F=>W v (.tail _ F);obtain⟨a',o,x1,t1,x2,t2,x3,m,rfl,g,c,d⟩:=(W v (.head _)).1;refine⟨.int x1 t1 :: N,.cons g c d rfl k1,by simp[k2],λv F=>?_⟩;rcases bu.mp F with rfl |F
    ·exact⟨_,_,rfl⟩
    ·exact k3 v F
  obtain⟨N,k1,k2,k3⟩:=U;refine wB (kat_kind (T:=.type "int") k1 (by exact CF 2 0 0 0 1 0 (NL G) (EG k2) rfl) (λv F=>?_) (by decide) ?_)
  ·obtain⟨x,t,rfl⟩:=k3 v F;exact A8 rfl
  rw[show(lA "int" != lA "tuple")=aj by decide];refine wB (DQ (κ:=tuples' aj) (lt:=jj s.heap) (D4 _) (by split <;>simp <;>exact(NL G)) (by split <;>simp <;>exact h4) (λi j hi hj C z hC=>?_) (c0:=λZ s'=>aA (aV prog w) A (do
   let B:=(<-wC a) != M
   tz (.ref a) λy=>if b then ((jy Z).map (·.2)).reverse else (jy Z).map (·.2)
   if let ae e:=qQ Z then jX "list.sort.comparison-raised";throw e
   if B then jX "list.sort.modified";raiseError "ValueError" "list modified during sort"
   ret .none) PF E s') λZ M e2=>tail Z M e2)
  have O:((if b=aj then (V.zip V).reverse else V.zip V).map λp=>dJ s.heap p.1).Nodup:=by
   have e:((V.zip V).map λp=>dJ s.heap p.1)=V.map (dJ s.heap):=by
    have:∀l:ah aw,((l.zip l).map λp=>dJ s.heap p.1)=l.map (dJ s.heap):=by
     intro l;induction l with
     |nil=>rfl
     |cons x l Y=>rw[Bk,f9,f9,Y]
    exact this V
   cases b with
   |false=>simp only[jb,jc];rw[e];exact a0
   |true=>simp only[jB];rw[uk,e];exact List.pairwise_reverse.mpr (a0.imp λk=>k.symm)
  have S:∀p∈(if b=aj then (V.zip V).reverse else V.zip V),p.1∈V:=λp hp=>by
   have:p∈V.zip V:=by cases b <;>simpa using hp
   exact(rA (a:=p.1) (b:=p.2) this).1
  obtain mi:=S _ (pW hi);obtain mj:=S _ (pW hj);obtain⟨ti,ki⟩:=W _ mi;obtain⟨tj,f⟩:=W _ mj;refine OZ (s:={ s with heap:=H2 }) ti tj ?_ ?_
  ·show dJ H2 _≠dJ H2 _;rw[ki,f];intro q;have gg:i < ((if b=aj then (V.zip V).reverse else V.zip V).map λp=>dJ s.heap p.1).length:=by rw[aO];exact hi
   have yE:j < ((if b=aj then (V.zip V).reverse else V.zip V).map λp=>dJ s.heap p.1).length:=by rw[aO];exact hj
   exact z ((wH (h₀:=gg) (h₁:=yE) O).mp (by rw[IF,IF];exact q))
  ·show C (cX (dJ H2 _) (dJ H2 _)) _;rw[ki,f];exact hC
theorem O3 {l:ah AV}(r:aT X B h l V):∀{ks:ah ((Int×Int)×AV)},rM l=ae ks->
  ∃zz:ah (((Int×Int)×AV)×Keyed),ks=zz.map (·.1)/\V.zip V=zz.map (·.2)/\V.map (dJ h)=ks.map (·.1)/\(∀v∈V,nM h v)/\∀z∈zz,dJ h z.2.1=z.1.1/\aF X B h z.1.2 z.2.2:=by
 induction r with
 |nil=>exact λe=>dp e ▸ ⟨[],rfl,rfl,rfl,(λv F=>nomatch F),λv F=>nomatch F⟩
 | @cons x v l V J Z M=>
  intro ks e;obtain⟨E,T,e⟩:=qT.mp e;obtain⟨Q,F,e⟩:=jZ.mp e;obtain⟨zz,R,S,K,U,L⟩:=M F;subst e;obtain⟨y,q⟩:=xW T;subst q;have G:=J;cases J with
  | @mk ad u k j t Y W A=>
  obtain⟨_,_,g,c,n,d⟩:=t;obtain⟨N,rfl⟩:=Y;obtain⟨O,rfl⟩:=W;have D:dJ h (.ref ad)=(E.1,E.2):=by simp only[dJ,g,d];rfl
  refine⟨((E,_),(_,_)) :: zz,by rw[R];rfl,by rw[Bk,S];rfl,by rw[f9,K,D];rfl,λv I=>?_,λz H=>?_⟩
  ·rcases bu.mp I with rfl |I
   ·exact⟨_,_,E.1,N,E.2,O,_,n,rfl,g,c,d⟩
   ·exact U v I
  ·rcases bu.mp H with rfl |H
   ·exact⟨D,G⟩
   ·exact L z H
theorem Ea {b0:aw->aD->Prop}(a0:Inv X B I h)(ea:B[i]? =ae a)(c0:aB)(ha:pR "list.sort" ⟨[.ref a],kvs⟩)(ht:j2.«list.sort» ⟨[.ref a],kvs⟩=rX a c0)(hr:(lst i>>=λl=>uG c0 l>>=λl'=>P.store i (.list l')>>=λt=>P.pure AV.none).run I (aL X z [] B h (RV X) b0 E)):aA (MX X) A (call (.builtin "list.sort") [.ref a] kvs) b0 E (sh z h W):=by
 obtain (⟨l,O,hr⟩):=gY hr;obtain (⟨V,n,S,U,len,k⟩):=ey a0 O ea;obtain (⟨Z,hm,hr⟩):=c9 hr;obtain⟨⟨L,N⟩,hr⟩:=a6 hr;have hr:aL X z [] B h (RV X) b0 E (.ok .none) (I.set i (.list ((sortBy (λx y=>if c0 then cX y.1 x.1 else cX x.1 y.1) Z).map (·.2)))):=hr;obtain (⟨J,rfl,u,T,m,K⟩):=O3 U hm;refine Iz IA ⟨_,S,rfl⟩ IB ?_ ha;rw[ht];refine O2 (s:=sh z h W) S (by exact TT (EL len) N) m (by rw[T];exact L) λH c b g=>⟨_,rfl,?_⟩;have M:aT X B h ((sortBy (λx y=>if c0 then cX y.1 x.1 else cX x.1 y.1) (J.map (·.1))).map (·.2)) (ft c0 (jj h) (V.zip V)):=by
  unfold ft;rw[u];have a1:=lP (lt:=λx y:(Int×Int)×AV=>if c0 then cX y.1 x.1 else cX x.1 y.1) (lt':=λG F:((Int×Int)×AV)×Keyed=>if c0 then cX F.1.1 G.1.1 else cX G.1.1 F.1.1) (λz=>z.1) J (λv v v v=>rfl);have R:=lP (lt:=λx y:Keyed=>if c0 then jj h y x else jj h x y) (lt':=λG F:((Int×Int)×AV)×Keyed=>if c0 then cX F.1.1 G.1.1 else cX G.1.1 F.1.1) (λz=>z.2) J (λx o y w=>by
   unfold jj;rw[(K x o).1,(K y w).1])
  rw[a1.1,R.1,oJ,oJ];exact aT.ofMap _ λz f=>(K z (R.2 z f)).2
 have D:=M.length;rw[D8]at D;obtain⟨j,Y⟩:=a0.DC (b0:=.list ((sortBy (λx y=>if c0 then cX y.1 x.1 else cX x.1 y.1) (J.map (·.1))).map (·.2))) O ea b g rfl ⟨ft c0 (jj h) (V.zip V),c,rfl,M,by rw[<-D];simp;exact CF 0 0 0 4 0 10000 (EL len) N rfl⟩ [];exact hr _ _ _ _ (.refl _) j Y _ .none
def O4 (a0:Inv X B I h)(ea:B[i]? =ae a)(ra:aT X B h T V)(rk:cq X B h kw kvs):aW X A [] (RV X) B I h (call (.builtin "list.sort") (.ref a :: V) kvs) (e8 F (.ref i) .sort T kw):=by
 intro z W Q E D;obtain⟨rfl,D⟩:=yC ra (nQ D);obtain⟨b,rfl,D⟩:=Dv rk D;cases b with
 |false=>exact Ea a0 ea az (Wb _) (OX a) D
 |true=>exact Ea a0 ea aj (Wc _ _) (OY a) D
def eS.O8 {e:ay}{o:aw}{n:au}(x:Bo h H e o n):eS "AttributeError" e h H:=by
 obtain⟨t,u,B⟩:=x.there;exact⟨x.new,by rfl,by decide,_,_,B,rfl,rfl,by simp,.inl rfl⟩
def Eb:tT (.type "int") (aq "startswith")=pure ag:=by rw[rg,rh];kernel_rfl
theorem O9 {n:Int}{t:cK}{b0:au}{a0:aw->aD->Prop}(c0:tT (.type "int") b0=pure ag)(hA:A.handled=ag)(h:∀H W e,Bo s.heap H e (.int n t) b0->E (.ref e) { s with heap:=H,toks:=W })(d0:b0.length+100<=Bc:=by size_fits):
  aA (aV prog w) A (getAttr (.int n t) b0 az) a0 E s:=by
 obtain⟨O,g,d,W,os⟩:=s;have G:∀s':aD,s'.TypeIs (.int n t) "int":=λu=>rfl;have M:=sub_AttributeError;have L:=F.slot_int_getattribute.lookup;have I:=F.slot_int_getattribute.bind (.int n t);have R:=IG;unfold getAttr getAttrBy;repeat (any_goals (first |assumption |((with_reducible show aA _ _ (call (ue "object.__getattribute__") _ _) _ _ _);refine nj F.slot_int_getattribute (G _) IH (F.args_int_getattribute_2 _ _) (II n t b0 _ c0 d0) ⟨hA,λH D e B=>?_⟩) |((with_reducible show aA _ _ (call (ue "int.__getattribute__") _ _) _ _ _);refine nj F.slot_int_getattribute (G _) IH (F.args_int_getattribute_2 _ _) (II n t b0 _ c0 d0) ⟨hA,λH D e B=>?_⟩) |wp_step))
 obtain⟨J,K,N⟩:=B.there;show aA _ _ (getattributeRaised _ _ _ _ _ _ _) _ _ _;unfold getattributeRaised;repeat (any_goals (first |assumption |wp_step))
 exact h _ _ _ B
def Pa {n:Int}{t:cK}{pl:dn aB}{a0:aw×ah aw->aD->Prop}(hA:A.handled=ag)(h:∀H W e,Bo s.heap H e (.int n t) (aq "startswith")->E (.ref e) { s with heap:=H,toks:=W }):aA (aV prog w) A (Bp (.int n t) (aq "startswith") pl) a0 E s:=by
 have B:s.TypeIs (.int n t) "int":=rfl;unfold getMethod;refine bO (rF B F.slot_int_getattribute.lookup ?_);dsimp only;rw[aK (by decide +kernel)];refine wB (rF B IG ?_);refine wB (rF B Eb ?_);exact wB (O9 Eb hA h)
def Ec {m:au}(h:rO m=ae mm):m=aq (Ce mm):=by
 unfold rO at h;split at h
 ·cases h;assumption
 split at h
 ·cases h;assumption
 split at h
 ·cases h;assumption
 split at h
 ·cases h;assumption
 split at h
 ·cases h;assumption
 split at h
 ·cases h;assumption
 split at h
 ·cases h;assumption
 split at h
 ·cases h;assumption
 ·cases h
def jk.step {ov:AV}{f:aw}{fi:ah aw}(m:jk X B ov mm f fi)(a0:Go X [] B h J H):jk X J ov mm f fi:=by
 cases m with
 |startswith=>exact .startswith
 |split=>exact .split
 |join=>exact .join
 |append e=>exact .append (a0.step.iQ e)
 |extend e=>exact .extend (a0.step.iQ e)
 |pop e=>exact .pop (a0.step.iQ e)
 |sort e=>exact .sort (a0.step.iQ e)
 |names e D=>exact .names (a0.step.iQ e) D
def Pb {ov:AV}{m:au}{pl:dn aB}{b0:aw×ah aw->aD->Prop}(C:cn X)(a0:Inv X B I h)(hm:rO m=ae mm)(rv:aF X B h ov v){γ:Type}{g:b8->P γ}{p:Res γ->St->Prop}(hr:(lG ov mm>>=g).run I p)(hQ:∀f fi,jk X B ov mm f fi->(g ()).run I p->b0 (f,fi) (sh z h W)):aA (MX X) A (Bp v m pl) b0 E (sh z h W):=by
 have N:=Ec hm;subst N;cases ov with
 |str s=>
  obtain⟨t,rfl⟩:=rv;obtain⟨L,D⟩:=a6 hr;clear hr;have M:∀{p:Obj->Prop} a,qV s t=gu a->∃o,(sh z h W).heap.get? a=ae o/\p o:=λa e=>Value.noConfusion e;rcases L with rfl |rfl |rfl
  ·refine pX (v:=.str s t) (T:="str") (name:=aq "startswith") (id:="str.startswith") (pP _ _ _) PySem.F.plainAttrs_str PySem.F.slot_str_startswith PySem.F.type_str_startswith M ?_;exact hQ _ _ .startswith D
  ·refine pX (v:=.str s t) (T:="str") (name:=aq "split") (id:="str.split") (pP _ _ _) PySem.F.plainAttrs_str PySem.F.slot_str_split PySem.F.type_str_split M ?_;exact hQ _ _ .split D
  ·refine pX (v:=.str s t) (T:="str") (name:=aq "join") (id:="str.join") (pP _ _ _) PySem.F.plainAttrs_str PySem.F.slot_str_join PySem.F.type_str_join M ?_;exact hQ _ _ .join D
 |ref i=>
  cases rv with
  | @mk a e=>
  obtain⟨V,R,hr⟩:=eU (i:=i) (g:=λo=>(match o with
   |.list _=>P.guard (mm= .append\/mm= .extend\/mm= .pop\/mm= .sort)
   |.inst d=>(do
    match <-P.load d with
    |.bc l=>P.guard (mm= .names/\(l.lookup (aq "names")).isNone=aj)
    |_=>P.fail)
   |_=>P.fail)>>=g) hr
  cases V with
  |list l=>
   obtain⟨L,D⟩:=a6 hr;clear hr;obtain⟨O,n,H,rl,len,_⟩:=ey a0 R e;have J:∀b,gu a= .ref b->∃o,(sh z h W).heap.get? b=ae o/\o.dict=ag:=λb q=>by cases q;exact⟨_,H,rfl⟩
   rcases L with rfl |rfl |rfl |rfl
   ·refine pX (v:=.ref a) (T:="list") (name:=aq "append") (id:="list.append") ⟨_,H,rfl⟩ PySem.F.plainAttrs_list PySem.F.slot_list_append PySem.F.type_list_append J ?_;exact hQ _ _ (.append e) D
   ·refine pX (v:=.ref a) (T:="list") (name:=aq "extend") (id:="list.extend") ⟨_,H,rfl⟩ PySem.F.plainAttrs_list PySem.F.slot_list_extend PySem.F.type_list_extend J ?_;exact hQ _ _ (.extend e) D
   ·refine pX (v:=.ref a) (T:="list") (name:=aq "pop") (id:="list.pop") ⟨_,H,rfl⟩ PySem.F.plainAttrs_list PySem.F.slot_list_pop PySem.F.type_list_pop J ?_;exact hQ _ _ (.pop e) D
   ·refine pX (v:=.ref a) (T:="list") (name:=aq "sort") (id:="list.sort") ⟨_,H,rfl⟩ PySem.F.plainAttrs_list PySem.F.slot_list_sort PySem.F.type_list_sort J ?_;exact hQ _ _ (.sort e) D
  |inst d=>
   obtain⟨ad,U,hr⟩:=eU (i:=d) (g:=λo=>(match o with
    |.bc l=>P.guard (mm= .names/\(l.lookup (aq "names")).isNone=aj)
    |_=>P.fail)>>=g) hr
   cases ad with
   |bc l=>
    obtain⟨u,D⟩:=a6 hr;clear hr;obtain⟨rfl,Y⟩:=u;obtain⟨da,w,T,m,_,j,S,c,k,Z,_,r⟩:=yv a0 R U e;obtain⟨fN,K,G,F⟩:=C.iN.names;have q:=r (aq "names");rw[wZ.mp Y]at q;refine method_fn (s:=sh z h W) (a0.lM C) j C.iN.ga C.iN.gk G F ?_ (hQ _ _ (.names e K) D);show(lookIn (aq "names") w).map _=_;rw[C5 k Z,show jw T (aq "names")=ag from q];rfl
   |_=>exact hr.elim
  |_=>exact hr.elim
 |_=>exact hr.elim
def Ed (e:h.get? a=ae o)(d:o.data= .func fd):oA M h (oB (.ref a)) .frame:=by
 obtain⟨c,B,D,E⟩:=o;cases d;exact(Looks.ld (part:=ag) e).andThen .now
def Pc {X:Cx}{ov:AV}{f:aw}{fi:ah aw}(C:cn X)(hF:∀X,cn X->HF X F k)(a0:Inv X B I h)(ar:Ar X k (20 * k+38) A le B h)(m:jk X B ov mm f fi)(ra:aT X B h T V)(rk:cq X B h kw kvs):aW X A [] (RV X) B I h (call f (fi++V) kvs) (e8 F ov mm T kw):=by
 intro z W Q E D;cases m with
 |startswith=>exact OQ a0 ra rk z W Q E D
 |split=>exact OR a0 ra rk z W Q E D
 |join=>exact OS a0 ra rk z W Q E D
 |append e=>exact OT a0 e ra rk z W Q E D
 |extend e=>exact OU a0 e ra rk z W Q E D
 |pop e=>exact OW a0 e ra rk z W Q E D
 |sort e=>exact O4 a0 e ra rk z W Q E D
 |names e G=>
  obtain⟨rfl,D⟩:=g7 rk (nQ D);exact hF X C C (ar.less (a4 _) (by exact RR 30 38 rfl)) a0 (.fn G) (.cons (.ref e) ra) .nil z W Q E D
def Ee {n:au}(C:cn X)(a0:Inv X B I h)(e:X.ku n=ae a)(hk:∀o,X.base.get? a=ae o->eM):∃kp,(kp=tW\/kp=pV\/kp=tX)/\oA (MX X) h (oB (.ref a)) kp:=by
 by_cases D:n=gE
 ·subst D;rw[C.cls]at e;cases e;exact keeps_K (f:=.ref X.gV) C.iN.keep h (a0.lM C)
 ·obtain⟨o,E,g,d,_⟩:=C.fns n a e D h a0.base;exact⟨.frame,.inl rfl,Ed g d⟩
def Pd {X:Cx}{x:au}{T:ah aH}{ks:ah m4}{g:aH->DE}(hF:∀X,cn X->HF X F k)(hd:HE X F k U (.Name x p) d)(ha:∀e∈T,HE X F k U e (g e))(hw:∀w∈ks,HE X F k U (nK w) (g (nK w))):
  HE X F k U (.Call (.Name x p) T ks q) (λrt=>do
   P.guard (lK T ks=aj)
   let fv <-d rt
   let c0 <-dG (T.map g) rt
   let kv <-fU (ks.map (oQ g)) rt
   et rt fv c0 kv):=by
 intro A l G Q N B I h K z W D E b;obtain⟨b0,b⟩:=a6 b;refine uf ?_;refine(hd K).then b λz1 g0 f0 h1 t1 fv f I1 G1 rf d0=>?_;have K1:=K.step I1 G1;refine yn (R':=RV X) (e0:=[]) (Pk:=λH=>(∃kp,(kp=tW\/kp=pV\/kp=tX)/\oA (MX X) H (oB f) kp)) (b0:=λV kv=>et ⟨F,Q,N⟩ fv V kv) K1 ha hw b0 (λH hp=>hp) d0 λj L e0 Y m V Z kv O S G2 R rk J=>?_;have K2:=K1.step S G2;have M:=rf.step G2.step;have a0:Ar X k (20 * k+38) A l L Y:=K2.ar.less (a4 _) (by exact RR 38 40 rfl);have u:Ar X k (20 * k+30) A l L Y:=K2.ar.less (a4 _) (by exact RR 30 40 rfl);have bi:∀{fv:AV} {f:aw},aF X L Y fv f->(∃n,f= .builtin n\/f= .type n)->(xC F fv V kv).run e0 (aL X j [] L Y (RV X) D E)->(∃kp,(kp=tW\/kp=pV\/kp=tX)/\oA (MX X) Y (oB f) kp)/\aA (MX X) A (call f ([]++Z) O) D E (sh j Y m):=by
  intro fv f rf hn b;refine⟨?_,OM K.ok hF S a0 rf R rk j m D E b⟩;obtain⟨n,rfl |rfl⟩:=hn
  ·exact⟨_,.inr (.inl rfl),C7 _ _ _⟩
  ·exact⟨_,.inr (.inl rfl),se _ _ _⟩
 cases fv with
 |fn n=>
  obtain⟨e⟩:=M;exact⟨Ee K.ok S e (λv v=>trivial),hF X K.ok K.ok u S (.fn e) R rk j m D E J⟩
 |ref i=>
  obtain⟨e⟩:=M;obtain⟨ao,ei,J⟩:=eU J;cases ao with
  |lam _ _ _ _=>
   obtain⟨o,eo,bo⟩:=S.obj i _ _ ei e;obtain⟨_,_,_,_,_,_,rfl,_⟩:=bo;exact⟨⟨.frame,.inl rfl,Ed eo rfl⟩,hF X K.ok K.ok u S (.ref e) R rk j m D E J⟩
  |_=>exact J.elim
 |bi n=>cases M;exact bi (.bi n) ⟨n,.inl rfl⟩ J
 |ty n=>cases M;exact bi (.ty n) ⟨n,.inr rfl⟩ J
 |_=>exact J.elim
def Pe:∀(T:ah aH) (pos:fh) (G:bH),(lz pos (jA T G)).all (λx=>!x.1)= !(lz pos (jA T G)).any (·.1):=λT pos G=>by
 rw[qW];simp
theorem Pf {X:Cx}{o:aH}{m:au}{ap:fh}{T:ah aH}{ks:ah m4}{g:aH->DE}(hF:∀X,cn X->HF X F k)(hd:HE X F k U o d)(ha:∀e∈T,HE X F k U e (g e))(hw:∀w∈ks,HE X F k U (nK w) (g (nK w))):
  HE X F k U (.Call (.Attribute o m ap) T ks q) (λrt=>do
   P.guard (lK T ks=aj/\xE o ap q=aj/\T.length+ks.length < 28)
   let a0 <-P.opt (rO m)
   let ov <-d rt
   if isInt ov=aj/\a0= .startswith then P.err "AttributeError"
   else do
    lG ov a0
    let g0 <-dG (T.map g) rt
    let kv <-fU (ks.map (oQ g)) rt
    e8 rt.F ov a0 g0 kv):=by
 intros _ A l G Q N B I h _ K _ z W D E _ Z;obtain⟨⟨j,M,l0⟩,Z⟩:=a6 Z;obtain⟨mm,Y,Z⟩:=c9 Z;unfold xE at M;rw[cW]at M;have R:attributeBase o m G (eval o G)=eval o G:=by
  cases o <;>first |rfl |(exact absurd M.1 je)
 rw[arm_eval_Call,R];refine wB ?_;refine(hd K).then Z λz1 u i0 h1 t1 ov v I1 G1 rv L=>?_;have K1:=K.step I1 G1;refine wB (jC ?_);have J:=j;unfold lK at J;rw[cW]at J;obtain⟨w1,w2⟩:=ym ks q G J.2;have S:methodCallForm (T.length+ks.length) (lz q (jA T G)) (me q (mh ks G))=aj:=by
  clear M;unfold methodCallForm;rw[Pe,plain_any T q G J.1,w1];simp;split <;>lia
 have d0:methodCallPos aj o G ap q=pure q:=by unfold methodCallPos;simp[M.2]
 unfold methodCall;rw[S];have b:calleeOf aj o G v m=Bp v m (do return (<-importBound o G).getD aj):=rfl;rw[b];by_cases O:isInt ov=aj/\mm= .startswith
 ·rw[aN O]at L;obtain⟨hi,rfl⟩:=O;have c0:=Ec Y;simp only[Ce]at c0;subst c0;cases ov with
  |int n=>
   obtain⟨t,rfl⟩:=rv;refine wB (ez (Pa (s:=sh z1 h1 t1) (show A.handled=ag from K.ar.handled) λH o0 e x=>?_));have L:aL X z1 [] u h1 (RV X) D E (.err "AttributeError") i0:=L;exact L _ _ _ _ (.refl _) (I1.keeps x.keeps) (Go.keeps X u x.keeps []) _ (eS.O8 x)
  |_=>cases hi
 ·rw[aK O]at L;refine wB (ez (Pb K.ok I1 Y rv L λf fi mf e0=>?_));dsimp only;rw[d0];refine wB (aC ?_);refine yn (R':=RV X) (e0:=fi) (Pk:=λH=>(∃kp,(kp=tW\/kp=pV\/kp=tX)/\oA (MX X) H (oB f) kp)) (b0:=λV kv=>e8 F ov mm V kv) K1 ha hw j (λH hp=>hp) e0 λz2 m0 n0 h2 t2 V k0 kv h0 I2 G2 f0 rk j0=>?_;have K2:=K1.step I2 G2;have b0:=mf.step G2;refine⟨?_,Pc K.ok hF I2 (K2.ar.less (a4 _) (by exact RR 38 40 rfl)) b0 f0 rk z2 t2 D E j0⟩;cases b0 with
  |names e ef=>exact Ee K.ok I2 ef (λy y=>trivial)
  |_=>exact⟨_,.inr (.inl rfl),C7 _ _ _⟩
def HE.stuck:HE X F k U e stuck:=λu u u u u u u u u u u u u B=>B.elim
def HT.stuck:HT X F k U e stuck:=λu u u u u u u u u u u u u B=>B.elim
def HR.stuck:HR X F k U e stuck:=λu u u u u u u u u u u u u B=>B.elim
def HI.stuck:HI X F k U e stuck:=λu u u u u u u u u u u u u B=>B.elim
def HA.stuck:HA X F k U e (λc=>stuck):=by
 intro A l G Q N B I h K x v r z W D E H;exact H.elim
def all_zero (X:Cx)(F:Or)(k:ak):mG X F k 0:=⟨λu u=>HE.stuck (F:=F),λu u=>HT.stuck (F:=F),λu u=>HR.stuck (F:=F),λu u=>HI.stuck (F:=F),λu u=>HA.stuck (F:=F)⟩
def Ef:∀e,dg e=az->cE U n e=Internal.stuck:=λe h=>by
 cases e with
 |Starred a b=>cases n <;>rfl
 |_=>cases h
def Pg {M:aH->Prop}(S:∀e,cE U (n+1) e=Internal.stuck->M e)(h1:∀c a p,M (.Constant c a p))(h2:∀x p,M (.Name x p))(h3:∀a op b p,M (.BinOp a op b p))(h4:∀x p,M (.UnaryOp .Not x p))(h5:∀x p,M (.UnaryOp .USub x p))(h6:∀x y p,M (.BoolOp .And [x,y] p))(h7:∀x y p,M (.BoolOp .Or [x,y] p))(h8:∀t b o p,M (.IfExp t b o p))(h9:∀a op r p,M (.Compare a [op] [r] p))(c0:∀es p,M (.List es p))(b0:∀es a p,M (.Tuple es a p))(h0:∀ck a b cv c d p,M (.Dict [ae (.Constant ck a b)] [.Constant cv c d] p))(j0:∀x q a p,M (.Attribute (.Name x q) a p))(d0:∀o lo hi q p,M (.Subscript o (.Slice lo hi bq q) p))(i0:∀o lo hi I q p,M (.Subscript o (.Slice lo hi (ae I) q) p))(k0:∀o i p,uT i=az->cE U (n+1) (.Subscript o i p)=(λrt=>do
   let v0 <-cE U n o rt
   let w0 <-cE U n i rt
   ir v0 w0)->M (.Subscript o i p))(f0:∀T a0 aP p,M (.Lambda T a0 aP p))(g0:∀elt t src ifs aP p,M (.ListComp elt [⟨t,src,ifs,0⟩] aP p))(l0:∀o m ap T ks q,M (.Call (.Attribute o m ap) T ks q))(e0:∀x p T ks q,M (.Call (.Name x p) T ks q))(e:aH):M e:=by
 cases e with
 |Constant c a p=>exact h1 c a p
 |Name x p=>exact h2 x p
 |BinOp a op b p=>exact h3 a op b p
 |UnaryOp op x p=>
  cases op with
  |Not=>exact h4 x p
  |USub=>exact h5 x p
  |_=>exact S _ rfl
 |BoolOp op V p=>
  rcases V with _ |⟨x,_ |⟨y,_ |⟨_,_⟩⟩⟩<;>cases op
  ·exact S _ rfl
  ·exact S _ rfl
  ·exact S _ rfl
  ·exact S _ rfl
  ·exact h6 x y p
  ·exact h7 x y p
  ·exact S _ rfl
  ·exact S _ rfl
 |IfExp t b o p=>exact h8 t b o p
 |Compare a G D p=>
  rcases G with _ |⟨op,_ |⟨_,_⟩⟩<;>rcases D with _ |⟨r,_ |⟨_,_⟩⟩;all_goals first
   |exact S _ rfl
   |exact h9 _ _ _ _
 |List es p=>exact c0 es p
 |Tuple es a p=>exact b0 es a p
 |Dict E B p=>
  rcases E with _ |⟨_ |k,_ |⟨k2,ks⟩⟩
  ·exact S _ rfl
  ·exact S _ rfl
  ·exact S _ rfl
  ·cases k with
   |Constant ck a b=>
    rcases B with _ |⟨v,_ |⟨v2,V⟩⟩
    ·exact S _ rfl
    ·cases v with
     |Constant cv c d=>exact h0 ck a b cv c d p
     |_=>exact S _ rfl
    ·cases v <;>exact S _ rfl
   |_=>exact S _ rfl
  ·cases k <;>exact S _ rfl
 |Attribute v a p=>
  cases v with
  |Name x q=>exact j0 x q a p
  |_=>exact S _ rfl
 |Subscript o i p=>
  cases i with
  |Slice lo hi I q=>cases I with
   |none=>exact d0 o lo hi q p
   |some I=>exact i0 o lo hi I q p
  |_=>exact k0 _ _ _ rfl rfl
 |Lambda T a0 aP p=>exact f0 T a0 aP p
 |ListComp elt F aP p=>
  rcases F with _ |⟨⟨t',i,ifs,a⟩,_ |⟨_,_⟩⟩
  ·exact S _ rfl
  ·rcases a with (_ |a) |a
   ·exact g0 elt t' i ifs aP p
   ·exact S _ rfl
   ·exact S _ rfl
  ·rcases a with (_ |a) |a <;>exact S _ rfl
 |Call f T ks q=>
  cases f with
  |Attribute o m ap=>exact l0 o m ap T ks q
  |Name x p=>exact e0 x p T ks q
  |_=>exact S _ rfl
 |_=>exact S _ rfl
def Ph {X:Cx}(hF:∀X,cn X->HF X F k)(ih:∀X,mG X F k n)(e:aH):HE X F k U e (cE U (n+1) e):=by
 have E:∀e,HE X F k U e (cE U n e):=(ih X).e U;refine Pg (U:=U) (n:=n) (M:=λe=>HE X F k U e (cE U (n+1) e)) (λe h=>?_) (λc a p=>?_) (λx p=>?_) (λa op b p=>(JR (E _) (E _))) (λx p=>(JS (E _))) (λx p=>(JT (E _)))
  (λx y p=>(JU (E _) (E _))) (λx y p=>(JV (E _) (E _))) (λt b o p=>(JW ((ih X).t U _) (E _) (E _))) (λa op r p=>(Kh (E _) (E _))) (λS p=>(J4 (λe g=>E e) (λe g=>Ef e)))
  (λS a p=>(J5 (λe g=>E e) (λe g=>Ef e))) (λck a b cv c d p=>(Mp (F:=F))) (λx q a p=>(Mj (E _))) (λo lo O q p=>(Kr (E _) (λe g=>E e) (λe g=>E e))) (λo lo O I q p=>?_)
  (λo i p M f=>?_) (λT L J p=>(Nk (F:=F))) (λR t a0 Y J p=>(Dj ((ih X).i U _) (λj=>(ih _).a _ _) (λj=>(ih _).e _ _) (λj c g=>(ih _).t _ _)))
  (λo m ap T V q=>(Pf hF (E _) (λe g=>E e) (λw g=>E _))) (λx p T V q=>(Pd hF (E _) (λe g=>E e) (λw g=>E _))) e
 ·rw (config:={}) [h];exact(HE.stuck (F:=F))
 ·exact λA l G Q N B I h K=>JJ K.inv _ _ _
 ·exact λA l G Q N B I h K=>Ck K.ok K.inv K.en _ _
 ·intro A l G Q N B Z h K z W D E' u;refine AB ?_;refine(E o K).then (show(cE U n o ⟨F,Q,N⟩>>=λv=>cE U n (.Slice lo O (ae I) q) ⟨F,Q,N⟩>>=λw=>ir v w).run Z _ from u) λz1 c0 b0 M t1 x v I1 G1 rx H=>?_;cases n <;>exact H.elim
 ·rw (config:={}) [f];exact(Kl M (E _) (E _))
def Pj {t b o:aH}{cb co:DT}(ht:HT X F k U t ct)(hb:HT X F k U b cb)(ho:HT X F k U o co):HT X F k U (.IfExp t b o pos) (λrt=>do
   let c <-ct rt
   if c then cb rt else co rt):=by
 intro A l G Q N B I h K z W D E V;rw[arm_isTrue_IfExp];refine wB ?_;refine(ht K).then V λM T S Y J x v L O R H=>?_;obtain rfl:x=v:=R;cases x with
 |true=>exact hb (K.step L O) M J D E H
 |false=>exact ho (K.step L O) M J D E H
def Pl {M:aH->Prop}(no:∀e,cT U (n+1) e=Internal.stuck->M e)(a0:∀e,(∀G whole,tq e G whole=(do let v0 <-whole;tG e.pos;lx [v0] (truthy v0)))->cT U (n+1) e=(λrt=>do
   let v0 <-cE U n e rt
   eD v0)->M e)(h1:∀x p,M (.UnaryOp .Not x p))(h2:∀a b p,M (.BoolOp .And [a,b] p))(h3:∀a b p,M (.BoolOp .Or [a,b] p))(h4:∀a b c p,M (.BoolOp .Or [a,b,c] p))(h5:∀t b o p,M (.IfExp t b o p))(h6:∀l op r p,M (.Compare l [op] [r] p))(e:aH):M e:=by
 cases e with
 |UnaryOp op x B=>cases op with
  |Not=>exact h1 x B
  |_=>exact a0 _ (λu u=>rfl) rfl
 |BoolOp op V B=>
  rcases V with _ |⟨a,_ |⟨b,_ |⟨c,_ |⟨_,_⟩⟩⟩⟩<;>cases op
  ·exact no _ rfl
  ·exact no _ rfl
  ·exact no _ rfl
  ·exact no _ rfl
  ·exact h2 a b B
  ·exact h3 a b B
  ·exact no _ rfl
  ·exact h4 a b c B
  ·exact no _ rfl
  ·exact no _ rfl
 |IfExp t b o B=>exact h5 t b o B
 |Compare F E D B=>
  rcases E with _ |⟨op,_ |⟨_,_⟩⟩<;>rcases D with _ |⟨v,_ |⟨_,_⟩⟩;all_goals first
   |exact no _ rfl
   |exact h6 _ _ _ _
 |_=>exact a0 _ (λu u=>rfl) rfl
def Pm {X:Cx}(ih:∀X,mG X F k n)(e:aH):HT X F k U e (cT U (n+1) e):=by
 have E:∀e,HE X F k U e (cE U n e):=(ih X).e U;have T:∀e,HT X F k U e (cT U n e):=(ih X).t U;refine Pl (n:=n) (U:=U) (M:=λe=>HT X F k U e (cT U (n+1) e)) (λe h=>?_) (λe D B=>?_) (λx p=>?_) (λa b p=>?_) (λa b p=>?_) (λa b c p=>?_) (λt b o p=>?_) (λl G r p=>?_) e
 ·rw (config:={}) [h];exact(HT.stuck (F:=F))
 ·rw (config:={}) [B];exact(J3 (E e) D)
 ·exact(JX (T _))
 ·exact(JY (T _) (T _))
 ·exact(JZ (T _) (T _))
 ·exact(J2 (T _) (T _) (T _))
 ·exact(Pj (T _) (T _) (T _))
 ·exact(Ki (E _) (E _))
def Pn {M:aH->Prop}(a0:∀e,cR U (n+1) e=(λrt=>do
   let v0 <-cE U n e rt
   P.pure (.val v0))->M e)(h:∀f p T q,M (.Call (.Name f p) T [] q))(e:aH):M e:=by
 cases e with
 |Call f T B q=>cases f with
  |Name f p=>cases B with
   |nil=>exact h f p T q
   |cons _ _=>exact a0 _ rfl
  |_=>exact a0 _ rfl
 |_=>exact a0 _ rfl
def Po {X:Cx}(ih:∀X,mG X F k n)(e:aH):HR X F k U e (cR U (n+1) e):=by
 have E:∀e,HE X F k U e (cE U n e):=(ih X).e U;have V:∀e,cR U (n+1) e=(λrt=>do
   let v <-cE U n e rt
   P.pure (.val v))->HR X F k U e (cR U (n+1) e):=λe h=>by
  rw (config:={}) [h];exact(MA (E _))
 refine Pn (U:=U) (n:=n) (M:=λe=>HR X F k U e (cR U (n+1) e)) V (λf p T q=>?_) e;rcases uo ((cM U f == ae .globalImplicit && f == aq "range")=aj)with hc |hc
 ·have D:cR U (n+1) (.Call (.Name f p) T [] q)=(λrt=>do
    P.guard (lK T []=aj)
    let l <-dG (T.map (cE U n)) rt
    lJ l):=aN hc
  rw (config:={}) [D];rw[cW,bU,bU]at hc;obtain⟨B,rfl⟩:=hc;exact(src_range B (λe u=>E e))
 ·exact(V _ (aK hc))
def Pp {M:aH->Prop}(a0:∀e,cI U (n+1) e=(λrt=>do
   let v0 <-cE U n e rt
   jG v0)->M e)(h:∀f p T q,M (.Call (.Name f p) T [] q))(e:aH):M e:=by
 cases e with
 |Call f T B q=>cases f with
  |Name f p=>cases B with
   |nil=>exact h f p T q
   |cons _ _=>exact a0 _ rfl
  |_=>exact a0 _ rfl
 |_=>exact a0 _ rfl
theorem Pq {X:Cx}(ih:∀X,mG X F k n)(e:aH):HI X F k U e (cI U (n+1) e):=by
 have E:∀e,HE X F k U e (cE U n e):=(ih X).e U;have R:∀e,HR X F k U e (cR U n e):=(ih X).r U;have V:∀e,cI U (n+1) e=(λrt=>do
   let v <-cE U n e rt
   jG v)->HI X F k U e (cI U (n+1) e):=λe h=>by
  rw (config:={}) [h];exact(Lu (E _))
 refine Pp (U:=U) (n:=n) (M:=λe=>HI X F k U e (cI U (n+1) e)) V ?_ e;intros _ f p T q;rcases uo ((cM U f == ae .globalImplicit && f == aq "enumerate")=aj)with c1 |c1
 ·have B:cI U (n+1) (.Call (.Name f p) T [] q)=(match (generalizing:=false) T with
    | [a]=>λrt=>do
     P.guard (dg a=aj)
     let x <-cR U n a rt
     let i <-eO x
     P.pure (.enum 0 i)
    |_=>stuck):=aN c1
  rw (config:={}) [B];rw[cW,bU,bU]at c1;obtain⟨D,rfl⟩:=c1;rcases T with _ |⟨a,_ |⟨_,_⟩⟩
  ·exact(HI.stuck (F:=F))
  ·exact(MC D (R _))
  ·exact(HI.stuck (F:=F))
 rcases uo ((cM U f == ae .globalImplicit && f == aq "zip")=aj)with c2 |c2
 ·have B:cI U (n+1) (.Call (.Name f p) T [] q)=(match (generalizing:=false) T with
    | [a,b]=>λrt=>do
     P.guard (dg a=aj/\dg b=aj)
     let x <-cR U n a rt
     let y <-cR U n b rt
     let i <-eO x
     let j <-eO y
     P.pure (.zip i j)
    |_=>stuck):=(aK c1).trans (aN c2)
  rw (config:={}) [B];rw[cW,bU,bU]at c2;obtain⟨D,rfl⟩:=c2;rcases T with _ |⟨a,_ |⟨b,_ |⟨_,_⟩⟩⟩
  ·exact(HI.stuck (F:=F))
  ·exact(HI.stuck (F:=F))
  ·exact(MH D (R _) (R _))
  ·exact(HI.stuck (F:=F))
 rcases uo ((cM U f == ae .globalImplicit && f == aq "reversed")=aj)with c3 |c3
 ·have B:cI U (n+1) (.Call (.Name f p) T [] q)=(match (generalizing:=false) T with
    | [a]=>λrt=>do
     P.guard (dg a=aj)
     let i <-cR U n a rt
     p9 i
    |_=>stuck):=(aK c1).trans ((aK c2).trans (aN c3))
  rw (config:={}) [B];rw[cW,bU,bU]at c3;obtain⟨D,rfl⟩:=c3;rcases T with _ |⟨a,_ |⟨_,_⟩⟩
  ·exact(HI.stuck (F:=F))
  ·exact(MD D (R _))
  ·exact(HI.stuck (F:=F))
 ·have B:cI U (n+1) (.Call (.Name f p) T [] q)=(λrt=>do
    let v <-cR U n (.Call (.Name f p) T [] q) rt
    eO v):=(aK c1).trans ((aK c2).trans (aK c3))
  rw (config:={}) [B];exact(MG (R _))
def Pr {X:Cx}(ih:∀X,mG X F k n)(e:aH):HA X F k U e (cA U (n+1) e):=by
 have E:∀e,HE X F k U e (cE U n e):=(ih X).e U;cases e with
 |Name x p=>intro A l G Q N B I h K x v r;exact Kw (F:=F) _ _ K r
 |Attribute o a p=>intro A l G Q N B I h K x v r;exact Mk (E _) K r
 |Subscript o i p=>intro A l G Q N B I h K x v r;exact Mo (E _) (E _) K r
 |Tuple D c p=>intro A l G Q N B I h K x v r;exact assign_tuple (λe u=>(ih X).a U e) K r
 |_=>intro A l G Q N B I h K x v r;exact HA.stuck (F:=F) K r
def yK (hF:∀X,cn X->HF X F k):∀n X,mG X F k n:=by
 intro n;induction n with
 |zero=>
  intro X;exact all_zero X F k
 |succ n B=>
  intro X;exact⟨λu e=>Ph hF (B) e,λu e=>Pm (B) e,λu e=>Po (B) e,λu e=>Pq (B) e,λu e=>Pr (B) e⟩
def HS.stuck {s:dy}:HS X F k U s stuck:=by
 intro A l G Q N B I h K z W D E H;exact H.elim
def Pt {M:dy->Prop}(no:∀s,cS U (n+1) s=Internal.stuck->M s)(h1:∀p,M (.Pass p))(h2:∀p,M (.Break p))(h3:∀p,M (.Continue p))(h4:∀e p,M (.Return (ae e) p))(h5:∀e p,M (.Expr e p))(h6:∀t e p,M (.Assign [t] e p))(h7:∀x q op e p,M (.AugAssign (.Name x q) op e p))(h8:∀t b o p,M (.If t b o p))(h9:∀t b p,M (.While t b [] p))(b0:∀t i b p,M (.For t i b [] p))(a0:∀x np e ap c h hp o p,M (.Try [.Assign [.Name x np] e ap] [.ExceptHandler (ae c) bq h hp] o [] p))(s:dy):M s:=by
 cases s with
 |Pass p=>exact h1 p
 |Break p=>exact h2 p
 |Continue p=>exact h3 p
 |Return v p=>cases v with
  |none=>exact no _ rfl
  |some e=>exact h4 e p
 |Expr e p=>exact h5 e p
 |Assign B e p=>
  rcases B with _ |⟨t,_ |⟨_,_⟩⟩
  ·exact no _ rfl
  ·exact h6 t e p
  ·exact no _ rfl
 |AugAssign t op e p=>cases t with
  |Name x q=>exact h7 x q op e p
  |_=>exact no _ rfl
 |If t b o p=>exact h8 t b o p
 |While t b o p=>cases o with
  |nil=>exact h9 t b p
  |cons _ _=>exact no _ rfl
 |For t i b o p=>cases o with
  |nil=>exact b0 t i b p
  |cons _ _=>exact no _ rfl
 |Try b D o f p=>
  cases b with
  |nil=>exact no _ rfl
  |cons E F=>
  cases F with
  |cons _ _=>cases E with
   |Assign B e ap=>cases B with
    |nil=>exact no _ rfl
    |cons t B=>cases B <;>cases t <;>exact no _ rfl
   |_=>exact no _ rfl
  |nil=>
  cases E with
  |Assign B e ap=>
   cases B with
   |nil=>exact no _ rfl
   |cons t B=>
   cases B with
   |cons _ _=>cases t <;>exact no _ rfl
   |nil=>
   cases t with
   |Name x np=>
    cases D with
    |nil=>exact no _ rfl
    |cons h1 D=>
    obtain⟨c,nm,G,hp⟩:=h1;cases c with
    |none=>exact no _ rfl
    |some c=>
    cases nm with
    |some _=>exact no _ rfl
    |none=>
    cases D with
    |cons _ _=>exact no _ rfl
    |nil=>
    cases f with
    |cons _ _=>exact no _ rfl
    |nil=>exact a0 x np e ap c G hp o p
   |_=>exact no _ rfl
  |_=>exact no _ rfl
 |_=>exact no _ rfl
def Pu {M:aH->Prop}(h1:∀elt t i ifs aP cp,M (.ListComp elt [⟨t,i,ifs,0⟩] aP cp))(a0:∀e,cE U (n+1) e=Internal.stuck->M e)(h3:∀e,nE e=aj->M e)(e:aH):M e:=by
 cases e with
 |ListComp elt B aP cp=>
  rcases B with _ |⟨⟨t',i,ifs,a⟩,_ |⟨_,_⟩⟩
  ·exact a0 _ rfl
  ·rcases a with (_ |a) |a
   ·exact h1 elt t' i ifs aP cp
   ·exact a0 _ rfl
   ·exact a0 _ rfl
  ·rcases a with (_ |a) |a <;>exact a0 _ rfl
 |SetComp _ _ _ _=>exact a0 _ rfl
 |DictComp _ _ _ _ _=>exact a0 _ rfl
 |_=>exact h3 _ rfl
def Pw (hF:∀X,cn X->HF X F k)(ih:∀X U s,HS X F k U s (cS U n s))(X:Cx)(U:bN)(s:dy):HS X F k U s (cS U (n+1) s):=by
 have D:∀X,mG X F k 40:=λX=>yK hF 40 X;have O:∀X,mG X F k 39:=λX=>yK hF 39 X;have E:∀e,HE X F k U e (cE U 40 e):=(D X).e U;have T:∀e,HT X F k U e (cT U 40 e):=(D X).t U;have L:∀X M,iO X F k U M (eu (cS U n) M):=λX M=>CG _ M λs x=>ih X U s;refine Pt (U:=U) (n:=n) (M:=λs=>HS X F k U s (cS U (n+1) s)) (λs h=>?_) (λp=>?_) (λp=>?_) (λp=>?_) (λe p=>?_) (λe p=>?_) (λt e p=>?_) (λx q op e p=>?_) (λt b o p=>?_) (λt b p=>?_) (λt i b p=>?_) (λx w e u c h f o p=>?_) s
 ·rw (config:={}) [h];exact(HS.stuck (F:=F))
 ·exact(Kz (F:=F) p)
 ·exact(KA (F:=F) p)
 ·exact(KC (F:=F) p)
 ·exact(KD (E e))
 ·exact(KL (E e))
 ·refine Pu (U:=U) (n:=39) (M:=λe=>HS X F k U (.Assign [t] e p) (cS U (n+1) (.Assign [t] e p))) (λV Z i Y J m=>?_) (λe S=>?_) (λe S=>?_) e
  ·exact(MU ((O X).i U i) (λj=>(O _).a J Z) (λj=>(O _).e J V) (λj c x=>(O _).t J c) ((D X).a U t))
  ·intro A l G Q N B I h K z W H E' R;obtain⟨_,R⟩:=a6 (show(P.guard (kn e=az/\dg t=aj)>>=λx=>cE U 40 e ⟨F,Q,N⟩>>=λv=>cA U 40 t v ⟨F,Q,N⟩>>=λN=>P.pure (FL.next,N)).run I _ from R);rw[show cE U 40 e=Internal.stuck from S]at R;exact R.elim
  ·exact(KP S (E e) ((D X).a U t))
 ·exact(KQ (E e))
 ·exact(KG (T t) (L X b) (L X o))
 ·exact(KH (T t) (L X b) 64)
 ·exact(Lq ((D X).i U i) (λj=>(D _).a U t) (λj=>L _ b) 128)
 ·exact(Ng (E e) (L X o))
def Px (hF:∀X,cn X->HF X F k):∀n X U s,HS X F k U s (cS U n s):=by
 intro n;induction n with
 |zero=>
  intro X U s;exact HS.stuck (F:=F)
 |succ n B=>
  intro X U s;exact Pw hF (B) X U s
def Py (hF:∀X,cn X->HF X F k)(n:ak)(X:Cx)(U:bN)(ss:ah dy):iO X F k U ss (eu (cS U n) ss):=CG _ ss λs u=>Px hF n X U s
def Pz:∀(n:ak) (X:Cx),cn X->HF X (FN n) n:=by
 intro n;induction n with
 |zero=>
  intro X _;exact Mb X 0
 |succ n B=>
  intro X _;exact Mc (F:=FN n) (λU e=>(yK (B) 40 X).e U e) (λU D=>Py (B) 20 X U D)
set_option tactic.hygienic true in theorem PA {c : aw} {q : au} (X : K.In h) (e : recIn K c q = aj) : h.CodeRec c q := by
 cases c with
 |ref a=>
  unfold recIn at e;dsimp only at e;cases B:K.lookup a with
  |none=>rw[B]at e;cases e
  |some o=>
   rw[B]at e;obtain⟨E,F,d,n⟩:=o;cases d with
   |fields V=>
    have e:(match (V[1]? :ax aw)with |some (.str x _)=>x == q |_=>az)=aj:=e;cases D:(V[1]? :ax aw)with
    |none=>rw[D]at e;cases e
    |some v=>
     rw[D]at e;cases v with
     |str x t=>exact⟨a,_,V,t,rfl,X _ _ B,rfl,(bU.mp e) ▸ D⟩
     |_=>cases e
   |_=>cases e
 |_=>cases e
set_option tactic.hygienic true in theorem PB (X : K.In h) (e : xM K v = aj) : v = .none ∨ ∃ a0 ot O n, v = .ref a0 ∧ h.get? a0 = ae ot ∧ ot.data = .seq O n := by
 cases v with
 |none=>exact .inl rfl
 |ref a=>
  unfold xM at e;dsimp only at e;cases B:K.lookup a with
  |none=>rw[B]at e;cases e
  |some o=>
   rw[B]at e;obtain⟨D,E,d,n⟩:=o;cases d with
   |seq=>exact .inr ⟨a,_,_,_,rfl,X _ _ B,rfl⟩
   |_=>cases e
 |_=>cases e
theorem PC {d:ax (fg×ah dy×bN)}(X:K.In h)(e1:(fnIn K a).map (λfd=>(fd.params,fd.body,fd.scope))=d.map (λp=>(p.1,wz p.2.1,p.2.2)))(e2:(fnIn K a).any (rY K)=aj):FnAt h a d:=by
 cases B:fnIn K a with
 |none=>rw[B]at e2;cases e2
 |some fd=>
  intros fd _ B;rw[B]at e1 e2;unfold fnIn at B;cases F:K.lookup a with
  |none=>rw[F]at B;cases B
  |some o=>
  rw[F]at B;obtain⟨S,T,I,n⟩:=o;cases I with
  |func D=>
   obtain q:D=fd:=dp B;subst q;have e2:rY K D=aj:=e2;unfold rY at e2;simp only[cW,wY,pN,bU,qS,ua]at e2;obtain⟨⟨⟨⟨⟨⟨⟨⟨J,L⟩,Q⟩,N⟩,G⟩,M⟩,R⟩,O⟩,E⟩:=e2;refine⟨_,D,X _ _ F,rfl,e1.symm,J,L,Q,N,G,M,PA X R,PB X O,λH=>?_⟩;rcases E with E |E
   ·exact absurd H E
   ·exact E
  |_=>cases B
def PD (F:lhs K=rhs):(mH.filter λp=>p.1 != gE).all (λp=>(fnIn K p.2).any (rY K))=aj:=bZ (λx=>x.1) F
def PE (F:lhs K=rhs):(mH.filter λp=>p.1 != gE).map (λp=>(fnIn K p.2).map (λfd=>(fd.params,fd.body,fd.scope)))=(mH.filter λp=>p.1 != gE).map (λp=>(defOf p.1).map (λq=>(q.1,wz q.2.1,q.2.2))):=bZ (λx=>x.2.1) F
def kt (F:lhs K=rhs):(K.lookup cJ).isNone=aj:=bZ (λx=>x.2.2.1) F
def PG (F:lhs K=rhs):codeHdIn K 177 175=aj:=bZ (λx=>x.2.2.2.1) F
def PH (F:lhs K=rhs):makesIn K 147=aj:=bZ (λx=>x.2.2.2.2.1) F
def PJ (F:lhs K=rhs):keepIn K (.ref 147)=aj:=bZ (λx=>x.2.2.2.2.2.1) F
def PK (F:lhs K=rhs):fj K (.ref 147) "__init__"=ae (ae (.ref 137)):=bZ (λx=>x.2.2.2.2.2.2.1) F
def PL (F:lhs K=rhs):qP K (.ref 137)=ae (.type "function"):=bZ (λx=>x.2.2.2.2.2.2.2.1) F
def PM (F:lhs K=rhs):fj K (.ref 147) (aq "names")=ae (ae (.ref 144)):=bZ (λx=>x.2.2.2.2.2.2.2.2.1) F
def PN (F:lhs K=rhs):qP K (.ref 144)=ae (.type "function"):=bZ (λx=>x.2.2.2.2.2.2.2.2.2.1) F
def PO (F:lhs K=rhs):fj K (.ref 147) "__getattribute__"=ae (ae (.builtin "object.__getattribute__")):=bZ (λx=>x.2.2.2.2.2.2.2.2.2.2.1) F
def PQ (F:lhs K=rhs):fj K (.ref 147) "__getattr__"=ae ag:=bZ (λx=>x.2.2.2.2.2.2.2.2.2.2.2.1) F
def PR (F:lhs K=rhs):fj K (.ref 147) "__setattr__"=ae (ae (.builtin "object.__setattr__")):=bZ (λx=>x.2.2.2.2.2.2.2.2.2.2.2.2.1) F
def PS (F:lhs K=rhs):Al K 147=aj:=bZ (λx=>x.2.2.2.2.2.2.2.2.2.2.2.2.2.1) F
def PT (F:lhs K=rhs):Am K 147=aj:=bZ (λx=>x.2.2.2.2.2.2.2.2.2.2.2.2.2.2.1) F
def PU (F:lhs K=rhs):fj K (.ref 147) (aq "_mods")=ae ag:=bZ (λx=>x.2.2.2.2.2.2.2.2.2.2.2.2.2.2.2.1) F
def PV (F:lhs K=rhs):pF K 147 (aq "_mods")=ae ag:=bZ (λx=>x.2.2.2.2.2.2.2.2.2.2.2.2.2.2.2.2.1) F
def PW (F:lhs K=rhs):fj K (.ref 147) (aq "_dirs")=ae ag:=bZ (λx=>x.2.2.2.2.2.2.2.2.2.2.2.2.2.2.2.2.2.1) F
def PX (F:lhs K=rhs):pF K 147 (aq "_dirs")=ae ag:=bZ (λx=>x.2.2.2.2.2.2.2.2.2.2.2.2.2.2.2.2.2.2.1) F
def PY (F:lhs K=rhs):fj K (.ref 147) (aq "_ignore")=ae ag:=bZ (λx=>x.2.2.2.2.2.2.2.2.2.2.2.2.2.2.2.2.2.2.2.1) F
def PZ (F:lhs K=rhs):pF K 147 (aq "_ignore")=ae ag:=bZ (λx=>x.2.2.2.2.2.2.2.2.2.2.2.2.2.2.2.2.2.2.2.2.1) F
def P2 (F:lhs K=rhs):BL.map (λp=>iP K (aq p.1))=BL.map (λc=>ae ag):=bZ (λx=>x.2.2.2.2.2.2.2.2.2.2.2.2.2.2.2.2.2.2.2.2.2.1) F
def P4 (F:lhs K=rhs):oS.map (λn=>iP K (aq n))=oS.map (λn=>ae ((kH (aq n)).map gu)):=bZ (λx=>x.2.2.2.2.2.2.2.2.2.2.2.2.2.2.2.2.2.2.2.2.2.2.1) F
def P5 (F:lhs K=rhs):(match iP K (aq "sep")with |some (ae (.str x0 _))=>x0 == aq "/" |_=>az)=aj:=bZ (λx=>x.2.2.2.2.2.2.2.2.2.2.2.2.2.2.2.2.2.2.2.2.2.2.2.1) F
def P6 (F:lhs K=rhs):iP K (aq "law")=ae (ae (.ref 178)):=bZ (λx=>x.2.2.2.2.2.2.2.2.2.2.2.2.2.2.2.2.2.2.2.2.2.2.2.2) F
def P7 (h:aG):(FK h).In h:=by
 intro a o;unfold FK;generalize Cf=l;induction l with
 |nil=>intro e;cases e
 |cons b l E=>
  intro e;rw[AP]at e;cases D:h.get? b with
  |none=>rw[D]at e;exact E e
  |some x=>
   rw[D]at e
   replace e:rz a ((b,x) :: _)=ae o:=e
   rw[gv]at e;cases B:a == b with
   |true=>rw[B]at e;cases e;rw[bU.mp B];exact D
   |false=>rw[B]at e;exact E e
def P8:∀(w:gL) (os),(topRun uq pw w 11 (ae (.ref 6)) 2016 ⟨pY w.params,#[],boot_drawn,boot_toks,os⟩ (topStub pw)).map (λs=>(Bq (ur pw.main.body) (pY w.params) s.heap && Br pw s.heap && Bs s && Bt (pY w.params) s.heap,openSeen q0 uX (ur pw.main.body) (λc=>aj) aj s,xN s))=ae (aj,openGood q0 uX,rhs,ae (jW #[])):=by
 rw[PySem.W.Fast.te14082659384304107361,PySem.W.Fast.te14364793385576792824,PySem.W.Fast.te4187177175401517315];intro w os
 kernel_rfl
def P9:∀w:gL,((pY w.params).isNs gM && (#[]:aZ GenState).size == 0,(pY w.params).objs.size,(pY w.params).nsMap gM "__annotations__")=(aj,11,ae (.ref 6)):=λw=>by kernel_rfl
def P':PySem.Challenge.rw_oc0179_01.wellSaid=aj:=by
 rw[PySem.W.Fast.te9446332074065402090]
 kernel_rfl
def Qa:opening pw=plainProg pw.main.scope.names:=by kernel_rfl
def Qb:∀s,fenceModules? pw s=ae s:=λs=>by kernel_rfl
def Qc {p q:mY}{Xt:aD->aB}{a0:ak}{g0:aB}{b0:Params->aG}{c0:aZ GenState}{d0:Drawn}{k0 m0:ak}{e0:ax aw}{α:Type}{Yf:aD->α}{Ya:gL->α}(op:∀w:gL,(fencedOpening uq p w a0).map (λs=>(s.heap,s.gens,s.drawn,s.toks))=ae (b0 w.params,c0,d0,k0))(f0:∀w:gL,((b0 w.params).isNs gM && c0.size == 0,(b0 w.params).objs.size,(b0 w.params).nsMap gM "__annotations__")=(aj,m0,e0))(run:∀(w:gL) (os),(topRun uq p w m0 e0 a0 ⟨b0 w.params,c0,d0,k0,os⟩ (topStub p)).map (λs=>(Bq (ur p.main.body) (b0 w.params) s.heap && Br p s.heap && Bs s && Bt (b0 w.params) s.heap,openSeen q loose (ur p.main.body) Xt g0 s,Yf s))=ae (aj,openGood q loose,Ya w)):LeftO p q loose Xt Yf Ya a0 g0:=λw=>by
 obtain⟨⟨h,gs,d,k,os⟩,e,I⟩:=jZ.mp (op w);obtain⟨rfl,rfl,rfl,rfl⟩:h=b0 w.params/\gs=c0/\d=d0/\k=k0:=by simpa using I
 obtain⟨F,E,D⟩:_/\_/\_:=by simpa only[w6] using f0 w
 obtain⟨s,r,x⟩:=jZ.mp (run w os);obtain⟨G,B⟩:=lC x;have t:topFrom uq p w a0 ⟨b0 w.params,gs,d,k,os⟩=ae s:=by
  unfold topFrom;dsimp only;rw[F,E,D,r];show(match Bq (ur p.main.body) (b0 w.params) s.heap && Br p s.heap && Bs s && Bt (b0 w.params) s.heap with |true=>_ |false=>_)=_;rw[G]
 unfold openEnds;rw[e];show(topFrom uq p w a0 _).map _=_;rw[t];exact bZ ae B
def Qd:LeftO pw q0 uX (λc=>aj) xN (λc=>(rhs,ae (jW #[]))) 2016:=Qc (b0:=pY) (boot_open Qa rfl Qb) P9 P8
def Qe:kH gE=ae 147:=by decide +kernel
def fI:kH nH=ae 137:=by decide +kernel
def fN:kH uO=ae 144:=by decide +kernel
def Qg (F:lhs K=rhs):B9 K 147 kH where
 makes:=PH F
 keep:=PJ F
 init:=⟨137,fI,PK F,PL F⟩
 names:=⟨144,fN,PM F,PN F⟩
 ga:=PO F
 gk:=PQ F
 sa:=PR F
 over:=PS F
 hasDict:=PT F
 attrs:=λn B=>by
  unfold p4 at B;rcases bu.mp B with rfl |B
  ·exact⟨PU F,PV F⟩
  rcases bu.mp B with rfl |B
  ·exact⟨PW F,PX F⟩
  rw[aJ.mp B];exact⟨PY F,PZ F⟩
def Qh {n:au}(F:lhs K=rhs)(X:K.In h)(e:kH n=ae a)(hn:n≠gE):FnAt h a (defOf n):=by
 have I:(n,a)∈mH:=by
  unfold kH at e;have:∀l:ah (au×ay),l.lookup n=ae a->(n,a)∈l:=by
   intro l;induction l with
   |nil=>intro h;cases h
   |cons p l E=>
    obtain⟨m,b⟩:=p;intro h;rw[gv]at h;cases D:n == m with
    |true=>rw[D]at h;cases h;rw[bU.mp D];exact .head _
    |false=>rw[D]at h;exact .tail _ (E h)
  exact this _ e
 have B:(n,a)∈mH.filter λp=>p.1 != gE:=A4.mpr ⟨I,qS.mpr hn⟩;have H:=bW.mp (PD F) _ B;have G:=xi.mp (PE F) _ B;exact PC X G H
theorem Qi {x:au}{v:AV}(h:p8 x=ae v):(x=aq "sep"/\v= .str (aq "/"))\/(∃p∈BL,x=aq p.1/\v=p.2)\/(∃n∈oS,x=aq n/\v= .fn x):=by
 have h:(if x == aq "sep" then ae (AV.str (aq "/"))
  else match BL.find? λp=>x == aq p.1 with
  |some p=>ae p.2
  |none=>if oS.any λp=>x == aq p then ae (.fn x)else ag)=ae v:=h
 by_cases h1:(x == aq "sep")=aj
 ·rw[aN h1]at h;cases h;exact .inl ⟨bU.mp h1,rfl⟩
 ·rw[aK h1]at h;cases hf:BL.find? λp=>x == aq p.1 with
  |some p=>
   rw[hf]at h;cases h;exact .inr (.inl ⟨p,IJ hf,bU.mp (by simpa using List.find?_some hf),rfl⟩)
  |none=>
   rw[hf]at h;dsimp only at h;split at h
   ·rename_i ha;cases h;obtain⟨n,hn,e⟩:=uu.mp ha;exact .inr (.inr ⟨n,hn,bU.mp e,rfl⟩)
   ·cases h
set_option tactic.hygienic true in def vC {x : au} {r : ax aw} (X : K.In h) (g : h.Ns gM mg) (e : iP K x = ae r) : mg x = r := by
 unfold iP at e;cases B:K.lookup gM with
 |none=>rw[B]at e;cases e
 |some o=>
  rw[B]at e;obtain⟨I,L,d,n⟩:=o;cases d with
  |dict J M=>
   cases e;obtain⟨o,G,F,D,H,_,E⟩:=g;rw[X _ _ B]at D;cases D;cases H;exact(E x).symm
  |_=>cases e
def Qj:BL.map (λp=>bootBuiltins (aq p.1))=BL.map (λp=>uW p.2):=by kernel_rfl
def Qk:oS.all (λn=>(kH (aq n)).isSome)=aj:=by decide +kernel
def Ql (F:lhs K=rhs):∃t,iP K (aq "sep")=ae (ae (.str (aq "/") t)):=by
 have h:=P5 F;generalize iP K (aq "sep")=r at h |-;rcases r with _ |_ |v
 ·exact(je h).elim
 ·exact(je h).elim
 ·induction v using PySem.Value.casesOn with
  |str x t=>rw[show x=aq "/" from bU.mp h];exact⟨t,rfl⟩
  |_=>exact(je h).elim
def Qm:BL.all (λp=>decide (aq p.1≠aq "__name__"))=aj:=by decide +kernel
def Qn:kH (aq "law")=ae 178:=by decide +kernel
def Qo {m':au->ax aw}(x:h.Ns a m)(y:h.Ns a m'):m=m':=by
 obtain⟨o,L,K,I,J,_,E⟩:=x;obtain⟨M,H,G,B,D,_,F⟩:=y;rw[I]at B;cases B;rw[J]at D;cases D;exact funext λk=>(E k).symm.trans (F k)
def Qp {v:AV}{v':aw}(e:uW v=ae v'):SV X v v':=λB h=>by
 cases v with
 |bi=>cases e;exact .bi _
 |ty=>cases e;exact .ty _
 |_=>cases e
def Qq {b0:aD}{p:mY}{c0:xj->ax aw}{mb:au->ax aw}(a0:Top p loose c0 mg mb b0.heap)(F:lhs K=rhs)(KX:K.In b0.heap)(d0:∀P∈[175],b0.heap.get? P=ae (jW #[])):cn (X0 K w b0) where
 lim:=a0.nolimit
 lM:=KX
 B':=wZ.mp (kt F)
 fns:=λn a e G h Z=>Qh F (λb o I=>Z b o (KX b o I) λD=>by rw[D,wZ.mp (kt F)]at I;cases I) e G
 cls:=Qe
 iN:=Qg F
 cd:=codeHd_of_K KX (PG F)
 bt:=λj n=>by
  rw[Qo n a0.g];obtain⟨X,O,V,W,B,J,N,H⟩:=a0.bmain;refine⟨X,O,V,W,λD=>?_,λD=>?_,B,J,N,H⟩
  ·obtain⟨o,l,u,R,S,_⟩:=a0.g;rw[D,R]at B;cases B;rw[S]at H;cases H
  ·have:=d0 175 (.head _);rw[D,show cJ=175 from rfl,this]at B;cases B;cases J
 gl:=by
  refine⟨mg,mb,a0.g,a0.b,λx v A=>?_⟩;rcases Qi A with ⟨rfl,rfl⟩ |⟨q,hq,rfl,rfl⟩ |⟨n,G,rfl,rfl⟩
  ·obtain⟨t,e⟩:=Ql F;exact .inl ⟨_,vC KX a0.g e,λx x=>.str _ _⟩
  ·have E:iP _ _=_:=xi.mp (P2 F) q hq;have Y:bootBuiltins _=_:=xi.mp Qj q hq;have U:=gx (bW.mp Qm q hq);refine .inr ⟨vC KX a0.g E,?_⟩;have Q:(uW q.2).isSome=aj:=bW.mp (show BL.all (λq=>(uW q.2).isSome)=aj by decide +kernel) q hq;obtain⟨k,M⟩:=Bu.mp Q;exact⟨k,by rw[a0.builtins _ U,Y,M],Qp M⟩
  ·have E:iP _ _=_:=xi.mp (P4 F) n G;obtain⟨a,L⟩:=Bu.mp (bW.mp Qk n G);rw[L]at E;exact .inl ⟨_,vC KX a0.g E,λx x=>.fn L⟩
def Qr {b0:aD}{p:mY}{d0:xj->ax aw}{mb:au->ax aw}(a0:Top p loose d0 mg mb b0.heap)(hp:importsNone p=aj)(c0:∀P∈[175],b0.heap.get? P=ae (jW #[])):Inv (X0 K w b0) [] [] b0.heap where
 len:=rfl
 nodup:=.nil
 obj:=λi D a e u=>by cases e
 base:=λb o e u=>e
 new:=λa h=>nomatch h
 gd:=⟨_,c0 175 (.head _)⟩
 mods:=by
  obtain⟨B,⟨o,F,E,e,_⟩,_⟩:=(a0.seer hp).mods;exact⟨o,e⟩
 tab:=⟨#[],c0 175 (.head _),.inl rfl⟩
 gf:=λb h=>nomatch h
def Qs {b0:aD}{p:mY}{f0:xj->ax aw}{mb:au->ax aw}{O:ah aw}{l:ah Int}{c:ClaimW}{cl:au->ax ay}{d0:xj->ax aw}{T:ah WData}(a0:Top p loose f0 mg mb b0.heap)(hp:importsNone p=aj)(F:lhs K=rhs)(KX:K.In b0.heap)(c0:∀P∈[175],b0.heap.get? P=ae (jW #[]))(hg:b0.gens= #[])(hL:b0.heap.IsList a O.toArray)(hI:n8 O l)(hl:l.length<=63)(D:(uP l).run [] (λr g=>r= .ok (.bool aj)))(hr:∀cls,c.raises T cls=az)(e0:c.post T (.bool aj) T=aj):
  aA (aV PySem.Challenge.pw_oc0179_01 w) callerA (call (.ref 178) [.ref a]) (fun v s'=>GoodWG c cl d0 T b0 (.ok (.ret v)) s') (fun e s'=>GoodWG c cl d0 T b0 (.error e) s') b0:=by
 have C:=Qq (w:=w) a0 F KX c0;have I:=Qr (K:=K) (w:=w) a0 hp c0;have M:a≠cJ:=λW=>by
  obtain⟨o,U,Q,_⟩:=hL;rw[W,show cJ=175 from rfl,c0 175 (.head _)]at U;cases U;cases Q
 have B:=Pz 12 (X0 K w b0) C (A:=callerA) (l:=[]) (ρ:=[]) (st:=[]) (h:=b0.heap) C ⟨rfl,by decide +kernel,by decide +kernel,rfl,λe X=>nomatch X⟩ I
  (fv:=.fn (aq "law")) (f:=.ref 178) (args:=[.gU l]) (vs:=[.ref a]) (kw:=[]) (kvs:=[]) (.fn Qn)
  (.cons (VA.mk (xG.mk (λh=>nomatch h) ⟨M,λh=>nomatch h⟩ hL hI (by exact FI 0 63 0 4096 hl rfl))) .nil) .nil
 have E:b0=sh b0 b0.heap b0.toks:=rfl;rw[E];refine B b0 b0.toks _ _ ?_;refine P.mono _ (λr Z N=>?_) D;subst N;intro Y J H A G R S b L;cases L;refine⟨.inl ⟨_,.bool aj,[],rfl,hr,.bool aj,e0,λu=>⟨.nil,λu h=>nomatch h⟩⟩,⟨λb o e=>?_,λb o e=>S.step.there b o e⟩,G.2,.of_eq (G.1.trans hg)⟩;by_cases L:b=cJ
 ·rw[L]at e;rw[show cJ=175 from rfl,c0 175 (.head _)]at e;cases e;obtain⟨V,Q,_⟩:=R.tab;refine .inr (.inl ⟨?_,rfl,#[],V,rfl,?_⟩)
  ·rw[L];exact(C.cd.tab (c0 175 (.head _))).isCodeTable
  ·rw[L];show H.get? cJ=_;rw[Q,Array.empty_append]
 ·exact .inl (R.base b o e L)
namespace Q
open Classical
local macro_rules | `(tactic| wtm_at $s:str) => let n := s.getString; let u (t : String) := cH ("with_unfolding_all' " ++ t ++ " S withUnfoldingAll2") [s]; return if n == "pr" then u "exact' rfl. exact2" else if n == "r" then cH "repeat' wtm_at' 0$ PySem.W.tacticWtm_at_2 S tacticRepeat_2" [Lean.Syntax.mkStrLit "s"] else if n == "lk" then u "first' |' assumption' assumption1 S group2 |' exact' g_last. exact2 S group2 |' (' refine' g_app. ?' _' Term.syntheticHole2 null1 Term.app2 refine2 ;' wtm_at' 0$ PySem.W.tacticWtm_at_2 null3 tacticSeq1Indented1 tacticSeq1 )' paren3 S group2 |' (' refine' g_ne. ?' _' Term.syntheticHole2 ?' _' Term.syntheticHole2 null2 Term.app2 refine2 ;' (' first' |' assumption' assumption1 S group2 |' lia' null0 optConfig1 lia2 S group2 null2 first2 S )' paren3 ;' wtm_at' 0$ PySem.W.tacticWtm_at_2 null5 tacticSeq1Indented1 tacticSeq1 )' paren3 S group2 null4 first2" else if n == "cel" then u "first' |' (' with_reducible' first' |' exact' cl_readers. exact2 S group2 |' exact' cl_asks. exact2 S group2 |' exact' cl_wish. exact2 S group2 |' exact' cl_k. exact2 S group2 |' exact' cl_total. exact2 S group2 null5 first2 S withReducible2 S )' paren3 S group2 |' exact' lk_here. exact2 S group2 |' (' apply' lk_next. apply2 ;' decide' +' kernel. posConfigItem2 configItem1 null1 optConfig1 decide2 ;' wtm_at' 0$ PySem.W.tacticWtm_at_2 null5 tacticSeq1Indented1 tacticSeq1 )' paren3 S group2 null3 first2" else if n == "pl" then cH "(' try' simp' null0 optConfig1 null0 only' null1 [' null0 null0 List.set_cons_succ. simpLemma3 ,' null0 null0 List.set_cons_zero. simpLemma3 null3 ]' null3 null0 simp6 S tacticTry_2 ;' with_unfolding_all' exact' rfl. exact2 S withUnfoldingAll2 null3 tacticSeq1Indented1 tacticSeq1 )' paren3" [] else cH "with_reducible' 0$ S withReducible2" [BM ("x_sq n_next w_Set w_qIf x_Expr x_Ret y_L w_K y_pL w_evs_cons w_evs_nil w_kws_nil w_kws_cons w_Call w_Idx w_tCmp w_tAnd w_tOr w_tNot w_tV w_tIf w_Bin b_add b_sub c_lt c_gt c_ge f_fn r_ret r_next n_ret n_brk n_cont l_next l_brk l_cont l_ret x_nil x_Pass x_Brk x_Cont y_C y_pC x_pIdx x_pAttr y_pTup x_put_cons x_put_nil w_Not w_Neg w_strict w_And w_Or w_If w_Cmp w_List w_Tup tup2 tup3 w_Attr w_Slice w_optE_none w_optE_some w_For w_iA w_iS w_iEnum w_iZip w_iRev w_rRange w_rVal w_itS_val w_itS_range x_Try y_Aug y_Sub y_Meth tr_none tr_bool tr_int t_t t_f".splitOn " ")]
@[reducible] abbrev eL (i:ak):DE:=BV i
@[reducible] abbrev eC (x:aI):DE:=uJ (aq x)
abbrev eK (v:AV):DE:=λu=>P.pure v
abbrev yL:DE:=stuck
abbrev aY (op:jU)(a b:DE):DE:=λrt=>do
 let x <-a rt
 let y <-b rt
 gc op x y
abbrev Qt (a:DE):DE:=λrt=>do
 let v <-a rt
 let b <-eD v
 P.pure (.bool !b)
abbrev iT (a:DE):DE:=λrt=>do
 let v <-a rt
 let i <-dF v
 P.pure (.int (-i))
abbrev vD (a b:DE):DE:=λrt=>do
 let v <-a rt
 let c <-eD v
 if c then b rt else P.pure v
abbrev Eg (a b:DE):DE:=λrt=>do
 let v <-a rt
 let c <-eD v
 if c then P.pure v else b rt
abbrev gH (t:DT)(b o:DE):DE:=λrt=>do
 let c <-t rt
 if c then b rt else o rt
abbrev lQ (op:pz)(a b:DE):DE:=λrt=>do
 P.guard (aj=aj)
 let x <-a rt
 let y <-b rt
 let c <-dQ op x y
 P.pure (.bool c)
abbrev eList (l:ah DE):DE:=λrt=>do
 let l <-dG l rt
 cz l
abbrev gI (l:ah DE):DE:=λrt=>do
 let l <-dG l rt
 oL l
abbrev Eh (k v:AV):DE:=λu=>do
 let kv <-P.opt (ae k)
 let vv <-P.opt (ae v)
 let k <-P.opt (gC kv)
 let i <-P.alloc (.dict [(k,vv)])
 P.pure (.ref i)
abbrev iB (o:DE)(a:aI):DE:=λrt=>do
 let v <-o rt
 mx v (aq a)
abbrev fu (o:DE)(lo hi:ax DE):DE:=λrt=>do
 let v <-o rt
 let a <-kr lo rt
 let b <-kr hi rt
 kl v a b
abbrev bz (o i:DE):DE:=λrt=>do
 let v <-o rt
 let k <-i rt
 ir v k
abbrev Qu (args:fg)(body:aH)(sc:bN):DE:=λrt=>do
 let st <-P.get
 P.guard (st.all (λo=>!jh o)=aj)
 let cs <-P.opt (fK rt sc.names [])
 let i <-P.alloc (.lam args body sc cs)
 P.pure (.ref i)
abbrev eG (l:ah (aI×l5)):bN:={ kind:=.function,names:=l.map λp=>(aq p.1,p.2),isGenerator:=az,isCoroutine:=az }
abbrev vE (ai:AI):aB:=match ai with
 |.zip .. =>az
 |.enum .. =>az
 |_=>aj
abbrev d9 (aP:bN)(tup:aB)(src:DI)(put:DA)(ifs:ah DT)(elt:DE):DE:=λrt=>do
 P.guard (aj=aj)
 P.guard (e9 aP=aj)
 let cs <-P.opt (fK rt aP.names [])
 let ai <-src rt
 P.guard ((tup || vE ai)=aj)
 let r2 <-cP rt.F aP cs []
 let l <-cw elt ifs put 128 ai r2 []
 cz l
abbrev aX (f:DE)(args:ah DE)(ks:ah (au×DE)):DE:=λrt=>do
 P.guard (aj=aj)
 let fv <-f rt
 let vs <-dG args rt
 let kv <-fU ks rt
 et rt fv vs kv
abbrev bX (o:DE)(m:kh)(args:ah DE)(ks:ah (au×DE)):DE:=λrt=>do
 P.guard (aj=aj/\aj=aj/\args.length+ks.length < 28)
 let m <-P.opt (ae m)
 let ov <-o rt
 if isInt ov=aj/\m= .startswith then P.err "AttributeError"
 else do
  lG ov m
  let vs <-dG args rt
  let kv <-fU ks rt
  e8 rt.F ov m vs kv
abbrev gm (a:DT):DT:=λrt=>do
 let b <-a rt
 P.pure !b
abbrev jN (a b:DT):DT:=λrt=>do
 let x <-a rt
 if x then b rt else P.pure az
abbrev nR (a b:DT):DT:=λrt=>do
 let x <-a rt
 if x then P.pure aj else b rt
abbrev aR (op:pz)(a b:DE):DT:=λrt=>do
 P.guard (aj=aj)
 let x <-a rt
 let y <-b rt
 dQ op x y
abbrev yM (t a b:DT):DT:=λrt=>do
 let c <-t rt
 if c then a rt else b rt
abbrev tV (e:DE):DT:=λrt=>do
 let v <-e rt
 eD v
abbrev iU (l:ah DE):DR:=λrt=>do
 P.guard (aj=aj)
 let l <-dG l rt
 lJ l
abbrev g8 (e:DE):DR:=λrt=>do
 let v <-e rt
 P.pure (.val v)
abbrev oY (x:DR):DI:=λrt=>do
 P.guard (aj=aj)
 let x <-x rt
 let i <-eO x
 P.pure (.enum 0 i)
abbrev oZ (a b:DR):DI:=λrt=>do
 P.guard (aj=aj/\aj=aj)
 let x <-a rt
 let y <-b rt
 let i <-eO x
 let j <-eO y
 P.pure (.zip i j)
abbrev vF (a:DR):DI:=λrt=>do
 P.guard (aj=aj)
 let i <-a rt
 p9 i
abbrev iS (a:DR):DI:=λrt=>do
 let v <-a rt
 eO v
abbrev iA (e:DE):DI:=λrt=>do
 let v <-e rt
 jG v
abbrev pL (i:ak):DA:=xD i
abbrev pC (x:aI):DA:=km (aq x)
abbrev so (o:DE)(a:aI):DA:=λv rt=>do
 let ov <-o rt
 p5 ov (aq a) v
 P.pure rt.loc
abbrev dM (o i:DE):DA:=λv rt=>do
 let ov <-o rt
 let iv <-i rt
 oN ov iv v
 P.pure rt.loc
abbrev cx (l:ah DA):DA:=λv rt=>do
 let vs <-P.opt (gb v)
 P.guard (vs.length=l.length/\aj=aj)
 jg l vs rt
abbrev Ei:DS:=λrt=>P.pure (.next,rt.loc)
abbrev sp:DS:=λrt=>P.pure (.brk,rt.loc)
abbrev qu:DS:=λrt=>P.pure (.cont,rt.loc)
abbrev bL (e:DE):DS:=λrt=>do
 let v <-e rt
 P.pure (.ret v,rt.loc)
abbrev b9 (e:DE):DS:=λrt=>do
 P.guard (aj=aj)
 let _ <-e rt
 P.pure (.next,rt.loc)
abbrev aE (put:DA)(e:DE):DS:=λrt=>do
 P.guard (az=az/\aj=aj)
 let v <-e rt
 let loc <-put v rt
 P.pure (.next,loc)
abbrev o5 (put:DA)(x:DE)(op:jU)(e:DE):DS:=λrt=>do
 P.guard (op= .Add\/op= .Sub)
 let o <-x rt
 let i <-dF o
 let v <-e rt
 let j <-dF v
 let v <-gc op (.int i) (.int j)
 let loc <-put v rt
 P.pure (.next,loc)
abbrev sq:ah DS->DS
 | []=>λrt=>P.pure (.next,rt.loc)
 |s :: l=>λrt=>do
  let x <-s rt
  match x with
  |(.next,loc)=>sq l { rt with loc:=loc }
  |x=>P.pure x
abbrev bJ (t:DT)(b o:ah DS):DS:=λrt=>do
 let c <-t rt
 if c then sq b rt else sq o rt
abbrev o7 (t:DT)(b:ah DS):DS:=λrt=>iL t (sq b) 64 rt
abbrev fw (tup:aB)(put:DA)(src:DI)(b:ah DS):DS:=λrt=>do
 P.guard (aj=aj)
 let it <-src rt
 P.guard ((tup || vE it)=aj)
 forA (sq b) put 128 it rt
abbrev sr (put:DA)(e:DE)(yN:aI->aB)(h:DS)(o:ah DS):DS:=λrt=>do
 P.guard (aj=aj/\az=az/\aj=aj)
 P.uC (e rt) (λv=>do
   let loc <-put v rt
   sq o { rt with loc:=loc })
  λk=>match (ae yN:ax (aI->aB))with
   |some f=>if f k then h rt else P.fail
   |none=>P.fail
@[reducible] abbrev vS (x:aI):AV:=.str (aq x)
abbrev eH (n:aI):ax DS:=(defOf (aq n)).map λq=>eu (cS q.2.2 20) q.2.1
abbrev mM:ax (fg×aH×bN):=(defOf (aq "law")).bind λq=>q.2.1.findSome? λs=>match s with
 |.Assign _ (.Lambda a e sc _) _=>ae (a,e,sc)
 |_=>ag
abbrev Ej (o:ax (fg×aH×bN)):DE:=match o with
 |some (a,e,sc)=>Qu a e sc
 |none=>stuck
abbrev Ek:ah DS:=[
 aE (pL 2) (bz (eL 0) (eK (.int 0))),
 aE (dM (eL 0) (eK (.int 0))) (eL 1),
 b9 (aX (eK (.fn (aq "_siftup"))) [(eL 0),(eK (.int 0))] []),
 bL (eL 2)]
abbrev El:ah DS:=[
 aE (pL 1) (aX (eK (.bi "len")) [(eL 0)] []),
 fw az (pL 2) (vF (iU [(aY .FloorDiv (eL 1) (eK (.int 2)))])) [
  b9 (aX (eK (.fn (aq "_siftup"))) [(eL 0),(eL 2)] [])]]
abbrev Em:ah DS:=[
 aE (pL 2) (bz (eL 0) (eK (.int 0))),
 aE (dM (eL 0) (eK (.int 0))) (eL 1),
 b9 (aX (eK (.fn (aq "_siftup_max"))) [(eL 0),(eK (.int 0))] []),
 bL (eL 2)]
abbrev Eo:ah DS:=[
 aE (pL 1) (aX (eK (.bi "len")) [(eL 0)] []),
 fw az (pL 2) (vF (iU [(aY .FloorDiv (eL 1) (eK (.int 2)))])) [
  b9 (aX (eK (.fn (aq "_siftup_max"))) [(eL 0),(eL 2)] [])]]
abbrev Ep:ah DS:=[
 aE (pL 3) (bz (eL 0) (eL 2)),
 o7 (aR .Gt (eL 2) (eL 1)) [
  aE (pL 4) (aY .RShift (aY .Sub (eL 2) (eK (.int 1))) (eK (.int 1))),
  aE (pL 5) (bz (eL 0) (eL 4)),
  bJ (aR .Lt (eL 3) (eL 5)) [
   aE (dM (eL 0) (eL 2)) (eL 5),
   aE (pL 2) (eL 4),
   qu] [],
  sp],
 aE (dM (eL 0) (eL 2)) (eL 3)]
abbrev Er:ah DS:=[
 aE (pL 2) (aX (eK (.bi "len")) [(eL 0)] []),
 aE (pL 3) (eL 1),
 aE (pL 4) (bz (eL 0) (eL 1)),
 aE (pL 5) (aY .Add (aY .Mult (eK (.int 2)) (eL 1)) (eK (.int 1))),
 o7 (aR .Lt (eL 5) (eL 2)) [
  aE (pL 6) (aY .Add (eL 5) (eK (.int 1))),
  bJ (jN (aR .Lt (eL 6) (eL 2)) (gm (aR .Lt (bz (eL 0) (eL 5)) (bz (eL 0) (eL 6))))) [
   aE (pL 5) (eL 6)] [],
  aE (dM (eL 0) (eL 1)) (bz (eL 0) (eL 5)),
  aE (pL 1) (eL 5),
  aE (pL 5) (aY .Add (aY .Mult (eK (.int 2)) (eL 1)) (eK (.int 1)))],
 aE (dM (eL 0) (eL 1)) (eL 4),
 b9 (aX (eK (.fn (aq "_siftdown"))) [(eL 0),(eL 3),(eL 1)] [])]
abbrev Es:ah DS:=[
 aE (pL 3) (bz (eL 0) (eL 2)),
 o7 (aR .Gt (eL 2) (eL 1)) [
  aE (pL 4) (aY .RShift (aY .Sub (eL 2) (eK (.int 1))) (eK (.int 1))),
  aE (pL 5) (bz (eL 0) (eL 4)),
  bJ (aR .Lt (eL 5) (eL 3)) [
   aE (dM (eL 0) (eL 2)) (eL 5),
   aE (pL 2) (eL 4),
   qu] [],
  sp],
 aE (dM (eL 0) (eL 2)) (eL 3)]
abbrev Et:ah DS:=[
 aE (pL 2) (aX (eK (.bi "len")) [(eL 0)] []),
 aE (pL 3) (eL 1),
 aE (pL 4) (bz (eL 0) (eL 1)),
 aE (pL 5) (aY .Add (aY .Mult (eK (.int 2)) (eL 1)) (eK (.int 1))),
 o7 (aR .Lt (eL 5) (eL 2)) [
  aE (pL 6) (aY .Add (eL 5) (eK (.int 1))),
  bJ (jN (aR .Lt (eL 6) (eL 2)) (gm (aR .Lt (bz (eL 0) (eL 6)) (bz (eL 0) (eL 5))))) [
   aE (pL 5) (eL 6)] [],
  aE (dM (eL 0) (eL 1)) (bz (eL 0) (eL 5)),
  aE (pL 1) (eL 5),
  aE (pL 5) (aY .Add (aY .Mult (eK (.int 2)) (eL 1)) (eK (.int 1)))],
 aE (dM (eL 0) (eL 1)) (eL 4),
 b9 (aX (eK (.fn (aq "_siftdown_max"))) [(eL 0),(eL 3),(eL 1)] [])]
abbrev yO:DE:=gI [(aX (eC "key") [(eL 2)] []),(eL 1),(eL 2)]
abbrev yP (b:aB):ah DS:=[
  aE (pL 12) (aX (eC "key") [(eL 7)] []),
  bJ (if b then aR .Lt (eL 8) (eL 12)else aR .Lt (eL 12) (eL 8)) [
   b9 (aX (eL 10) [(eL 5),(gI [(eL 12),(eL 9),(eL 7)])] []),
   aE (cx [(pL 8),(pL 11),(pL 13)]) (bz (eL 5) (eK (.int 0))),
   o5 (pL 9) (eL 9) (if b then .Sub else .Add) (eK (.int 1))] []]
abbrev yQ (b:aB):ah DS:=[
  aE (pL 3) (aX (eK (.bi "iter")) [(eL 1)] []),
  aE (pL 4) (aX (eK (.ty "object")) [] []),
  aE (pL 5) (aX (eK (.bi (if b then "max" else "min"))) [(eL 3)] [(aq "default",(eL 4)),(aq "key",(eC "key"))]),
  bL (gH (aR .Is (eL 5) (eL 4)) (eList []) (eList [(eL 5)]))]
abbrev yR (b:aB):DE:=fu (aX (eK (.bi "sorted")) [(eL 1)] (if b then [(aq "key",(eC "key")),(aq "reverse",(eK (.bool aj)))]else [(aq "key",(eC "key"))])) ag (ae (eL 0))
abbrev qv (b:aB):ah DS:=[
 aE (pL 3) (aX (eK (.bi "iter")) [(eL 1)] []),
 aE (pL 5) (d9 (eG [(".0",.local),("i",.local),("elem",.local),("key",.free)]) aj (oZ (iU (if b then [(eK (.int 0)),(iT (eL 0)),(iT (eK (.int 1)))]else [(eL 0)])) (g8 (eL 3))) (cx [(pL 1),(pL 2)]) [] yO),
 bJ (gm (tV (eL 5))) [
  bL (eL 5)] [],
 b9 (aX (eK (.fn (aq (if !b then "_heapify_max" else "heapify")))) [(eL 5)] []),
 aE (pL 8) (bz (bz (eL 5) (eK (.int 0))) (eK (.int 0))),
 aE (pL 9) (if b then iT (eL 0)else eL 0),
 aE (pL 10) (eK (.fn (aq (if !b then "_heapreplace_max" else "heapreplace")))),
 fw az (pL 7) (iA (eL 3)) (yP b),
 b9 (bX (eL 5) .sort [] (if b then [(aq "reverse",(eK (.bool aj)))]else [])),
 bL (d9 (eG [(".0",.local),("k",.local),("order",.local),("elem",.local)]) aj (iA (eL 5)) (cx [(pL 1),(pL 2),(pL 3)]) [] (eL 3))]
abbrev yS (b:aB)(K:ah DS):ah DS:=bJ (aR .Is (eC "key") (eK .none)) K [] :: qv b
abbrev qw (b:aB)(K:ah DS):ah DS:=
 bJ (aR .Eq (eL 0) (eK (.int 1))) (yQ b) [] ::
 sr (pL 6) (aX (eK (.bi "len")) [(eL 1)] []) (λk=>k == "TypeError" || k == "AttributeError") Ei [
  bJ (aR .GtE (eL 0) (eL 6)) [bL (yR b)] []] ::
 yS b K
abbrev yT:ah DS:=qw az [
  aE (pL 3) (aX (eK (.bi "iter")) [(eL 1)] []),
  aE (pL 5) (d9 (eG [(".0",.local),("i",.local),("elem",.local)]) aj (oZ (iU [(eL 0)]) (g8 (eL 3))) (cx [(pL 1),(pL 2)]) [] (gI [(eL 2),(eL 1)])),
  bJ (gm (tV (eL 5))) [
   bL (eL 5)] [],
  b9 (aX (eK (.fn (aq "_heapify_max"))) [(eL 5)] []),
  aE (pL 8) (bz (bz (eL 5) (eK (.int 0))) (eK (.int 0))),
  aE (pL 9) (eL 0),
  aE (pL 10) (eK (.fn (aq "_heapreplace_max"))),
  fw az (pL 7) (iA (eL 3)) [
   bJ (aR .Lt (eL 7) (eL 8)) [
    b9 (aX (eL 10) [(eL 5),(gI [(eL 7),(eL 9)])] []),
    aE (cx [(pL 8),(pL 11)]) (bz (eL 5) (eK (.int 0))),
    o5 (pL 9) (eL 9) .Add (eK (.int 1))] []],
  b9 (bX (eL 5) .sort [] []),
  bL (d9 (eG [(".0",.local),("elem",.local),("order",.local)]) aj (iA (eL 5)) (cx [(pL 1),(pL 2)]) [] (eL 1))]
abbrev yU:ah DS:=qw aj [
  aE (pL 3) (aX (eK (.bi "iter")) [(eL 1)] []),
  aE (pL 5) (d9 (eG [(".0",.local),("i",.local),("elem",.local)]) aj (oZ (iU [(eK (.int 0)),(iT (eL 0)),(iT (eK (.int 1)))]) (g8 (eL 3))) (cx [(pL 1),(pL 2)]) [] (gI [(eL 2),(eL 1)])),
  bJ (gm (tV (eL 5))) [
   bL (eL 5)] [],
  b9 (aX (eK (.fn (aq "heapify"))) [(eL 5)] []),
  aE (pL 8) (bz (bz (eL 5) (eK (.int 0))) (eK (.int 0))),
  aE (pL 9) (iT (eL 0)),
  aE (pL 10) (eK (.fn (aq "heapreplace"))),
  fw az (pL 7) (iA (eL 3)) [
   bJ (aR .Lt (eL 8) (eL 7)) [
    b9 (aX (eL 10) [(eL 5),(gI [(eL 7),(eL 9)])] []),
    aE (cx [(pL 8),(pL 11)]) (bz (eL 5) (eK (.int 0))),
    o5 (pL 9) (eL 9) .Sub (eK (.int 1))] []],
  b9 (bX (eL 5) .sort [] [(aq "reverse",(eK (.bool aj)))]),
  bL (d9 (eG [(".0",.local),("elem",.local),("order",.local)]) aj (iA (eL 5)) (cx [(pL 1),(pL 2)]) [] (eL 1))]
abbrev yV:ah DS:=[
 aE (pL 2) (aX (eK (.ty "type")) [(eL 1)] []),
 bJ (aR .Is (eL 2) (eK (.ty "str"))) [
  bL (eK (vS ""))] [],
 bJ (aR .Is (eL 1) (eK .none)) [
  bL (eK (vS "NoneType"))] [],
 bJ (aR .Is (eL 2) (eK (.ty "bool"))) [
  bL (eK (vS "bool"))] [],
 bJ (aR .Is (eL 2) (eK (.ty "int"))) [
  bL (eK (vS "int"))] [],
 bJ (aR .Is (eL 2) (eK (.ty "float"))) [
  bL (eK (vS "float"))] [],
 bJ (aR .Is (eL 2) (eK (.ty "list"))) [
  bL (eK (vS "list"))] [],
 bJ (aR .Is (eL 2) (eK (.ty "tuple"))) [
  bL (eK (vS "tuple"))] [],
 bJ (aR .Is (eL 2) (eK (.ty "dict"))) [
  bL (eK (vS "dict"))] [],
 bJ (aR .Is (eL 2) (eK (.ty "set"))) [
  bL (eK (vS "set"))] [],
 b9 (aX yL [(eK (.int 0))] [])]
abbrev yW:ah DS:=[
 bJ (jN (aR .Eq (aX (eK (.bi "len")) [(eL 3)] []) (eK (.int 1))) (gm (tV (eL 4)))) [
  aE (pL 5) (bz (eL 3) (eK (.int 0)))] [
  bJ (tV yL) [
   aE (pL 5) (bz (eL 4) (eL 2))] [
   b9 (aX yL [(eK (.int 1))] [])]],
 aE (pL 6) (aX (eK (.fn (aq "_kind"))) [(eL 0),(eL 5)] []),
 bJ (tV (eL 6)) [
  stuck] [],
 bL (eL 5)]
abbrev yX:ah DS:=[
 aE (pL 1) (eK (vS "/")),
 aE (pL 2) (eK (vS "")),
 bJ (aR .NotEq (fu (eL 0) ag (ae (eK (.int 1)))) (eL 1)) [
  bL (gI [(eL 2),(eL 2),(eL 0)])] [
  bJ (nR (aR .NotEq (fu (eL 0) (ae (eK (.int 1))) (ae (eK (.int 2)))) (eL 1)) (aR .Eq (fu (eL 0) (ae (eK (.int 2))) (ae (eK (.int 3)))) (eL 1))) [
   bL (gI [(eL 2),(eL 1),(fu (eL 0) (ae (eK (.int 1))) ag)])] [
   bL (gI [(eL 2),(fu (eL 0) ag (ae (eK (.int 2)))),(fu (eL 0) (ae (eK (.int 2))) ag)])]]]
abbrev yY:ah DS:=[
  bJ (nR (gm (tV (eL 8))) (aR .Eq (eL 8) (eL 2))) [
   qu] [],
  bJ (nR (aR .NotEq (eL 8) (eL 3)) (nR (jN (gm (tV (eL 5))) (gm (tV (eL 7)))) (jN (tV (eL 7)) (aR .Eq (bz (eL 7) (iT (eK (.int 1)))) (eL 3))))) [
   b9 (bX (eL 7) .append [(eL 8)] [])] [
   bJ (tV (eL 7)) [
    b9 (bX (eL 7) .pop [] [])] []]]
abbrev yZ:ah DS:=[
 aE (pL 1) (eK (vS "/")),
 aE (pL 2) (eK (vS ".")),
 aE (pL 3) (eK (vS "..")),
 bJ (gm (tV (eL 0))) [
  bL (eL 2)] [],
 aE (cx [(pL 4),(pL 5),(pL 0)]) (aX (eK (.fn (aq "_splitroot"))) [(eL 0)] []),
 aE (pL 6) (bX (eL 0) .split [(eL 1)] []),
 aE (pL 7) (eList []),
 fw az (pL 8) (iA (eL 6)) yY,
 aE (pL 6) (eL 7),
 aE (pL 0) (aY .Add (eL 5) (bX (eL 1) .join [(eL 6)] [])),
 bL (Eg (eL 0) (eL 2))]
abbrev su:ah DS:=[
 bL (aX (eK (.fn (aq "_normpath"))) [(aX (eK (.fn (aq "_c_path"))) [(eK (vS "normpath")),(eK (vS "_path_normpath")),(eK (vS "path")),(eL 0),(eL 1)] [])] [])]
abbrev vG:ah DS:=[
 aE (so (eL 0) "_mods") (gH (gm (tV (eL 1))) (aX (eK (.ty "set")) [] []) (aX (eK (.ty "set")) [(eL 1)] [])),
 aE (so (eL 0) "_dirs") (gH (gm (tV (eL 2))) (eList []) (d9 (eG [(".0",.local),("d",.local),("normpath",.globalImplicit)]) az (iA (eL 2)) (pL 1) [] (aX (eK (.fn (aq "normpath"))) [(eL 1)] []))),
 aE (so (eL 0) "_ignore") (Eh (vS "<string>") (.int 1))]
abbrev y3:ah DS:=[
 bJ (aR .In (eL 2) (iB (eL 0) "_ignore")) [
  bL (bz (iB (eL 0) "_ignore") (eL 2))] [],
 bJ (aR .In (eL 2) (iB (eL 0) "_mods")) [
  aE (dM (iB (eL 0) "_ignore") (eL 2)) (eK (.int 1)),
  bL (eK (.int 1))] [],
 fw az (pL 3) (iA (iB (eL 0) "_mods")) [
  bJ (tV (bX (eL 2) .startswith [(aY .Add (eL 3) (eK (vS ".")))] [])) [
   aE (dM (iB (eL 0) "_ignore") (eL 2)) (eK (.int 1)),
   bL (eK (.int 1))] []],
 bJ (aR .Is (eL 1) (eK .none)) [
  aE (dM (iB (eL 0) "_ignore") (eL 2)) (eK (.int 1)),
  bL (eK (.int 1))] [],
 fw az (pL 4) (iA (iB (eL 0) "_dirs")) [
  bJ (tV (bX (eL 1) .startswith [(aY .Add (eL 4) (eK (vS "/")))] [])) [
   aE (dM (iB (eL 0) "_ignore") (eL 2)) (eK (.int 1)),
   bL (eK (.int 1))] []],
 aE (dM (iB (eL 0) "_ignore") (eL 2)) (eK (.int 0)),
 bL (eK (.int 0))]
abbrev y4:ah DS:=[
 aE (pL 4) (eList []),
 bJ (aR .NotEq (eL 1) (eK (.int 7))) [
  aE (pC "parts") (bX (eL 1) .split [(eK (vS "."))] []),
  aE (pL 4) (d9 (eG [(".0",.local),("k",.local),("parts",.free)]) az (iS (iU [(aX (eK (.bi "len")) [(eC "parts")] [])])) (pL 1) [] (bX (eK (vS ".")) .join [(fu (eC "parts") ag (ae (aY .Add (eL 1) (eK (.int 1)))))] []))] [],
 bJ (nR (aR .Is (eL 0) (eK .none)) (aR .NotEq (d9 (eG [(".0",.local),("name",.local),("modules",.free)]) az (iA (eL 4)) (pL 1) [(aR .In (eL 1) (eC "modules"))] (eL 1)) (eList []))) [
  bL (eK (.bool aj))] [],
 aE (pC "steps") (bX (eL 0) .split [(eK (vS "/"))] []),
 bL (lQ .NotEq (d9 (eG [(".0",.local),("k",.local),("directories",.free),("steps",.free)]) az (iS (iU [(aX (eK (.bi "len")) [(eC "steps")] [])])) (pL 1) [(aR .In (bX (eK (vS "/")) .join [(fu (eC "steps") ag (ae (eL 1)))] []) (eC "directories"))] (eL 1)) (eList []))]
abbrev sx:ah DS:=[
   bJ (jN (aR .Eq (eC "module") (eK (.int 7))) (aR .NotEq (eL 9) (eList []))) [
    bL (eL 3)] [],
   b9 (bX (eL 8) .append [(gI [(eC "module"),(eL 4)])] []),
   aE (pL 11) (bz (d9 (eG [(".0",.local),("name",.local),("where",.local),("module",.free)]) aj (iA (eL 8)) (cx [(pL 1),(pL 2)]) [(aR .Eq (eL 1) (eC "module"))] (eL 2)) (eK (.int 0))),
   bJ (tV (aX (eK (.fn (aq "_law_to_be_left_out"))) [(eL 11),(eC "module"),(eL 9),(eL 10)] [])) [
    o5 (pL 7) (eL 7) .Add (eK (.int 1))] []]
abbrev za:ah DS:=[
 aE (pL 3) (eList []),
 fw aj (cx [(pL 4),(pC "module"),(pL 6)]) (iA (eL 0)) [
  aE (pL 7) (eK (.int 0)),
  fw aj (cx [(pL 8),(cx [(pL 9),(pL 10)])]) (oZ (g8 (eL 1)) (g8 (eL 2))) sx,
  b9 (bX (eL 3) .append [(eL 7)] [])],
 bL (eL 3)]
abbrev zb:ah DS:=[
 aE (pL 4) (eList []),
 fw az (pL 5) (iS (iU [(eL 2)])) [
  fw aj (cx [(pC "j"),(pL 7)]) (oY (g8 (eL 0))) [
   aE (pL 8) (d9 (eG [(".0",.local),("i",.local),("rank",.local),("greatest",.free),("j",.free),("ranks",.free)]) aj (oY (g8 (eC "ranks"))) (cx [(pL 1),(pL 2)]) [(yM (tV (eC "greatest")) (aR .Gt (eL 2) (bz (eC "ranks") (eC "j"))) (aR .Lt (eL 2) (bz (eC "ranks") (eC "j"))))] (eL 1)),
   aE (pL 9) (d9 (eG [(".0",.local),("i",.local),("rank",.local),("j",.free),("ranks",.free)]) aj (oY (g8 (fu (eC "ranks") ag (ae (eC "j"))))) (cx [(pL 1),(pL 2)]) [(aR .Eq (eL 2) (bz (eC "ranks") (eC "j")))] (eL 1)),
   bJ (aR .Eq (aY .Add (aX (eK (.bi "len")) [(eL 8)] []) (aX (eK (.bi "len")) [(eL 9)] [])) (eL 5)) [
    b9 (bX (eL 4) .append [(eL 7)] [])] []]],
 bL (eL 4)]
abbrev zc:ah DS:=[
 sr (pL 2) (bX (eL 0) .names [(eK .none),(eL 1)] []) (λk=>k == "AttributeError") (bL (eList [])) [],
 bL (gH (aR .Is (aX (eK (.ty "type")) [(eL 2)] []) (eK (.ty "int"))) (eList [(eL 2)]) (eList [(eK .none)]))]
abbrev sy:ah DS:=[
 aE (pL 1) (aY .Add (fu (eL 0) ag (ae (eK (.int 6)))) (eList [(eK (.int 1728)),(eK (.int 1466)),(eK (.int 48)),(eK (.int 34)),(eK (.int 41)),(eK (.int 787)),(eK (.int 42)),(eK (.int 1536)),(eK (.int 55)),(eK (.int 33))])),
 aE (pC "total") (aY .Add (aX (eK (.bi "sum")) [(fu (eL 0) ag (ae (eK (.int 6))))] []) (eK (.int 84104))),
 aE (pL 3) (eList []),
 fw az (pC "k") (iA (eList [(eK (.int 0)),(eK (.int 6)),(eK (.int 12))])) [
  aE (pL 5) (d9 (eG [(".0",.local),("i",.local),("name",.local),("k",.free),("total",.free)]) aj (oY (g8 (eList [(eK (vS "a")),(eK (vS "a.b")),(eK (vS "b"))]))) (cx [(pL 1),(pL 2)]) [(aR .Eq (aY .Mod (aY .FloorDiv (eC "total") (aY .Pow (eK (.int 2)) (aY .Add (eC "k") (eL 1)))) (eK (.int 2))) (eK (.int 1)))] (eL 2)),
  aE (pL 6) (d9 (eG [(".0",.local),("i",.local),("name",.local),("k",.free),("total",.free)]) aj (oY (g8 (eList [(eK (vS "/l")),(eK (vS "/l/a")),(eK (vS "/w"))]))) (cx [(pL 1),(pL 2)]) [(aR .Eq (aY .Mod (aY .FloorDiv (eC "total") (aY .Pow (eK (.int 2)) (aY .Add (aY .Add (eC "k") (eK (.int 3))) (eL 1)))) (eK (.int 2))) (eK (.int 1)))] (eL 2)),
  b9 (bX (eL 3) .append [(gI [(eL 5),(eL 6)])] [])]]
abbrev vH:ah DS:=[
 aE (pC "readers") (d9 (eG [(".0",.local),("modules",.local),("directories",.local),("_Ignore",.globalImplicit)]) aj (iA (eL 3)) (cx [(pL 1),(pL 2)]) [] (aX (eK (.fn (aq "_Ignore"))) [(eL 1),(eL 2)] [])),
 aE (pL 7) (aX (eK (.fn (aq "_Ignore"))) [(eList []),(eList [(eK (vS "/l/../w//"))])] []),
 bJ (aR .NotEq (eList [(bX (eL 7) .names [(eK (vS "/w/q.py")),(eK (vS "q"))] []),(bX (eL 7) .names [(eK (vS "/wx/q.py")),(eK (vS "r"))] [])]) (eList [(eK (.int 1)),(eK (.int 0))])) [
  bL (eK (.bool az))] [],
 aE (pC "asks") (eList []),
 aE (pL 8) (Ej mM)]
abbrev zd:DS:=bJ (nR (aR .Eq (eL 11) (eK (.int 0))) (aR .Eq (aY .Mod (aY .FloorDiv (eL 12) (eK (.int 32))) (eK (.int 3))) (eK (.int 0)))) [
   b9 (bX (eL 9) .append [(eList [])] []),
   b9 (bX (eL 10) .append [(aY .FloorDiv (eL 12) (eK (.int 96)))] [])] []
abbrev vI:ah DS:=[
 aE (pL 9) (eList []),
 aE (pL 10) (eList []),
 fw aj (cx [(pL 11),(pL 12)]) (oY (g8 (eL 1))) [
  zd,
  aE (pL 13) (bz (eList [(eK (vS "a")),(eK (vS "a.b")),(eK (vS "ab")),(eK (vS "b.a")),(eK (vS "a")),(eK (vS "a.b")),(eK (vS "ab")),(eK (.int 7))]) (aY .Mod (eL 12) (eK (.int 8)))),
  b9 (bX (bz (eL 9) (iT (eK (.int 1)))) .append [(gI [(bz (eList [(eK (vS "/l/x.py")),(eK (vS "/l/a/x.py")),(eK (vS "/w/x.py")),(eK .none)]) (aY .Mod (aY .FloorDiv (eL 12) (eK (.int 8))) (eK (.int 4)))),(eL 13),(eL 11)])] [])]]
abbrev vJ:ah DS:=[
  b9 (bX (eL 15) .append [(gI [(eL 23),(aX (eK (.ty "list")) [(eL 22)] [])])] []),
  aE (pL 24) (gH (aR .Gt (eC "wish") (eK (.int 0))) (aX (eK (.fn (aq "_law_ranks"))) [(eL 18),(eL 14),(eL 3)] []) (eList [])),
  b9 (bX (eL 17) .extend [(d9 (eG [(".0",.local),("path",.local),("module",.local),("place",.local),("wish",.free)]) aj (iA (fu (eL 18) ag (ae (aY .Add (aX (eK (.bi "len")) [(eL 24)] []) (eK (.int 1)))))) (cx [(pL 1),(pL 2),(pL 3)]) [(aR .Gt (eC "wish") (eK (.int 0)))] (eL 3))] []),
  aE (pL 25) (gH (jN (aR .Gt (eC "wish") (eK (.int 0))) (aR .Eq (aY .Mod (aY .FloorDiv (eL 19) (eK (.int 12))) (eK (.int 2))) (eK (.int 1)))) (fu (eL 18) (ae (aY .Add (aX (eK (.bi "len")) [(eL 24)] []) (eK (.int 1)))) ag) (eL 18)),
  aE (pL 26) (vD (lQ .Gt (eC "wish") (eK (.int 0))) (lQ .Lt (aX (eK (.bi "len")) [(eL 24)] []) (aX (eK (.bi "len")) [(eL 18)] []))),
  b9 (bX (eL 16) .append [(gI [(gH (tV (eL 26)) (eK .none) (aX (eK (.fn (aq "_law_few"))) [(eL 18),(eL 24),(eC "wish"),(eL 21)] [])),(eL 25)])] [])]
abbrev vK:ah DS:=
  aE (pC "wish") (aY .Sub (aY .Mod (eL 19) (eK (.int 6))) (eK (.int 1))) ::
  aE (pL 21) (lQ .Eq (aY .Mod (aY .FloorDiv (eL 19) (eK (.int 6))) (eK (.int 2))) (eK (.int 1))) ::
  aE (pL 22) (gH (aR .Eq (aY .Mod (aY .FloorDiv (eL 19) (eK (.int 12))) (eK (.int 2))) (eK (.int 1))) (aX (eK (.bi "iter")) [(eL 18)] []) (aX (eK (.ty "list")) [(eL 18)] [])) ::
  sr (pL 23) (gH (tV (eL 21)) (aX (eK (.fn (aq "nlargest"))) [(eC "wish"),(eL 22)] [(aq "key",(eL 8))]) (aX (eK (.fn (aq "nsmallest"))) [(eC "wish"),(eL 22)] [(aq "key",(eL 8))])) (λk=>k == "AttributeError") (aE (pL 23) (eK .none)) [] :: vJ
abbrev vL:ah DS:=[
 aE (pL 14) (eList [(eList []),(eList []),(eList [])]),
 aE (pL 15) (eList []),
 aE (pL 16) (eList []),
 aE (pL 17) (eList []),
 fw aj (cx [(pL 18),(pL 19)]) (oZ (g8 (eL 9)) (g8 (eL 10))) vK]
abbrev ze:ah DS:=[
   b9 (bX (eL 15) .append [(aX (eK (.fn (aq "_law_says"))) [(bz (eC "readers") (eC "k")),(eL 13)] [])] []),
   b9 (bX (eL 16) .append [(aX (eK (.fn (aq "_law_ranks"))) [(eList [(gI [(eK .none),(eL 13),(eK (.int 0))])]),(eList [(bz (eL 14) (eC "k"))]),(eList [(bz (eL 3) (eC "k"))])] [])] [])]
abbrev vM:ah DS:=[
 fw az (pC "k") (iS (iU [(eK (.int 3))])) [
  fw az (pL 13) (iA (eList [(eK (vS "a")),(eK (vS "a.b")),(eK (vS "ab")),(eK (vS "b.a")),(eK (.int 7))])) ze],
 bL (vD (lQ .Eq (eL 15) (eL 16)) (lQ .Eq (eC "asks") (eL 17)))]
abbrev vN:ah DS:=sy++(vH++(vI++(vL++vM)))
abbrev WP {β:Type}(m:P β)(st:St)(Q:β->St->Prop)(E:aI->St->Prop):Prop:=
 m.run st λr bh=>match r with
  |.ok b=>Q b bh
  |.err k=>E k bh
@[reducible] abbrev k1 {β γ:Type}(f:β->P γ)(Q:γ->St->Prop)(E:aI->St->Prop)(v:β)(st:St):Prop:=WP (f v) st Q E
@[reducible] abbrev k2 {β γ δ:Type}(f:β->γ->P δ)(Q:δ->St->Prop)(E:aI->St->Prop)(v:β)(w:γ)(st:St):Prop:=WP (f v w) st Q E
@[reducible] abbrev k3 {β γ δ ε:Type}(f:β->γ->δ->P ε)(Q:ε->St->Prop)(E:aI->St->Prop)(u:β)(v:γ)(w:δ)(st:St):Prop:=WP (f u v w) st Q E
@[reducible] abbrev kE {β γ:Type}(a:RT->P γ)(rt:RT)(Q:β->γ->St->Prop)(E:aI->St->Prop)(v:β)(st:St):Prop:=WP (a rt) st (Q v) E
@[reducible] abbrev Qv {β γ:Type}(a:RT->P γ)(rt:RT)(Q:γ->St->Prop)(E:aI->St->Prop)(_:β)(st:St):Prop:=WP (a rt) st Q E
@[reducible] abbrev Eu {β γ δ:Type}(a:RT->P δ)(rt:RT)(Q:β->γ->δ->St->Prop)(E:aI->St->Prop)(u:β)(v:γ)(st:St):Prop:=WP (a rt) st (Q u v) E
@[reducible] abbrev kM {β γ:Type}(g:β->γ)(Q:γ->St->Prop)(v:β)(st:St):Prop:=Q (g v) st
@[reducible] abbrev Qw {β γ δ:Type}(g:β->γ->δ)(Q:δ->St->Prop)(u:β)(v:γ)(st:St):Prop:=Q (g u v) st
@[reducible] abbrev zf {γ:Type}(m n:P γ)(Q:γ->St->Prop)(E:aI->St->Prop)(c:aB)(st:St):Prop:=(c=aj->WP m st Q E)/\(c=az->WP n st Q E)
@[reducible] abbrev Ew {γ:Type}(m:P γ)(R:St->Prop)(Q:γ->St->Prop)(E:aI->St->Prop)(c:aB)(st:St):Prop:=(c=aj->WP m st Q E)/\(c=az->R st)
@[reducible] abbrev vO {γ:Type}(m:P γ)(R:St->Prop)(Q:γ->St->Prop)(E:aI->St->Prop)(c:aB)(st:St):Prop:=(c=aj->R st)/\(c=az->WP m st Q E)
@[reducible] abbrev kA (m:P AV)(Q:AV->St->Prop)(E:aI->St->Prop)(x:AV)(st:St):Prop:=WP (eD x) st (Ew m (Q x) Q E) E
@[reducible] abbrev kO (m:P AV)(Q:AV->St->Prop)(E:aI->St->Prop)(x:AV)(st:St):Prop:=WP (eD x) st (vO m (Q x) Q E) E
@[reducible] abbrev kU {β:Type}(loc:ah (ax AV))(Q:ah (ax AV)->St->Prop)(_:β)(st:St):Prop:=Q loc st
@[reducible] abbrev kX {β:Type}(loc:ah (ax AV))(Q:FL×ah (ax AV)->St->Prop)(_:β)(st:St):Prop:=Q (.next,loc) st
@[reducible] abbrev kN (Q:FL×ah (ax AV)->St->Prop)(loc:ah (ax AV))(st:St):Prop:=Q (.next,loc) st
@[reducible] abbrev kR (loc:ah (ax AV))(Q:FL×ah (ax AV)->St->Prop)(v:AV)(st:St):Prop:=Q (.ret v,loc) st
@[reducible] abbrev Ey (Q:AV->St->Prop)(E:aI->St->Prop)(x:FL×ah (ax AV))(st:St):Prop:=WP (eP x.1) st Q E
@[reducible] abbrev kL {γ:Type}(f:RT->P γ)(F:Or)(cel:ah (au×ak))(Q:γ->St->Prop)(E:aI->St->Prop)(loc:ah (ax AV))(st:St):Prop:=WP (f ⟨F,cel,loc⟩) st Q E
@[reducible] abbrev kK (n:au)(Q:ah (au×AV)->St->Prop)(x:AV)(xs:ah (au×AV))(st:St):Prop:=Q ((n,x) :: xs) st
@[reducible] abbrev Ez (put:DA)(rt:RT)(Q:FL×ah (ax AV)->St->Prop)(E:aI->St->Prop)(v:AV)(st:St):Prop:=WP (put v rt) st (kN Q) E
@[reducible] abbrev EA (x:aI)(v:AV)(loc:ah (ax AV))(Q:ah (ax AV)->St->Prop)(E:aI->St->Prop)(ov:AV)(st:St):Prop:=WP (p5 ov (aq x) v) st (kU loc Q) E
@[reducible] abbrev EB (v:AV)(loc:ah (ax AV))(Q:ah (ax AV)->St->Prop)(E:aI->St->Prop)(ov iv:AV)(st:St):Prop:=WP (oN ov iv v) st (kU loc Q) E
@[reducible] abbrev Qx (op:jU)(Q:AV->St->Prop)(E:aI->St->Prop)(i j:Int)(st:St):Prop:=WP (gc op (.int i) (.int j)) st Q E
@[reducible] abbrev Qy (op:jU)(Q:AV->St->Prop)(E:aI->St->Prop)(i:Int)(v:AV)(st:St):Prop:=WP (dF v) st (Qx op Q E i) E
@[reducible] abbrev EC (F:Or)(mm:kh)(l:ah DE)(ks:ah (au×DE))(rt:RT)(Q:AV->St->Prop)(E:aI->St->Prop)(ov:AV)(st:St):Prop:=
 ¬ (isInt ov=aj/\mm= .startswith)/\WP (lG ov mm) st (Qv (dG l) rt (kE (fU ks) rt (k2 (e8 F ov mm) Q E) E) E) E
@[reducible] abbrev ED (put:DA)(rt:RT)(o:ah DS)(F:Or)(cel:ah (au×ak))(Q:FL×ah (ax AV)->St->Prop)(E:aI->St->Prop)(v:AV)(st:St):Prop:=WP (put v rt) st (kL (sq o) F cel Q E) E
@[reducible] abbrev EE (yN:aI->aB)(m:P (FL×ah (ax AV)))(Q:FL×ah (ax AV)->St->Prop)(E:aI->St->Prop)(k:aI)(st:St):Prop:=yN k=aj/\WP m st Q E
abbrev Left (N:ah (ax AV)->St->Prop)(Q:FL×ah (ax AV)->St->Prop)(y:FL×ah (ax AV))(st:St):Prop:=match y with
 |(.next,loc)=>N loc st
 |(.cont,loc)=>N loc st
 |(.brk,loc)=>Q (.next,loc) st
 |(.ret v,loc)=>Q (.ret v,loc) st
@[reducible] abbrev Qz (tup:aB)(b:ah DS)(put:DA)(rt:RT)(Q:FL×ah (ax AV)->St->Prop)(E:aI->St->Prop)(it:AI)(st:St):Prop:=(tup || vE it)=aj/\WP (forA (sq b) put 128 it rt) st Q E
abbrev Yl (G:St->Prop):AI->ah AV->Prop
 |it,[]=>∀st,G st->∀(Q:ax (AV×AI)->St->Prop) (E:aI->St->Prop),Q ag st->WP (bx it) st Q E
 |it,x :: xs=>∃jH,(∀st,G st->∀(Q:ax (AV×AI)->St->Prop) (E:aI->St->Prop),Q (ae (x,jH)) st->WP (bx it) st Q E)/\Yl G jH xs
abbrev mN (rt:RT)(Q:aB->St->Prop)(E:aI->St->Prop):ah DT->St->Prop
 | [],st=>Q aj st
 | [t],st=>WP (t rt) st Q E
 |_,_=>dm
abbrev mP (d:Int):ak->Int->ah AV
 | 0,_=>[]
 |n+1,c=>.int c :: mP d n (c+d)
abbrev mQ:Int->ah AV->ah AV
 |_,[]=>[]
 |n,x :: l=>.pair (.int n) x :: mQ (n+1) l
abbrev o8:ah AV->ah AV->ah AV
 |x :: xs,y :: ys=>.pair x y :: o8 xs ys
 |_,_=>[]
@[reducible] abbrev QA (y:AS)(Q:AI->St->Prop)(E:aI->St->Prop)(i:AI)(st:St):Prop:=WP (eO y) st (kM (AI.zip i) Q) E
@[reducible] abbrev kZ (Q:AI->St->Prop)(E:aI->St->Prop)(x y:AS)(st:St):Prop:=WP (eO x) st (QA y Q E) E
@[reducible] abbrev EF (tup:aB)(elt:DE)(ifs:ah DT)(put:DA)(rt:RT)(Q:AV->St->Prop)(E:aI->St->Prop)(ai:AI)(st:St):Prop:=(tup || vE ai)=aj/\WP (cw elt ifs put 128 ai rt []) st (k1 cz Q E) E
@[reducible] abbrev Body (r:ah DS)(rt:RT)(st:St)(Q:AV->St->Prop)(E:aI->St->Prop):Prop:=WP (sq r rt) st (Ey Q E) E
abbrev jO (N:ah (ax AV)->St->Prop)(Q:FL×ah (ax AV)->St->Prop)(y:FL×ah (ax AV))(st:St):Prop:=match y with
 |(.next,loc)=>N loc st
 |y=>Q y st
@[reducible] abbrev QC (t:DT)(body:DS)(n:ak)(F:Or)(cel:ah (au×ak))(loc:ah (ax AV))(Q:FL×ah (ax AV)->St->Prop)(E:aI->St->Prop)(c:aB)(st:St):Prop:=(c=aj->WP (body ⟨F,cel,loc⟩) st (Left (kL (iL t body n) F cel Q E) Q) E)/\(c=az->Q (.next,loc) st)
@[reducible] abbrev Tr:=Int×Int×AV
abbrev tv (t:Tr):AV:=.dB (.int t.1) (.int t.2.1) t.2.2
abbrev fL (x y:Tr):aB:=if x.1=y.1 then decide (x.2.1 < y.2.1)else decide (x.1 < y.1)
abbrev bf (g:aB)(x y:Tr):aB:=if g then fL y x else fL x y
abbrev fZ (x y:Tr):Prop:=x.1=y.1->x.2.1≠y.2.1
abbrev Hp (st:St)(h:ak)(l:ah Tr):Prop:=st[h]? =ae (.list (l.map tv))
abbrev iC (g:aB)(new:Tr)(s:ak):ak->ah Tr->ak->ah Tr
 | 0,l,p=>l.set p new
 |n+1,l,p=>if s < p then
   match l[(p - 1) / 2]? with
   |some par=>if bf g new par then iC g new s n (l.set p par) ((p - 1) / 2)else l.set p new
   |none=>l.set p new
  else l.set p new
abbrev QD (t:DT):ah DS:=[
 aE (pL 3) (bz (eL 0) (eL 2)),
 o7 (aR .Gt (eL 2) (eL 1)) [
  aE (pL 4) (aY .RShift (aY .Sub (eL 2) (eK (.int 1))) (eK (.int 1))),
  aE (pL 5) (bz (eL 0) (eL 4)),
  bJ t [
   aE (dM (eL 0) (eL 2)) (eL 5),
   aE (pL 2) (eL 4),
   qu] [],
  sp],
 aE (dM (eL 0) (eL 2)) (eL 3)]
abbrev fb (g:aB):ak->ah Tr->ak->ah Tr×ak
 | 0,l,p=>(l,p)
 |n+1,l,p=>match l[2 * p+1]? with
  |none=>(l,p)
  |some x=>match l[2 * p+2]? with
   |none=>fb g n (l.set p x) (2 * p+1)
   |some y=>if bf g x y then fb g n (l.set p x) (2 * p+1)else fb g n (l.set p y) (2 * p+2)
abbrev QE (t:DT)(f:AV):ah DS:=[
 aE (pL 2) (aX (eK (.bi "len")) [(eL 0)] []),
 aE (pL 3) (eL 1),
 aE (pL 4) (bz (eL 0) (eL 1)),
 aE (pL 5) (aY .Add (aY .Mult (eK (.int 2)) (eL 1)) (eK (.int 1))),
 o7 (aR .Lt (eL 5) (eL 2)) [
  aE (pL 6) (aY .Add (eL 5) (eK (.int 1))),
  bJ (jN (aR .Lt (eL 6) (eL 2)) (gm t)) [
   aE (pL 5) (eL 6)] [],
  aE (dM (eL 0) (eL 1)) (bz (eL 0) (eL 5)),
  aE (pL 1) (eL 5),
  aE (pL 5) (aY .Add (aY .Mult (eK (.int 2)) (eL 1)) (eK (.int 1)))],
 aE (dM (eL 0) (eL 1)) (eL 4),
 b9 (aX (eK f) [(eL 0),(eL 3),(eL 1)] [])]
abbrev dN (l:ah Tr):Prop:=∀(i j:ak) (x y:Tr),i≠j->l[i]? =ae x->l[j]? =ae y->fZ x y
abbrev cN (g:aB)(l:ah Tr)(p:ak):ah Tr:=match l[p]? with
 |none=>l
 |some new=>iC g new p (fb g 63 l p).2 ((fb g 63 l p).1.set (fb g 63 l p).2 new) (fb g 63 l p).2
abbrev eV (g:aB):ak->ah Tr->ah Tr
 | 0,l=>l
 |k+1,l=>eV g k (cN g l k)
abbrev kP (g:aB):ah Tr->Prop
 | []=>dm
 | [_]=>eM
 | [a,b]=>bf g a b=aj
 | [a,b,c]=>bf g a b=aj/\bf g a c=aj
 | [a,b,c,d]=>bf g a b=aj/\bf g a c=aj/\bf g b d=aj
 |_=>dm
abbrev bg (b:aB)(k k':Int):aB:=if b then decide (k' < k)else decide (k < k')
abbrev iD (b:aB)(t:Tr):ah Tr->ah Tr
 | []=>[t]
 |x :: S=>if bg b t.1 x.1 then t :: x :: S else x :: iD b t S
abbrev bV (b:aB)(t:Int×AV):ah (Int×AV)->ah (Int×AV)
 | []=>[t]
 |x :: S=>if bg b t.1 x.1 then t :: x :: S else x :: bV b t S
abbrev kv (t:Tr):Int×AV:=(t.1,t.2.2)
abbrev Later (b:aB)(t:Tr)(S:ah Tr):Prop:=∀x∈S,if b then t.2.1 < x.2.1 else x.2.1 < t.2.1
@[reducible] abbrev gJ (b:aB)(S:ah Tr):Prop:=S.Pairwise λx y=>bf b x y=aj
abbrev kk (t:Tr):(Int×Int)×AV:=((t.1,t.2.1),tv t)
abbrev fx (b:aB)(n:ak)(xs:ah (Int×AV)):ah (Int×AV):=xs.foldl (λS x=>(bV b x S).take n) []
structure kQ (b:aB)(n:ak)(L S:ah Tr)(xs:ah (Int×AV)):Prop where
 heap:kP (!b) L
 sorted:gJ b S
 perm:L.Perm S
 sel:S.map kv=fx b n xs
 full:S.length=n
structure Fr (D:ak->Prop)(st bh:St):Prop where
 len:st.length<=bh.length
 keep:∀i,i < st.length->¬ D i->bh[i]? =st[i]?
structure iV (F:Or)(key:AV)(D:ak->Prop)(J:ak->St->Prop)(JE:St->Prop)(xs:ah AV)(rk:ah Int):Prop where
 call:∀(j:ak) (x:AV) (st:St),xs[j]? =ae x->J j st->WP (F key [x] []) st (λv bh=>∃r,rk[j]? =ae r/\v= .int r/\J (j+1) bh/\Fr D st bh) (λk bh=>k="AttributeError"/\rk.length=j/\JE bh/\Fr D st bh)
 zg:∀j st bh,J j st->st.length<=bh.length->(∀i,D i->bh[i]? =st[i]?)->J j bh
 QG:∀st bh,JE st->st.length<=bh.length->(∀i,D i->bh[i]? =st[i]?)->JE bh
 inside:∀j st,J j st->∀i,D i->i < st.length
 le:rk.length<=xs.length
abbrev mR (loc:ah (ax AV)):Prop:=∃x0 x1 x2,loc=[x0,x1,x2]
abbrev jo (loc:ah (ax AV)):Prop:=∃x0 x1 x2 x3,loc=[x0,x1,x2,x3]
abbrev lR (loc:ah (ax AV)):Prop:=∃x0 x1 x2 x3 x4,loc=[x0,x1,x2,x3,x4]
@[reducible] abbrev QH (ifs:ah DT)(elt:DE)(F:Or)(cel:ah (au×ak))(I:ah AV->ah (ax AV)->St->Prop)(acc:ah AV)(E:aI->St->Prop)(loc:ah (ax AV))(st:St):Prop:=
 mN ⟨F,cel,loc⟩ (λc st=>(c=aj->acc.length<=4096/\WP (elt ⟨F,cel,loc⟩) st (λx st=>I (acc++[x]) loc st) E)/\(c=az->I acc loc st)) E ifs st
abbrev tr (b:aB)(i:ak)(r:Int)(x:AV):Tr:=(r,if b then -(i:Int)else i,x)
abbrev dh (b:aB):ak->ah Int->ah AV->ah Tr
 |i,r :: rs,x :: xs=>tr b i r x :: dh b (i+1) rs xs
 |_,_,_=>[]
abbrev It (st:St)(it s j:ak)(xs:ah AV):Prop:=st[it]? =ae (.iter (ae s) j)/\st[s]? =ae (.list xs)
abbrev qx (st:St)(it s j:ak)(xs:ah AV):Prop:=It st it s j xs\/(st[it]? =ae (.iter ag 0)/\xs.length<=j)
abbrev ec (b:aB)(i:ak):Int:=if b then -(i:Int)else i
abbrev stepI (b:aB):Int:=if b then -1 else 1
abbrev With (D:ak->Prop)(it i:ak):Prop:=D i\/i=it
abbrev jP (st:St)(key:AV):Prop:=∃i a e sc cs,key= .ref i/\st[i]? =ae (.lam a e sc cs)
abbrev qy (b:aB)(o:ak)(S:ah Tr):Prop:=∀x∈S,if b then ec b o < x.2.1 else x.2.1 < ec b o
abbrev iW (b:aB):ah (Int×AV)->Int×AV->Int×AV
 | [],p=>p
 |x :: l,p=>iW b l (if bg b x.1 p.1 then x else p)
abbrev Gv (w:aB)(st:St)(gi s:ak)(xs:ah AV):Prop:=if w then It st gi s 0 xs else s=gi/\st[gi]? =ae (.list xs)
abbrev jq (w:aB)(st:St)(gi s m:ak)(xs:ah AV):Prop:=if w then qx st gi s m xs else s=gi/\st[gi]? =ae (.list xs)
abbrev DG (D:ak->Prop)(w:aB)(gi i:ak):Prop:=D i\/(w=aj/\i=gi)
structure o9 (b:aB)(n:ak)(D:ak->Prop)(J:ak->St->Prop)(w:aB)(gi s:ak)(xs:ah AV)(rk:ah Int)(df:St)(v:AV)(bh:St):Prop where
 res:∃r,v= .ref r/\df.length<=r/\bh[r]? =ae (.list ((fx b n (rk.zip xs)).map (·.2)))
 len:xs.length=rk.length
 j:J xs.length bh
 fr:Fr (DG D w gi) df bh
 left:jq w bh gi s xs.length xs
structure mS (D:ak->Prop)(JE:St->Prop)(w:aB)(gi s:ak)(xs:ah AV)(rk:ah Int)(df:St)(k:aI)(bh:St):Prop where
 k:k="AttributeError"
 len:rk.length < xs.length
 j:JE bh
 fr:Fr (DG D w gi) df bh
 left:jq w bh gi s (rk.length+1) xs
structure vP (J:ak->St->Prop)(df:St)(v:AV)(bh:St):Prop where
 res:∃r,v= .ref r/\df.length<=r/\bh[r]? =ae (.list [])
 j:J 0 bh
 fr:Fr (λ_=>dm) df bh
@[reducible] abbrev sO (x:aI):au:=aq x
abbrev subs (x y z:au):ah (ah au):=[[],[x],[y],[x,y],[z],[x,z],[y,z],[x,y,z]]
abbrev qz:ah (ah au):=subs (sO "a") (sO "a.b") (sO "b")
abbrev pb:ah (ah au):=subs (sO "/l") (sO "/l/a") (sO "/w")
abbrev modS:ah au:=[sO "a",sO "a.b",sO "ab",sO "b.a"]
abbrev sz:ah au:=[sO "/l/x.py",sO "/l/a/x.py",sO "/w/x.py"]
abbrev eg (m:AV):Prop:=m= .int 7\/∃s∈modS,m= .str s
abbrev f3 (p:AV):Prop:=p= .none\/∃s∈sz,p= .str s
@[reducible] abbrev Rd:=ah au×ah au
abbrev fy (r:Rd):Prop:=r.1∈qz/\r.2∈pb
abbrev pd (mods:ah au)(s:au):aB:=mods.any λx=>pA s (x++sO ".")
abbrev sA (fM:ah au)(s:au):aB:=fM.any λx=>pA s (x++sO "/")
abbrev sC (mods:ah au):AV->aB
 |.str s=>mods.contains s || pd mods s
 |_=>az
abbrev qA (fM:ah au):AV->aB
 |.str s=>sA fM s
 |_=>aj
abbrev dv (r:Rd)(p m:AV):aB:=sC r.1 m || qA r.2 p
abbrev jr (s:au):ah au:=(dz (aU s (sO ".")).length).map λk=>jv (sO ".") ((aU s (sO ".")).take (k+1))
abbrev kT (s:au):ah au:=(dz (aU s (sO "/")).length).map λk=>jv (sO "/") ((aU s (sO "/")).take k)
structure fz (st:St)(a d dd g:ak)(r:Rd)(D:ah ((au ⊕ Int)×AV)):Prop where
 inst:st[a]? =ae (.inst d)
 bc:st[d]? =ae (.bc [(sO "_mods",.cL r.1),(sO "_dirs",.ref dd),(sO "_ignore",.ref g)])
 fM:st[dd]? =ae (.list (r.2.map .str))
 dict:st[g]? =ae (.dict D)
abbrev b2i (b:aB):Int:=if b then 1 else 0
abbrev EH (m:AV):Prop:=m= .int 7\/∃s:au,m= .str s
abbrev EI (p:AV):Prop:=p= .none\/∃s:au,p= .str s
@[reducible] abbrev aS:=ah (AV×AV)
abbrev dw (n:aS)(m:AV):ax AV:=(n.find? λq=>q.1=m).map (·.2)
structure kW (r:Rd)(n:aS)(D:ah ((au ⊕ Int)×AV)):Prop where
 len:D.length<=1+n.length
 get:∀m key,eg m->gC m=ae key->eE D key=(dw n m).map λp=>.int (b2i (dv r p m))
 ok:∀q∈n,f3 q.2/\eg q.1
 EJ:r.1≠[]->dw n (.int 7)=ag
structure eW where
 a:ak
 d:ak
 dd:ak
 g:ak
abbrev gs (qs:ah eW)(i:ak):Prop:=∃q∈qs,i=q.g
abbrev bG (st:St):ah eW->ah Rd->ah aS->Prop
 | [],[],[]=>eM
 |q :: qs,r :: rs,n :: ns=>(∃D,fz st q.a q.d q.dd q.g r D/\kW r n D)/\bG st qs rs ns
 |_,_,_=>dm
abbrev b7:ah Rd->ah aS->AV->AV->ax Int×ah aS
 |r :: rs,n :: ns,m,p=>if m= .int 7/\r.1≠[]then (ag,n :: ns)else
  ((b7 rs ns m p).1.map λi=>b2i (dv r ((dw n m).getD p) m)+i,(n++[(m,p)]) :: (b7 rs ns m p).2)
 |_,_,_,_=>(ae 0,[])
abbrev zh:DE:=bX (eL 1) .names [(bz (eC "thing") (eK (.int 0))),(bz (eC "thing") (eK (.int 1)))] []
abbrev sD:DE:=(bz (eList [(bX (eC "asks") .append [(bz (eC "thing") (eK (.int 2)))] []),(aX (eK (.bi "sum")) [(d9 (eG [(".0",.local),("reader",.local),("thing",.free)]) az (iA (eC "readers")) (pL 1) [] zh)] [])]) (eK (.int 1)))
structure eN where
 cA:ak
 A:ak
 cR:ak
 R:ak
 lm:ak
 qs:ah eW
deriving Inhabited
structure eN.Ok (x:eN):Prop where
 sep:x.qs.Pairwise λp q=>p.g≠q.g
 ar:x.A≠x.R
 ad:∀q∈x.qs,x.A≠q.dd
structure Good (x:eN)(rs:ah Rd)(ns:ah aS)(as:ah AV)(st:St):Prop where
 cA:st[x.cA]? =ae (.cell (ae (.ref x.A)))
 A:st[x.A]? =ae (.list as)
 cR:st[x.cR]? =ae (.cell (ae (.ref x.R)))
 R:st[x.R]? =ae (.list (x.qs.map λq=>.ref q.a))
 lm:∃a e sc,mM=ae (a,e,sc)/\st[x.lm]? =ae (.lam a e sc [(sO "readers",x.cR),(sO "asks",x.cA)])
 jQ:bG st x.qs rs ns
abbrev eY (x:eN)(i:ak):Prop:=i=x.cA\/i=x.A\/i=x.cR\/i=x.R\/i=x.lm\/∃q∈x.qs,i=q.a\/i=q.d\/i=q.dd\/i=q.g
@[reducible] abbrev Thing:=AV×AV×Int
abbrev tA (t:Thing):AV:=.dB t.1 t.2.1 (.int t.2.2)
abbrev iE (t:Thing):Prop:=f3 t.1/\eg t.2.1
abbrev gn (ts:ah Thing):ah AV:=ts.map λt=>.int t.2.2
abbrev bM (rs:ah Rd):ah aS->ah Thing->ah Int×ah aS
 |ns,[]=>([],ns)
 |ns,t :: ts=>match b7 rs ns t.2.1 t.1 with
  |(ag,lS)=>([],lS)
  |(ae i,lS)=>(i :: (bM rs lS ts).1,(bM rs lS ts).2)
abbrev KJ (x:eN)(rs:ah Rd)(dI:ah aS)(gB:ah AV)(ts:ah Thing)(b0 j:ak)(st:St):Prop:=
 ∃lS,Good x rs lS (gB++gn (ts.take j)) st/\bM rs lS (ts.drop j)=((bM rs dI ts).1.drop j,(bM rs dI ts).2)/\(∀n∈lS,n.length<=b0+j)/\j<=(bM rs dI ts).1.length
abbrev EK (x:eN)(rs:ah Rd)(dI:ah aS)(gB:ah AV)(ts:ah Thing)(st:St):Prop:=Good x rs (bM rs dI ts).2 (gB++gn (ts.take ((bM rs dI ts).1.length+1))) st
@[reducible] abbrev Ex (st bh:St):Prop:=Fr (λu=>dm) st bh
structure vQ (s c:au)(n:ak)(L:ah au):Prop where
 len:(aU s c).length<=n
 short:s.length<=16
 ok:cY s=aj
 join:∀k,k<=n->pB c ((aU s c).take k)=aj
 EM:∀x∈L,cY x=aj
 parts:(mZ s (l4 s c 0 s.length (s.length+1)) c.length).length<=4096
abbrev nA (n:aS):ah AV:=n.map λq=>.pair q.1 q.2
abbrev dO (st:St):ah ak->ah aS->Prop
 | [],[]=>eM
 |i :: is,n :: ns=>st[i]? =ae (.list (nA n))/\dO st is ns
 |_,_=>dm
abbrev fc (st:St):ah (ak×ak)->ah Rd->Prop
 | [],[]=>eM
 |q :: qs,r :: rs=>(st[q.1]? =ae (.list (r.1.map .str))/\st[q.2]? =ae (.list (r.2.map .str)))/\fc st qs rs
 |_,_=>dm
abbrev g9 (n:aS):Prop:=∀q∈n,eg q.1/\f3 q.2
abbrev pM (q:ak×ak):AV:=.pair (.ref q.1) (.ref q.2)
abbrev sE (row NP LP rp:ak)(loc:ah (ax AV)):Prop:=∃x4 x5 x6 x7 x8 x9 fT bS pe zi,loc=[ae (.ref row),ae (.ref NP),ae (.ref LP),ae (.ref rp),x4,x5,x6,x7,x8,x9,fT,bS,pe,zi]
abbrev fA (b:aB)(T:ah Tr)(t:Tr):ak:=T.countP λu=>bf b u t
abbrev lT (b:aB)(T:ah Tr)(k:ak):ah AV:=(T.filter λt=>decide (fA b T t=k)).map (·.2.2)
abbrev sF (row fp:ak)(z:Int)(loc:ah (ax AV)):Prop:=∃x5 x6 x7 x8 x9 fT bS pe,loc=[ae (.ref row),ag,ae (.int z),ag,ae (.ref fp),x5,x6,x7,x8,x9,fT,bS,pe]
abbrev qB (row fp:ak)(z w:Int)(loc:ah (ax AV)):Prop:=∃x6 x7 x8 x9 fT bS pe,loc=[ae (.ref row),ag,ae (.int z),ag,ae (.ref fp),ae (.int w),x6,x7,x8,x9,fT,bS,pe]
abbrev dx (nc:ah au)(c:au):ah au:=if c.length == 0 || c == sO "." then nc else if !(c == sO "..") || (!nc.isEmpty && nc.getLast? == ae (sO ".."))then nc++[c]else nc.dropLast
abbrev bT (s:au):au:=lg s (ae 1) ag
abbrev iF (s:au):au:=sO "/"++jv (sO "/") ((aU (bT s) (sO "/")).foldl dx [])
abbrev lU:ah au:=[sO "/l",sO "/l/a",sO "/w",sO "/l/../w//"]
abbrev EN (s:au):aB:=decide (0 < s.length) && decide (s.length<=100) && (lg s ag (ae 1) == sO "/") && cY (lg s (ae 1) (ae 2)) && !(lg s (ae 1) (ae 2) == sO "/")
 && decide ((bT s).length<=100) && decide ((aU (bT s) (sO "/")).length<=10) && (aU (bT s) (sO "/")).all (λc=>cY c && decide (c.length<=100))
 && decide ((mZ (bT s) (l4 (bT s) (sO "/") 0 (bT s).length ((bT s).length+1)) (sO "/").length).length<=4096)
 && pB (sO "/") ((aU (bT s) (sO "/")).foldl dx []) && decide ((jv (sO "/") ((aU (bT s) (sO "/")).foldl dx [])).length<=100)
structure NF (s:au):Prop where
 pos:0 < s.length
 len:s.length<=100
 s1:lg s ag (ae 1)=sO "/"
 QI:cY (lg s (ae 1) (ae 2))=aj
 s2:(lg s (ae 1) (ae 2) == sO "/")=az
 EO:(bT s).length<=100
 QJ:(aU (bT s) (sO "/")).length<=10
 QK:∀c∈aU (bT s) (sO "/"),cY c=aj/\c.length<=100
 parts:(mZ (bT s) (l4 (bT s) (sO "/") 0 (bT s).length ((bT s).length+1)) (sO "/").length).length<=4096
 join:pB (sO "/") ((aU (bT s) (sO "/")).foldl dx [])=aj
 QM:(jv (sO "/") ((aU (bT s) (sO "/")).foldl dx [])).length<=100
abbrev bj (st:St):Prop:=st.all (λo=>!jh o)=aj
abbrev sG (ni:ak)(loc:ah (ax AV)):Prop:=∃x0 x4 x6 x8 x9,loc=[x0,ae (vS "/"),ae (vS "."),ae (vS ".."),x4,ae (vS "/"),x6,ae (.ref ni),x8,x9]
abbrev D0:ah ((au ⊕ Int)×AV):=[(.inl (sO "<string>"),.int 1)]
abbrev jR (r:Rd)(n:aS)(m:AV):ah Int×ah aS:=bM [r] [n] [(.none,m,0)]
abbrev dc:ah (au×ak):=[(sO "readers",4),(sO "asks",3),(sO "wish",2),(sO "k",1),(sO "total",0)]
abbrev zj:ah (ax AV):=[ag,ag,ag,ag,ag,ag,ag,ag,ag,ag,ag,ag,ag,ag,ag,ag,ag,ag,ag,ag,ag,ag,ag,ag,ag,ag,ag,ag,ag,ag,ag,ag,ag,ag,ag,ag,ag,ag,ag,ag,ag,ag]
abbrev zk (L:ah au):ak->ah (ah au)
 | 0=>[[]]
 |j+1=>zk L j++(zk L j).map (· ++L[j]?.toList)
structure zl (st:St)(n1 LP:ak)(a9:ah (ak×ak))(rs:ah Rd)(nums:ah Int):Prop where
 c1:∃v,st[1]? =ae (.cell v)
 c2:st[2]? =ae (.cell ag)
 c3:st[3]? =ae (.cell ag)
 c4:st[4]? =ae (.cell ag)
 num:st[n1]? =ae (.list (nums.map .int))
 nl:1<=nums.length/\nums.length<=16
 lp:st[LP]? =ae (.list (a9.map pM))
 at_:fc st a9 rs
 ok:∀r∈rs,fy r
 low:∀q∈a9,LP < q.1/\LP < q.2
 fO:5<=LP/\5<=n1
 EP:n1 < LP
 ER:bj st
abbrev Behind (b:ak)(q:eW):Prop:=b<=q.a/\b<=q.d/\b<=q.dd/\b<=q.g
structure ES (bA:ak)(st:St)(x:eN)(n1 LP:ak)(a9:ah (ak×ak))(rs:ah Rd)(nums:ah Int):Prop where
 good:Good x rs (rs.map λ_=>[]) [] st
 vR:x.Ok
 foot:∀i,eY x i->i=3\/i=4\/(bA<=i/\i < st.length)
 q3:x.qs.length=3
 c1:∃v,st[1]? =ae (.cell v)
 c2:st[2]? =ae (.cell ag)
 num:st[n1]? =ae (.list (nums.map .int))
 nl:1<=nums.length/\nums.length<=16
 lp:st[LP]? =ae (.list (a9.map pM))
 at_:fc st a9 rs
 ok:∀r∈rs,fy r
 low:∀q∈a9,5<=q.1/\5<=q.2/\q.1 < bA/\q.2 < bA
 fO:5<=LP/\5<=n1/\LP < bA/\n1 < bA
 bl:bA<=st.length
 cc:x.cA=3/\x.cR=4
abbrev hU (st:St):ah ak->ah (ah Thing)->Prop
 | [],[]=>eM
 |i :: is,n :: ns=>st[i]? =ae (.list (n.map tA))/\hU st is ns
 |_,_=>dm
abbrev total (bR:ah (ah Thing)):ak:=(bR.map List.length).sum
structure LawC (b0:ak)(st:St)(RW OD:ak)(fP:ah ak)(bR:ah (ah Thing))(kY:ah Int)(j:ak):Prop where
 js:st[RW]? =ae (.list (fP.map .ref))
 od:st[OD]? =ae (.list (kY.map .int))
 at_:hU st fP bR
 len:fP.length=kY.length
 ok:∀ts∈bR,ts≠[]/\∀t∈ts,iE t
 iG:total bR=j
 nd:fP.Nodup
 low:∀i∈fP,b0<=i/\OD < i
 qC:b0<=RW/\RW < OD
structure QN (b0:ak)(st:St)(RW OD:ak)(ip:ah ak)(lp:ak)(it:ah (ah Thing))(lt:ah Thing)(kY:ah Int)(j:ak):Prop where
 js:st[RW]? =ae (.list ((ip++[lp]).map .ref))
 od:st[OD]? =ae (.list (kY.map .int))
 at_:hU st ip it
 last:st[lp]? =ae (.list (lt.map tA))
 len:ip.length+1=kY.length
 ok:∀ts∈it,ts≠[]/\∀t∈ts,iE t
 QO:∀t∈lt,iE t
 iG:total it+lt.length=j
 nd:(ip++[lp]).Nodup
 low:∀i∈ip++[lp],b0<=i/\OD < i
 qC:b0<=RW/\RW < OD
abbrev cB (rs:ah Rd)(ns:ah aS)(ts:ah Thing)(z:Int):ah Int×ah aS:=if 0 < z then bM rs ns ts else ([],ns)
abbrev fe (rs:ah Rd)(ns:ah aS)(ts:ah Thing)(z:Int):ah AV:=if 0 < z then gn (ts.take ((cB rs ns ts z).1.length+1))else []
abbrev jS (rs:ah Rd)(ns:ah aS)(ts:ah Thing)(z:Int)(w:aB):ah AV:=if w=aj/\0 < z then (ts.map tA).drop ((cB rs ns ts z).1.length+1)else ts.map tA
abbrev nS (b:aB)(rs:ah Rd)(ns:ah aS)(ts:ah Thing)(z:Int):ah AV:=(fx b z.toNat ((cB rs ns ts z).1.zip (ts.map tA))).map (·.2)
structure zm (x:eN)(rs:ah Rd)(ns:ah aS)(as:ah AV)(ts:ah Thing)(b:aB)(z:Int)(w:aB)(gi s:ak)(st:St)(v:AV)(bh:St):Prop where
 good:Good x rs (cB rs ns ts z).2 (as++fe rs ns ts z) bh
 fr:Fr (DG (eY x) w gi) st bh
 left:∃m,jq w bh gi s m (ts.map tA)/\(w=aj->(ts.map tA).drop m=jS rs ns ts z w)/\(w=aj->qx bh gi s m (ts.map tA)->m<=ts.length)
 val:(0 < z/\(cB rs ns ts z).1.length < ts.length/\v= .none)\/(¬ (0 < z/\(cB rs ns ts z).1.length < ts.length)/\∃r,v= .ref r/\st.length<=r/\bh[r]? =ae (.list (nS b rs ns ts z)))
abbrev iX (o:Int):aB:=(o.fdiv 12).fmod 2 == 1
abbrev nU (rs:ah Rd)(ns:ah aS)(ts:ah Thing)(z:Int):aB:=decide (0 < z) && decide ((cB rs ns ts z).1.length < ts.length)
abbrev Flat (l:ah AV):Prop:=∀v∈l,∃d,(∀n st,a8 (n+1) st v=ae d)/\bY d d=aj
abbrev k5 (Z:ak->Prop)(st:St)(v w:AV):Prop:=∃l i j,Flat l/\v= .ref i/\w= .ref j/\Z i/\Z j/\st[i]? =ae (.list l)/\st[j]? =ae (.list l)
abbrev Item (Z:ak->Prop)(st:St)(v w:AV):Prop:=k5 Z st v w\/∃a a' c c',v= .pair a c/\w= .pair a' c'/\k5 Z st c c'/\((a= .none/\a'= .none)\/k5 Z st a a')
abbrev k6 (Z:ak->Prop)(st:St):ah AV->ah AV->Prop
 | [],[]=>eM
 |v :: vs,w :: ws=>Item Z st v w/\k6 Z st vs ws
 |_,_=>dm
structure Ad where
 x:eN
 bA:ak
 bB:ak
 bD:ak
 bE:ak
 LP:ak
 RW:ak
 OD:ak
 NP:ak
 TD:ak
 DU:ak
 ON:ak
 a9:ah (ak×ak)
 fP:ah ak
 cQ:ah ak
 rs:ah Rd
 bR:ah (ah Thing)
 kY:ah Int
deriving Inhabited
structure Ad.Ok (a:Ad):Prop where
 vR:a.x.Ok
 foot:∀i,eY a.x i->i=3\/i=4\/(a.bA<=i/\i < a.bB)
 a9:∀q∈a.a9,5<=q.1/\q.1 < a.bA/\5<=q.2/\q.2 < a.bA
 lp:5<=a.LP/\a.LP < a.bA
 rows:a.bB<=a.RW/\a.RW < a.bD/\a.bB<=a.OD/\a.OD < a.bD
 fP:∀i∈a.fP,a.bB<=i/\i < a.bD
 cQ:∀i∈a.cQ,a.bD<=i/\i < a.NP
 ord:a.bD<=a.NP/\a.NP < a.TD/\a.TD < a.DU/\a.DU < a.ON/\a.ON < a.bE
 bs:5<=a.bA/\a.bA<=a.bB/\a.bB<=a.bD
 nd:a.cQ.Nodup
 ml:a.a9.length=3
 nl:a.cQ.length=3
 q3:a.x.qs.length=3
 zo:∀r∈a.rs,fy r
 tok:∀ts∈a.bR,ts≠[]/\∀t∈ts,iE t
 iG:total a.bR<=16
 EO:a.fP.length=a.kY.length
 cc:a.x.cA=3/\a.x.cR=4
abbrev Ad.iu (a:Ad)(i:ak):Prop:=i < 5\/(a.bA<=i/\i < a.bB)\/i∈a.cQ\/i=a.TD\/i=a.DU\/i=a.ON
abbrev Ad.Fz (a:Ad)(i:ak):Prop:=¬ a.iu i
structure LS (a:Ad)(st:St):Prop where
 lp:st[a.LP]? =ae (.list (a.a9.map pM))
 at_:fc st a.a9 a.rs
 js:st[a.RW]? =ae (.list (a.fP.map .ref))
 od:st[a.OD]? =ae (.list (a.kY.map .int))
 rows:hU st a.fP a.bR
 np:st[a.NP]? =ae (.list (a.cQ.map .ref))
 long:a.bE<=st.length
structure LM (a:Ad)(st:St)(ns:ah aS)(as sH sI:ah AV)(b:ak):Prop where
 s:LS a st
 good:Good a.x a.rs ns as st
 pf:dO st a.cQ ns
 td:st[a.TD]? =ae (.list sH)
 du:st[a.DU]? =ae (.list sI)
 on:st[a.ON]? =ae (.list as)
 items:k6 a.Fz st sH sI
 c1:∃v,st[1]? =ae (.cell v)
 c2:∃v,st[2]? =ae (.cell v)
 nb:∀n∈ns,n.length<=b/\g9 n
 al:as.length<=b
 af:Flat as
abbrev Ad.at (a:Ad)(i:ak):ak:=[5,a.bA,a.bB,a.bD,a.NP,a.TD,a.DU,a.ON].getD i a.bE
structure QP (a:Ad)(df st:St)(ns:ah aS)(as sH sI:ah AV)(rp:ak)(ts:ah Thing)(b:aB)(z:Int)(w:aB)(gi s:ak)(v:AV):Prop where
 ls:LS a st
 good:Good a.x a.rs (cB a.rs ns ts z).2 (as++fe a.rs ns ts z) st
 pf:dO st a.cQ ns
 td:st[a.TD]? =ae (.list sH)
 du:st[a.DU]? =ae (.list sI)
 on:st[a.ON]? =ae (.list as)
 items:k6 a.Fz df sH sI
 c1:∃v,st[1]? =ae (.cell v)
 c2:st[2]? =ae (.cell (ae (.int z)))
 hV:a.bE<=gi/\df.length<=gi
 left:∃m,jq w st gi s m (ts.map tA)/\(w=aj->(ts.map tA).drop m=jS a.rs ns ts z w)/\(w=aj->qx st gi s m (ts.map tA)->m<=ts.length)
 val:(0 < z/\(cB a.rs ns ts z).1.length < ts.length/\v= .none)\/(¬ (0 < z/\(cB a.rs ns ts z).1.length < ts.length)/\∃r,v= .ref r/\a.bE<=r/\r≠gi/\st[r]? =ae (.list (nS b a.rs ns ts z)))
 fr:Fr a.iu df st
 row:st[rp]? =ae (.list (ts.map tA))
 QR:rp∈a.fP
abbrev jT (o:Int):Int:=o.fmod 6 - 1
abbrev sJ (x0 x1 x5 x6 x7 bS pe zi:ax AV)(a:Ad)(loc:ah (ax AV)):Prop:=∃zp zq ig ij ik ib ic ie,loc=[x0,x1,ag,ae (.ref a.LP),ag,x5,x6,x7,ae (.ref a.x.lm),ae (.ref a.RW),ae (.ref a.OD),bS,pe,zi,ae (.ref a.NP),ae (.ref a.TD),ae (.ref a.DU),ae (.ref a.ON),zp,zq,ag,ig,ij,ik,ib,ic,ie,ag,ag,ag,ag,ag,ag,ag,ag,ag,ag,ag,ag,ag,ag,ag,ag]
variable {B H df:St}{E:aI->St->Prop}{F:Or}{I:ah (ax AV)}{b w:aB}{k i n s j U d A h b0 row dd LP k0 di rp ri mi NP:ak}{Q:RT}{O cs:ah (au×ak)}{v a m T p:AV}{M:ah Rd}{K l as args W u vs gB:ah AV}{D Z:ak->Prop}{QB:aB->St->Prop}{z:Int}{R:ah Thing}{x y:Tr}{r:Rd}{x6 x0 x5 x7 x1 bS f Y x3 x8 x9 ib ic ie x4 fT ig ij ik:ax AV}{V:ah Int}{e elt:DE}{S L:ah Tr}{o:AO}{J:ak->St->Prop}{G:St->Prop}{body:DS}{ifs:ah DT}{N QL:ah (ax AV)->St->Prop}{bR:ah (ah Thing)}{mm:kh}{kw:ah (au×AV)}{X:ah eW}{dI:ah aS}{a9:ah (ak×ak)}{ks:ah (au×DE)}{ys:ah (Int×AV)}
def QS:eH "heapreplace"=ae (sq Ek):=by kernel_rfl
def QT:eH "heapify"=ae (sq El):=by kernel_rfl
def QU:eH "_heapreplace_max"=ae (sq Em):=by kernel_rfl
def QV:eH "_heapify_max"=ae (sq Eo):=by kernel_rfl
def QW:eH "_siftdown"=ae (sq Ep):=by kernel_rfl
def QX:eH "_siftup"=ae (sq Er):=by kernel_rfl
def QY:eH "_siftdown_max"=ae (sq Es):=by kernel_rfl
def QZ:eH "_siftup_max"=ae (sq Et):=by kernel_rfl
def Q2:eH "nsmallest"=ae (sq yT):=by kernel_rfl
def Q3:eH "nlargest"=ae (sq yU):=by kernel_rfl
def Q4:eH "_kind"=ae (sq yV):=by kernel_rfl
def Q5:eH "_c_path"=ae (sq yW):=by kernel_rfl
def Q6:eH "_splitroot"=ae (sq yX):=by kernel_rfl
def Q7:eH "_normpath"=ae (sq yZ):=by kernel_rfl
def Q8:eH "normpath"=ae (sq su):=by kernel_rfl
def Q9:eH "_Ignore.__init__"=ae (sq vG):=by kernel_rfl
def Ra:eH "_Ignore.names"=ae (sq y3):=by kernel_rfl
def Rb:eH "_law_to_be_left_out"=ae (sq y4):=by kernel_rfl
def Rc:eH "_law_ranks"=ae (sq za):=by kernel_rfl
def Rf:eH "_law_few"=ae (sq zb):=by kernel_rfl
def Rg:eH "_law_says"=ae (sq zc):=by kernel_rfl
def Rh:eH "law"=ae (sq vN):=by kernel_rfl
def WP.mono {E':aI->St->Prop}{β:Type}{m:P β}{a0 Q':β->St->Prop}(h:WP m B a0 E)(hq:∀b H,a0 b H->Q' b H)(he:∀k H,E k H->E' k H):WP m B Q' E':=
 P.mono m (λr H x=>by cases r with
  |ok b=>exact hq _ _ x
  |err k=>exact he _ _ x) h
def WP.a5 {β:Type}{m:P β}{a0 Q':β->St->Prop}(h:WP m B a0 E)(hq:∀b H,a0 b H->Q' b H):WP m B Q' E:=h.mono hq λu u x=>x
def av {β γ:Type}{m:P β}{c0:β->P γ}{a0:γ->St->Prop}(h:WP m B (λb H=>WP (c0 b) H a0 E) E):WP (m>>=c0) B a0 E:=
 P.mono m (λr H x=>by cases r <;>exact x) h
def aQ {β:Type}{a0:β->St->Prop}{b:β}(h:a0 b B):WP (P.pure b) B a0 E:=h
def sL {β:Type}{a0:β->St->Prop}{b:β}(h:a0 b B):WP (te b) B a0 E:=h
def ET {k:aI}{β:Type}{a0:β->St->Prop}(h:E k B):WP (P.err k:P β) B a0 E:=h
def bw {a0:b8->St->Prop}{c:Prop}[wq c](h:c)(k:a0 () B):WP (P.guard c) B a0 E:=by
 unfold P.guard;rw[aN h];exact k
def dU {β:Type}{a0:β->St->Prop}{o:ax β}{b:β}(e:o=ae b)(h:a0 b B):WP (P.opt o) B a0 E:=by rw[e];exact h
def dj {a0:AO->St->Prop}(e:B[i]? =ae o)(h:a0 o B):WP (P.load i) B a0 E:=by
 unfold WP;rw[P.run_load e];exact h
def eI {a0:ak->St->Prop}(h:a0 B.length (B++[o])):WP (P.alloc o) B a0 E:=h
def k7 {a0:b8->St->Prop}(h:a0 () (B.set i o)):WP (P.store i o) B a0 E:=h
def w_get {a0:St->St->Prop}(h:a0 B B):WP P.get B a0 E:=h
def Ri {α:Type}{l:ah α}{a0:ah α->St->Prop}(h:∀l',l'.Perm l->a0 l' B):WP (P.perm l) B a0 E:=h
def Rj {β γ:Type}{m:P β}{c0:β->P γ}{a0:γ->St->Prop}{g:aI->P γ}(h:WP m B (λb H=>WP (c0 b) H a0 E) (λk H=>WP (g k) H a0 E)):WP (P.uC m c0 g) B a0 E:=
 P.mono m (λr H x=>by cases r <;>exact x) h
def fB {a0:ah AV->St->Prop}(e:B[i]? =ae (.list l))(h:a0 l B):WP (lst i) B a0 E:=by
 unfold lst;exact av (dj e (aQ h))
def bp {a0:AV->St->Prop}(hl:l.length<=4096)(h:a0 (.ref B.length) (B++[.list l])):WP (cz l) B a0 E:=by
 unfold cz;exact av (bw hl (av (eI (aQ h))))
def w_ite {β:Type}{a0:β->St->Prop}{c:Prop}[wq c]{a b:P β}(h1:c->WP a B a0 E)(h2: ¬ c->WP b B a0 E):WP (if c then a else b) B a0 E:=by
 by_cases D:c
 ·rw[aN D];exact h1 D
 ·rw[aK D];exact h2 D
def mT {c:aB}{β:Type}{a0:β->St->Prop}{a b:P β}(h1:c=aj->WP a B a0 E)(h2:c=az->WP b B a0 E):WP (if c then a else b) B a0 E:=by
 cases c with
 |true=>exact h1 rfl
 |false=>exact h2 rfl
def EU {a0:AV->St->Prop}(e:Q.loc[i]? =ae (ae v))(h:a0 v B):WP (eL i Q) B a0 E:=by
 refine dU (b:=v) ?_ h;show Option.join (Q.loc[i]?)=ae v;rw[e];rfl
def EV {a0:AV->St->Prop}{x:aI}{c:ak}(e:Q.cel.lookup (aq x)=ae c)(e2:B[c]? =ae (.cell (ae v)))(h:a0 v B):WP (eC x Q) B a0 E:=
 av (dU e (av (dj e2 (aQ h))))
def w_K {a0:AV->St->Prop}(h:a0 v B):WP (eK v Q) B a0 E:=h
def w_Bin {a0:AV->St->Prop}{a b:DE}{op:jU}(h:WP (a Q) B (kE b Q (k2 (gc op) a0 E) E) E):WP (aY op a b Q) B a0 E:=av (h.a5 λu u h=>av h)
def w_Not {a0:AV->St->Prop}{a:DE}(h:WP (a Q) B (k1 eD (kM (λb=>.bool !b) a0) E) E):WP (Qt a Q) B a0 E:=av (h.a5 λu u h=>av (h.a5 λu u h=>aQ h))
def w_Neg {a0:AV->St->Prop}{a:DE}(h:WP (a Q) B (k1 dF (kM (λi=>.int (-i)) a0) E) E):WP (iT a Q) B a0 E:=av (h.a5 λu u h=>av (h.a5 λu u h=>aQ h))
def w_strict {i:Int}{a0:Int->St->Prop}(h:a0 i B):WP (dF (.int i)) B a0 E:=h
def w_And {a0:AV->St->Prop}{a b:DE}(h:WP (a Q) B (kA (b Q) a0 E) E):WP (vD a b Q) B a0 E:=
 av (h.a5 λu u h=>av (h.a5 λu u h=>mT h.1 λe=>aQ (h.2 e)))
def w_Or {a0:AV->St->Prop}{a b:DE}(h:WP (a Q) B (kO (b Q) a0 E) E):WP (Eg a b Q) B a0 E:=
 av (h.a5 λu u h=>av (h.a5 λu u h=>mT (λe=>aQ (h.1 e)) h.2))
def w_If {a0:AV->St->Prop}{a b:DE}{t:DT}(h:WP (t Q) B (zf (a Q) (b Q) a0 E) E):WP (gH t a b Q) B a0 E:=
 av (h.a5 λu u h=>mT h.1 h.2)
def w_Cmp {a0:AV->St->Prop}{a b:DE}{op:pz}(h:WP (a Q) B (kE b Q (k2 (dQ op) (kM AV.bool a0) E) E) E):WP (lQ op a b Q) B a0 E:=
 av (bw rfl (av (h.a5 λu u h=>av (h.a5 λu u h=>av (h.a5 λu u h=>aQ h)))))
def w_evs_nil {a0:ah AV->St->Prop}(h:a0 [] B):WP (dG [] Q) B a0 E:=h
def w_evs_cons {a:DE}{l:ah DE}{a0:ah AV->St->Prop}(h:WP (a Q) B (kE (dG l) Q (Qw List.cons a0) E) E):WP (dG (a :: l) Q) B a0 E:=
 av (h.a5 λu u h=>av (h.a5 λu u h=>sL h))
def w_kws_nil {a0:ah (au×AV)->St->Prop}(h:a0 [] B):WP (fU [] Q) B a0 E:=h
def w_kws_cons {a:DE}{n:au}{l:ah (au×DE)}{a0:ah (au×AV)->St->Prop}(h:WP (a Q) B (kE (fU l) Q (kK n a0) E) E):WP (fU ((n,a) :: l) Q) B a0 E:=
 av (h.a5 λu u h=>av (h.a5 λu u h=>sL h))
def w_List {a0:AV->St->Prop}{l:ah DE}(h:WP (dG l Q) B (k1 cz a0 E) E):WP (eList l Q) B a0 E:=av h
def w_Tup {a0:AV->St->Prop}{l:ah DE}(h:WP (dG l Q) B (k1 oL a0 E) E):WP (gI l Q) B a0 E:=av h
def w_Attr {a0:AV->St->Prop}{o:DE}{x:aI}(h:WP (o Q) B (k1 (λv=>mx v (aq x)) a0 E) E):WP (iB o x Q) B a0 E:=av h
def w_optE_none {a0:ax AV->St->Prop}(h:a0 ag B):WP (kr ag Q) B a0 E:=h
def w_optE_some {a:DE}{a0:ax AV->St->Prop}(h:WP (a Q) B (kM ae a0) E):WP (kr (ae a) Q) B a0 E:=av (h.a5 λu u h=>sL h)
def w_Slice {a0:AV->St->Prop}{o:DE}{lo hi:ax DE}(h:WP (o Q) B (kE (kr lo) Q (Eu (kr hi) Q (k3 kl a0 E) E) E) E):WP (fu o lo hi Q) B a0 E:=
 av (h.a5 λu u h=>av (h.a5 λu u h=>av h))
def w_Idx {a0:AV->St->Prop}{a o:DE}(h:WP (o Q) B (kE a Q (k2 ir a0 E) E) E):WP (bz o a Q) B a0 E:=av (h.a5 λu u h=>av h)
def w_Call {a0:AV->St->Prop}{a:DE}{l:ah DE}(h:WP (a Q) B (kE (dG l) Q (Eu (fU ks) Q (k3 (et Q) a0 E) E) E) E):WP (aX a l ks Q) B a0 E:=
 av (bw rfl (av (h.a5 λu u h=>av (h.a5 λu u h=>av h))))
def EW {B:St}{a0:AV->St->Prop}{o:DE}{l:ah DE}(hk:l.length+ks.length < 28)(h:WP (o Q) B (λov B=>(isInt ov=aj/\mm= .startswith->E "AttributeError" B)/\(¬ (isInt ov=aj/\mm= .startswith)->WP (lG ov mm) B (λg B=>WP (dG l Q) B (λvs B=>WP (fU ks Q) B (λkv B=>WP (e8 Q.F ov mm vs kv) B a0 E) E) E) E)) E):WP (bX o mm l ks Q) B a0 E:=
 av (bw ⟨rfl,rfl,hk⟩ (av (dU rfl (av (h.a5 λu u h=>w_ite (λc=>ET (h.1 c)) λc=>av ((h.2 c).a5 λu u h=>av (h.a5 λu u h=>av h)))))))
def w_tNot {a0:aB->St->Prop}{a:DT}(h:WP (a Q) B (kM Bool.not a0) E):WP (gm a Q) B a0 E:=av h
def w_tAnd {a0:aB->St->Prop}{a b:DT}(h:WP (a Q) B (Ew (b Q) (a0 az) a0 E) E):WP (jN a b Q) B a0 E:=av (h.a5 λu u h=>mT h.1 λe=>aQ (h.2 e))
def w_tOr {a0:aB->St->Prop}{a b:DT}(h:WP (a Q) B (vO (b Q) (a0 aj) a0 E) E):WP (nR a b Q) B a0 E:=av (h.a5 λu u h=>mT (λe=>aQ (h.1 e)) h.2)
def w_tCmp {a0:aB->St->Prop}{e':DE}{op:pz}(h:WP (e Q) B (kE e' Q (k2 (dQ op) a0 E) E) E):WP (aR op e e' Q) B a0 E:=
 av (bw rfl (av (h.a5 λu u h=>av h)))
def w_tIf {a0:aB->St->Prop}{a b t:DT}(h:WP (t Q) B (zf (a Q) (b Q) a0 E) E):WP (yM t a b Q) B a0 E:=av (h.a5 λu u h=>mT h.1 h.2)
def w_tV {a0:aB->St->Prop}(h:WP (e Q) B (k1 eD a0 E) E):WP (tV e Q) B a0 E:=av h
def nV {a0:ah (ax AV)->St->Prop}{x:aI}{c:ak}{v':ax AV}(e:Q.cel.lookup (aq x)=ae c)(e2:B[c]? =ae (.cell v'))(h:a0 Q.loc (B.set c (.cell (ae v)))):WP (pC x v Q) B a0 E:=
 av (dU e (av (dj e2 (av (k7 (aQ h))))))
def Rk {a0:ah (ax AV)->St->Prop}{o:DE}{x:aI}(h:WP (o Q) B (EA x v Q.loc a0 E) E):WP (so o x v Q) B a0 E:=av (h.a5 λu u h=>av (h.a5 λu u h=>aQ h))
def Rl {a0:ah (ax AV)->St->Prop}{o:DE}(h:WP (o Q) B (kE e Q (EB v Q.loc a0 E) E) E):WP (dM o e v Q) B a0 E:=
 av (h.a5 λu u h=>av (h.a5 λu u h=>av (h.a5 λu u h=>aQ h)))
def vT {a0:ah (ax AV)->St->Prop}{l:ah DA}(e:gb v=ae vs)(hl:vs.length=l.length)(h:WP (jg l vs Q) B a0 E):WP (cx l v Q) B a0 E:=av (dU e (av (bw ⟨hl,rfl⟩ h)))
def Rm {a0:ah (ax AV)->St->Prop}{a:DA}{as:ah DA}(h:WP (a v Q) B (kL (jg as vs) Q.F Q.cel a0 E) E):WP (jg (a :: as) (v :: vs) Q) B a0 E:=av h
def Rn {B:St}{a0:FL×ah (ax AV)->St->Prop}{s:DS}{l:ah DS}(h:WP (s Q) B (λy B=>match y with |(.next,Ro)=>WP (sq l { Q with loc:=Ro }) B a0 E |y=>a0 y B) E):WP (sq (s :: l) Q) B a0 E:=
 av (h.a5 λy B h=>by
  obtain⟨f,I⟩:=y;cases f <;>exact h)
def Rp {a0:FL×ah (ax AV)->St->Prop}(h:WP (e Q) B (kR Q.loc a0) E):WP (bL e Q) B a0 E:=av h
def Rq {a0:FL×ah (ax AV)->St->Prop}(h:WP (e Q) B (kX Q.loc a0) E):WP (b9 e Q) B a0 E:=av (bw rfl (av h))
def w_Set {a0:FL×ah (ax AV)->St->Prop}{put:DA}(h:WP (e Q) B (Ez put Q a0 E) E):WP (aE put e Q) B a0 E:=av (bw ⟨rfl,rfl⟩ (av (h.a5 λu u h=>av h)))
def vU {a0:FL×ah (ax AV)->St->Prop}{x:DE}{put:DA}{op:jU}(ho:op= .Add\/op= .Sub)(h:WP (x Q) B (k1 dF (kE e Q (Qy op (Ez put Q a0 E) E) E) E) E):
  WP (o5 put x op e Q) B a0 E:=
 av (bw ho (av (h.a5 λu u h=>av (h.a5 λu u h=>av (h.a5 λu u h=>av (h.a5 λu u h=>av (h.a5 λu u h=>av h)))))))
def w_qIf {a0:FL×ah (ax AV)->St->Prop}{t:DT}{b o:ah DS}(h:WP (t Q) B (zf (sq b Q) (sq o Q) a0 E) E):WP (bJ t b o Q) B a0 E:=av (h.a5 λu u h=>mT h.1 h.2)
def Rr {a0:FL×ah (ax AV)->St->Prop}{put:DA}{c0:aI->aB}{hd:DS}{o:ah DS}(h:WP (e Q) B (ED put Q o Q.F Q.cel a0 E) (EE c0 (hd Q) a0 E)):WP (sr put e c0 hd o Q) B a0 E:=
 av (bw ⟨rfl,rfl,rfl⟩ (Rj (h.mono (λu u h=>av h) λk B h=>by
  show WP (if c0 k then hd Q else P.fail) B a0 E;rw[aN h.1];exact h.2)))
def Rt {B:St}{a0:FL×ah (ax AV)->St->Prop}{t:DT}(h:WP (t Q) B (λc B=>(c=aj->WP (body Q) B (Left (λI B=>WP (iL t body n { Q with loc:=I }) B a0 E) a0) E)/\(c=az->a0 (.next,Q.loc) B)) E):WP (iL t body (n+1) Q) B a0 E:=
 av (h.a5 λu u h=>mT (λe=>av ((h.1 e).a5 λy B h=>by
  obtain⟨f,I⟩:=y;cases f <;>exact h)) λe=>aQ (h.2 e))
def EX {a0:FL×ah (ax AV)->St->Prop}{t:DT}{b:ah DS}(h:WP (iL t (sq b) 64 Q) B a0 E):WP (o7 t b Q) B a0 E:=h
def zr {B:St}{a0:FL×ah (ax AV)->St->Prop}{put:DA}{U:AI}(h:WP (bx U) B (λo B=>match o with
  |none=>a0 (.next,Q.loc) B
  |some (v0,c0)=>WP (put v0 Q) B (λI B=>WP (body { Q with loc:=I }) B (Left (λI B=>WP (forA body put n c0 { Q with loc:=I }) B a0 E) a0) E) E) E):WP (forA body put (n+1) U Q) B a0 E:=
 av (h.a5 λo u h=>by
  cases o with
  |none=>exact h
  |some p=>
   obtain⟨v,c0⟩:=p;exact av (h.a5 λu u h=>av (h.a5 λy B h=>by
    obtain⟨f,I⟩:=y;cases f <;>exact h)))
def w_For {a0:FL×ah (ax AV)->St->Prop}{put:DA}{d0:aB}{c0:DI}{b:ah DS}(h:WP (c0 Q) B (Qz d0 b put Q a0 E) E):WP (fw d0 put c0 b Q) B a0 E:=
 av (bw rfl (av (h.a5 λu u h=>av (bw h.1 h.2))))
def Ru {c0:FL×ah (ax AV)->St->Prop}{put:DA}{a0:ak->ah (ax AV)->St->Prop}:
  ∀(n j:ak) (U:AI) (Q:RT) (B:St),Yl G U (K.drop j)->j<=K.length->K.length < n+j->(∀k I B,a0 k I B->G B)->a0 j Q.loc B->
  (∀k v I B,K[k]? =ae v->a0 k I B->WP (put v { Q with loc:=I }) B (λI B=>WP (body { Q with loc:=I }) B (Left (a0 (k+1)) c0) E) E)->
  (∀I B,a0 K.length I B->c0 (.next,I) B)->WP (forA body put n U Q) B c0 E:=by
 intro n;induction n with
 |zero=>
  intro j U Q B y H T J L M O
  lia
 |succ n R=>
  intro j U Q B y H T J L M O;refine zr ?_;cases N:K[j]? with
  |none=>
   have D:K.length<=j:=nk.mp N;rw[kf D]at y;refine y B (J _ _ _ L) _ _ ?_;have:j=K.length:=by exact AN (H) (D)
   subst this;exact O _ _ L
  |some v=>
   have D:j < K.length:=(cF.mp N).1;rw[ou D]at y;obtain⟨F,V,S⟩:=y;refine V B (J _ _ _ L) _ _ ?_;have W:K[j]=v:=(cF.mp N).2;rw[W];refine(M j v Q.loc B N L).a5 λI B h=>h.a5 λy B h=>?_;obtain⟨f,I⟩:=y;cases f with
   |next=>exact R (j+1) F _ B S (by exact D) (by lia) J h M O
   |cont=>exact R (j+1) F _ B S (by exact D) (by lia) J h M O
   |brk=>exact h
   |ret v=>exact h
def Rv {a0:aB->St->Prop}(h:mN Q a0 E ifs B):WP (ifs.foldlM (λb t=>if b then t Q else P.pure az) aj) B a0 E:=by
 match ifs,h with
 | [],h=>exact h
 | [t],h=>
  show WP (t Q>>=λb=>te b) B a0 E;exact av (WP.a5 h λu u h=>h)
def zt {B:St}{a0:ah AV->St->Prop}{put:DA}{U:AI}{c0:ah AV}(h:WP (bx U) B (λo B=>match o with
  |none=>a0 c0 B
  |some (v0,d0)=>WP (put v0 Q) B (λI B=>mN { Q with loc:=I } (λc B=>(c=aj->c0.length<=4096/\WP (elt { Q with loc:=I }) B (λx B=>WP (cw elt ifs put n d0 { Q with loc:=I } (c0++[x])) B a0 E) E)/\
    (c=az->WP (cw elt ifs put n d0 { Q with loc:=I } c0) B a0 E)) E ifs B) E) E):WP (cw elt ifs put (n+1) U Q c0) B a0 E:=
 av (h.a5 λo u h=>by
  cases o with
  |none=>exact h
  |some p=>
   obtain⟨v,d0⟩:=p;exact av (h.a5 λu u h=>av ((Rv h).a5 λc B h=>mT (λe=>av (bw (h.1 e).1 (av (h.1 e).2))) λe=>h.2 e)))
def zu {c0:ah AV->St->Prop}{put:DA}{a0:ak->ah AV->ah (ax AV)->St->Prop}:
  ∀(n j:ak) (U:AI) (Q:RT) (B:St) (acc:ah AV),Yl G U (K.drop j)->j<=K.length->K.length < n+j->(∀k acc I B,a0 k acc I B->G B)->a0 j acc Q.loc B->
  (∀k v acc I B,K[k]? =ae v->a0 k acc I B->WP (put v { Q with loc:=I }) B (λI B=>mN { Q with loc:=I } (λc B=>(c=aj->acc.length<=4096/\WP (elt { Q with loc:=I }) B (λx B=>a0 (k+1) (acc++[x]) I B) E)/\
   (c=az->a0 (k+1) acc I B)) E ifs B) E)->
  (∀acc I B,a0 K.length acc I B->c0 acc B)->WP (cw elt ifs put n U Q acc) B c0 E
 | 0,j,U,Q,B,acc,y,EY,hl,hG,h0,hs,he=>by
  lia
 |n+1,j,U,Q,B,acc,y,EY,hl,hG,h0,hs,he=>by
  refine zt ?_;cases J:K[j]? with
  |none=>
   have D:K.length<=j:=nk.mp J;rw[kf D]at y;refine y B (hG _ _ _ _ h0) _ _ ?_;have:j=K.length:=by exact AN (EY) (D)
   subst this;exact he _ _ _ h0
  |some v=>
   have D:j < K.length:=(cF.mp J).1;rw[ou D]at y;obtain⟨F,S,N⟩:=y;refine S B (hG _ _ _ _ h0) _ _ ?_;have T:K[j]=v:=(cF.mp J).2;rw[T];refine(hs j v acc Q.loc B J h0).a5 λI B h=>?_;have R:∀{L M:aB->St->Prop} (B:St),(∀c B,L c B->M c B)->mN { Q with loc:=I } L E ifs B->mN { Q with loc:=I } M E ifs B:=by
    intro L M B O H
    match ifs,H with
    | [],H=>exact O _ _ H
    | [t],H=>exact WP.a5 H O
   exact R B (λc B h=>⟨λe=>⟨(h.1 e).1,(h.1 e).2.a5 λx B h=>zu n (j+1) F _ B _ N (by exact D) (by lia) hG h hs he⟩,
    λe=>zu n (j+1) F _ B _ N (by exact D) (by lia) hG (h.2 e) hs he⟩) h
def Yl.range {d:Int}:∀{n:ak} {c:Int},Yl G (.range c n d) (mP d n c):=by
 intro n;induction n with
 |zero=>
  intro _;exact λu u u u h=>h
 |succ r B=>
  intro _;exact⟨_,λu u u u h=>h,B⟩
def Yl.set:∀{l:ah au},Yl G (.set l) (l.map .str):=by
 intro l;induction l with
 |nil=>
  exact λu u u u h=>h
 |cons _ r B=>
  exact⟨_,λu u u u h=>h,B⟩
def Yl.list (h:∀B,G B->B[s]? =ae (.list l)):∀(m k:ak),k+m=l.length->Yl G (.list (ae s) k) (l.drop k):=by
 intro n;induction n with
 |zero=>
  intro k e;rw[kf (by exact(EG e))];intro B g Q E q;refine av (fB (h B g) ?_);rw[rH (by exact(EG e))];exact q
 |succ m F=>
  intro k e;have D:k < l.length:=by lia
  rw[ou D];refine⟨.list (ae s) (k+1),λB g Q E q=>?_,F (k+1) (by lia)⟩;refine av (fB (h B g) ?_);rw[cy D];exact q
def Yl.gK (h:∀B,G B->B[s]? =ae (.list l)):Yl G (.list (ae s) 0) l:=Yl.list h l.length 0 (ke _)
def Yl.enum:∀{K:ah AV} {U:AI} {n:Int},Yl G U K->Yl G (.enum n U) (mQ n K)
 | [],_,_,y=>λB g u u q=>av (y B g _ _ q)
 |_ :: _,_,_,⟨_,y1,y2⟩=>⟨_,λB g u u q=>av (y1 B g _ _ q),Yl.enum y2⟩
def Yl.zip:∀{K ys:ah AV} {a b:AI},Yl G a K->Yl G b ys->Yl G (.zip a b) (o8 K ys):=by
 intro H;induction H with
 |nil=>
  intro ys _ _ y _;have:o8 [] ys=[]:=by cases ys <;>rfl
  rw[this];exact λB g u u q=>av (y B g _ _ q)
 |cons M N F=>
  intro E;cases E with
  |nil=>
   rintro _ _ ⟨_,D,_⟩ z;exact λB g u u q=>av (D B g _ _ (av (z B g _ _ q)))
  |cons _ _=>
   rintro _ _ ⟨_,D,I⟩ ⟨_,L,J⟩;exact⟨_,λB g u u q=>av (D B g _ _ (av (L B g _ _ q))),F I J⟩
def w_iA {a0:AI->St->Prop}(h:WP (e Q) B (k1 jG a0 E) E):WP (iA e Q) B a0 E:=av h
def w_iS {a0:AI->St->Prop}{a:DR}(h:WP (a Q) B (k1 eO a0 E) E):WP (iS a Q) B a0 E:=av h
def w_iEnum {a0:AI->St->Prop}{a:DR}(h:WP (a Q) B (k1 eO (kM (AI.enum 0) a0) E) E):WP (oY a Q) B a0 E:=av (bw rfl (av (h.a5 λu u h=>av h)))
def w_iZip {a0:AI->St->Prop}{a b:DR}(h:WP (a Q) B (kE b Q (kZ a0 E) E) E):WP (oZ a b Q) B a0 E:=
 av (bw ⟨rfl,rfl⟩ (av (h.a5 λu u h=>av (h.a5 λu u h=>av (h.a5 λu u h=>av h)))))
def w_iRev {a0:AI->St->Prop}{a:DR}(h:WP (a Q) B (k1 p9 a0 E) E):WP (vF a Q) B a0 E:=av (bw rfl (av h))
def w_rRange {l:ah DE}{a0:AS->St->Prop}(h:WP (dG l Q) B (k1 lJ a0 E) E):WP (iU l Q) B a0 E:=av (bw rfl (av h))
def w_rVal {a0:AS->St->Prop}(h:WP (e Q) B (kM AS.val a0) E):WP (g8 e Q) B a0 E:=av h
def ff {a0:AI->St->Prop}(e1:B[i]? =ae (.list l))(h:a0 (.list (ae i) 0) B):WP (jG (.ref i)) B a0 E:=av (dj e1 (aQ h))
def vV {a0:AI->St->Prop}{s:ax ak}(e1:B[i]? =ae (.iter s k))(h:a0 (.obj i) B):WP (jG (.ref i)) B a0 E:=av (dj e1 (aQ h))
def Rw {a0:AI->St->Prop}{l:ah au}(h:∀l',l'.Perm l->a0 (.set l') B):WP (jG (.cL l)) B a0 E:=av (Ri λl' p=>aQ (h l' p))
def w_itS_val {a0:AI->St->Prop}(h:WP (jG (.ref i)) B a0 E):WP (eO (.val (.ref i))) B a0 E:=h
def w_itS_range {a0:AI->St->Prop}{c d:Int}(h:a0 (.range c k d) B):WP (eO (.range c k d)) B a0 E:=h
def pg {b:Int}{a0:AS->St->Prop}(h1: -4096 < b)(h2:b < 4096)(h:a0 (.range 0 b.toNat 1) B):WP (lJ [.int b]) B a0 E:=av (dU rfl (av (bw ⟨h1,h2⟩ (aQ h))))
def EZ {b:Int}{a0:AS->St->Prop}(h1: -4096 < b)(h2:b < 4096)(h:a0 (.range 0 (-b).toNat (-1)) B):WP (lJ [.int 0,.int b,.int (-1)]) B a0 E:=av (dU rfl (av (bw ⟨rfl,rfl,h1,h2⟩ (aQ h))))
def w_rev {a0:AI->St->Prop}(h:a0 (.range (k - 1) k (-1)) B):WP (p9 (.range 0 k 1)) B a0 E:=av (bw ⟨rfl,rfl⟩ (aQ h))
def Rx {cs:ah (au×ak)}{c0:bN}{e0:aB}{d0:DI}{put:DA}{a0:AV->St->Prop}(hp:e9 c0=aj)(hc:fK Q c0.names []=ae cs)(hn:∀cs,kq c0.names cs=P.pure cs)(h:WP (d0 Q) B (EF e0 elt ifs put { F:=Q.F,cel:=cs,loc:=c0.names.map λc=>ag } a0 E) E):WP (d9 c0 e0 d0 put ifs elt Q) B a0 E:=by
 refine av (bw rfl (av (bw hp (av (dU hc (av (h.a5 λD B h=>av (bw h.1 (av ?_)))))))));unfold cP;refine av ?_;rw[hn];exact aQ (av (aQ (aQ (av h.2))))
def zv {α:Type}{l:ah α}{a b:α}:(l++[a]).set l.length b=l++[b]:=by simp
def iY {α:Type}{B l:ah α}:(B++l)[B.length+j]? =l[j]? :=by rw[wG (tm _ _),Nat.add_sub_cancel_left]
def qD {α:Type}{B l:ah α}:(B++l)[B.length]? =l[0]? :=by rw[wG (a4 _),Nat.sub_self]
def E2 {α:Type}{B l:ah α}{b:α}:(B++l).set (B.length+j) b=B++l.set j b:=by simp
def E3 {α:Type}{B l:ah α}{b:α}:(B++l).set B.length b=B++l.set 0 b:=by simp
def fD {B:St}{n:aI}{r:ah DS}{a0:AV->St->Prop}{c0:P RT}(e:eH n=ae (sq r))(hn:(aq n == gE || Str.ofString n == jJ)=az)(he:(defOf (aq n)).map (λd=>P.opt (fV d.1 args kw)>>=λb=>cP (FN k) d.2.2 [] b)=ae c0)(h:WP c0 B (λQ B=>WP (sq r Q) B (Ey a0 E) E) E):WP (FN (k+1) (.fn (aq n)) args kw) B a0 E:=by
 rw[HU]at hn;show WP (if aq n == gE then qb (FN k) args kw else if aq n == jJ then oR (FN k) args kw else lL (FN k) (aq n) args kw) B a0 E;rw[hn.1,hn.2];show WP (lL (FN k) (aq n) args kw) B a0 E;cases D:defOf (aq n)with
 |none=>rw[D]at he;cases he
 |some d=>
  unfold eH at e;rw[D]at he e;obtain e:eu (cS d.2.2 20) d.2.1=sq r:=dp e;obtain he:(P.opt (fV d.1 args kw)>>=λb=>cP (FN k) d.2.2 [] b)=c0:=dp he;unfold lL;rw[D];show WP (P.opt (fV d.1 args kw)>>=λb=>cP (FN k) d.2.2 [] b>>=λQ=>eu (cS d.2.2 20) d.2.1 Q>>=λx=>eP x.1) B a0 E;have:(P.opt (fV d.1 args kw)>>=λb=>cP (FN k) d.2.2 [] b>>=λQ=>eu (cS d.2.2 20) d.2.1 Q>>=λx=>eP x.1)
    =((P.opt (fV d.1 args kw)>>=λb=>cP (FN k) d.2.2 [] b)>>=λQ=>eu (cS d.2.2 20) d.2.1 Q>>=λx=>eP x.1):=by
   cases fV d.1 args kw <;>rfl
  rw[this,he,e];exact av (h.a5 λu u h=>av h)
def Ry {b c:AV}{a0:AV->St->Prop}(h:Body Ep ⟨FN k,[],[ae a,ae b,ae c,ag,ag,ag]⟩ B a0 E):WP (FN (k+1) (.fn (aq "_siftdown")) [a,b,c] []) B a0 E:=
 fD (c0:=P.pure ⟨FN k,[],[ae a,ae b,ae c,ag,ag,ag]⟩) QW (by decide +kernel) (by kernel_rfl) (aQ h)
def Rz {b c:AV}{a0:AV->St->Prop}(h:Body Es ⟨FN k,[],[ae a,ae b,ae c,ag,ag,ag]⟩ B a0 E):WP (FN (k+1) (.fn (aq "_siftdown_max")) [a,b,c] []) B a0 E:=
 fD (c0:=P.pure ⟨FN k,[],[ae a,ae b,ae c,ag,ag,ag]⟩) QY (by decide +kernel) (by kernel_rfl) (aQ h)
def RA {b:AV}{a0:AV->St->Prop}(h:Body Er ⟨FN k,[],[ae a,ae b,ag,ag,ag,ag,ag,ag,ag]⟩ B a0 E):WP (FN (k+1) (.fn (aq "_siftup")) [a,b] []) B a0 E:=
 fD (c0:=P.pure ⟨FN k,[],[ae a,ae b,ag,ag,ag,ag,ag,ag,ag]⟩) QX (by decide +kernel) (by kernel_rfl) (aQ h)
def RC {b:AV}{a0:AV->St->Prop}(h:Body Et ⟨FN k,[],[ae a,ae b,ag,ag,ag,ag,ag,ag,ag]⟩ B a0 E):WP (FN (k+1) (.fn (aq "_siftup_max")) [a,b] []) B a0 E:=
 fD (c0:=P.pure ⟨FN k,[],[ae a,ae b,ag,ag,ag,ag,ag,ag,ag]⟩) QZ (by decide +kernel) (by kernel_rfl) (aQ h)
def RD {b:AV}{a0:AV->St->Prop}(h:Body Ek ⟨FN k,[],[ae a,ae b,ag,ag]⟩ B a0 E):WP (FN (k+1) (.fn (aq "heapreplace")) [a,b] []) B a0 E:=
 fD (c0:=P.pure ⟨FN k,[],[ae a,ae b,ag,ag]⟩) QS (by decide +kernel) (by kernel_rfl) (aQ h)
def RE {b:AV}{a0:AV->St->Prop}(h:Body Em ⟨FN k,[],[ae a,ae b,ag,ag]⟩ B a0 E):WP (FN (k+1) (.fn (aq "_heapreplace_max")) [a,b] []) B a0 E:=
 fD (c0:=P.pure ⟨FN k,[],[ae a,ae b,ag,ag]⟩) QU (by decide +kernel) (by kernel_rfl) (aQ h)
def RF {a0:AV->St->Prop}(h:Body El ⟨FN k,[],[ae a,ag,ag,ag,ag,ag,ag]⟩ B a0 E):WP (FN (k+1) (.fn (aq "heapify")) [a] []) B a0 E:=
 fD (c0:=P.pure ⟨FN k,[],[ae a,ag,ag,ag,ag,ag,ag]⟩) QT (by decide +kernel) (by kernel_rfl) (aQ h)
def RG {a0:AV->St->Prop}(h:Body Eo ⟨FN k,[],[ae a,ag,ag,ag,ag,ag,ag]⟩ B a0 E):WP (FN (k+1) (.fn (aq "_heapify_max")) [a] []) B a0 E:=
 fD (c0:=P.pure ⟨FN k,[],[ae a,ag,ag,ag,ag,ag,ag]⟩) QV (by decide +kernel) (by kernel_rfl) (aQ h)
def RH {b:AV}{a0:AV->St->Prop}(h:Body yV ⟨FN k,[],[ae a,ae b,ag,ag,ag,ag,ag,ag,ag,ag,ag,ag,ag]⟩ B a0 E):WP (FN (k+1) (.fn (aq "_kind")) [a,b] []) B a0 E:=
 fD (c0:=P.pure ⟨FN k,[],[ae a,ae b,ag,ag,ag,ag,ag,ag,ag,ag,ag,ag,ag]⟩) Q4 (by decide +kernel) (by kernel_rfl) (aQ h)
def RI {b c d e:AV}{a0:AV->St->Prop}(h:Body yW ⟨FN k,[],[ae a,ae b,ae c,ae d,ae e,ag,ag,ag,ag,ag,ag]⟩ B a0 E):WP (FN (k+1) (.fn (aq "_c_path")) [a,b,c,d,e] []) B a0 E:=
 fD (c0:=P.pure ⟨FN k,[],[ae a,ae b,ae c,ae d,ae e,ag,ag,ag,ag,ag,ag]⟩) Q5 (by decide +kernel) (by kernel_rfl) (aQ h)
def RJ {a0:AV->St->Prop}(h:Body yX ⟨FN k,[],[ae a,ag,ag]⟩ B a0 E):WP (FN (k+1) (.fn (aq "_splitroot")) [a] []) B a0 E:=
 fD (c0:=P.pure ⟨FN k,[],[ae a,ag,ag]⟩) Q6 (by decide +kernel) (by kernel_rfl) (aQ h)
def RK {a0:AV->St->Prop}(h:Body yZ ⟨FN k,[],[ae a,ag,ag,ag,ag,ag,ag,ag,ag,ag]⟩ B a0 E):WP (FN (k+1) (.fn (aq "_normpath")) [a] []) B a0 E:=
 fD (c0:=P.pure ⟨FN k,[],[ae a,ag,ag,ag,ag,ag,ag,ag,ag,ag]⟩) Q7 (by decide +kernel) (by kernel_rfl) (aQ h)
def RM {b c:AV}{a0:AV->St->Prop}(h:Body vG ⟨FN k,[],[ae a,ae b,ae c,ag]⟩ B a0 E):WP (FN (k+1) (.fn (aq "_Ignore.__init__")) [a,b,c] []) B a0 E:=
 fD (c0:=P.pure ⟨FN k,[],[ae a,ae b,ae c,ag]⟩) Q9 (by decide +kernel) (by kernel_rfl) (aQ h)
def RN {b c:AV}{a0:AV->St->Prop}(h:Body y3 ⟨FN k,[],[ae a,ae b,ae c,ag,ag,ag]⟩ B a0 E):WP (FN (k+1) (.fn (aq "_Ignore.names")) [a,b,c] []) B a0 E:=
 fD (c0:=P.pure ⟨FN k,[],[ae a,ae b,ae c,ag,ag,ag]⟩) Ra (by decide +kernel) (by kernel_rfl) (aQ h)
def RO {b:AV}{a0:AV->St->Prop}(h:Body zc ⟨FN k,[],[ae a,ae b,ag,ag,ag,ag]⟩ B a0 E):WP (FN (k+1) (.fn (aq "_law_says")) [a,b] []) B a0 E:=
 fD (c0:=P.pure ⟨FN k,[],[ae a,ae b,ag,ag,ag,ag]⟩) Rg (by decide +kernel) (by kernel_rfl) (aQ h)
def RP {b c:AV}{a0:AV->St->Prop}(h:Body yT ⟨FN k,[(aq "key",B.length)],[ae a,ae b,ag,ag,ag,ag,ag,ag,ag,ag,ag,ag,ag,ag,ag,ag,ag,ag,ag,ag,ag,ag,ag,ag,ag]⟩ (B++[.cell (ae c)]) a0 E):WP (FN (k+1) (.fn (aq "nsmallest")) [a,b] [(aq "key",c)]) B a0 E:=
 fD (c0:=P.alloc (.cell ag)>>=λi=>km (aq "key") c ⟨FN k,[(aq "key",i)],[ae a,ae b,ag,ag,ag,ag,ag,ag,ag,ag,ag,ag,ag,ag,ag,ag,ag,ag,ag,ag,ag,ag,ag,ag,ag]⟩>>=λI=>P.pure ⟨FN k,[(aq "key",i)],I⟩) Q2 (by decide +kernel) (by kernel_rfl)
  (av (eI (av (nV (x:="key") (v':=ag) (by kernel_rfl) Bv (by rw[zv];exact aQ h)))))
def RQ {b c:AV}{a0:AV->St->Prop}(h:Body yU ⟨FN k,[(aq "key",B.length)],[ae a,ae b,ag,ag,ag,ag,ag,ag,ag,ag,ag,ag,ag,ag,ag,ag,ag,ag,ag,ag,ag,ag,ag,ag,ag]⟩ (B++[.cell (ae c)]) a0 E):WP (FN (k+1) (.fn (aq "nlargest")) [a,b] [(aq "key",c)]) B a0 E:=
 fD (c0:=P.alloc (.cell ag)>>=λi=>km (aq "key") c ⟨FN k,[(aq "key",i)],[ae a,ae b,ag,ag,ag,ag,ag,ag,ag,ag,ag,ag,ag,ag,ag,ag,ag,ag,ag,ag,ag,ag,ag,ag,ag]⟩>>=λI=>P.pure ⟨FN k,[(aq "key",i)],I⟩) Q3 (by decide +kernel) (by kernel_rfl)
  (av (eI (av (nV (x:="key") (v':=ag) (by kernel_rfl) Bv (by rw[zv];exact aQ h)))))
theorem RU {b c d:AV}{a0:AV->St->Prop}(h:Body y4 ⟨FN k,[(aq "steps",B.length+3),(aq "parts",B.length+2),(aq "directories",B.length+1),(aq "modules",B.length)],[ae a,ae b,ag,ag,ag,ag,ag,ag,ag]⟩ (B++[.cell (ae c),.cell (ae d),.cell ag,.cell ag]) a0 E):
  WP (FN (k+1) (.fn (aq "_law_to_be_left_out")) [a,b,c,d] []) B a0 E:=by
 refine fD (c0:=P.alloc (.cell ag)>>=λi=>P.alloc (.cell ag)>>=λj=>P.alloc (.cell ag)>>=λm=>P.alloc (.cell ag)>>=λn=>
  km (aq "modules") c ⟨FN k,[(aq "steps",n),(aq "parts",m),(aq "directories",j),(aq "modules",i)],[ae a,ae b,ag,ag,ag,ag,ag,ag,ag]⟩>>=λI=>
  km (aq "directories") d ⟨FN k,[(aq "steps",n),(aq "parts",m),(aq "directories",j),(aq "modules",i)],I⟩>>=λI=>
  P.pure ⟨FN k,[(aq "steps",n),(aq "parts",m),(aq "directories",j),(aq "modules",i)],I⟩) Rb (by decide +kernel) (by kernel_rfl) ?_
 refine av (eI (av (eI (av (eI (av (eI ?_)))))));simp only[jY,bK,fm,q7,rB,mn,ke,xk];refine av (nV (x:="modules") (v':=ag) (c:=B.length) (by kernel_rfl) qD ?_);rw[E3];refine av (nV (x:="directories") (v':=ag) (c:=B.length+1) (by kernel_rfl) iY ?_);rw[E2];exact aQ h
def RX {b c:AV}{a0:AV->St->Prop}(h:Body za ⟨FN k,[(aq "module",B.length)],[ae a,ae b,ae c,ag,ag,ag,ag,ag,ag,ag,ag,ag,ag,ag]⟩ (B++[.cell ag]) a0 E):
  WP (FN (k+1) (.fn (aq "_law_ranks")) [a,b,c] []) B a0 E:=
 fD (c0:=P.alloc (.cell ag)>>=λi=>P.pure ⟨FN k,[(aq "module",i)],[ae a,ae b,ae c,ag,ag,ag,ag,ag,ag,ag,ag,ag,ag,ag]⟩) Rc (by decide +kernel) (by kernel_rfl) (av (eI (aQ h)))
theorem RY {b c d:AV}{a0:AV->St->Prop}(h:Body zb ⟨FN k,[(aq "j",B.length+2),(aq "greatest",B.length+1),(aq "ranks",B.length)],[ae a,ag,ae c,ag,ag,ag,ag,ag,ag,ag,ag,ag,ag]⟩ (B++[.cell (ae b),.cell (ae d),.cell ag]) a0 E):
  WP (FN (k+1) (.fn (aq "_law_few")) [a,b,c,d] []) B a0 E:=by
 refine fD (c0:=P.alloc (.cell ag)>>=λi=>P.alloc (.cell ag)>>=λj=>P.alloc (.cell ag)>>=λm=>
  km (aq "ranks") b ⟨FN k,[(aq "j",m),(aq "greatest",j),(aq "ranks",i)],[ae a,ag,ag,ag,ag,ag,ag,ag,ag,ag,ag,ag,ag]⟩>>=λI=>
  xD 2 c ⟨FN k,[(aq "j",m),(aq "greatest",j),(aq "ranks",i)],I⟩>>=λI=>
  km (aq "greatest") d ⟨FN k,[(aq "j",m),(aq "greatest",j),(aq "ranks",i)],I⟩>>=λI=>
  P.pure ⟨FN k,[(aq "j",m),(aq "greatest",j),(aq "ranks",i)],I⟩) Rf (by decide +kernel) (by kernel_rfl) ?_
 refine av (eI (av (eI (av (eI ?_)))));simp only[jY,bK,fm,q7,rB,mn,ke,xk];refine av (nV (x:="ranks") (v':=ag) (c:=B.length) (by kernel_rfl) qD ?_);rw[E3];refine av ?_;refine aQ (av (nV (x:="greatest") (v':=ag) (c:=B.length+1) (by kernel_rfl) iY ?_));rw[E2];exact aQ h
def n_next {a0:FL×ah (ax AV)->St->Prop}(h:N I B):jO N a0 (.next,I) B:=h
def n_brk {a0:FL×ah (ax AV)->St->Prop}(h:a0 (.brk,I) B):jO N a0 (.brk,I) B:=h
def n_cont {a0:FL×ah (ax AV)->St->Prop}(h:a0 (.cont,I) B):jO N a0 (.cont,I) B:=h
def n_ret {a0:FL×ah (ax AV)->St->Prop}(h:a0 (.ret v,I) B):jO N a0 (.ret v,I) B:=h
def l_next {a0:FL×ah (ax AV)->St->Prop}(h:N I B):Left N a0 (.next,I) B:=h
def l_brk {a0:FL×ah (ax AV)->St->Prop}(h:a0 (.next,I) B):Left N a0 (.brk,I) B:=h
def l_cont {a0:FL×ah (ax AV)->St->Prop}(h:N I B):Left N a0 (.cont,I) B:=h
def l_ret {a0:FL×ah (ax AV)->St->Prop}(h:a0 (.ret v,I) B):Left N a0 (.ret v,I) B:=h
def x_sq {a0:FL×ah (ax AV)->St->Prop}{s:DS}{l:ah DS}(h:WP (s ⟨F,O,I⟩) B (jO (kL (sq l) F O a0 E) a0) E):WP (sq (s :: l) ⟨F,O,I⟩) B a0 E:=
 Rn (h.a5 λy B h=>by obtain⟨f,I⟩:=y;cases f <;>exact h)
def x_nil {a0:FL×ah (ax AV)->St->Prop}(h:a0 (.next,I) B):WP (sq [] ⟨F,O,I⟩) B a0 E:=h
def x_Pass {a0:FL×ah (ax AV)->St->Prop}(h:a0 (.next,I) B):WP (Ei ⟨F,O,I⟩) B a0 E:=h
def x_Brk {a0:FL×ah (ax AV)->St->Prop}(h:a0 (.brk,I) B):WP (sp ⟨F,O,I⟩) B a0 E:=h
def x_Cont {a0:FL×ah (ax AV)->St->Prop}(h:a0 (.cont,I) B):WP (qu ⟨F,O,I⟩) B a0 E:=h
def x_Ret {a0:FL×ah (ax AV)->St->Prop}(h:WP (e ⟨F,O,I⟩) B (kR I a0) E):WP (bL e ⟨F,O,I⟩) B a0 E:=Rp h
def x_Expr {a0:FL×ah (ax AV)->St->Prop}(h:WP (e ⟨F,O,I⟩) B (kX I a0) E):WP (b9 e ⟨F,O,I⟩) B a0 E:=Rq h
def aM {a0:AV->St->Prop}(e:I[i]? =ae (ae v))(h:a0 v B):WP (eL i ⟨F,O,I⟩) B a0 E:=EU e h
def cu {a0:ah (ax AV)}(e:I.set i (ae v)=a0)(h:QL a0 B):WP (pL i v ⟨F,O,I⟩) B QL E:=by subst e;exact h
def x_pIdx {o:DE}(h:WP (o ⟨F,O,I⟩) B (kE e ⟨F,O,I⟩ (EB v I QL E) E) E):WP (dM o e v ⟨F,O,I⟩) B QL E:=Rl h
def E4 {a0:FL×ah (ax AV)->St->Prop}{t:DT}(h:WP (t ⟨F,O,I⟩) B (QC t body n F O I a0 E) E):WP (iL t body (n+1) ⟨F,O,I⟩) B a0 E:=Rt h
def x_put_cons {a:DA}{as:ah DA}(h:WP (a v ⟨F,O,I⟩) B (kL (jg as vs) F O QL E) E):WP (jg (a :: as) (v :: vs) ⟨F,O,I⟩) B QL E:=Rm h
def x_put_nil (h:QL I B):WP (jg [] [] ⟨F,O,I⟩) B QL E:=h
def eh {a0:ak->St->Prop}(h:a0 i B):WP (e6 (.ref i)) B a0 E:=h
def qE {i:au}{a0:au->St->Prop}(h:a0 i B):WP (nz (.str i)) B a0 E:=h
def fE {a0:AV->St->Prop}{x:AV}(h:a0 x B):WP (one [x]) B a0 E:=h
def zw {Q0:b8->St->Prop}(h:Q0 () B):WP (rN []) B Q0 E:=h
def eZ {Q0:b8->St->Prop}(h:Q0 () B):WP (noKw []) B Q0 E:=h
def mU {a0:AV->St->Prop}{n:aI}{b:BI}(e:p7 (.bi n)=ae b)(h:WP (jI Q.F args kw b) B a0 E):WP (et Q (.bi n) args kw) B a0 E:=av (dU e h)
def mV {a0:AV->St->Prop}{n:aI}{b:BI}(e:p7 (.ty n)=ae b)(h:WP (jI Q.F args kw b) B a0 E):WP (et Q (.ty n) args kw) B a0 E:=av (dU e h)
def b_add {a0:AV->St->Prop}{a b:Int}(h:a0 (.int (a+b)) B):WP (gc .Add (.int a) (.int b)) B a0 E:=h
def b_sub {a0:AV->St->Prop}{a b:Int}(h:a0 (.int (a - b)) B):WP (gc .Sub (.int a) (.int b)) B a0 E:=h
def E5 {a0:AV->St->Prop}{a b:Int}(g:a.natAbs < 2 ^ 62/\b.natAbs < 2 ^ 62)(h:a0 (.int (a * b)) B):WP (gc .Mult (.int a) (.int b)) B a0 E:=av (w_strict (av (bw g (aQ h))))
def ph {a0:AV->St->Prop}{a b:Int}(g:0 < b/\b < 2 ^ 29)(h:a0 (.int (a.fdiv b)) B):WP (gc .FloorDiv (.int a) (.int b)) B a0 E:=av (w_strict (av (bw g (aQ h))))
def pj {a0:AV->St->Prop}{a b:Int}(g:0 < b/\b < 2 ^ 29)(h:a0 (.int (a.fmod b)) B):WP (gc .Mod (.int a) (.int b)) B a0 E:=av (w_strict (av (bw g (aQ h))))
def RZ {a0:AV->St->Prop}{a:Int}(h:a0 (.int (a.fdiv 2)) B):WP (gc .RShift (.int a) (.int 1)) B a0 E:=av (w_strict (av (bw rfl (aQ h))))
def c_lt {a b:Int}(h:QB (decide (a < b)) B):WP (dQ .Lt (.int a) (.int b)) B QB E:=h
def c_gt {a b:Int}(h:QB (decide (a > b)) B):WP (dQ .Gt (.int a) (.int b)) B QB E:=h
def c_ge {a b:Int}(h:QB (decide (a ≥ b)) B):WP (dQ .GtE (.int a) (.int b)) B QB E:=h
def lV {a0:AV->St->Prop}{j:Int}(e:B[i]? =ae (.list l))(hj:0<=j/\j < 2 ^ 62)(ev:l[j.toNat]? =ae v)(h:a0 v B):WP (ir (.ref i) (.int j)) B a0 E:=by
 refine av (dj e (av (w_strict (av (bw ⟨by lia,hj.2⟩ (dU ?_ h))))));rw[aN hj.1];exact ev
def sM {Q0:b8->St->Prop}{j:Int}(e:B[i]? =ae (.list l))(hj:0<=j/\j.toNat < l.length/\j < 2 ^ 62)(h:Q0 () (B.set i (.list (l.set j.toNat v)))):WP (oN (.ref i) (.int j) v) B Q0 E:=
 av (eh (av (dj e (av (w_strict (av (bw hj (k7 h))))))))
def f_len {a0:AV->St->Prop}(e:B[i]? =ae (.list l))(h:a0 (.int l.length) B):WP (et Q (.bi "len") [.ref i] []) B a0 E:=mU rfl (av (fE (av (eZ (av (eh (av (dj e (aQ h)))))))))
def f_fn {a0:AV->St->Prop}{n:au}(h:WP (F (.fn n) args kw) B a0 E):WP (et ⟨F,O,I⟩ (.fn n) args kw) B a0 E:=h
def r_ret {a0:AV->St->Prop}(h:a0 v B):WP (eP (.ret v)) B a0 E:=h
def r_next {a0:AV->St->Prop}(h:a0 .none B):WP (eP .next) B a0 E:=h
def vW (yF:x.1=y.1->x.2.1≠y.2.1)(h:QB (fL x y) B):WP (dQ .Lt (tv x) (tv y)) B QB E:=by
 show WP (if x.1=y.1 then (if x.2.1=y.2.1 then P.fail else P.pure (decide (x.2.1 < y.2.1)))else P.pure (decide (x.1 < y.1))) B QB E;unfold fL at h;split
 ·rename_i e;rw[aK (yF e)];rw[aN e]at h;exact h
 ·rename_i e;rw[aK e]at h;exact h
def fZ.symm (h:fZ x y):fZ y x:=λe B=>h e.symm B.symm
def vX {g:aB}{new:Tr}{l:ah Tr}{p:ak}:iC g new s 0 l p=l.set p new:=rfl
def sN {g:aB}{new:Tr}{l:ah Tr}{p:ak}:iC g new s (n+1) l p=(if s < p then
   match l[(p - 1) / 2]? with
   |some a0=>if bf g new a0 then iC g new s n (l.set p a0) ((p - 1) / 2)else l.set p new
   |none=>l.set p new
  else l.set p new):=rfl
def sP {l:ah Tr}{p:ak}:(l.map tv).set p (tv x)=(l.set p x).map tv:=by rw[List.map_set]
def Hp.set {l l':ah Tr}(x:Hp B h l):Hp (B.set h (.list (l'.map tv))) h l':=by
 unfold Hp at x |-;have:=(cF.mp x).1;rw[l8 this]
theorem R2 {g:aB}{t:DT}{new:Tr}(ht:∀{B:St} {a b c d:ax AV} {par:Tr} {QB:aB->St->Prop},fZ new par->QB (bf g new par) B->WP (t ⟨F,[],[a,b,c,ae (tv new),d,ae (tv par)]⟩) B QB E):
  ∀(n p:ak) (l:ah Tr) (B:St) (a b:ax AV) (a0:FL×ah (ax AV)->St->Prop),p<=n->p < 64->p < l.length->Hp B h l->(∀q x,q < p->l[q]? =ae x->fZ new x)->
  (∀(p':ak) (l':ah Tr) (a b:ax AV),p' < l'.length->p'<=p->l'.set p' new=iC g new s n l p->a0 (.next,[ae (.ref h),ae (.int s),ae (.int p'),ae (tv new),a,b]) (B.set h (.list (l'.map tv))))->p < n+1->
  ∀m,n < m->WP (iL (aR .Gt (eL 2) (eL 1)) (sq [
   aE (pL 4) (aY .RShift (aY .Sub (eL 2) (eK (.int 1))) (eK (.int 1))),
   aE (pL 5) (bz (eL 0) (eL 4)),
   bJ t [
    aE (dM (eL 0) (eL 2)) (eL 5),
    aE (pL 2) (eL 4),
    qu] [],
   sp]) m ⟨F,[],[ae (.ref h),ae (.int s),ae (.int p),ae (tv new),a,b]⟩) B a0 E:=by
 intro n p l B a b a0 R J L H V O j m Y;induction m generalizing n p l B a b a0 with
 |zero=>exact XX 1 0 (CH 1 0 0 0 Y ZZ) rfl
 |succ m Z=>
  have same:B=B.set h (.list (l.map tv)):=by
   have:=(cF.mp H);obtain⟨U,T⟩:=this;rw[<-T,Bw]
  refine E4 (w_tCmp (aM rfl (aM rfl (c_gt ⟨λc=>?_,λc=>?_⟩))))
  ·have c:s < p:=i5.1 (gx c);have S:0 < p:=wJ (cZ _) c;have I:(p - 1) / 2<=p - 1:=IK ..;have G:p - 1 < p:=Nat.sub_lt S Nat.one_pos;obtain⟨n,rfl⟩:∃k,n=k+1:=⟨n - 1,by exact AN (SU) ((SW (TT S R)))⟩;have K:((p:Int) - 1).fdiv 2=(((p - 1) / 2:ak):Int):=by
    rw[IL _ (by decide),show(p:Int) - 1=((p - 1:ak):Int) from (IM S).symm];rfl
   have D:(p - 1) / 2 < l.length:=by exact CF 1 0 1 0 1 0 (CH 0 0 1 0 I G) L rfl
   refine x_sq (w_Set (w_Bin (w_Bin (aM rfl (w_K (b_sub (w_K (RZ (cu rfl (n_next ?_))))))))));rw[K];refine x_sq (w_Set (w_Idx (aM rfl (aM rfl (lV H ⟨by exact JP,by exact JC (2 ^ 62) (CF 1 0 1 64 1 4611686018427387904 (CH 0 0 1 0 I G) J rfl)⟩ (v:=tv l[(p - 1) / 2]) (by rw[eB,dA,cy D];rfl) (cu rfl (n_next ?_)))))));have N:=V ((p - 1) / 2) _ (by exact CF 0 0 1 0 1 0 I G rfl) (cy D);refine x_sq (w_qIf (ht N ⟨λM=>?_,λM=>?_⟩))
   ·refine x_sq (w_Set (aM rfl (x_pIdx (aM rfl (aM rfl (sM H ⟨by exact JP,by simp;exact L,by exact JC (2 ^ 62) (FI 1 64 1 4611686018427387904 J rfl)⟩ (n_next ?_)))))));refine x_sq (w_Set (aM rfl (cu rfl (n_next ?_))));refine x_sq (x_Cont (n_cont (n_cont (l_cont ?_))));rw[eB,sP];refine Z n ((p - 1) / 2) (l.set p l[(p - 1) / 2]) _ _ _ a0 (by exact TT I (CF 1 0 0 1 0 0 G R rfl)) (by exact CF 1 0 1 64 1 64 (CH 0 0 1 0 I G) J rfl) (by simp;exact D) H.set (λq x X W=>?_) (λp' l' a b U A T=>?_) (by exact CF 1 0 0 1 1 1 (CH 0 0 1 0 I G) R rfl) (by exact FI 2 1 1 0 Y rfl)
    ·rw[jz (by exact NT (CF 1 0 1 0 1 0 (CH 1 0 0 0 X I) G rfl))]at W;exact V q x (by exact CF 1 0 1 0 1 0 (CH 1 0 0 0 X I) G rfl) W
    ·rw[oK];refine O p' l' a b U (by exact TT A (CF 0 0 1 0 0 0 I G rfl)) ?_;rw[T];show _=(if s < p then _ else _);rw[aN c,cy D];show _=(if bf g new _ then _ else _);rw[aN M]
   ·refine x_nil (n_next (x_sq (x_Brk (n_brk (l_brk ?_)))));rw[same];refine O p l _ _ L (a4 _) ?_;show _=(if s < p then _ else _);rw[aN c,cy D];show _=(if bf g new _ then _ else _);rw[M];rfl
  ·have c: ¬ s < p:=λh=>jE c (i5.2 h);rw[same];refine O p l _ _ L (a4 _) ?_;cases n with
   |zero=>rfl
   |succ n=>
    show _=(if s < p then _ else _);rw[aK c]
def E6 {B:St}{g:aB}{t:DT}{p:ak}{new:Tr}{l:ah Tr}{a0:AV->St->Prop}(ht:∀{B:St} {a b c d:ax AV} {par:Tr} {QB:aB->St->Prop},fZ new par->QB (bf g new par) B->WP (t ⟨F,[],[a,b,c,ae (tv new),d,ae (tv par)]⟩) B QB E)(c0:Hp B h l)(hn:l[p]? =ae new)(hk:∀q x,q < p->l[q]? =ae x->fZ new x)(d0:p < 63)(q:a0 .none (B.set h (.list ((iC g new s p l p).map tv)))):
  Body (QD t) ⟨F,[],[ae (.ref h),ae (.int s),ae (.int p),ag,ag,ag]⟩ B a0 E:=by
 obtain I:p < l.length:=(cF.mp hn).1;refine x_sq (w_Set (w_Idx (aM rfl (aM rfl (lV c0 ⟨by exact JP,by exact JC (2 ^ 62) (FI 1 63 1 4611686018427387904 d0 rfl)⟩ (v:=tv new) (by rw[eB,dA,hn];rfl) (cu rfl (n_next ?_)))))));refine x_sq (EX (R2 ht p p l B _ _ _ (a4 _) (by exact FI 1 63 1 64 d0 rfl) I c0 hk (λK D a b L J G=>n_next ?_) (by exact a4 _) 64 (by exact FI 1 63 1 64 d0 rfl)));obtain H':Hp (B.set h (.list (D.map tv))) h D:=c0.set;refine x_sq (w_Set (aM rfl (x_pIdx (aM rfl (aM rfl (sM H' ⟨by exact JP,by rw[aO];lia,by exact JC (2 ^ 62) (CF 0 0 1 63 1 4611686018427387904 J d0 rfl)⟩ (n_next (x_nil (r_next ?_)))))))));rw[eB,sP,oK,G];exact q
def R3 {g:aB}{p:ak}{new:Tr}{l:ah Tr}{a0:AV->St->Prop}(c0:Hp B h l)(hn:l[p]? =ae new)(hk:∀q x,q < p->l[q]? =ae x->fZ new x)(d0:p < 63)(q:a0 .none (B.set h (.list ((iC g new s p l p).map tv)))):WP (FN (k+1) (.fn (aq (if g then "_siftdown_max" else "_siftdown"))) [.ref h,.int s,.int p] []) B a0 E:=by
 cases g with
 |false=>
  refine Ry (E6 (g:=az) (t:=aR .Lt (eL 3) (eL 5)) (λD q=>w_tCmp (aM rfl (aM rfl (vW D q)))) c0 hn hk d0 q)
 |true=>
  refine Rz (E6 (g:=aj) (t:=aR .Lt (eL 5) (eL 3)) (λD q=>w_tCmp (aM rfl (aM rfl (vW D.symm q)))) c0 hn hk d0 q)
def vY {g:aB}{l:ah Tr}{p:ak}:fb g 0 l p=(l,p):=rfl
def qF {g:aB}{l:ah Tr}{p:ak}:fb g (n+1) l p=(match l[2 * p+1]? with
  |none=>(l,p)
  |some a0=>match l[2 * p+2]? with
   |none=>fb g n (l.set p a0) (2 * p+1)
   |some y0=>if bf g a0 y0 then fb g n (l.set p a0) (2 * p+1)else fb g n (l.set p y0) (2 * p+2)):=rfl
def Hp.same {l:ah Tr}(a0:Hp B h l):B.set h (.list (l.map tv))=B:=by
 obtain⟨E,D⟩:=(cF.mp a0);rw[<-D,Bw]
def Hp.at {p:ak}{l:ah Tr}{a0:AV->St->Prop}(c0:Hp B h l)(hx:l[p]? =ae x)(d0:p < 4096)(q:a0 (tv x) B):WP (ir (.ref h) (.int p)) B a0 E:=
 lV c0 ⟨by exact JP,by exact JC (2 ^ 62) (FI 1 4096 1 4611686018427387904 d0 rfl)⟩ (by rw[eB,dA,hx];rfl) q
theorem R5 {g:aB}{t:DT}{n0:ak}{u1 u2 u3 u4:ax AV}(ht:∀{B:St} {i:ak} {l:ah Tr} {x y:Tr} {a b c d c0 v:ax AV} {QB:aB->St->Prop},Hp B h l->l[i]? =ae x->l[i+1]? =ae y->i < 64->fZ x y->QB (bf g x y) B->
   WP (t ⟨F,[],[ae (.ref h),a,b,c,d,ae (.int i),ae (.int ((i+1:ak):Int)),c0,v]⟩) B QB E)(d0:n0 < 60):
  ∀(m p:ak) (l:ah Tr) (B:St) (e:ax AV) (a0:FL×ah (ax AV)->St->Prop),l.length=n0->p < n0->n0<=p+m->Hp B h l->(∀i x y,2 * p < i->l[i]? =ae x->l[i+1]? =ae y->fZ x y)->
  (∀(p':ak) (l':ah Tr) (e a:ax AV),(l',p')=fb g m l p->p' < n0->l'.length=n0->a0 (.next,[ae (.ref h),ae (.int p'),ae (.int n0),u1,u2,a,e,u3,u4]) (B.set h (.list (l'.map tv))))->
  WP (iL (aR .Lt (eL 5) (eL 2)) (sq [
  aE (pL 6) (aY .Add (eL 5) (eK (.int 1))),
  bJ (jN (aR .Lt (eL 6) (eL 2)) (gm t)) [
   aE (pL 5) (eL 6)] [],
  aE (dM (eL 0) (eL 1)) (bz (eL 0) (eL 5)),
  aE (pL 1) (eL 5),
  aE (pL 5) (aY .Add (aY .Mult (eK (.int 2)) (eL 1)) (eK (.int 1)))]) (m+1) ⟨F,[],[ae (.ref h),ae (.int p),ae (.int n0),u1,u2,ae (.int ((2 * p+1:ak):Int)),e,u3,u4]⟩) B a0 E:=by
 intro m;induction m with
 |zero=>exact λp l B e a0 G O W H U T=>XX 1 0 (CH 0 0 1 0 W O) rfl
 |succ m V=>
  intros m _ V;intros _ p l B e a0 _ G O W H U T;refine E4 (w_tCmp (aM rfl (aM rfl (c_lt ⟨λc=>?_,λc=>?_⟩))))
  ·have c:2 * p+1 < n0:=i5.1 (gx c);obtain L:l[2 * p+1]? =ae (l[2 * p+1]'(by exact TT c (EG G))):=cy _;generalize l[2 * p+1]'(by exact TT c (EG G))=x at L;have Z:(((2 * p+1:ak):Int)+1)=((2 * p+1+1:ak):Int):=rfl;have M:∀(q:ak) (z:Tr) (a:ax AV),2 * p < q->q < n0->l[q]? =ae z->(∀(p':ak) (l':ah Tr),(l',p')=fb g m (l.set p z) q->(l',p')=fb g (m+1) l p)->
     WP (sq [
      aE (dM (eL 0) (eL 1)) (bz (eL 0) (eL 5)),
      aE (pL 1) (eL 5),
      aE (pL 5) (aY .Add (aY .Mult (eK (.int 2)) (eL 1)) (eK (.int 1)))] ⟨F,[],[ae (.ref h),ae (.int p),ae (.int n0),u1,u2,ae (.int q),a,u3,u4]⟩) B
      (Left (λI B=>WP (iL (aR .Lt (eL 5) (eL 2)) (sq [
  aE (pL 6) (aY .Add (eL 5) (eK (.int 1))),
  bJ (jN (aR .Lt (eL 6) (eL 2)) (gm t)) [
   aE (pL 5) (eL 6)] [],
  aE (dM (eL 0) (eL 1)) (bz (eL 0) (eL 5)),
  aE (pL 1) (eL 5),
  aE (pL 5) (aY .Add (aY .Mult (eK (.int 2)) (eL 1)) (eK (.int 1)))]) (m+1) ⟨F,[],I⟩) B a0 E) a0) E:=by
    intro q z a k N j X;refine x_sq (w_Set (w_Idx (aM rfl (aM rfl (H.at j (by exact CF 1 0 1 60 1 4096 N d0 rfl) (x_pIdx (aM rfl (aM rfl (sM H ⟨by exact JP,by rw[aO];show p < l.length;exact TT O (EG G),by exact JC (2 ^ 62) (CF 1 0 1 60 1 4611686018427387904 O d0 rfl)⟩ (n_next ?_))))))))));rw[eB,sP];refine x_sq (w_Set (aM rfl (cu rfl (n_next ?_))));refine x_sq (w_Set (w_Bin (w_Bin (w_K (aM rfl (E5 ⟨by decide,(by show q < 2 ^ 62;exact CF 1 0 1 60 1 4611686018427387904 N d0 rfl)⟩ (w_K (b_add (cu rfl (n_next (x_nil (l_next ?_))))))))))));have A:((2:Int) * (q:Int)+1)=((2 * q+1:ak):Int):=rfl;simp only[gz,gA];rw[A];refine V q (l.set p z) _ _ a0 (by rw[eJ];exact G) N (by lia) H.set (λi x y w R S=>?_) (λp' l' e a R S Y=>?_)
    ·rw[jz (by lia)]at R S;exact U i x y (by lia) R S
    ·rw[oK];exact T p' l' e a (X p' l' R) S Y
   refine x_sq (w_Set (w_Bin (aM rfl (w_K (b_add (cu rfl (n_next ?_)))))));simp only[gz,gA];rw[Z];refine x_sq (w_qIf (w_tAnd (w_tCmp (aM rfl (aM rfl (c_lt ⟨λD=>?_,λD=>?_⟩))))))
   ·have D:2 * p+2 < n0:=i5.1 (gx D);obtain K:l[2 * p+2]? =ae (l[2 * p+2]'(by exact TT D (EG G))):=cy _;generalize l[2 * p+2]'(by exact TT D (EG G))=y at K;refine w_tNot (ht H L K (by exact CF 3 0 1 60 2 64 D d0 rfl) (U _ x y (by exact a4 _) L K) ⟨λJ=>?_,λJ=>?_⟩)
    ·have J:bf g x y=az:=by simpa using J
     refine x_sq (w_Set (aM rfl (cu rfl (n_next (x_nil (n_next ?_))))));refine M (2 * p+2) y _ (by exact gR _) D K λp' l' h=>?_;rw[h];show _=(match l[2 * p+1]? with |none=>_ |some x=>_);rw[L];show _=(match l[2 * p+2]? with |none=>_ |some x=>_);rw[K];show _=(if _ then _ else _);rw[J];rfl
    ·have J:bf g x y=aj:=by simpa using J
     refine x_nil (n_next ?_);refine M (2 * p+1) x _ (by exact a4 _) c L λp' l' h=>?_;rw[h];show _=(match l[2 * p+1]? with |none=>_ |some x=>_);rw[L];show _=(match l[2 * p+2]? with |none=>_ |some x=>_);rw[K];show _=(if _ then _ else _);rw[J];rfl
   ·have D: ¬ 2 * p+2 < n0:=λh=>jE D (i5.2 h);obtain K:l[2 * p+2]? =ag:=rH (by exact TT (EL G) (NL D));refine⟨λJ=>(nomatch J),λu=>x_nil (n_next ?_)⟩;refine M (2 * p+1) x _ (by exact a4 _) c L λp' l' h=>?_;rw[h];show _=(match l[2 * p+1]? with |none=>_ |some x=>_);rw[L];show _=(match l[2 * p+2]? with |none=>_ |some x=>_);rw[K]
  ·have c: ¬ 2 * p+1 < n0:=λh=>jE c (i5.2 h);rw[<-H.same];refine T p l _ _ ?_ O G;show _=(match l[2 * p+1]? with |none=>_ |some x=>_);rw[rH (by exact TT (EL G) (NL c))]
set_option tactic.hygienic true in theorem R6 {g : aB} : ∀ (m : ak) (l : ah Tr) (p : ak) (l' : ah Tr) (p' : ak), (l', p') = fb g m l p → ∀ q x, q ≠ p' → l'[q]? = ae x → ∃ q2, q2 ≠ p ∧ l[q2]? = ae x := by
 intro n;induction n with
 |zero=>
  intro l p l' p' e q x hq hx;cases e;exact⟨q,hq,hx⟩
 |succ m ih=>
  intros m _ ih;intros _ l p l' p' _ e _ q x _ hq hx;have go:∀(c:ak) (z:Tr),c≠p->l[c]? =ae z->(l',p')=fb g m (l.set p z) c->∃q2,q2≠p/\l[q2]? =ae x:=by
   intros _ c z _ hc hz e;obtain⟨q2,h1,h2⟩:=ih _ _ _ _ e q x hq hx;by_cases h:p=q2
   ·subst h;obtain hl:p < (l.set p z).length:=(cF.mp h2).1;rw[eJ]at hl;rw[l8 hl]at h2;cases h2;exact⟨c,hc,hz⟩
   ·rw[jz h]at h2;exact⟨q2,λh'=>h h'.symm,h2⟩
  rw[qF]at e;split at e
  ·cases e;exact⟨q,hq,hx⟩
  ·rename_i a ha;split at e
   ·exact go _ _ (by lia) ha e
   ·rename_i b hb;split at e
    ·exact go _ _ (by lia) ha e
    ·exact go _ _ (by lia) hb e
def E7 {B:St}{g:aB}{t:DT}{p:ak}{l:ah Tr}{c0:AV->St->Prop}{d0 v:ax AV}(ht:∀{B:St} {i:ak} {l:ah Tr} {x y:Tr} {a b c d d0 v:ax AV} {QB:aB->St->Prop},Hp B h l->l[i]? =ae x->l[i+1]? =ae y->i < 64->fZ x y->QB (bf g x y) B->
   WP (t ⟨FN (k+1),[],[ae (.ref h),a,b,c,d,ae (.int i),ae (.int ((i+1:ak):Int)),d0,v]⟩) B QB E)(a0:Hp B h l)(hp:p < l.length)(e0:l.length < 60)(hd:dN l)(q:c0 .none (B.set h (.list ((cN g l p).map tv)))):
  Body (QE t (.fn (aq (if g then "_siftdown_max" else "_siftdown")))) ⟨FN (k+1),[],[ae (.ref h),ae (.int p),ag,ag,ag,ag,ag,d0,v]⟩ B c0 E:=by
 obtain I:l[p]? =ae l[p]:=cy hp;generalize l[p]=new at I;refine x_sq (w_Set (w_Call (w_K (w_evs_cons (aM rfl (w_evs_nil (w_kws_nil (f_len a0 (cu rfl (n_next ?_))))))))));refine x_sq (w_Set (aM rfl (cu rfl (n_next ?_))));refine x_sq (w_Set (w_Idx (aM rfl (aM rfl (a0.at I (by exact CF 1 0 1 60 1 4096 hp e0 rfl) (cu rfl (n_next ?_)))))));refine x_sq (w_Set (w_Bin (w_Bin (w_K (aM rfl (E5 ⟨by decide,(by show p < 2 ^ 62;exact CF 1 0 1 60 1 4611686018427387904 hp e0 rfl)⟩ (w_K (b_add (cu rfl (n_next ?_))))))))));have T:((2:Int) * (p:Int)+1)=((2 * p+1:ak):Int):=rfl;simp only[gz,gA,aO];rw[T];refine x_sq (EX (R5 ht e0 63 p l B _ _ rfl hp (by exact CF 1 60 0 0 0 63 e0 ZZ rfl) a0 (λi x y L J G=>hd i (i+1) x y (by exact NE (a4 _)) J G) (λD F e a J G N=>n_next ?_)));obtain H':Hp (B.set h (.list (F.map tv))) h F:=a0.set;refine x_sq (w_Set (aM rfl (x_pIdx (aM rfl (aM rfl (sM H' ⟨by exact JP,by rw[aO];show D < F.length;exact TT G (EG N),by exact JC (2 ^ 62) (CF 1 0 1 60 1 4611686018427387904 G e0 rfl)⟩ (n_next ?_)))))));rw[eB,sP,oK];refine x_sq (x_Expr (w_Call (w_K (w_evs_cons (aM rfl (w_evs_cons (aM rfl (w_evs_cons (aM rfl (w_evs_nil (w_kws_nil (f_fn ?_))))))))))));have qm:D < F.length:=by exact TT G (EG N)
 refine R3 (new:=new) (a0.set (l':=F.set D new)) (by rw[l8 qm]) (λi x L M=>?_) (by exact CF 1 0 1 60 1 63 G e0 rfl) (n_next (x_nil (r_next ?_)))
 ·rw[jz (by exact NT (L))]at M;obtain⟨R,S,K⟩:=R6 63 l p F D J i x (by exact NE (L)) M;exact hd p R new x (by lia) I K
 ·rw[oK];have O:cN g l p=iC g new p D (F.set D new) D:=by
   unfold cN;rw[I];show iC g new p (fb g 63 l p).2 ((fb g 63 l p).1.set (fb g 63 l p).2 new) (fb g 63 l p).2=_;rw[<-J]
  rw[<-O];exact q
def E8 {g:aB}{p:ak}{l:ah Tr}{a0:AV->St->Prop}(c0:Hp B h l)(hp:p < l.length)(d0:l.length < 60)(hd:dN l)(q:a0 .none (B.set h (.list ((cN g l p).map tv)))):
  WP (FN (k+2) (.fn (aq (if g then "_siftup_max" else "_siftup"))) [.ref h,.int p] []) B a0 E:=by
 cases g with
 |false=>
  refine RA (E7 (g:=az) (t:=aR .Lt (bz (eL 0) (eL 5)) (bz (eL 0) (eL 6))) (λc0 I G F D q=>?_) c0 hp d0 hd q);exact w_tCmp (w_Idx (aM rfl (aM rfl (c0.at I (by exact FI 1 64 1 4096 F rfl) (w_Idx (aM rfl (aM rfl (c0.at G (by exact FI 1 64 2 4096 F rfl) (vW D q)))))))))
 |true=>
  refine RC (E7 (g:=aj) (t:=aR .Lt (bz (eL 0) (eL 6)) (bz (eL 0) (eL 5))) (λc0 I G F D q=>?_) c0 hp d0 hd q);exact w_tCmp (w_Idx (aM rfl (aM rfl (c0.at G (by exact FI 1 64 2 4096 F rfl) (w_Idx (aM rfl (aM rfl (c0.at I (by exact FI 1 64 1 4096 F rfl) (vW D.symm q)))))))))
def E9 {g:aB}{a b:Tr}:cN g [a,b] 0=if bf g a b then [a,b]else [b,a]:=by
 unfold cN;show iC g a 0 _ _ _=_;simp only[qF,vY,IP,List.getElem?_cons_zero,List.getElem?_nil,gz,gA,sN,vX,Nat.mul_zero,ke,Nat.mul_one,xk,Nat.reduceSub,Nat.reduceDiv,Nat.reduceLT,jB]
theorem Fb {g:aB}{a b c:Tr}:cN g [a,b,c] 0=if bf g b c then (if bf g a b then [a,b,c]else [b,a,c])else (if bf g a c then [a,b,c]else [c,b,a]):=by
 unfold cN;show iC g a 0 _ _ _=_;cases h:bf g b c <;>simp[qF,vY,sN,vX,h]<;>split <;>simp_all
theorem Fc {g:aB}{a b c d:Tr}:cN g [a,b,c,d] 0=if bf g b c then (if bf g a d then (if bf g a b then [a,b,c,d]else [b,a,c,d])else [b,d,c,a])else (if bf g a c then [a,b,c,d]else [c,b,a,d]):=by
 unfold cN;show iC g a 0 _ _ _=_;cases h:bf g b c <;>cases B:bf g a d <;>cases D:bf g a b <;>cases E:bf g a c <;>simp[qF,vY,sN,vX,h,B,D,E]
def Fd {g:aB}{a b c d:Tr}:cN g [a,b,c,d] 1=if bf g b d then [a,b,c,d]else [a,d,c,b]:=by
 unfold cN;show iC g b 1 _ _ _=_;cases h:bf g b d <;>simp[qF,vY,sN,vX,h]
def sQ {B:St}{a0:FL×ah (ax AV)->St->Prop}{put:DA}{U:AI}(h:WP (bx U) B (λo B=>o=ag/\a0 (.next,I) B) E):WP (forA body put (n+1) U ⟨F,O,I⟩) B a0 E:=
 zr (h.a5 λo B h=>by obtain⟨rfl,h⟩:=h;exact h)
def vZ {I:ah (ax AV)}{B:St}{a0:FL×ah (ax AV)->St->Prop}{put:DA}{U c0:AI}(h:WP (bx U) B (λo B=>o=ae (v,c0)/\WP (put v ⟨F,O,I⟩) B (λI B=>WP (body ⟨F,O,I⟩) B (Left (λI B=>WP (forA body put n c0 ⟨F,O,I⟩) B a0 E) a0) E) E) E):WP (forA body put (n+1) U ⟨F,O,I⟩) B a0 E:=
 zr (h.a5 λo B h=>by obtain⟨rfl,h⟩:=h;exact h)
def R7 {a0:FL×ah (ax AV)->St->Prop}{put:DA}{c d:Int}(h:a0 (.next,I) B):WP (forA body put (n+1) (.range c 0 d) ⟨F,O,I⟩) B a0 E:=sQ (aQ ⟨rfl,h⟩)
def R8 {I:ah (ax AV)}{B:St}{a0:FL×ah (ax AV)->St->Prop}{put:DA}{m:ak}{c d:Int}(h:WP (put (.int c) ⟨F,O,I⟩) B (λI B=>WP (body ⟨F,O,I⟩) B (Left (λI B=>WP (forA body put n (.range (c+d) m d) ⟨F,O,I⟩) B a0 E) a0) E) E):
  WP (forA body put (n+1) (.range c (m+1) d) ⟨F,O,I⟩) B a0 E:=vZ (aQ ⟨rfl,h⟩)
def R9 {g:aB}{new:Tr}:∀(n:ak) (l:ah Tr) (p:ak),(iC g new s n l p).length=l.length:=by
 intro n;induction n with
 |zero=>
  intro l p;exact eJ ..
 |succ n B=>
  intro l p;rw[sN];split
  ·split
   ·split
    ·rw[B,eJ]
    ·exact eJ ..
   ·exact eJ ..
  ·exact eJ ..
def Sa {g:aB}:∀(n:ak) (l:ah Tr) (p:ak),(fb g n l p).1.length=l.length:=by
 intro n;induction n with
 |zero=>
  intro l p;exact rfl
 |succ n B=>
  intro l p;rw[qF];split
  ·rfl
  ·split
   ·rw[B,eJ]
   ·split <;>rw[B,eJ]
def Ff {g:aB}{l:ah Tr}{p:ak}:(cN g l p).length=l.length:=by
 unfold cN;split
 ·rfl
 ·rw[R9,eJ,Sa]
theorem Sb {g:aB}{l:ah Tr}{a0:AV->St->Prop}(c0:Hp B h l)(d0:l.length < 60)(hd:∀m,m<=l.length / 2->∀l2,l2.length=l.length->eV g m l2=eV g (l.length / 2) l->dN l2)(q:a0 .none (B.set h (.list ((eV g (l.length / 2) l).map tv)))):WP (FN (k+3) (.fn (aq (if g then "_heapify_max" else "heapify"))) [.ref h] []) B a0 E:=by
 have F:∀(m:ak) (l2:ah Tr) (D:St) (b:ak) (L:ah (ax AV)),L[0]? =ae (ae (.ref h))->2 < L.length->m<=l.length / 2->m < b->l2.length=l.length->eV g m l2=eV g (l.length / 2) l->D=B.set h (.list (l2.map tv))->
   WP (forA (sq [b9 (aX (eK (.fn (aq (if g then "_siftup_max" else "_siftup")))) [(eL 0),(eL 2)] [])]) (pL 2) b (.range ((m:Int) - 1) m (-1)) ⟨FN (k+2),[],L⟩) D
    (jO (λI B=>WP (sq [] ⟨FN (k+2),[],I⟩) B (λx B=>WP (eP x.1) B a0 E) E) (λx B=>WP (eP x.1) B a0 E)) E:=by
  intro m;induction m with
  |zero=>
   intro l2 D b L O M R N K J G;obtain⟨b,rfl⟩:∃c,b=c+1:=⟨b - 1,by exact AN (SU) ((SW (N)))⟩;refine R7 ?_;refine n_next (x_nil (r_next ?_));rw[G,show l2=eV g (l.length / 2) l from J];exact q
  |succ m V=>
   intro l2 D b L O M R N K J G;obtain⟨b,rfl⟩:∃c,b=c+1:=⟨b - 1,by lia⟩;refine R8 ?_;have S:(((m+1:ak):Int) - 1)=(m:Int):=by show((m:Int)+1) - 1=(m:Int);exact Int.add_sub_cancel ..
   rw[S];refine cu rfl ?_;have W:Hp D h l2:=by rw[G];exact c0.set
   refine x_sq (x_Expr (w_Call (w_K (w_evs_cons (aM (v:=.ref h) (by rw[jz (by decide)];exact O) (w_evs_cons (aM (v:=.int m) (by rw[l8 M]) (w_evs_nil (w_kws_nil (f_fn ?_))))))))));refine E8 W (by lia) (by exact CF 0 0 1 60 1 60 (EL K) d0 rfl) (hd (m+1) R l2 K J) (n_next (x_nil (l_next ?_)));refine V (cN g l2 m) _ b _ (by rw[jz (by decide)];exact O) (by rw[eJ];exact M) (by exact FI 1 0 0 0 R rfl) (by exact FI 2 1 1 0 N rfl) (by rw[Ff];exact K) J (by rw[G,oK])
 have T:Body [
 aE (pL 1) (aX (eK (.bi "len")) [(eL 0)] []),
 fw az (pL 2) (vF (iU [(aY .FloorDiv (eL 1) (eK (.int 2)))])) [
  b9 (aX (eK (.fn (aq (if g then "_siftup_max" else "_siftup")))) [(eL 0),(eL 2)] [])]] ⟨FN (k+2),[],[ae (.ref h),ag,ag,ag,ag,ag,ag]⟩ B a0 E:=by
  refine x_sq (w_Set (w_Call (w_K (w_evs_cons (aM rfl (w_evs_nil (w_kws_nil (f_len c0 (cu rfl (n_next ?_))))))))));rw[aO];have S:((l.length:Int)).fdiv 2=((l.length / 2:ak):Int):=by rw[IL _ (by decide)];rfl
  have U:l.length / 2<=l.length:=IK ..;refine x_sq (w_For (w_iRev (w_rRange (w_evs_cons (w_Bin (aM rfl (w_K (ph ⟨by decide,by decide⟩ (w_evs_nil ?_)))))))));rw[S];refine pg (by exact KN (by decide)) (by exact JC 4096 (CF 0 0 1 60 1 4096 U d0 rfl)) ?_;rw[eB];refine w_rev ⟨rfl,?_⟩;exact F (l.length / 2) l B 128 _ rfl (by simp) (a4 _) (by exact CF 0 0 1 60 1 128 U d0 rfl) rfl rfl c0.same.symm
 cases g with
 |false=>exact RF T
 |true=>exact RG T
def Sd {g:aB}{l:ah Tr}{t t0:Tr}{a0:AV->St->Prop}(c0:Hp B h l)(h0:l[0]? =ae t0)(d0:l.length < 60)(hd:dN (l.set 0 t))(q:a0 (tv t0) (B.set h (.list ((cN g (l.set 0 t) 0).map tv)))):WP (FN (k+3) (.fn (aq (if g then "_heapreplace_max" else "heapreplace"))) [.ref h,tv t] []) B a0 E:=by
 obtain D:0 < l.length:=(cF.mp h0).1;have T:Body [
 aE (pL 2) (bz (eL 0) (eK (.int 0))),
 aE (dM (eL 0) (eK (.int 0))) (eL 1),
 b9 (aX (eK (.fn (aq (if g then "_siftup_max" else "_siftup")))) [(eL 0),(eK (.int 0))] []),
 bL (eL 2)] ⟨FN (k+2),[],[ae (.ref h),ae (tv t),ag,ag]⟩ B a0 E:=by
  refine x_sq (w_Set (w_Idx (aM rfl (w_K (c0.at (p:=0) h0 (by exact RR 1 4096 rfl) (cu rfl (n_next ?_)))))));refine x_sq (w_Set (aM rfl (x_pIdx (aM rfl (w_K (sM c0 ⟨by decide,by rw[aO];exact D,by decide⟩ (n_next ?_)))))));rw[show(0:Int).toNat=0 from rfl,sP];refine x_sq (x_Expr (w_Call (w_K (w_evs_cons (aM rfl (w_evs_cons (w_K (w_evs_nil (w_kws_nil (f_fn ?_))))))))));refine E8 (p:=0) (c0.set (l':=l.set 0 t)) (by rw[eJ];exact D) (by rw[eJ];exact d0) hd (n_next ?_);rw[oK];exact x_sq (x_Ret (aM rfl (n_ret (r_ret q))))
 cases g with
 |false=>exact RD T
 |true=>exact RE T
def Fg {z:Tr}(h1:fL x y=aj)(h2:fL y z=aj):fL x z=aj:=by
 unfold fL at *;split at h1 <;>split at h2 <;>split <;>simp_all <;>lia
def Fh (a0:fZ x y)(h:fL x y=az):fL y x=aj:=by
 unfold fL at *;by_cases e:x.1=y.1
 ·rw[aN e]at h;rw[aN e.symm];have:=a0 e;have:=jE h;exact ja (by lia)
 ·rw[aK e]at h;rw[aK λB=>e B.symm];have:=jE h;exact ja (by lia)
def lW {g:aB}{z:Tr}(h1:bf g x y=aj)(h2:bf g y z=aj):bf g x z=aj:=by
 cases g with
 |false=>exact Fg h1 h2
 |true=>exact Fg (x:=z) h2 h1
def lX {g:aB}(a0:fZ x y)(h:bf g x y=az):bf g y x=aj:=by
 cases g with
 |false=>exact Fh a0 h
 |true=>exact Fh a0.symm h
def kP.len {g:aB}{l:ah Tr}(h:kP g l):1<=l.length/\l.length<=4:=by
 rcases l with _ |⟨_,_ |⟨_,_ |⟨_,_ |⟨_,_ |⟨_,_⟩⟩⟩⟩⟩
 ·exact h.elim
 ·exact⟨a4 _,iZ rfl⟩
 ·exact⟨iZ rfl,iZ rfl⟩
 ·exact⟨iZ rfl,iZ rfl⟩
 ·exact⟨iZ rfl,iZ rfl⟩
 ·exact h.elim
def kP.root {g:aB}{a:Tr}{l:ah Tr}(h:kP g (a :: l)):∀x∈l,bf g a x=aj:=by
 rcases l with _ |⟨b,_ |⟨c,_ |⟨d,_ |⟨_,_⟩⟩⟩⟩
 ·intro x B;cases B
 ·intro x B;rw[aJ.mp B];exact h
 ·intro x B;rcases bu.mp B with rfl |B
  ·exact h.1
  ·rw[aJ.mp B];exact h.2
 ·intro x B;rcases bu.mp B with rfl |B
  ·exact h.1
  rcases bu.mp B with rfl |B
  ·exact h.2.1
  ·rw[aJ.mp B];exact lW h.1 h.2.2
 ·exact h.elim
def dN.get {l:ah Tr}(h:dN l)(i j:ak)(hi:l[i]? =ae x)(hj:l[j]? =ae y)(a0:i≠j:=by decide):fZ x y:=h i j x y a0 hi hj
def sR {a b c:Tr}:[c,b,a].Perm [a,b,c]:=Bx [a,b,c]
def Fi {a b c d:Tr}:[b,d,c,a].Perm [a,b,c,d]:=
 (Bx [a,c,d,b]).trans (.cons a (By (l₁:=[c,d]) (l₂:=[b])))
theorem sS {g:aB}{t:Tr}{l:ah Tr}(hl:l.length<=3)(nO:∀b c d,l=[b,c,d]->bf g b d=aj)(hd:dN (t :: l)):kP g (cN g (t :: l) 0)/\(cN g (t :: l) 0).Perm (t :: l):=by
 rcases l with _ |⟨b,_ |⟨c,_ |⟨d,_ |⟨_,_⟩⟩⟩⟩
 ·exact⟨trivial,.refl _⟩
 ·rw[E9];obtain n1:=hd.get 0 1 rfl rfl;split
  ·rename_i c;exact⟨c,.refl _⟩
  ·rename_i c;exact⟨lX n1 (by simpa using c),.swap ..⟩
 ·rw[Fb];obtain n1:=hd.get 0 1 rfl rfl;obtain n2:=hd.get 0 2 rfl rfl;obtain n3:=hd.get 1 2 rfl rfl;split
  ·rename_i c1;split
   ·rename_i c2;exact⟨⟨c2,lW c2 c1⟩,.refl _⟩
   ·rename_i c2;exact⟨⟨lX n1 (by simpa using c2),c1⟩,.swap ..⟩
  ·rename_i c1;obtain c1:=lX n3 (by simpa using c1);split
   ·rename_i c2;exact⟨⟨lW c2 c1,c2⟩,.refl _⟩
   ·rename_i c2;exact⟨⟨c1,lX n2 (by simpa using c2)⟩,sR⟩
 ·rw[Fc];obtain n1:=hd.get 0 1 rfl rfl;obtain n2:=hd.get 0 2 rfl rfl;obtain n3:=hd.get 1 2 rfl rfl;obtain n4:=hd.get 0 3 rfl rfl;obtain nO:=nO b c d rfl;split
  ·rename_i c1;split
   ·rename_i c2;split
    ·rename_i c3;exact⟨⟨c3,lW c3 c1,nO⟩,.refl _⟩
    ·rename_i c3;exact⟨⟨lX n1 (by simpa using c3),c1,c2⟩,.swap ..⟩
   ·rename_i c2;exact⟨⟨nO,c1,lX n4 (by simpa using c2)⟩,Fi⟩
  ·rename_i c1;obtain c1:=lX n3 (by simpa using c1);split
   ·rename_i c2;exact⟨⟨lW c2 c1,c2,nO⟩,.refl _⟩
   ·rename_i c2;exact⟨⟨c1,lX n2 (by simpa using c2),nO⟩,(sR (a:=t) (b:=b) (c:=c)).append_right [d]⟩
 ·exact absurd hl (by simp)
def Se {g:aB}{t a:Tr}{l:ah Tr}(h:kP g (a :: l))(hd:dN (t :: l)):kP g (cN g (t :: l) 0)/\(cN g (t :: l) 0).Perm (t :: l):=
 sS (Hr h.len.2) (λu u u e=>by subst e;exact h.2.2) hd
theorem Sf {g:aB}{l:ah Tr}(h1:1<=l.length)(h4:l.length<=4)(hd:dN l):kP g (eV g (l.length / 2) l)/\(eV g (l.length / 2) l).Perm l:=by
 rcases l with _ |⟨a,_ |⟨b,_ |⟨c,_ |⟨d,_ |⟨_,_⟩⟩⟩⟩⟩
 ·exact absurd h1 (by simp)
 ·rw[show [a].length / 2=0 from by simp];exact⟨trivial,.refl _⟩
 ·rw[show [a,b].length / 2=1 from by simp];exact sS (iZ rfl) (λu u u e=>by cases e) hd
 ·rw[show [a,b,c].length / 2=1 from by simp];exact sS (iZ rfl) (λu u u e=>by cases e) hd
 ·rw[show [a,b,c,d].length / 2=2 from by simp];show kP g (cN g (cN g [a,b,c,d] 1) 0)/\(cN g (cN g [a,b,c,d] 1) 0).Perm _;rw[Fd];obtain n1:=hd.get 1 3 rfl rfl;split
  ·rename_i c1;exact sS (a4 _) (λu u u e=>by cases e;exact c1) hd
  ·rename_i c1;obtain c1:=lX n1 (by simpa using c1);obtain pm:[a,d,c,b].Perm [a,b,c,d]:=.cons a (Bx [b,c,d]);have hd2:dN [a,d,c,b]:=by
    intro i j x y Wu hx hy;have f:∀i x,[a,d,c,b][i]? =ae x->∃k,[a,b,c,d][k]? =ae x/\k=(if i=1 then 3 else if i=3 then 1 else i):=by
     intro i x hx;rcases i with _ |_ |_ |_ |n
     ·exact⟨0,hx,rfl⟩
     ·exact⟨3,hx,rfl⟩
     ·exact⟨2,hx,rfl⟩
     ·exact⟨1,hx,rfl⟩
     ·simp at hx
    obtain⟨k,hk,ek⟩:=f i x hx;obtain⟨m,hm,em⟩:=f j y hy;refine hd k m x y ?_ hk hm;rw[ek,em];split <;>split <;>(try split)<;>(try split)<;>lia
   obtain⟨r1,r2⟩:=sS (t:=a) (l:=[d,c,b]) (a4 _) (λu u u e=>by cases e;exact c1) hd2;exact⟨r1,r2.trans pm⟩
 ·exact absurd h4 (by simp)
def Fj {t:Tr}:iD b t (x :: S)=if bg b t.1 x.1 then t :: x :: S else x :: iD b t S:=rfl
def Sg {t x:Int×AV}{S:ah (Int×AV)}:bV b t (x :: S)=if bg b t.1 x.1 then t :: x :: S else x :: bV b t S:=rfl
def zx {t:Tr}:∀{S:ah Tr},(iD b t S).map kv=bV b (kv t) (S.map kv):=by
 intro l;induction l with
 |nil=>
  exact rfl
 |cons x S B=>
  show(if bg b t.1 x.1 then t :: x :: S else x :: iD b t S).map kv=(if bg b t.1 x.1 then kv t :: kv x :: S.map kv else kv x :: bV b (kv t) (S.map kv));split
  ·rfl
  ·rw[f9,B]
def pn {t:Tr}:∀{S:ah Tr},(iD b t S).Perm (t :: S):=by
 intro l;induction l with
 |nil=>
  exact .refl _
 |cons x S B=>
  rw[Fj];split
  ·exact .refl _
  ·exact(wN x B).trans (.swap ..)
def Fk {t:Tr}(h:bg b t.1 x.1=aj):bf b t x=aj:=by
 unfold bg at h;unfold bf fL;cases b with
 |false=>
  have h:=gx h;show(if t.1=x.1 then _ else _)=aj;rw[aK (by lia)];exact ja h
 |true=>
  have h:=gx h;show(if x.1=t.1 then _ else _)=aj;rw[aK (by lia)];exact ja h
def Sh {t:Tr}(h:bg b t.1 x.1=az)(hl:if b then t.2.1 < x.2.1 else x.2.1 < t.2.1):bf b x t=aj:=by
 unfold bg at h;unfold bf fL;cases b with
 |false=>
  obtain h: ¬ t.1 < x.1:=jE h;have hl:x.2.1 < t.2.1:=hl;show(if x.1=t.1 then _ else _)=aj;split
  ·exact ja hl
  ·exact ja (by lia)
 |true=>
  obtain h: ¬ x.1 < t.1:=jE h;obtain hl:t.2.1 < x.2.1:=hl;show(if t.1=x.1 then _ else _)=aj;split
  ·exact ja hl
  ·exact ja (by lia)
def Fl {t:Tr}:∀{S:ah Tr},gJ b S->Later b t S->gJ b (iD b t S):=by
 intro l;induction l with
 |nil=>
  intro _ _;exact Bz ..
 |cons x S ih=>
  intro h hl;obtain⟨h1,h2⟩:=lD.mp h;rw[Fj];split
  ·rename_i hb;refine lD.mpr ⟨λy hy=>?_,h⟩;rcases bu.mp hy with rfl |hy
   ·exact Fk hb
   ·exact lW (Fk hb) (h1 y hy)
  ·rename_i hb;refine lD.mpr ⟨λy hy=>?_,ih h2 λz hz=>hl z (.tail _ hz)⟩;rcases bu.mp (pn.mem_iff.mp hy)with rfl |hy
   ·exact Sh (by simpa using hb) (hl x (.head _))
   ·exact h1 y hy
def v3:bf b x x=az:=by
 have:fL x x=az:=by
  unfold fL;rw[aN rfl];exact pH (Int.lt_irrefl _)
 cases b <;>exact this
def Si {a0:ah Tr}(hs:gJ b S)(ht:gJ b a0)(p:S.Perm a0):S=a0:=
 List.Perm.eq_of_pairwise (λx y u u D B=>by
  have:=lW D B;rw[v3]at this;cases this) hs ht p
def gJ.dist (h:gJ b S):dN S:=by
 intro i j x y B J I;have T:∀{x y:Tr},bf b x y=aj->fZ x y:=by
  intro x y h G H;unfold bf fL at h;cases b with
  |false=>
   obtain h:(if x.1=y.1 then decide (x.2.1 < y.2.1)else decide (x.1 < y.1))=aj:=h;rw[aN G,H]at h;have:=gx h
   lia
  |true=>
   obtain h:(if y.1=x.1 then decide (y.2.1 < x.2.1)else decide (y.1 < x.1))=aj:=h;rw[aN G.symm,H]at h;have:=gx h
   lia
 obtain⟨E,rfl⟩:=cF.mp J;obtain⟨F,rfl⟩:=cF.mp I;obtain D:=xl.mp h;rcases IQ B with c |c
 ·exact T (D i j E F c)
 ·exact(T (D j i F E c)).symm
def dN.perm {a0:ah Tr}(h:dN S)(p:S.Perm a0):dN a0:=by
 have e:∀S:ah Tr,dN S↔S.Pairwise fZ:=by
  intro S;constructor
  ·intro h;rw[xl];intro i j D E B;exact h i j _ _ (by exact NE (B)) (cy D) (cy E)
  ·intro h i j x y B H G;obtain⟨D,rfl⟩:=cF.mp H;obtain⟨E,rfl⟩:=cF.mp G;obtain F:=xl.mp h;rcases IQ B with c |c
   ·exact F i j D E c
   ·exact(F j i E D c).symm
 rw[e]at h |-;exact(List.Perm.pairwise_iff (λh=>h.symm) p).mp h
def Sj {α β:Type}{a0:α->β}{lt:β->β->aB}{x:α}:∀{l:ah α},sortBy.cf lt (a0 x) (l.map a0)=(sortBy.cf (λa b=>lt (a0 a) (a0 b)) x l).map a0:=by
 intro l;induction l with
 |nil=>
  exact rfl
 |cons y l B=>
  show(if lt (a0 y) (a0 x)then a0 y :: sortBy.cf lt (a0 x) (l.map a0)else a0 x :: a0 y :: l.map a0)=(if lt (a0 y) (a0 x)then y :: sortBy.cf (λa b=>lt (a0 a) (a0 b)) x l else x :: y :: l).map a0;split
  ·rw[f9,B]
  ·rfl
def lP {α β:Type}{a0:α->β}{lt:β->β->aB}:∀{l:ah α},sortBy lt (l.map a0)=(sortBy (λa b=>lt (a0 a) (a0 b)) l).map a0:=by
 intro l;induction l with
 |nil=>
  exact rfl
 |cons x l B=>
  show sortBy.cf lt (a0 x) (sortBy lt (l.map a0))=_;rw[B,Sj];rfl
def Fm {α:Type}{lt:α->α->aB}{x:α}:∀{l:ah α},(sortBy.cf lt x l).Perm (x :: l):=by
 intro l;induction l with
 |nil=>
  exact .refl _
 |cons y l B=>
  show(if lt y x then y :: sortBy.cf lt x l else x :: y :: l).Perm _;split
  ·exact(wN y B).trans (.swap ..)
  ·exact .refl _
def Fn {α:Type}{lt:α->α->aB}:∀{l:ah α},(sortBy lt l).Perm l:=by
 intro l;induction l with
 |nil=>
  exact .refl _
 |cons _ r B=>
  exact Fm.trans (.cons _ B)
def Sk:∀{l:ah Tr},gJ b l->(∀y∈l,fZ x y)->gJ b (sortBy.cf (bf b) x l):=by
 intro l;induction l with
 |nil=>
  intro _ _;exact Bz ..
 |cons y l ih=>
  intro h hd;obtain⟨h1,h2⟩:=lD.mp h;show gJ b (if bf b y x then y :: sortBy.cf (bf b) x l else x :: y :: l);split
  ·rename_i hy;refine lD.mpr ⟨λz hz=>?_,ih h2 λz hz=>hd z (.tail _ hz)⟩;rcases bu.mp (Fm.mem_iff.mp hz)with rfl |hz
   ·exact hy
   ·exact h1 z hz
  ·rename_i hy;obtain vp:bf b x y=aj:=lX (hd y (.head _)).symm (by simpa using hy);refine lD.mpr ⟨λz hz=>?_,h⟩;rcases bu.mp hz with rfl |hz
   ·exact vp
   ·exact lW vp (h1 z hz)
def dN.tail {l:ah Tr}(h:dN (x :: l)):dN l:=λi j a b D B E=>h (i+1) (j+1) a b (by lia) B E
def dN.head {l:ah Tr}(h:dN (x :: l)):∀y∈l,fZ x y:=λy D=>by
 obtain⟨i,B,e⟩:=List.getElem_of_mem D;exact h 0 (i+1) x y (by exact NE (FI 0 0 1 1 ZZ rfl)) rfl (by rw[IP,cy B,e])
def Sl:∀{l:ah Tr},dN l->gJ b (sortBy (bf b) l):=by
 intro l;induction l with
 |nil=>
  intro _;exact BA
 |cons x l B=>
  intro h;exact Sk (B h.tail) λy D=>h.head y (Fn.mem_iff.mp D)
def Fo:cX (x.1,x.2.1) (y.1,y.2.1)=fL x y:=by
 unfold cX fL;by_cases e:x.1=y.1
 ·rw[aN e];simp[e]
 ·rw[aK e];simp[e]
def Sm:rM (L.map tv)=ae (L.map kk):=by
 induction L with
 |nil=>rfl
 |cons t L B=>show(rM (L.map tv)).map _=_;rw[B];rfl
def Sn (hd:dN L):((L.map kk).map (·.1)).Nodup:=by
 rw[oJ];unfold List.Nodup;rw[List.pairwise_map,xl];intro i j D E B e;have:=hd i j _ _ (by exact NE (B)) (cy D) (cy E);obtain e:(L[i].1,L[i].2.1)=(L[j].1,L[j].2.1):=e;injection e with e1 e2;exact this e1 e2
def So {a0:ah AV->St->Prop}(h4:L.length<=4)(hs:gJ b S)(hp:L.Perm S)(q:a0 (S.map tv) B):WP (uG b (L.map tv)) B a0 E:=by
 obtain D:dN L:=hs.dist.perm hp.symm;unfold uG;refine av (dU Sm (av (bw ⟨Sn D,by rw[aO];exact h4⟩ (aQ ?_))));obtain e:(λx y:(Int×Int)×AV=>if b then cX y.1 x.1 else cX x.1 y.1)=(λx y=>if b then cX y.1 x.1 else cX x.1 y.1):=rfl;rw[lP,oJ];have F:(λa c:Tr=>if b then cX (kk c).1 (kk a).1 else cX (kk a).1 (kk c).1)=bf b:=by
  funext a c
  show(if b then cX (c.1,c.2.1) (a.1,a.2.1)else cX (a.1,a.2.1) (c.1,c.2.1))=_;rw[Fo,Fo];rfl
 rw[F,Si (Sl D) hs (Fn.trans hp)];exact q
def Sp:bf (!b) x y=bf b y x:=by cases b <;>rfl
def Fp {r:Tr}(h:kP (!b) (r :: L))(hs:gJ b S)(hp:(r :: L).Perm S):∃S0,S=S0++[r]/\L.Perm S0:=by
 have D:S≠[]:=λe=>by rw[e]at hp;exact absurd hp.length_eq (by simp)
 have e:=BC D;generalize S.getLast D=z at e;generalize S.dropLast=S0 at e;subst e;have H:z=r:=by
  obtain E:z∈r :: L:=hp.symm.mem_iff.mp (hY _ (aJ.mpr rfl));rcases bu.mp E with e |Sq
  ·exact e
  ·have F:=h.root z Sq;rw[Sp]at F;have B:r∈S0++[z]:=hp.mem_iff.mp (.head _);rcases dX.mp B with B |B
   ·obtain G:=(xm.mp hs).2.2 r B z (aJ.mpr rfl);have:=lW F G;rw[v3]at this;cases this
   ·exact(aJ.mp B).symm
 subst H;exact⟨S0,rfl,List.Perm.cons_inv (hp.trans (By.trans (.refl _)))⟩
def Sr {t r:Tr}(h:bg b t.1 r.1=aj):∀{S:ah Tr},iD b t (S++[r])=iD b t S++[r]:=by
 intro l;induction l with
 |nil=>
  show(if bg b t.1 r.1 then _ else _)=_;rw[aN h];rfl
 |cons x S B=>
  show(if bg b t.1 x.1 then _ else x :: iD b t (S++[r]))=(if bg b t.1 x.1 then _ else _)++[r];split
  ·rfl
  ·rw[B];rfl
def Ss {t:Tr}:∀{S:ah Tr},(∀x∈S,bg b t.1 x.1=az)->iD b t S=S++[t]:=by
 intro l;induction l with
 |nil=>
  intro _;exact rfl
 |cons x S B=>
  intro h;show(if bg b t.1 x.1 then _ else x :: iD b t S)=_;rw[h x (.head _),B λy D=>h y (.tail _ D)];rfl
def Su {t r:Tr}(h:bg b t.1 r.1=az)(hx:bf b x r=aj):bg b t.1 x.1=az:=by
 unfold bg at h |-;unfold bf fL at hx;cases b with
 |false=>
  obtain h:=jE h;obtain hx:(if x.1=r.1 then decide (x.2.1 < r.2.1)else decide (x.1 < r.1))=aj:=hx;refine pH ?_;by_cases e:x.1=r.1
  ·exact λg=>h (e ▸ g)
  ·rw[aK e]at hx;exact λg=>h (um g (gx hx))
 |true=>
  obtain h:=jE h;obtain hx:(if r.1=x.1 then decide (r.2.1 < x.2.1)else decide (r.1 < x.1))=aj:=hx;refine pH ?_;by_cases e:r.1=x.1
  ·exact λg=>h (e ▸ g)
  ·rw[aK e]at hx;exact λg=>h (um (gx hx) g)
def Fq {K:ah (Int×AV)}{x:Int×AV}:fx b n (K++[x])=(bV b x (fx b n K)).take n:=by
 unfold fx;rw[uv];rfl
def zy {x:Int×AV}:∀{S:ah (Int×AV)},(bV b x S).length=S.length+1:=by
 intro l;induction l with
 |nil=>
  exact rfl
 |cons y S B=>
  rw[Sg];split
  ·rfl
  ·rw[fm,B];rfl
def Sv:∀(K S:ah (Int×AV)),S.length<=n->(K.foldl (λS x=>(bV b x S).take n) S).length=min n (S.length+K.length):=by
 intro l;induction l with
 |nil=>
  intro S h;show S.length=min n (S.length+0);exact AN ((LO (h))) (MR)
 |cons x K B=>
  intro S h;show(K.foldl _ ((bV b x S).take n)).length=_;rw[B _ (by rw[er];exact ML),er,zy,fm];rcases IS n (S.length+1)with h1 |h1
  ·rw[m7 (ny h1),m7 (tm _ _),m7 (TT (Nat.le_of_lt_succ h1) AL)]
  ·rw[tL h1,qL,Ag 1]
def Fs (K:ah (Int×AV)):(fx b n K).length=min n K.length:=by
 unfold fx;rw[Sv K [] (cZ _)];show min n (0+_)=_;rw[ke]
def kQ.skip {r:Tr}{K:ah (Int×AV)}{k:Int}{e:AV}(h:kQ b n (r :: L) S K)(hb:bg b k r.1=az):kQ b n (r :: L) S (K++[(k,e)]):=by
 obtain⟨F,D,G,I,E⟩:=h;refine⟨F,D,G,?_,E⟩;obtain⟨H,rfl,_⟩:=Fp F D G;rw[Fq,<-I];obtain J:(k,e)=kv (k,0,e):=rfl;rw[J,<-zx,Ss (λx B=>?_)]
 ·rw[dH (l₁:=H++[r]),IT (by rw[aO];exact E)]
 ·rcases dX.mp B with B |B
  ·exact Su (t:=(k,0,e)) hb ((xm.mp D).2.2 x B r (aJ.mpr rfl))
  ·rw[aJ.mp B];exact hb
theorem kQ.swap {r:Tr}{K:ah (Int×AV)}{k o:Int}{e:AV}(h:kQ b n (r :: L) S K)(hb:bg b k r.1=aj)(hl:Later b (k,o,e) S):
  dN ((k,o,e) :: L)/\∃S',kQ b n (cN (!b) ((k,o,e) :: L) 0) S' (K++[(k,e)])/\∀x∈S',x=(k,o,e)\/x∈S:=by
 obtain⟨I,H,Q,M,J⟩:=h;obtain⟨E,rfl,D⟩:=Fp I H Q;obtain F:Later b (k,o,e) E:=λx B=>hl x (gO _ B);have Ft:=Fl (xm.mp H).1 F;have qG:((k,o,e) :: L).Perm (iD b (k,o,e) E):=(wN _ D).trans pn.symm;have G:dN ((k,o,e) :: L):=Ft.dist.perm qG.symm;obtain⟨O,N⟩:=Se I G;refine⟨G,iD b (k,o,e) E,⟨O,Ft,N.trans qG,?_,?_⟩,λx B=>?_⟩
 ·rw[Fq,<-M];obtain R:(k,e)=kv (k,o,e):=rfl;rw[R,<-zx,Sr hb,dH,IT ?_];rw[aO,pn.length_eq,<-J,bK];rfl
 ·rw[pn.length_eq,<-J,bK];rfl
 ·rcases bu.mp (pn.mem_iff.mp B)with rfl |B
  ·exact .inl rfl
  ·exact .inr (gO _ B)
def Fr.refl (D:ak->Prop)(B:St):Fr D B B:=⟨a4 _,λu u u=>rfl⟩
def Fr.trans {a b c:St}(x:Fr D a b)(y:Fr D b c):Fr D a c:=
 ⟨dW x.len y.len,λi E B=>(y.keep i (gT E x.len) B).trans (x.keep i E B)⟩
def Fr.mono {D':ak->Prop}{a b:St}(x:Fr D a b)(h:∀i,D i->D' i):Fr D' a b:=⟨x.len,λi F B=>x.keep i F λE=>B (h i E)⟩
def Fr.get {a b:St}(x:Fr D a b)(h:a[i]? =ae o)(hd: ¬ D i):b[i]? =ae o:=by
 rw[x.keep i (cF.mp h).1 hd];exact h
def Fr.app {l:St}:Fr D B (B++l):=⟨by rw[bK];exact AL,λi E u=>ly E⟩
def Fr.set (h:D i):Fr D B (B.set i o):=⟨by rw[eJ];exact a4 _,λj u E=>by
 by_cases e:i=j
 ·subst e;exact absurd h E
 ·exact jz e⟩
def Fr.old {D':ak->Prop}{a b c:St}(x:Fr D a b)(y:Fr D' b c)(h:∀i,i < a.length->D' i->D i):Fr D a c:=
 ⟨dW x.len y.len,λi B E=>(y.keep i (gT B x.len) λF=>E (h i B F)).trans (x.keep i B E)⟩
def gp {a0:AV->St->Prop}{x:aI}{c:ak}(e:O.lookup (aq x)=ae c)(e2:B[c]? =ae (.cell (ae v)))(h:a0 v B):WP (eC x ⟨F,O,I⟩) B a0 E:=EV e e2 h
def y_L {a0:AV->St->Prop}(h:a0 v B)(e:I[i]? =ae (ae v):=by wtm_at "pr"):WP (eL i ⟨F,O,I⟩) B a0 E:=EU e h
def y_pL {a0:ah (ax AV)}(h:QL a0 B)(e:I.set i (ae v)=a0:=by wtm_at "pl"):WP (pL i v ⟨F,O,I⟩) B QL E:=cu e h
def y_C {a0:AV->St->Prop}{x:aI}{c:ak}(h:a0 v B)(e:O.lookup (aq x)=ae c:=by wtm_at "cel")(e2:B[c]? =ae (.cell (ae v)):=by wtm_at "lk"):WP (eC x ⟨F,O,I⟩) B a0 E:=EV e e2 h
def y_pC {x:aI}{c:ak}{v':ax AV}(h:QL I (B.set c (.cell (ae v))))(e:O.lookup (aq x)=ae c:=by wtm_at "cel")(e2:B[c]? =ae (.cell v'):=by wtm_at "lk"):WP (pC x v ⟨F,O,I⟩) B QL E:=nV e e2 h
def x_pAttr {o:DE}{x:aI}(h:WP (o ⟨F,O,I⟩) B (EA x v I QL E) E):WP (so o x v ⟨F,O,I⟩) B QL E:=Rk h
def x_Try {QF:FL×ah (ax AV)->St->Prop}{put:DA}{a0:aI->aB}{hd:DS}{o:ah DS}(h:WP (e ⟨F,O,I⟩) B (ED put ⟨F,O,I⟩ o F O QF E) (EE a0 (hd ⟨F,O,I⟩) QF E)):WP (sr put e a0 hd o ⟨F,O,I⟩) B QF E:=Rr h
def iH {cs:ah (au×ak)}{a0:AV->St->Prop}{c0:bN}{e0:aB}{d0:DI}{put:DA}{L:ah (ax AV)}(hp:e9 c0=aj)(hc:fK ⟨F,O,I⟩ c0.names []=ae cs)(hn:∀cs,kq c0.names cs=P.pure cs)(hL:(c0.names.map λc=>ag)=L)(h:WP (d0 ⟨F,O,I⟩) B (EF e0 elt ifs put ⟨F,cs,L⟩ a0 E) E):WP (d9 c0 e0 d0 put ifs elt ⟨F,O,I⟩) B a0 E:=by
 subst hL;exact Rx hp hc hn h
def v5 {a0:AV->St->Prop}{o:DE}{l:ah DE}(hk:l.length+ks.length < 28)(h:WP (o ⟨F,O,I⟩) B (EC F mm l ks ⟨F,O,I⟩ a0 E) E):WP (bX o mm l ks ⟨F,O,I⟩) B a0 E:=
 EW hk (h.a5 λu u h=>⟨λc=>absurd c h.1,λu=>h.2⟩)
def y_pTup {l:ah DA}(h:WP (jg l vs Q) B QL E)(e:gb v=ae vs:=by wtm_at "pr")(hl:vs.length=l.length:=by wtm_at "pr"):WP (cx l v Q) B QL E:=vT e hl h
abbrev y_Aug {st:St}{E:aI->St->Prop}{QF:FL×ah (ax AV)->St->Prop}{rt:RT}{put:DA}{e x:DE}:=vU (Q:=rt) (B:=st) (a0:=QF) (E:=E) (e:=e) (x:=x) (put:=put) (op:=.Add) (.inl rfl)
abbrev y_Sub {st:St}{E:aI->St->Prop}{QF:FL×ah (ax AV)->St->Prop}{rt:RT}{put:DA}{e x:DE}:=vU (Q:=rt) (B:=st) (a0:=QF) (E:=E) (e:=e) (x:=x) (put:=put) (op:=.Sub) (.inr rfl)
def y_Meth {a0:AV->St->Prop}{o:DE}{l:ah DE}(h:WP (o ⟨F,O,I⟩) B (EC F mm l ks ⟨F,O,I⟩ a0 E) E)(hk:l.length+ks.length < 28:=by decide):WP (bX o mm l ks ⟨F,O,I⟩) B a0 E:=v5 hk h
def Sw {a0:AV->St->Prop}{a:fg}{b:aH}{s:bN}{c:ah (au×ak)}(e:B[i]? =ae (.lam a b s c))(h:WP (F (.ref i) args kw) B a0 E):WP (et ⟨F,O,I⟩ (.ref i) args kw) B a0 E:=
 av (dj e h)
def Sx {a0:AV->St->Prop}{s:ax ak}(e:B[i]? =ae (.iter s k))(h:E "TypeError" B):WP (et ⟨F,O,I⟩ (.bi "len") [.ref i] []) B a0 E:=mU rfl (av (fE (av (eZ (av (eh (av (dj e (ET h)))))))))
def Fu {a0:AV->St->Prop}(e:B[i]? =ae (.list l))(h:a0 (.ref B.length) (B++[.iter (ae i) 0])):WP (et ⟨F,O,I⟩ (.bi "iter") [.ref i] []) B a0 E:=mU rfl (av (fE (av (eZ (av (eh (av (dj e (av (eI (aQ h)))))))))))
def Sy {a0:AV->St->Prop}{s:ax ak}(e:B[i]? =ae (.iter s k))(h:a0 (.ref i) B):WP (et ⟨F,O,I⟩ (.bi "iter") [.ref i] []) B a0 E:=mU rfl (av (fE (av (eZ (av (eh (av (dj e (aQ h)))))))))
def Sz {a0:AV->St->Prop}(h:a0 (.ref B.length) (B++[.obj])):WP (et ⟨F,O,I⟩ (.ty "object") [] []) B a0 E:=mV rfl (av (zw (av (eZ (av (eI (aQ h)))))))
def hW {a0:b8->St->Prop}(e:B[i]? =ae (.list l))(hm:mm= .append\/mm= .extend\/mm= .pop\/mm= .sort)(h:a0 () B):WP (lG (.ref i) mm) B a0 E:=av (dj e (bw hm h))
def jt {a0:AV->St->Prop}(e:B[i]? =ae (.list l))(hl:l.length<=4096)(h:a0 .none (B.set i (.list (l++[v])))):WP (e8 F (.ref i) .append [v] []) B a0 E:=
 av (eh (av (fE (av (eZ (av (fB e (av (bw hl (av (k7 (aQ h))))))))))))
def sT {n:au}{x:AV}{l:ah (au×AV)}{a0:AV×ah (au×AV)->St->Prop}(h:a0 (x,l) B):WP (p6 n ((n,x) :: l)) B a0 E:=av (bw rfl (aQ h))
def zA {a0:aB->St->Prop}(h:a0 b B):WP (uI (if b then [(aq "reverse",.bool aj)]else [])) B a0 E:=by
 cases b with
 |false=>exact h
 |true=>exact av (sT h)
def t_t {c0 a0:Prop}(h:c0):(aj=aj->c0)/\(aj=az->a0):=⟨λu=>h,λe=>absurd e (by decide)⟩
def t_f {c0 a0:Prop}(h:a0):(az=aj->c0)/\(az=az->a0):=⟨λe=>absurd e (by decide),λu=>h⟩
def tup2 {a0:AV->St->Prop}{b:AV}(h:a0 (.pair a b) B):WP (oL [a,b]) B a0 E:=h
def tup3 {a0:AV->St->Prop}{b c:AV}(h:a0 (.dB a b c) B):WP (oL [a,b,c]) B a0 E:=h
def zB (h:QB (xA a) B):WP (dQ .Is a .none) B QB E:=h
def tr_none {a0:aB->St->Prop}(h:a0 az B):WP (eD .none) B a0 E:=h
def tr_bool {a0:aB->St->Prop}(h:a0 b B):WP (eD (.bool b)) B a0 E:=h
def tr_int {i:Int}{a0:aB->St->Prop}(h:a0 (i != 0) B):WP (eD (.int i)) B a0 E:=h
def sU {s:au}{a0:aB->St->Prop}(hl:s.length<=4096)(h:a0 (s.length != 0) B):WP (eD (.str s)) B a0 E:=av (bw hl (aQ h))
def pq {a0:aB->St->Prop}(e:B[i]? =ae (.list l))(h:a0 (!l.isEmpty) B):WP (eD (.ref i)) B a0 E:=av (dj e (aQ h))
def SA {l:ah ((au ⊕ Int)×AV)}{a0:aB->St->Prop}(e:B[i]? =ae (.dict l))(h:a0 (!l.isEmpty) B):WP (eD (.ref i)) B a0 E:=av (dj e (aQ h))
def sV {a0:AV->St->Prop}{t:AV}{j:Int}(hj:0<=j/\j < 8)(e:gb t=ae l)(ev:l[j.toNat]? =ae v)(h:a0 v B):WP (ir t (.int j)) B a0 E:=by
 cases t with
 |ref i=>exact nomatch e
 |_=>exact av (w_strict (av (bw hj (av (dU e (dU ev h))))))
def lk_here {x:au}{c:ak}{l:ah (au×ak)}:rz x ((x,c) :: l)=ae c:=by rw[gv];simp
def lk_next {x y:au}{c:ak}{l:ah (au×ak)}(h:(x == y)=az)(k:rz x l=ae d):rz x ((y,c) :: l)=ae d:=by rw[gv,h];exact k
def g_last {α:Type}{B:ah α}{o:α}:(B++[o])[B.length]? =ae o:=by simp
def g_app {α:Type}{B l:ah α}{o:α}(h:B[i]? =ae o):(B++l)[i]? =ae o:=by rw[ly (cF.mp h).1];exact h
def g_ne {α:Type}{B:ah α}{o o':α}(h:j≠i)(h2:B[i]? =ae o):(B.set j o')[i]? =ae o:=by rw[jz h];exact h2
def de {α:Type}{B:ah α}{o o':α}(h:B[i]? =ae o):(B.set i o')[i]? =ae o':=l8 (cF.mp h).1
def ba {α:Type}{B:ah α}{o:α}(h:B[i]? =ae o):i < B.length:=(cF.mp h).1
def cC {α:Type}{B:ah α}{o o':α}(h:B[i]? =ae o)(h2:B[j]? =ae o')(a0:o≠o'):i≠j:=λe=>by subst e;rw[h]at h2;exact a0 (dp h2)
def k8 {B:St}{c0:FL×ah (ax AV)->St->Prop}{put:DA}{a0:ak->ah (ax AV)->St->Prop}{U:AI}{L:ah (ax AV)}(y:Yl G U K)(hl:K.length < 128)(hG:∀k I B,a0 k I B->G B)(h0:a0 0 L B)(hs:∀k v I B,K[k]? =ae v->a0 k I B->WP (put v ⟨F,O,I⟩) B (kL body F O (Left (a0 (k+1)) c0) E) E)(he:∀I B,a0 K.length I B->c0 (.next,I) B):WP (forA body put 128 U ⟨F,O,L⟩) B c0 E:=
 Ru 128 0 U ⟨F,O,L⟩ B y (cZ _) (by exact hl) hG h0 hs he
def mR.mk {x2:ax AV}:mR [x0,x1,x2]:=⟨_,_,_,rfl⟩
def jo.mk {x2:ax AV}:jo [x0,x1,x2,x3]:=⟨_,_,_,_,rfl⟩
def lR.mk {x2:ax AV}:lR [x0,x1,x2,x3,x4]:=⟨_,_,_,_,_,rfl⟩
def lY {B:St}{QL:ah AV->St->Prop}{put:DA}{a0:ak->ah AV->ah (ax AV)->St->Prop}{U:AI}{L:ah (ax AV)}(y:Yl G U K)(hl:K.length < 128)(hG:∀k acc I B,a0 k acc I B->G B)(h0:a0 0 [] L B)(hs:∀k v acc I B,K[k]? =ae v->a0 k acc I B->WP (put v ⟨F,O,I⟩) B (QH ifs elt F O (a0 (k+1)) acc E) E)(he:∀acc I B,a0 K.length acc I B->QL acc B):WP (cw elt ifs put 128 U ⟨F,O,L⟩ []) B QL E:=
 zu 128 0 U ⟨F,O,L⟩ B [] y (cZ _) (by exact hl) hG h0 hs he
def SD:∃a0,yT=qw az a0:=⟨_,rfl⟩
def SE:∃a0,yU=qw aj a0:=⟨_,rfl⟩
def v7 {x:AV}{a0:ax (AV×AI)->St->Prop}(h:It B U s j K)(hx:K[j]? =ae x)(q:a0 (ae (x,.obj U)) (B.set U (.iter (ae s) (j+1)))):WP (bx (.obj U)) B a0 E:=by
 refine av (dj h.1 (av (fB h.2 ?_)));rw[hx];exact av (k7 (aQ q))
def zC {a0:ax (AV×AI)->St->Prop}(h:It B U s j K)(hx:K.length<=j)(q:a0 ag (B.set U (.iter ag 0))):WP (bx (.obj U)) B a0 E:=by
 refine av (dj h.1 (av (fB h.2 ?_)));rw[rH hx];exact av (k7 (aQ q))
def It.turn (h:It B U s j K):It (B.set U (.iter (ae s) k)) U s k K:=
 ⟨de h.1,g_ne (cC h.1 h.2 (by simp)) h.2⟩
def It.fr (h:It B U s j K)(a0:Fr D B H)(h1: ¬ D U)(h2: ¬ D s):It H U s j K:=⟨a0.get h.1 h1,a0.get h.2 h2⟩
def It.app {l:St}(h:It B U s j K):It (B++l) U s j K:=⟨g_app h.1,g_app h.2⟩
def Fv {I:ah (ax AV)}{B:St}{a0:ah AV->St->Prop}{put:DA}{U d0:AI}{c0:ah AV}(h:WP (bx U) B (λo B=>o=ae (v,d0)/\WP (put v ⟨F,O,I⟩) B (λI B=>mN ⟨F,O,I⟩ (λc B=>(c=aj->c0.length<=4096/\WP (elt ⟨F,O,I⟩) B (λx B=>WP (cw elt ifs put n d0 ⟨F,O,I⟩ (c0++[x])) B a0 E) E)/\
    (c=az->WP (cw elt ifs put n d0 ⟨F,O,I⟩ c0) B a0 E)) E ifs B) E) E):WP (cw elt ifs put (n+1) U ⟨F,O,I⟩ c0) B a0 E:=
 zt (h.a5 λo B h=>by obtain⟨rfl,h⟩:=h;exact h)
def v8 {B:St}{a0:ah AV->St->Prop}{put:DA}{U:AI}{c0:ah AV}(h:WP (bx U) B (λo B=>o=ag/\a0 c0 B) E):WP (cw elt ifs put (n+1) U ⟨F,O,I⟩ c0) B a0 E:=
 zt (h.a5 λo B h=>by obtain⟨rfl,h⟩:=h;exact h)
def qH {a0:aB->St->Prop}(h:a0 aj B):mN Q a0 E [] B:=h
def zD:∀{V:ah Int} {K:ah AV} {i j:ak} {r:Int} {x:AV},V[j]? =ae r->K[j]? =ae x->(dh b i V K)[j]? =ae (tr b (i+j) r x):=by
 intro D;induction D with
 |nil=>
  intro _ _ _ _ _ h _;exact nomatch h
 |cons H V F=>
  intro E;cases E with
  |nil=>
   intro _ _ _ _ _ h;exact nomatch h
  |cons _ K=>
   intro i G;cases G with
   |zero=>
    intro _ _ h B;cases h;cases B;rfl
   |succ j=>
    intro r x h B;have:=F (i:=i+1) (j:=j) h B;rw[show i+(j+1)=i+1+j by lia];exact this
def sW:∀{V:ah Int} {K:ah AV} {i:ak},(dh b i V K).length=min V.length K.length:=by
 intro B;induction B with
 |nil=>
  intro K _;cases K <;>exact(IU _).symm
 |cons F V E=>
  intro D;cases D with
  |nil=>
   intro _;exact(IV _).symm
  |cons _ K=>
   intro i;exact(bZ (· +1) E).trans (IW ..).symm
def take_snoc {α:Type}{a0:ah α}{t:α}(h:a0[j]? =ae t):a0.take (j+1)=a0.take j++[t]:=by
 rw[AQ,h];rfl
def SF:ec b i+stepI b=ec b (i+1):=by cases b <;>simp[ec,stepI]<;>lia
def SG {a0:ax (AV×AI)->St->Prop}{c d:Int}{m:ak}{x:AV}(h:It B U s j K)(hx:K[j]? =ae x)(q:a0 (ae (.pair (.int c) x,.zip (.range (c+d) m d) (.obj U))) (B.set U (.iter (ae s) (j+1)))):WP (bx (.zip (.range c (m+1) d) (.obj U))) B a0 E:=
 av (aQ (av (v7 h hx (aQ q))))
def Fw {a0:ax (AV×AI)->St->Prop}{c d:Int}(q:a0 ag B):WP (bx (.zip (.range c 0 d) (.obj U))) B a0 E:=av (aQ (aQ q))
def SH {a0:ax (AV×AI)->St->Prop}{c d:Int}{m:ak}(h:It B U s j K)(hx:K.length<=j)(q:a0 ag (B.set U (.iter ag 0))):WP (bx (.zip (.range c (m+1) d) (.obj U))) B a0 E:=
 av (aQ (av (zC h hx (aQ q))))
def jP.call {a0:AV->St->Prop}(h:jP B T)(q:WP (F T args []) B a0 E):WP (et ⟨F,O,I⟩ T args []) B a0 E:=by
 obtain⟨i,a,e,G,D,rfl,h⟩:=h;exact Sw h q
def iV.turn {JE:St->Prop}(ko:iV F T D J JE K V)(h:J j B)(hd: ¬ D U):J j (B.set U o):=
 ko.zg j B _ h (by rw[eJ];exact a4 _) λi E=>jz λe=>hd (by rw[e];exact E)
def iV.app {JE:St->Prop}{l:St}(ko:iV F T D J JE K V)(h:J j B):J j (B++l):=
 ko.zg j B _ h (by rw[bK];exact tm _ _) λi E=>ly (ko.inside j B h i E)
def SI {JE:St->Prop}{c:ak}{a0:ah AV->St->Prop}(ko:iV F T D J JE K V)(e0:∀j B,J j B->jP B T)(d0: ¬ D U)(hs: ¬ D s)(hc: ¬ D c)(hn:n<=4)(q:∀H,Fr (With D U) df H->min n K.length<=V.length->J (min n K.length) H->H[c]? =ae (.cell (ae T))->(n<=K.length->It H U s n K)->(K.length < n->H[U]? =ae (.iter ag 0))->a0 (((dh b 0 V K).take (min n K.length)).map tv) H)(e:∀H,Fr (With D U) df H->V.length < K.length->JE H->It H U s (V.length+1) K->E "AttributeError" H):
  ∀(m j c0:ak) (B:St) (x0 x1 x2 x3:ax AV),m < c0->j+m=n->j<=V.length->It B U s j K->J j B->B[c]? =ae (.cell (ae T))->Fr (With D U) df B->
  WP (cw yO [] (cx [(pL 1),(pL 2)]) c0 (.zip (.range (ec b j) m (stepI b)) (.obj U)) ⟨F,[(aq "key",c)],[x0,x1,x2,x3]⟩ (((dh b 0 V K).take j).map tv)) B a0 E:=by
 intro m;induction m with
 |zero=>
  intro j c0 B x0 x1 x2 x3 hm w W R f G z;cases c0 with
  |zero=>exact XX 1 0 (CH 1 0 0 0 hm ZZ) rfl
  |succ c0=>
   refine v8 (Fw ⟨rfl,?_⟩);obtain Y:=ko.le;have:j=n:=by exact AN ((EL w)) ((EG w))
   subst this;have e1:min j K.length=j:=by exact AN (ML) ((LN (TT W ko.le)))
   have:=q B z;rw[e1]at this;exact this W f G (λv=>R) λh=>by exact XX 1 0 (CH 0 0 1 0 (CH 0 0 0 0 W Y) h) rfl
 |succ m ih=>
  intro j c0 B x0 x1 x2 x3 hm w W R f G z;cases c0 with
  |zero=>exact XX 1 0 (CH 1 0 0 0 hm ZZ) rfl
  |succ c0=>
   obtain Y:=ko.le;obtain M:∀o,Fr (With D U) B (B.set U o):=λo=>Fr.set (Or.inr rfl);obtain L:U≠c:=cC R.1 G (by simp);cases Z:K[j]? with
   |none=>
    obtain A:K.length<=j:=nk.mp Z;refine v8 (SH R A ⟨rfl,?_⟩);have e1:min n K.length=j:=by exact AN (TT MR A) (TT W (TT ko.le (LO (TT A (TT AL (EL w))))))
    have:=q _ (z.trans (M (.iter ag 0)));rw[e1]at this;exact this W (ko.turn f d0) (g_ne L G) (λh=>by lia) λv=>de R.1
   |some x=>
    refine Fv (SG R Z ⟨rfl,?_⟩);obtain A:j < K.length:=(cF.mp Z).1;obtain S:=R.turn (k:=j+1);obtain O:=ko.turn (o:=.iter (ae s) (j+1)) f d0;obtain X:(B.set U (.iter (ae s) (j+1)))[c]? =ae (.cell (ae T)):=g_ne L G;obtain N:=z.trans (M (.iter (ae s) (j+1)));generalize B.set U (.iter (ae s) (j+1))=a7 at S O X N;wtm_at "r";refine qH ?_;refine t_t ?_;refine⟨by rw[aO,er];lia,?_⟩;unfold yO;wtm_at "r";refine(e0 _ _ O).call ((ko.call j x a7 Z O).mono (λv I h=>?_) λk I h=>?_)
    ·obtain⟨r,l,rfl,u,h4⟩:=h;wtm_at "r";obtain h5:Fr (With D U) a7 I:=h4.mono λi hi=>Or.inl hi;have e3:((dh b 0 V K).take j).map tv++[.dB (.int r) (.int (ec b j)) x]=((dh b 0 V K).take (j+1)).map tv:=by
      rw[take_snoc (zD l Z),dH,ke];rfl
     rw[e3,SF];exact ih (j+1) c0 I _ _ _ _ (by exact FI 2 1 1 0 hm rfl) (by lia) (ba l) (S.fr h4 d0 hs) u (h4.get X hc) (N.trans h5)
    ·obtain⟨rfl,l,h2,u⟩:=h;subst l;exact e I (N.trans (u.mono λi hi=>Or.inl hi)) A h2 (S.fr u d0 hs)
def SJ {k t:Int}(h1:I[i]? =ae (ae (.int t)))(h2:I[j]? =ae (ae (.int k)))(q:QB (bg b k t) B):
  WP ((if b then aR .Lt (eL i) (eL j)else aR .Lt (eL j) (eL i)) ⟨F,O,I⟩) B QB E:=by
 cases b with
 |false=>exact w_tCmp (aM h2 (aM h1 (c_lt q)))
 |true=>exact w_tCmp (aM h1 (aM h2 (c_lt q)))
def SK {a0:FL×ah (ax AV)->St->Prop}{o:ak}{c0:ah (ax AV)}(h1:I[i]? =ae (ae (.int (ec b o))))(hl:I.set i (ae (.int (ec b (o+1))))=c0)(q:a0 (.next,c0) B):
  WP (o5 (pL i) (eL i) (if b then .Sub else .Add) (eK (.int 1)) ⟨F,O,I⟩) B a0 E:=by
 subst hl;cases b with
 |false=>exact vU (.inl rfl) (aM h1 (w_strict (w_K (w_strict (b_add (cu rfl q))))))
 |true=>
  refine vU (.inr rfl) (aM h1 (w_strict (w_K (w_strict (b_sub (cu rfl ?_))))));have:ec aj o - 1=ec aj (o+1):=by simp[ec];lia
  rw[this];exact q
def qy.succ {o:ak}(h:qy b o S):qy b (o+1) S:=λx B=>by
 have:=h x B;cases b with
 |false=>
  have h:x.2.1 < (o:Int):=this;show x.2.1 < ((o+1:ak):Int)
  lia
 |true=>
  have h: -(o:Int) < x.2.1:=this;show -((o+1:ak):Int) < x.2.1
  lia
def SM {JE:St->Prop}{c r:ak}{a0:FL×ah (ax AV)->St->Prop}(ko:iV (FN (k0+3)) T D J JE K V)(g0:∀j B,J j B->jP B T)(e0: ¬ D U)(hs: ¬ D s)(hc: ¬ D c)(hr: ¬ D r)(f0:r≠U)(s0:r≠s)(n1:AV)(g x4 x6:ax AV)(q:∀H lI L S,Fr (With (With D U) r) df H->K.length=V.length->J K.length H->H[U]? =ae (.iter ag 0)->Hp H r L->kQ b n L S (V.zip K)->lI[5]? =ae (ae (.ref r))->a0 (.next,lI) H)(e:∀H,Fr (With (With D U) r) df H->V.length < K.length->JE H->It H U s (V.length+1) K->E "AttributeError" H):
  ∀(c0 j o:ak) (B:St) (L S:ah Tr) (d0:Int) (x7 bS f Y:ax AV),K.length < c0+j->j<=V.length->It B U s j K->J j B->B[c]? =ae (.cell (ae T))->Fr (With (With D U) r) df B->
  kQ b n L S ((V.zip K).take j)->Hp B r L->(L.map (·.1)).head? =ae d0->qy b o S->
  WP (forA (sq (yP b)) (pL 7) c0 (.obj U) ⟨FN (k0+3),[(aq "key",c)],[ae n1,g,ag,ae (.ref U),x4,ae (.ref r),x6,x7,ae (.int d0),ae (.int (ec b o)),ae (.fn (aq (if !b then "_heapreplace_max" else "heapreplace"))),bS,f,Y,ag,ag,ag,ag,ag,ag,ag,ag,ag,ag,ag]⟩) B a0 E:=by
 intro c0;induction c0 with
 |zero=>
  intro j o B L S d0 x7 bS f Y hm hj w hJ O hf R hp W ho;have:=ko.le;lia
 |succ c0 ih=>
  intro j o B L S d0 x7 bS f Y hm hj w hJ O hf R hp W ho;obtain h0:=ko.le;obtain X:∀o,Fr (With (With D U) r) B (B.set U o):=λo=>Fr.set (Or.inl (Or.inr rfl));obtain z:U≠c:=cC w.1 O (by simp);obtain r0:r≠c:=cC hp O (by simp);cases hx:K[j]? with
  |none=>
   obtain hl:K.length<=j:=nk.mp hx;refine sQ (zC w hl ⟨rfl,?_⟩);have e1:j=K.length:=by exact AN (TT hj h0) (hl)
   subst e1;obtain e2:(V.zip K).take K.length=V.zip K:=gy (by rw[pZ];exact MR);rw[e2]at R;exact q _ _ L S (hf.trans (X (.iter ag 0))) (by exact AN (hj) (h0)) (ko.turn hJ e0) (de w.1) (g_ne (AE f0) hp) R rfl
  |some x=>
   refine vZ (v7 w hx ⟨rfl,?_⟩);obtain hl:j < K.length:=(cF.mp hx).1;obtain A:=w.turn (k:=j+1);obtain u:=ko.turn (o:=.iter (ae s) (j+1)) hJ e0;obtain n0:(B.set U (.iter (ae s) (j+1)))[c]? =ae (.cell (ae T)):=g_ne z O;obtain l:=hf.trans (X (.iter (ae s) (j+1)));obtain p0:Hp (B.set U (.iter (ae s) (j+1))) r L:=g_ne (AE f0) hp;generalize B.set U (.iter (ae s) (j+1))=a7 at A u n0 l p0;unfold yP;wtm_at "r";refine(g0 _ _ u).call ((ko.call j x a7 hx u).mono (λv F h=>?_) λk F h=>?_)
   ·obtain⟨N,h1,rfl,h3,h4⟩:=h;wtm_at "r";obtain h5:Fr (With (With D U) r) a7 F:=h4.mono λi hi=>Or.inl (Or.inl hi);obtain i0:=l.trans h5;obtain M:Hp F r L:=h4.get p0 hr;obtain Z:=A.fr h4 e0 hs;obtain m:=h4.get n0 hc;obtain hz:(V.zip K).take (j+1)=(V.zip K).take j++[(N,x)]:=take_snoc (uw.mpr ⟨h1,hx⟩)
    match L,R,M,W with
    | [],R,M,W=>cases W
    |Q :: L,R,M,W=>
     obtain W:Q.1=d0:=dp W;subst W;refine SJ rfl rfl ⟨λhb=>?_,λhb=>?_⟩
     ·obtain⟨hd,S',G,u0⟩:=R.swap (e:=x) hb (o:=ec b o) (λy hy=>ho y hy);wtm_at "r";refine Sd (g:=!b) (t:=(N,ec b o,x)) M rfl (by have:=R.heap.len;exact FI 0 4 1 60 this.2 rfl) hd ?_;obtain I:Hp (F.set r (.list ((cN (!b) ((N,ec b o,x) :: L) 0).map tv))) r (cN (!b) ((N,ec b o,x) :: L) 0):=M.set;show jO _ _ _ (F.set r (.list ((cN (!b) ((N,ec b o,x) :: L) 0).map tv)));obtain m0:It (F.set r (.list ((cN (!b) ((N,ec b o,x) :: L) 0).map tv))) U s (j+1) K:=⟨g_ne f0 Z.1,g_ne s0 Z.2⟩;obtain l0:=ko.turn (U:=r) (o:=.list ((cN (!b) ((N,ec b o,x) :: L) 0).map tv)) h3 hr;obtain o0:(F.set r (.list ((cN (!b) ((N,ec b o,x) :: L) 0).map tv)))[c]? =ae (.cell (ae T)):=g_ne r0 m;obtain j0:=i0.trans (Fr.set (D:=With (With D U) r) (i:=r) (o:=.list ((cN (!b) ((N,ec b o,x) :: L) 0).map tv)) (Or.inr rfl));generalize F.set r (.list ((cN (!b) ((N,ec b o,x) :: L) 0).map tv))=bk at I m0 l0 o0 j0;generalize cN (!b) ((N,ec b o,x) :: L) 0=L3 at I G
      match L3,I,G with
      | [],I,G=>exact G.heap.elim
      |t3 :: L3,I,G=>
      wtm_at "r";refine I.at (p:=0) rfl (by decide) ?_;unfold tv;wtm_at "r";refine SK rfl rfl ?_;simp only[gz,gA];wtm_at "r";rw[<-hz]at G;exact ih (j+1) (o+1) bk _ S' t3.1 _ _ _ _ (by lia) (ba h1) m0 l0 o0 j0 G I rfl (λy hy=>by
       rcases u0 y hy with rfl |hy
       ·cases b with
        |false=>exact i5.2 (jD o)
        |true=>exact Ap (i5.2 (jD o))
       ·exact ho.succ y hy)
     ·obtain G:=R.skip (e:=x) hb;rw[<-hz]at G;wtm_at "r";exact ih (j+1) o F _ S Q.1 _ _ _ _ (by lia) (ba h1) Z h3 m i0 G M rfl ho
   ·obtain⟨rfl,h1,h2,h3⟩:=h;subst h1;exact e F (l.trans (h3.mono λi hi=>Or.inl (Or.inl hi))) hl h2 (A.fr h3 e0 hs)
def Fx {g:aB}:∀{l:ah Tr},l.length<=4->(cN g l 0).Perm l
 | [],_=>.refl _
 | [a],_=>.refl _
 | [a,b],_=>by
  rw[E9];split
  ·exact .refl _
  ·exact .swap ..
 | [a,b,c],_=>by
  rw[Fb];split <;>split
  ·exact .refl _
  ·exact .swap ..
  ·exact .refl _
  ·exact sR
 | [a,b,c,d],_=>by
  rw[Fc];split
  ·split
   ·split
    ·exact .refl _
    ·exact .swap ..
   ·exact Fi
  ·split
   ·exact .refl _
   ·exact(sR (a:=a) (b:=b) (c:=c)).append_right [d]
 |_ :: _ :: _ :: _ :: _ :: _,h=>by simp at h
def SN {g:aB}{a b c d:Tr}:(cN g [a,b,c,d] 1).Perm [a,b,c,d]:=by
 rw[Fd];split
 ·exact .refl _
 ·exact .cons a (sR (a:=b) (b:=c) (c:=d))
def Fy {g:aB}{m:ak}{l:ah Tr}(h:l.length<=4)(h2:m<=l.length / 2):(eV g m l).Perm l:=by
 rcases m with _ |_ |_ |m
 ·exact .refl _
 ·exact Fx h
 ·have B:l.length=4:=by lia
  rcases l with _ |⟨a,_ |⟨b,_ |⟨c,_ |⟨d,_ |⟨_,_⟩⟩⟩⟩⟩
  ·cases B
  ·cases B
  ·cases B
  ·cases B
  ·exact(Fx (by rw[Ff];exact a4 _)).trans SN
  ·simp at B
 ·lia
def SO {g:aB}{l:ah Tr}(h4:l.length<=4)(hd:dN l):∀m,m<=l.length / 2->∀l2,l2.length=l.length->eV g m l2=eV g (l.length / 2) l->dN l2:=by
 intro m G l2 E F;obtain B:=Fy (g:=g) (m:=m) (l:=l2) (by exact TT (EL E) h4) (by lia);obtain D:=Fy (g:=g) (m:=l.length / 2) (l:=l) h4 (a4 _);rw[F]at B;exact hd.perm (D.symm.trans B)
def SP:∀(ys S:ah (Int×AV)),S.length+ys.length<=n->ys.foldl (λS x=>(bV b x S).take n) S=ys.foldl (λS x=>bV b x S) S:=by
 intro l;induction l with
 |nil=>
  intro S _;exact rfl
 |cons y ys B=>
  intro S h;rw[fm]at h;show ys.foldl _ ((bV b y S).take n)=ys.foldl _ (bV b y S);rw[gy (by rw[zy];lia)];exact B _ (by rw[zy];lia)
def v9 (h:ys.length<=n):fx b n ys=ys.foldl (λS x=>bV b x S) []:=SP ys [] (by simpa using h)
def SQ:fx b (min n ys.length) ys=fx b n ys:=by
 by_cases h:n<=ys.length
 ·rw[m7 h]
 ·rw[tL (by exact FI 1 0 0 0 (NG h) rfl),v9 (a4 _),v9 (by exact FI 1 0 0 0 (NG h) rfl)]
def view:∀(j:ak),j<=V.length->V.length<=K.length->∃S,gJ b S/\((dh b 0 V K).take j).Perm S/\S.map kv=((V.zip K).take j).foldl (λS x=>bV b x S) []/\qy b j S:=by
 intro J;induction J with
 |zero=>
  intro _ _;exact⟨[],BA,.refl _,rfl,λu h=>nomatch h⟩
 |succ j I=>
  intro h D;obtain⟨S,N,L,M,F⟩:=I (by exact FI 1 0 0 0 h rfl) D;obtain G:=cy (show j < V.length by exact h);obtain E:=cy (show j < K.length by exact TT h D);obtain H:=take_snoc (zD (b:=b) (i:=0) G E);obtain O:(V.zip K).take (j+1)=(V.zip K).take j++[(V[j],K[j])]:=take_snoc (uw.mpr ⟨G,E⟩);rw[ke]at H;refine⟨iD b (tr b j V[j] K[j]) S,Fl N (λy B=>F y B),?_,?_,?_⟩
  ·rw[H];exact(By.trans (L.cons _)).trans pn.symm
  ·rw[O,uv,zx,M];rfl
  ·intro y B;rcases bu.mp (pn.mem_iff.mp B)with rfl |B
   ·cases b with
    |false=>exact i5.2 (jD j)
    |true=>exact Ap (i5.2 (jD j))
   ·exact F.succ y B
def SR (h1:1<=n)(h4:n<=4)(hn:n<=V.length)(a0:V.length<=K.length):dN ((dh b 0 V K).take n)/\∃S,kQ b n (eV (!b) (((dh b 0 V K).take n).length / 2) ((dh b 0 V K).take n)) S ((V.zip K).take n)/\qy b n S:=by
 obtain⟨S,F,B,G,I⟩:=view (b:=b) n hn a0;have D:((dh b 0 V K).take n).length=n:=by rw[er,sW];lia
 obtain E:dN ((dh b 0 V K).take n):=F.dist.perm B.symm;obtain⟨J,H⟩:=Sf (g:=!b) (by rw[D];exact h1) (by rw[D];exact h4) E;refine⟨E,S,⟨J,F,H.trans B,?_,by rw[<-B.length_eq,D]⟩,I⟩;rw[G,v9 (by rw[er];exact ML)]
theorem SX {lt:Int->Int->aB}{x y:Int×AV}(hl:lt=bg b):∀{l:ah (Int×AV)},sortBy.cf (λp q=>lt p.1 q.1) x (bV b y l)=bV b y (sortBy.cf (λp q=>lt p.1 q.1) x l):=by
 intro G;induction G with
 |nil=>
  subst hl;show(if bg b y.1 x.1 then y :: [x]else x :: [y])=(if bg b y.1 x.1 then y :: [x]else x :: [y]);rfl
 |cons c l E=>
  intros c l _ E;obtain E:=E;subst hl;show sortBy.cf _ x (if bg b y.1 c.1 then y :: c :: l else c :: bV b y l)=bV b y (if bg b c.1 x.1 then c :: sortBy.cf _ x l else x :: c :: l);by_cases D:bg b y.1 c.1=aj <;>by_cases B:bg b c.1 x.1=aj
  ·rw[aN D,aN B];have F:bg b y.1 x.1=aj:=by
    unfold bg at *;cases b <;>simp at * <;>lia
   show(if bg b y.1 x.1 then y :: (if bg b c.1 x.1 then c :: sortBy.cf _ x l else x :: c :: l)else x :: y :: c :: l)=(if bg b y.1 c.1 then y :: c :: sortBy.cf _ x l else c :: bV b y (sortBy.cf _ x l));rw[aN F,aN B,aN D]
  ·rw[aN D,aK B];show(if bg b y.1 x.1 then y :: (if bg b c.1 x.1 then c :: sortBy.cf _ x l else x :: c :: l)else x :: y :: c :: l)=(if bg b y.1 x.1 then y :: x :: c :: l else x :: (if bg b y.1 c.1 then y :: c :: l else c :: bV b y l));rw[aK B,aN D]
  ·rw[aK D,aN B];show(if bg b c.1 x.1 then c :: sortBy.cf _ x (bV b y l)else x :: c :: bV b y l)=(if bg b y.1 c.1 then y :: c :: sortBy.cf _ x l else c :: bV b y (sortBy.cf _ x l));rw[aN B,aK D,E]
  ·rw[aK D,aK B];have F: ¬ bg b y.1 x.1=aj:=by
    unfold bg at *;cases b <;>simp at * <;>lia
   show(if bg b c.1 x.1 then c :: sortBy.cf _ x (bV b y l)else x :: c :: bV b y l)=(if bg b y.1 x.1 then y :: x :: c :: l else x :: (if bg b y.1 c.1 then y :: c :: l else c :: bV b y l));rw[aK B,aK F,aK D]
def SY {lt:Int->Int->aB}{x:Int×AV}(hl:lt=bg b):∀(ys l:ah (Int×AV)),ys.foldl (λS x=>bV b x S) (sortBy.cf (λp q=>lt p.1 q.1) x l)=sortBy.cf (λp q=>lt p.1 q.1) x (ys.foldl (λS x=>bV b x S) l):=by
 intro l;induction l with
 |nil=>
  intro _;exact rfl
 |cons y ys B=>
  intro l;show ys.foldl _ (bV b y (sortBy.cf _ x l))=_;rw[<-SX hl,B];rfl
def S2 {lt:Int->Int->aB}(hl:lt=bg b):∀(ys:ah (Int×AV)),sortBy (λp q=>lt p.1 q.1) ys=ys.foldl (λS x=>bV b x S) []:=by
 intro l;induction l with
 |nil=>
  exact rfl
 |cons y ys B=>
  show sortBy.cf _ y (sortBy _ ys)=ys.foldl _ (bV b y []);rw[B,<-SY hl ys];rfl
def S3:∀(ys:ah (Int×AV)) (p:Int×AV),ys.foldl (λS x=>(bV b x S).take 1) [p]=[iW b ys p]:=by
 intro B;induction B with
 |nil=>
  intro p;exact rfl
 |cons y ys D=>
  intro p;show ys.foldl _ ((if bg b y.1 p.1 then y :: [p]else p :: [y]).take 1)=_;have:(if bg b y.1 p.1 then y :: [p]else p :: [y]).take 1=[if bg b y.1 p.1 then y else p]:=by split <;>rfl
  rw[this,D];rfl
def zE {a0:AV->St->Prop}(hG:Gv w B A s K)(q:∀U l,It (B++l) U s 0 K->(w=aj->U=A)->(w=az->U=B.length)->a0 (.ref U) (B++l)):WP (et ⟨F,O,I⟩ (.bi "iter") [.ref A] []) B a0 E:=by
 cases w with
 |true=>
  obtain hG:It B A s 0 K:=hG;refine Sy hG.1 ?_;have:=q A [] (by rw[fS];exact hG) (λu=>rfl) (λh=>nomatch h);rw[fS]at this;exact this
 |false=>
  obtain⟨rfl,h⟩:s=A/\B[A]? =ae (.list K):=hG;exact Fu h (q B.length _ ⟨g_last,g_app h⟩ (λh=>nomatch h) λu=>rfl)
def S4 {a0:AV->St->Prop}{r:ak}(hp:Hp B r L)(h4:L.length<=4)(hs:gJ b S)(c0:L.Perm S)(q:a0 .none (B.set r (.list (S.map tv)))):
  WP (e8 F (.ref r) .sort [] (if b then [(aq "reverse",.bool aj)]else [])) B a0 E:=by
 exact av (eh (av (zw (av (zA (av (fB hp (av (So (b:=b) h4 hs c0 (av (k7 (aQ q))))))))))))
def S5 {a0:ah (au×AV)->St->Prop}(q:a0 (if b then [(aq "reverse",.bool aj)]else []) B):
  WP (fU (if b then [(aq "reverse",(eK (.bool aj)))]else []) ⟨F,O,I⟩) B a0 E:=by
 cases b with
 |false=>exact w_kws_nil q
 |true=>exact w_kws_cons (w_K (w_kws_nil q))
theorem S6 {B:St}{a0:AV->St->Prop}{r:ak}(hp:Hp B r L)(hH:kQ b n L S ys)(hl:I[5]? =ae (ae (.ref r)))(q:a0 (.ref B.length) (B.set r (.list (S.map tv))++[.list ((fx b n ys).map (·.2))])):
  WP (sq [b9 (bX (eL 5) .sort [] (if b then [(aq "reverse",(eK (.bool aj)))]else [])),
   bL (d9 (eG [(".0",.local),("k",.local),("order",.local),("elem",.local)]) aj (iA (eL 5)) (cx [(pL 1),(pL 2),(pL 3)]) [] (eL 3))] ⟨F,O,I⟩) B (λx B=>WP (eP x.1) B a0 E) E:=by
 refine x_sq (x_Expr (v5 (by cases b <;>decide) (aM hl ⟨(λh=>nomatch h.2),hW hp (.inr (.inr (.inr rfl))) (w_evs_nil (S5 (S4 hp hH.heap.len.2 hH.sorted hH.perm (n_next ?_))))⟩)));obtain G:Hp (B.set r (.list (S.map tv))) r S:=hp.set;refine x_sq (x_Ret (iH (cs:=[]) (L:=[ag,ag,ag,ag]) (by decide +kernel) rfl (λu=>rfl) rfl (w_iA (aM hl (ff G ⟨rfl,?_⟩)))));refine lY (G:=λH=>H=B.set r (.list (S.map tv))) (a0:=λk D I H=>D=(S.map (·.2.2)).take k/\H=B.set r (.list (S.map tv))/\jo I) (K:=S.map tv)
  (Yl.gK λH e=>by rw[e];exact G) (by have:=hH.heap.len;have:=hH.perm.length_eq;rw[aO];lia) (λu u u u h=>h.2.1) ⟨rfl,rfl,jo.mk⟩ ?_ ?_
 ·intros _ k v D T H _ J N;obtain⟨rfl,rfl,M⟩:=N;obtain (⟨W,Y,V,X,rfl⟩):=M;rw[dA]at J;cases K:S[k]? with
  |none=>rw[K]at J;cases J
  |some t=>
   intros t _ K;rw[K]at J;cases J;unfold tv;wtm_at "r";refine qH ?_;refine t_t ?_;refine⟨by have:=hH.heap.len;have:=hH.perm.length_eq;rw[er,aO];lia,?_⟩;wtm_at "r";refine⟨?_,rfl,jo.mk⟩;exact(take_snoc (by rw[dA,K];rfl)).symm
 ·rintro D _ H ⟨rfl,rfl,-⟩;rw[aO];rw[gy (by rw[aO];exact a4 _)];have R:S.length<=4:=by have:=hH.heap.len;have:=hH.perm.length_eq;lia
  refine bp (by rw[aO];exact FI 0 4 0 4096 R rfl) (n_ret (r_ret ?_));have U:S.map (·.2.2)=(fx b n ys).map (·.2):=by rw[<-hH.sel,oJ];rfl
  rw[U,eJ];exact q
def S7 {a0:AV->St->Prop}(h:I[i]? =ae (ae (.int n)))(q:a0 (.int (ec b n)) B):WP ((if b then iT (eL i)else eL i) ⟨F,O,I⟩) B a0 E:=by
 cases b with
 |false=>exact aM h q
 |true=>exact w_Neg (aM h (w_strict q))
def S8 {a0:AS->St->Prop}(h:I[i]? =ae (ae (.int n)))(h4:n<=4)(q:a0 (.range (ec b 0) n (stepI b)) B):
  WP (iU (if b then [(eK (.int 0)),(iT (eL i)),(iT (eK (.int 1)))]else [(eL i)]) ⟨F,O,I⟩) B a0 E:=by
 cases b with
 |false=>exact w_rRange (w_evs_cons (aM h (w_evs_nil (pg (by lia) (by lia) (by rw[eB];exact q)))))
 |true=>exact w_rRange (w_evs_cons (w_K (w_evs_cons (w_Neg (aM h (w_strict (w_evs_cons (w_Neg (w_K (w_strict (w_evs_nil (EZ (by lia) (by lia) (by rw[HM,eB];exact q)))))))))))))
def S9 {a0:ax (AV×AI)->St->Prop}(h:B[U]? =ae (.iter ag k))(q:a0 ag B):WP (bx (.obj U)) B a0 E:=av (dj h (aQ q))
def jq.of {m:ak}(h1:w=aj->U=A)(hi:qx B U s m K)(hl:w=az->s=A/\B[A]? =ae (.list K)):jq w B A s m K:=by
 cases w with
 |true=>rw[<-h1 rfl];exact hi
 |false=>exact hl rfl
theorem Ta {B:St}{JE:St->Prop}{c:ak}(ko:iV (FN (k0+3)) T D J JE K V)(l0:∀j B,J j B->jP B T)(P0: ¬ D A)(hs: ¬ D s)(hc: ¬ D c)(h2:2<=n)(h4:n<=4)(hx:K≠[])(a1:K.length<=64)(hJ:J 0 B)(hG:Gv w B A s K)(Q0:B[c]? =ae (.cell (ae T))):
  WP (sq (qv b) ⟨FN (k0+3),[(aq "key",c)],[ae (.int n),ae (.ref A),ag,x3,ag,x5,x6,ag,ag,ag,ag,ag,ag,ag,ag,ag,ag,ag,ag,ag,ag,ag,ag,ag,ag]⟩) B
   (λx H=>WP (eP x.1) H (o9 b n D J w A s K V B) (mS D JE w A s K V B)) (mS D JE w A s K V B):=by
 unfold qv;wtm_at "r";refine zE hG ?_;intros _ U l _ hI W I0;obtain b1:∀i,D i->i < B.length:=ko.inside 0 B hJ;have K0: ¬ D U:=by
  cases w with
  |true=>rw[W rfl];exact P0
  |false=>rw[I0 rfl];exact λh=>by have:=b1 _ h;exact XX 1 0 this rfl
 have p0:∀i,i < B.length->With D U i->DG D w A i:=λi hi h=>by
  rcases h with h |h
  ·exact .inl h
  ·cases w with
   |true=>exact .inr ⟨rfl,h.trans (W rfl)⟩
   |false=>have:=I0 rfl;exact XX 1 0 (CH 1 0 0 0 (CH 1 0 0 0 hi (EG this)) (EG h)) rfl
 have G0:J 0 (B++l):=ko.app hJ;have E0:(B++l)[c]? =ae (.cell (ae T)):=g_app Q0;have i0:Fr (DG D w A) B (B++l):=Fr.app;obtain Y:B.length<=(B++l).length:=i0.len;have Q:w=az->s=A:=λe=>by subst e;exact hG.1
 generalize B++l=a7 at hI G0 E0 i0 Y;obtain g1:K.length≠0:=λh=>hx (nq.mp h);obtain z0:=ko.le;wtm_at "r";refine iH (cs:=[(aq "key",c)]) (L:=[ag,ag,ag,ag]) (by decide +kernel) (by kernel_rfl) (λv=>by kernel_rfl) rfl ?_;wtm_at "r";refine S8 rfl h4 ?_;wtm_at "r";refine vV hI.1 ⟨rfl,?_⟩;refine SI (b:=b) ko l0 K0 hs hc (n:=n) (df:=a7) h4 ?_ ?_ n 0 128 a7 ag ag ag ag (by exact FI 0 4 1 128 h4 rfl) (by lia) (cZ _) hI G0 E0 (Fr.refl _ _)
 ·intros _ F _ O z h0 R0 f0 Z0;have r0:1<=min n K.length:=by lia
  have m:min n K.length<=4:=by exact TT ML h4
  have N0:F[s]? =ae (.list K):=O.get hI.2 (λh=>by
   rcases h with h |h
   ·exact hs h
   ·exact cC hI.1 hI.2 (by simp) h.symm)
  obtain F0:U < F.length:=gT (ba hI.1) O.len;obtain⟨hd,S0,N,O0⟩:=SR (b:=b) (K:=K) r0 m z z0;have w0:fx b (min n K.length) (V.zip K)=fx b n (V.zip K):=by
   by_cases e:n<=K.length
   ·rw[m7 e]
   ·rw[<-SQ (n:=n),pZ,show min V.length K.length=K.length by lia]
  obtain H0:n<=K.length->n=min n K.length:=λh=>by exact AN ((LN (h))) (ML)
  obtain J0:K.length < n->min n K.length=K.length:=λh=>by lia
  generalize min n K.length=p at *;have j0:((dh b 0 V K).take p).length=p:=by rw[er,sW];lia
  generalize (dh b 0 V K).take p=E at *;refine bp (by rw[aO];exact CF 0 0 0 4 0 4096 (EL j0) m rfl) ?_;have c0:Hp (F++[.list (E.map tv)]) F.length E:=g_last;obtain Y0:J p (F++[.list (E.map tv)]):=ko.app h0;have L0:(F++[.list (E.map tv)])[c]? =ae (.cell (ae T)):=g_app R0;have d0:Fr (DG D w A) B (F++[.list (E.map tv)]):=(i0.old O p0).trans Fr.app;have s0: ¬ D F.length:=λh=>by have:=ko.inside _ _ h0 _ h;exact XX 1 0 this rfl
  have e0:F.length≠U:=by exact NT (F0)
  have k:F.length≠s:=by have:=ba N0;exact NT (this)
  have B0:n<=K.length->It (F++[.list (E.map tv)]) U s n K:=λh=>(f0 h).app;obtain V0:K.length < n->(F++[.list (E.map tv)])[U]? =ae (.iter ag 0):=λh=>g_app (Z0 h);have C0:(F++[.list (E.map tv)])[s]? =ae (.list K):=g_app N0;have d1:B.length<=F.length:=by have:=O.len;exact TT Y this
  generalize F.length=r at *;generalize F++[.list (E.map tv)]=bk at *;wtm_at "r";have c1:(E.map tv).isEmpty=az:=by
   cases E with
   |nil=>rw[<-j0]at r0;exact absurd r0 (by decide)
   |cons=>rfl
  refine pq c0 ?_;rw[c1];refine t_f ?_;wtm_at "r";refine Sb (g:=!b) c0 (by exact CF 0 0 0 4 1 60 (EL j0) m rfl) (SO (by exact TT (EL j0) m) hd) ?_;have R:Hp (bk.set r (.list ((eV (!b) (E.length / 2) E).map tv))) r (eV (!b) (E.length / 2) E):=c0.set;have A0:=ko.turn (U:=r) (o:=.list ((eV (!b) (E.length / 2) E).map tv)) Y0 s0;obtain T0:r≠c:=cC c0 L0 (by simp);obtain W0:(bk.set r (.list ((eV (!b) (E.length / 2) E).map tv)))[c]? =ae (.cell (ae T)):=g_ne T0 L0;have y0:Fr (With (With D U) r) bk (bk.set r (.list ((eV (!b) (E.length / 2) E).map tv))):=Fr.set (.inr rfl);have a0:n<=K.length->It (bk.set r (.list ((eV (!b) (E.length / 2) E).map tv))) U s n K:=λh=>⟨g_ne e0 (B0 h).1,g_ne k (B0 h).2⟩;have X:K.length < n->(bk.set r (.list ((eV (!b) (E.length / 2) E).map tv)))[U]? =ae (.iter ag 0):=λh=>g_ne e0 (V0 h);obtain f1:(bk.set r (.list ((eV (!b) (E.length / 2) E).map tv)))[s]? =ae (.list K):=g_ne k C0;have m0:∀i,i < B.length->With (With D U) r i->DG D w A i:=λi hi h=>by
   rcases h with h |h
   ·exact p0 i hi h
   ·exact XX 1 0 (CH 0 0 1 0 (CH 0 0 0 0 d1 (EG h)) hi) rfl
  generalize bk.set r (.list ((eV (!b) (E.length / 2) E).map tv))=cO at *;generalize eV (!b) (E.length / 2) E=L at *;wtm_at "r"
  match L,R,N with
  | [],R,N=>exact N.heap.elim
  |t0 :: L,R,N=>
  refine R.at (p:=0) rfl (by decide) (w_K (sV (by decide) rfl rfl ?_));wtm_at "r";refine S7 rfl ?_;wtm_at "r";have M0:∀(G:St) (M:ah (ax AV)) (L S:ah Tr),Fr (With (With D U) r) bk G->K.length=V.length->J K.length G->G[U]? =ae (.iter ag 0)->Hp G r L->kQ b p L S (V.zip K)->M[5]? =ae (ae (.ref r))->
    WP (sq [b9 (bX (eL 5) .sort [] (if b then [(aq "reverse",(eK (.bool aj)))]else [])),
   bL (d9 (eG [(".0",.local),("k",.local),("order",.local),("elem",.local)]) aj (iA (eL 5)) (cx [(pL 1),(pL 2),(pL 3)]) [] (eL 3))] ⟨FN (k0+3),[(aq "key",c)],M⟩) G
   (λx H=>WP (eP x.1) H (o9 b n D J w A s K V B) (mS D JE w A s K V B)) (mS D JE w A s K V B):=by
   intro G M L S I f u g0 o0 n0 Z;refine S6 o0 n0 Z ⟨⟨G.length,rfl,?_,?_⟩,f,?_,?_,?_⟩
   ·have:=I.len;have:=d0.len;exact TT d0.len I.len
   ·rw[<-w0];exact(by simp:∀o:AO,(G.set r (.list (S.map tv))++[o])[G.length]? =ae o) _
   ·exact ko.app (ko.turn u s0)
   ·exact(d0.old (I.trans (Fr.set (i:=r) (.inr rfl))) m0).trans Fr.app
   ·refine jq.of (U:=U) W (.inr ⟨g_app (g_ne e0 g0),a4 _⟩) λe=>⟨Q e,?_⟩;rw[<-Q e];refine g_app (g_ne k ?_);refine I.get C0 λh=>?_;rcases h with (h |h) |h
    ·exact hs h
    ·have:=ba g0;exact cC hI.1 hI.2 (by simp) h.symm
    ·exact k h.symm
  by_cases hn:n<=K.length
  ·have a0:=a0 hn;obtain U0:n=p:=H0 hn;subst U0;refine vV a0.1 ⟨rfl,?_⟩;refine SM ko l0 K0 hs hc s0 e0 k (n:=n) (df:=bk) (.int n) (ae (.ref A)) ag x6 (λG M L S I f u g0 o0 n0 Z=>n_next (M0 G M L S I f u g0 o0 n0 Z)) (λG I u0 u v0=>?_) 128 n n cO _ S0 t0.1 _ _ _ _ (by exact CF 0 64 128 0 1 0 a1 AL rfl) z a0 A0 W0 y0 N R rfl O0;refine⟨rfl,u0,u,d0.old I m0,jq.of (U:=U) W (.inl v0) λe=>⟨Q e,?_⟩⟩;rw[<-Q e];exact v0.2
  ·have X:=X (by exact(NG hn));obtain e1:p=K.length:=J0 (by exact(NG hn));subst e1;refine vV X ⟨rfl,?_⟩;refine sQ (S9 X ⟨rfl,n_next (M0 cO _ _ S0 y0 (by exact AN (z) (z0)) A0 X R ?_ rfl)⟩);rw[gy (by rw[pZ];exact MR)]at N;exact N
 ·intros _ F _ O u0 h0 f0;refine⟨rfl,u0,h0,i0.old O p0,jq.of (U:=U) W (.inl f0) λe=>⟨Q e,?_⟩⟩;rw[<-Q e];exact f0.2
def zF {b:AV}{x y:hX}(h1:a8 8 B a=ae x)(h2:a8 8 B b=ae y)(q:QB (bY x y) B):WP (lF a b) B QB E:=by
 refine av (w_get ?_);rw[h1,h2];exact q
def mW {a b:Int}(q:QB (a == b) B):WP (dQ .Eq (.int a) (.int b)) B QB E:=by
 show WP (lF (.int a) (.int b)) B QB E;exact zF (x:=.int a) (y:=.int b) rfl rfl (by rw[bY];exact q)
def drop_cons {α:Type}{a0:ah α}{t:α}(h:a0[j]? =ae t):a0.drop j=t :: a0.drop (j+1):=by
 obtain⟨B,rfl⟩:=cF.mp h;exact ou B
def Tb {JE:St->Prop}{a0:AV->St->Prop}{p0:Int×AV}{d:AV}(ko:iV F T D J JE K V)(d0: ¬ D U)(hs: ¬ D s)(q:∀H,Fr (With D U) df H->K.length=V.length->J K.length H->H[U]? =ae (.iter ag 0)->H[s]? =ae (.list K)->a0 (iW b ((V.zip K).drop 1) p0).2 H)(e:∀H,Fr (With D U) df H->V.length < K.length->JE H->It H U s (V.length+1) K->E "AttributeError" H):
  ∀(c0 j:ak) (B:St) (p:Int×AV),K.length < c0+j->j<=V.length->It B U s j K->J j B->Fr (With D U) df B->iW b ((V.zip K).drop j) p=iW b ((V.zip K).drop 1) p0->
  WP (oO F T d b c0 (.obj U) (ae p)) B a0 E:=by
 intro n;induction n with
 |zero=>
  intro j B p hm l I w u O;have:=ko.le;lia
 |succ c0 f=>
  rintro j B ⟨k,v⟩ hm l I w u O;obtain S:=ko.le;obtain G:∀o,Fr (With D U) B (B.set U o):=λo=>Fr.set (Or.inr rfl);cases W:K[j]? with
  |none=>
   have Z:K.length<=j:=nk.mp W;refine av (zC I Z (aQ ?_));have m:j=K.length:=by exact AN (TT l S) (Z)
   subst m;have e2:iW b ((V.zip K).drop K.length) (k,v)=(k,v):=by
    rw[kf (by rw[pZ];exact MR)];rfl
   rw[e2]at O;have:=q _ (u.trans (G (.iter ag 0))) (by exact AN (l) (S)) (ko.turn w d0) (de I.1) (g_ne (cC I.1 I.2 (by simp)) I.2);rw[<-O]at this;exact this
  |some x=>
   refine av (v7 I W ?_);obtain Z:j < K.length:=(cF.mp W).1;have N:=I.turn (k:=j+1);obtain R:=ko.turn (o:=.iter (ae s) (j+1)) w d0;have L:=u.trans (G (.iter (ae s) (j+1)));generalize B.set U (.iter (ae s) (j+1))=a7 at N R L;refine av ((ko.call j x a7 W R).mono (λv2 M h=>?_) λk2 M h=>?_)
   ·obtain⟨r,X,rfl,Y,z⟩:=h;refine av (w_strict ?_);obtain hz:(V.zip K)[j]? =ae (r,x):=uw.mpr ⟨X,W⟩;rw[drop_cons hz]at O;exact f (j+1) M _ (by lia) (ba X) (N.fr z d0 hs) Y (L.trans (z.mono λi A=>Or.inl A)) O
   ·obtain⟨rfl,X,h2,Y⟩:=h;subst X;exact e M (L.trans (Y.mono λi A=>Or.inl A)) Z h2 (N.fr Y d0 hs)
def Tc {JE:St->Prop}(ko:iV F T D J JE K V)(e:∀H,Fr D df H->V.length < K.length->JE H->E "AttributeError" H):
  ∀(ys:ah AV) (j:ak) (B:St) (a0:ah (Int×AV)->St->Prop),(∀H,Fr D df H->K.length=V.length->J K.length H->a0 ((V.zip K).drop j) H)->K.drop j=ys->j<=V.length->J j B->Fr D df B->WP (nD F T ys) B a0 E:=by
 intro l;induction l with
 |nil=>
  intro j B a0 q I Y W O;have M:=ko.le;have R:K.length<=j:=pT.mp I;have z:j=K.length:=by exact AN (TT Y M) (R)
  subst z;have:=q B O (by exact AN (Y) (M)) W;rw[kf (by rw[pZ];exact MR)]at this;exact aQ this
 |cons y ys A=>
  intro j B a0 q I Y W O;have R:j < K.length:=by
   rcases IS j K.length with h |h
   ·exact h
   ·rw[kf h]at I;cases I
  have N:=cy R;rw[drop_cons N]at I;injection I with L S;rw[L]at N;refine av ((ko.call j y B N W).mono (λo G h=>?_) λk2 G h=>?_)
  ·obtain⟨r,L,rfl,X,u⟩:=h;refine av (w_strict (av (A (j+1) G _ (λU w b Z=>?_) S (ba L) X (O.trans u))));have:=q U w b Z;have k:(V.zip K)[j]? =ae (r,y):=uw.mpr ⟨L,N⟩;rw[drop_cons k]at this;exact sL this
  ·obtain⟨rfl,L,S,X⟩:=h;exact e G (O.trans X) (by exact CF 0 0 1 0 1 0 (EL L) R rfl) S
def zG {a0:b8->St->Prop}(h:jP B T)(q:a0 () B):WP (isCallable T) B a0 E:=by
 obtain⟨i,a,e,F,D,rfl,h⟩:=h;exact av (eh (av (dj h (aQ q))))
theorem Td {B:St}{d:AV}{a0:AV->St->Prop}(h:jP B T)(q:WP (bx (.obj U)) B (λo B=>∃v c0,o=ae (v,c0)/\WP (F T [v] []) B (λr B=>∃i,r= .int i/\WP (oO F T d b 64 c0 (ae (i,v))) B a0 E) E) E):
  WP (et ⟨F,O,I⟩ (.bi (if b then "max" else "min")) [.ref U] [(aq "default",d),(aq "key",T)]) B a0 E:=by
 refine mU (b:=.best b) (by cases b <;>rfl) (av (fE (av (sT (av (sT (av (eZ (av (eh (av (zG h (av (q.a5 λo B h=>?_))))))))))))));obtain⟨v,c0,rfl,h⟩:=h;refine av (h.a5 λr B h=>?_);obtain⟨i,rfl,h⟩:=h;exact av (w_strict h)
def Te:∀(l:ah (Int×AV)) (p:Int×AV),iW b l p∈p :: l:=by
 intro B;induction B with
 |nil=>
  intro p;exact .head _
 |cons x l D=>
  intro p;show iW b l (if bg b x.1 p.1 then x else p)∈_;have:=D (if bg b x.1 p.1 then x else p);rcases bu.mp this with h |h
  ·rw[h];split
   ·exact .tail _ (.head _)
   ·exact .head _
  ·exact .tail _ (.tail _ h)
def Tf {b c:AV}{o:ak}(q:QB az B):WP (dQ .Is (.dB a b c) (.ref o)) B QB E:=q
theorem Tg {b:aB}{B:St}{JE:St->Prop}{c:ak}{a0:FL×ah (ax AV)->St->Prop}(ko:iV (FN (k0+3)) T D J JE K V)(c0:∀j B,J j B->jP B T)(i0: ¬ D A)(hs: ¬ D s)(hx:K≠[])(n0:K.length<=64)(ht:∀x∈K,∃a b c,x=AV.dB a b c)(hJ:J 0 B)(hG:Gv w B A s K)(j0:B[c]? =ae (.cell (ae T)))(q:∀v I H,o9 b 1 D J w A s K V B v H->a0 (.ret v,I) H):
  WP (sq (yQ b) ⟨FN (k0+3),[(aq "key",c)],[ae (.int 1),ae (.ref A),ag,ag,ag,ag,ag,ag,ag,ag,ag,ag,ag,ag,ag,ag,ag,ag,ag,ag,ag,ag,ag,ag,ag]⟩) B a0 (mS D JE w A s K V B):=by
 unfold yQ;wtm_at "r";refine zE hG ?_;intros _ U l _ hI L f0;have o0:∀i,D i->i < B.length:=ko.inside 0 B hJ;have O: ¬ D U:=by
  cases w with
  |true=>rw[L rfl];exact i0
  |false=>rw[f0 rfl];exact λh=>by have:=o0 _ h;exact XX 1 0 this rfl
 have Z:∀i,i < B.length->With D U i->DG D w A i:=λi W h=>by
  rcases h with h |h
  ·exact .inl h
  ·cases w with
   |true=>exact .inr ⟨rfl,h.trans (L rfl)⟩
   |false=>have:=f0 rfl;exact XX 1 0 (CH 1 0 0 0 (CH 1 0 0 0 W (EG this)) (EG h)) rfl
 have d0:J 0 (B++l):=ko.app hJ;have f:(B++l)[c]? =ae (.cell (ae T)):=g_app j0;have o:Fr (DG D w A) B (B++l):=Fr.app;have G:w=az->s=A:=λe=>by subst e;exact hG.1
 generalize B++l=a7 at hI d0 f o;have e0:K.length≠0:=λh=>hx (nq.mp h);have v0:=ko.le;wtm_at "r";refine Sz ?_;have X:It (a7++[AO.obj]) U s 0 K:=hI.app;have R:J 0 (a7++[AO.obj]):=ko.app d0;have l0:(a7++[AO.obj])[c]? =ae (.cell (ae T)):=g_app f;have E:Fr (DG D w A) B (a7++[AO.obj]):=o.trans Fr.app;generalize a7++[AO.obj]=bF at X R l0 E;wtm_at "r";refine Td (c0 _ _ R) ?_;have h0:=cy (show 0 < K.length by exact(NU e0 (ZZ)));refine v7 X h0 ⟨_,_,rfl,?_⟩;have k:=X.turn (k:=0+1);have m:=ko.turn (o:=.iter (ae s) (0+1)) R O;have F:Fr (With D U) bF (bF.set U (.iter (ae s) (0+1))):=Fr.set (.inr rfl);generalize bF.set U (.iter (ae s) (0+1))=bk at k m F;refine(ko.call 0 _ bk h0 m).mono (λv2 S h=>?_) λk2 S h=>?_
 ·obtain⟨r,z,rfl,h3,h4⟩:=h;refine⟨r,rfl,?_⟩;have hz:(V.zip K)[0]? =ae (r,K[0]):=uw.mpr ⟨z,h0⟩;refine Tb ko O hs (df:=S) (p0:=(r,K[0])) (λu N g0 Y u0 p0=>?_) (λu N r0 Y M=>?_) 64 (0+1) S _ (by exact FI 0 64 1 65 n0 rfl) (ba z) (k.fr h4 O hs) h3 (Fr.refl _ _) rfl
  ·have m0:fx b 1 (V.zip K)=[iW b ((V.zip K).drop 1) (r,K[0])]:=by
    have e1:V.zip K=(r,K[0]) :: (V.zip K).drop 1:=by
     have:=drop_cons hz
     rwa [mo]at this
    rw[e1];exact S3 _ _
   have hm:(iW b ((V.zip K).drop 1) (r,K[0])).2∈K:=by
    have hm:=Te (b:=b) ((V.zip K).drop 1) (r,K[0]);have s0:iW b ((V.zip K).drop 1) (r,K[0])∈V.zip K:=by
     rcases bu.mp hm with h |h
     ·rw[h];exact cD hz
     ·exact wX h
    exact(rA (a:=(iW b ((V.zip K).drop 1) (r,K[0])).1) (b:=(iW b ((V.zip K).drop 1) (r,K[0])).2) s0).2
   obtain⟨a1,a2,a3,ha⟩:=ht _ hm;rw[ha];wtm_at "r";refine Tf ?_;wtm_at "r";refine bp (by simp) ?_;refine q _ _ _ ⟨⟨u.length,rfl,?_,?_⟩,g0,ko.app Y,?_,jq.of (U:=U) L (.inr ⟨g_app u0,a4 _⟩) λe=>⟨G e,by rw[<-G e];exact g_app p0⟩⟩
   ·have:=E.len;have:=F.len;have:=h4.len;have:=N.len;exact CF 0 0 0 0 0 0 (CH 0 0 0 0 (CH 0 0 0 0 E.len F.len) h4.len) N.len rfl
   ·rw[m0];show _=ae (AO.list [(iW b ((V.zip K).drop 1) (r,K[0])).2]);rw[ha];exact g_last
   ·exact(E.old ((F.trans (h4.mono λi W=>.inl W)).trans N) Z).trans Fr.app
  ·exact⟨rfl,r0,Y,E.old ((F.trans (h4.mono λi W=>.inl W)).trans N) Z,jq.of (U:=U) L (.inl M) λe=>⟨G e,by rw[<-G e];exact M.2⟩⟩
 ·obtain⟨rfl,z,h2,h3⟩:=h;have M:=k.fr h3 O hs;exact⟨rfl,by exact CF 0 0 1 0 1 0 (EL z) (NU e0 (ZZ)) rfl,h2,E.old (F.trans (h3.mono λi W=>.inl W)) Z,jq.of (U:=U) L (.inl (by rw[z];exact M)) λe=>⟨G e,by rw[<-G e];exact M.2⟩⟩
def Th {B:St}{a0:AV->St->Prop}(e:B[A]? =ae (.list l))(h4:l.length<=4)(h:jP B T)(q:WP (nD F T l) B (λks B=>WP (cz ((sortBy (λx y=>bg b x.1 y.1) ks).map (·.2))) B a0 E) E):
  WP (et ⟨F,O,I⟩ (.bi "sorted") [.ref A] (if b then [(aq "key",T),(aq "reverse",.bool aj)]else [(aq "key",T)])) B a0 E:=by
 cases b with
 |false=>exact mU (b:=.sorted) rfl (av (fE (av (sT (av (zA (b:=az) (av (eh (av (fB e (av (bw h4 (av (zG h (av (q.a5 λks B h=>h))))))))))))))))
 |true=>exact mU (b:=.sorted) rfl (av (fE (av (sT (av (zA (b:=aj) (av (eh (av (fB e (av (bw h4 (av (zG h (av (q.a5 λks B h=>h))))))))))))))))
def Ti {c:ak}{a0:ah (au×AV)->St->Prop}(c0:B[c]? =ae (.cell (ae T)))(q:a0 (if b then [(aq "key",T),(aq "reverse",.bool aj)]else [(aq "key",T)]) B):
  WP (fU (if b then [(aq "key",(eC "key")),(aq "reverse",(eK (.bool aj)))]else [(aq "key",(eC "key"))]) ⟨F,[(aq "key",c)],I⟩) B a0 E:=by
 cases b with
 |false=>exact w_kws_cons (gp lk_here c0 (w_kws_nil q))
 |true=>exact w_kws_cons (gp lk_here c0 (w_kws_cons (w_K (w_kws_nil q))))
def zH {a0:ax Int->St->Prop}(h:a0 ag B):WP (oM ag) B a0 E:=h
def zI {j:Int}{a0:ax Int->St->Prop}(h:a0 (ae j) B):WP (oM (ae (.int j))) B a0 E:=h
def FA {r:ah AV}{a b:ax Int}{a0:AV->St->Prop}(g:nC a=aj/\nC b=aj)(hl:l.length<=4096)(hr:(l.take (ix l.length l.length b)).drop (ix 0 l.length a)=r)(q:a0 (.ref B.length) (B++[.list r])):WP (uE l a b) B a0 E:=by
 subst hr;exact av (bw g (bp (by rw[IY,er];exact TT SB (TT MR hl)) q))
def zJ {m:ak}(hm:m < 2 ^ 62):nC (ae (m:Int))=aj:=by
 unfold nC;rw[cW];exact⟨ja (wt m),ja (by lia)⟩
def FC {m:ak}{α:Type}{l:ah α}:l.take (min m l.length)=l.take m:=by
 by_cases h:m<=l.length
 ·rw[m7 h]
 ·rw[tL (by exact FI 1 0 0 0 (NG h) rfl),gy (a4 _),gy (by exact FI 1 0 0 0 (NG h) rfl)]
def FD {m:ak}{a0:AV->St->Prop}(e:B[i]? =ae (.list l))(hl:l.length<=4096)(hm:m < 2 ^ 62)(q:a0 (.ref B.length) (B++[.list (l.take m)])):WP (kl (.ref i) ag (ae (.int m))) B a0 E:=by
 obtain F:(m:Int).toNat=m:=eB m;obtain D:=zJ hm;clear hm;generalize (m:Int)=j at *;subst F;exact av (zH (av (zI (av (fB e (FA ⟨rfl,D⟩ hl FC q))))))
def Tj {I:ah (ax AV)}{B:St}{JE:St->Prop}{c:ak}{a0:FL×ah (ax AV)->St->Prop}(ko:iV F T D J JE K V)(c0:∀j B,J j B->jP B T)(hs: ¬ D A)(h4:n<=4)(hn:K.length<=n)(f0:I[0]? =ae (ae (.int n)))(d0:I[1]? =ae (ae (.ref A)))(hJ:J 0 B)(hG:B[A]? =ae (.list K))(e0:B[c]? =ae (.cell (ae T)))(q:∀v I H,o9 b n D J az A A K V B v H->a0 (.ret v,I) H):
  WP (bL (yR b) ⟨F,[(aq "key",c)],I⟩) B a0 (mS D JE az A A K V B):=by
 unfold yR;refine x_Ret (w_Slice (w_Call (w_K (w_evs_cons (aM d0 (w_evs_nil (Ti e0 (Th hG (by exact TT hn h4) (c0 _ _ hJ) ?_))))))));obtain R:∀i,D i->DG D az A i:=λi h=>.inl h;refine Tc ko (df:=B) (λH L N S=>⟨rfl,N,S,L.mono R,rfl,L.get hG hs⟩) K 0 B _ (λH L E O=>?_) rfl (cZ _) hJ (Fr.refl _ _);rw[mo,S2 (b:=b) (lt:=bg b) rfl];have M:(V.zip K).length=K.length:=by rw[pZ];exact AN (MR) ((LO ((EL E))))
 rw[<-v9 (n:=n) (by exact TT (EL M) hn)];have G:((fx b n (V.zip K)).map (·.2)).length<=n:=by rw[aO,Fs];exact ML
 refine bp (by exact CF 0 0 0 4 0 4096 G h4 rfl) (w_optE_none (w_optE_some (aM f0 (FD g_last (by exact CF 0 0 0 4 0 4096 G h4 rfl) (by exact FI 0 4 1 4611686018427387904 h4 rfl) ?_))));refine q _ _ _ ⟨⟨_,rfl,?_,?_⟩,E,ko.app (ko.app O),((L.mono R).trans Fr.app).trans Fr.app,rfl,g_app (g_app (L.get hG hs))⟩
 ·rw[bK];have:=L.len;exact TT this AL
 ·rw[gy G];exact g_last
def Tn {a0:AS->St->Prop}(h:I[i]? =ae (ae (.int z)))(h4:z<=0)(h5: -4<=z)(q:a0 (.range 0 0 (stepI b)) B):
  WP (iU (if b then [(eK (.int 0)),(iT (eL i)),(iT (eK (.int 1)))]else [(eL i)]) ⟨F,O,I⟩) B a0 E:=by
 cases b with
 |false=>
  refine w_rRange (w_evs_cons (aM h (w_evs_nil (pg (by lia) (by lia) ?_))));rw[show z.toNat=0 by lia];exact q
 |true=>
  refine w_rRange (w_evs_cons (w_K (w_evs_cons (w_Neg (aM h (w_strict (w_evs_cons (w_Neg (w_K (w_strict (w_evs_nil (EZ (by lia) (by lia) ?_))))))))))));rw[show(- -z).toNat=0 by lia];exact q
def To {JE:St->Prop}{c:ak}(ko:iV (FN (k0+3)) T D J JE K V)(hz:z<=0)(a0: -4<=z)(hJ:J 0 B)(hG:Gv w B A s K):
  WP (sq (qv b) ⟨FN (k0+3),[(aq "key",c)],[ae (.int z),ae (.ref A),ag,x3,ag,x5,x6,ag,ag,ag,ag,ag,ag,ag,ag,ag,ag,ag,ag,ag,ag,ag,ag,ag,ag]⟩) B
   (λx H=>WP (eP x.1) H (vP J B) E) E:=by
 unfold qv;wtm_at "r";refine zE hG λU l G F I=>?_;wtm_at "r";refine iH (cs:=[(aq "key",c)]) (L:=[ag,ag,ag,ag]) (by decide +kernel) (by kernel_rfl) (λu=>by kernel_rfl) rfl ?_;wtm_at "r";refine Tn rfl hz a0 ?_;wtm_at "r";refine vV G.1 ⟨rfl,v8 (Fw ⟨rfl,?_⟩)⟩;refine bp (by simp) ?_;wtm_at "r";refine pq g_last ?_;refine t_t ?_;wtm_at "r";exact⟨⟨_,rfl,by rw[bK];exact AL,g_last⟩,ko.app (ko.app hJ),Fr.app.trans Fr.app⟩
theorem Tp {b:aB}{B:St}{JE:St->Prop}{c0:AV->St->Prop}(ko:iV (FN (k0+3)) T D J JE K V)(d0:∀j B,J j B->jP B T)(f0: ¬ D A)(hs: ¬ D s)(hx:K≠[])(g0:K.length<=64)(ht:∀x∈K,∃a b c,x=AV.dB a b c)(hz: -1<=z)(o0:z<=4)(hJ:J 0 B)(hG:Gv w B A s K)(q0:z<=0->∀v H,vP J B v H->c0 v H)(q1:0 < z->∀v H,o9 b z.toNat D J w A s K V B v H->c0 v H)(e1:0 < z->∀k H,mS D JE w A s K V B k H->E k H):
  WP (FN (k0+4) (.fn (aq (if b then "nlargest" else "nsmallest"))) [.int z,.ref A] [(aq "key",T)]) B c0 E:=by
 have j0: ¬ D B.length:=λh=>by have:=ko.inside 0 B hJ _ h;exact XX 1 0 this rfl
 have X:(B++[AO.cell (ae T)])[B.length]? =ae (.cell (ae T)):=g_last;have S:J 0 (B++[AO.cell (ae T)]):=ko.app hJ;have M:∀D',Fr D' B (B++[AO.cell (ae T)]):=λD'=>Fr.app;have R:Gv w (B++[AO.cell (ae T)]) A s K:=by
  cases w with
  |true=>exact It.app hG
  |false=>exact⟨hG.1,g_app hG.2⟩
 have m0:K.length≠0:=λh=>hx (nq.mp h);have N:∀{n v H},o9 b n D J w A s K V (B++[AO.cell (ae T)]) v H->o9 b n D J w A s K V B v H:=λq=>by
  obtain⟨⟨r,L,U,o⟩,u,h5,h6,h7⟩:=q;exact⟨⟨r,L,dW (M (λy=>dm)).len U,o⟩,u,h5,(M _).trans h6,h7⟩
 have G:∀{k H},mS D JE w A s K V (B++[AO.cell (ae T)]) k H->mS D JE w A s K V B k H:=λq=>by
  obtain⟨L,U,o,u,h5⟩:=q;exact⟨L,U,o,(M _).trans u,h5⟩
 have Y:∀{v H},vP J (B++[AO.cell (ae T)]) v H->vP J B v H:=λq=>by
  obtain⟨⟨r,L,U,o⟩,u,h5⟩:=q;exact⟨⟨r,L,dW (M (λy=>dm)).len U,o⟩,u,(M _).trans h5⟩
 obtain⟨i0,a0,e0,n0,l0,hk,-⟩:=d0 _ _ hJ;generalize h0:B++[AO.cell (ae T)]=a7 at *;have W:∀F,Body (qw b F) ⟨FN (k0+3),[(aq "key",B.length)],[ae (.int z),ae (.ref A),ag,ag,ag,ag,ag,ag,ag,ag,ag,ag,ag,ag,ag,ag,ag,ag,ag,ag,ag,ag,ag,ag,ag]⟩ a7 c0 E:=by
  intro F;unfold qw;have f:∀Z,z≠1->WP (sq (qv b) ⟨FN (k0+3),[(aq "key",B.length)],[ae (.int z),ae (.ref A),ag,ag,ag,ag,Z,ag,ag,ag,ag,ag,ag,ag,ag,ag,ag,ag,ag,ag,ag,ag,ag,ag,ag]⟩) a7 (λx B=>WP (eP x.1) B c0 E) E:=by
   intro Z O;by_cases m:z<=0
   ·exact(To (D:=D) ko m (by lia) S R).a5 λx H h=>h.a5 λv H h=>q0 m v H (Y h)
   ·have l:z=((z.toNat:ak):Int):=by lia
    have:=Ta (b:=b) (n:=z.toNat) (x3:=ag) (x5:=ag) (x6:=Z) ko d0 f0 hs j0 (by lia) (by lia) hx g0 S R X;rw[<-l]at this;exact this.mono (λx H h=>h.mono (λv H h=>q1 (by lia) v H (N h)) λk H h=>e1 (by lia) k H (G h)) λk H h=>e1 (by lia) k H (G h)
  have cont:∀Z,z≠1->WP (sq (yS b F) ⟨FN (k0+3),[(aq "key",B.length)],[ae (.int z),ae (.ref A),ag,ag,ag,ag,Z,ag,ag,ag,ag,ag,ag,ag,ag,ag,ag,ag,ag,ag,ag,ag,ag,ag,ag]⟩) a7 (λx B=>WP (eP x.1) B c0 E) E:=by
   intro Z O;unfold yS;wtm_at "r";refine zB ?_;subst hk;refine t_f ?_;wtm_at "r";exact f Z O
  wtm_at "r";refine mW ⟨λL=>?_,λL=>?_⟩
  ·have L:z=1:=eq_of_beq L;subst L;refine(Tg (b:=b) (a0:=jO _ _) ko d0 f0 hs hx g0 ht S R X (λv I H h=>n_ret (r_ret (q1 (by lia) v H (N h))))).mono (λy y h=>h) λk H h=>e1 (by lia) k H (G h)
  ·have O:z≠1:=IZ L;wtm_at "r";cases w with
   |true=>
    have hI:It a7 A s 0 K:=R;refine Sx hI.1 ⟨rfl,?_⟩;wtm_at "r";exact cont _ O
   |false=>
    obtain⟨rfl,FE⟩:s=A/\a7[A]? =ae (.list K):=R;refine f_len FE ?_;wtm_at "r";refine⟨λU=>?_,λU=>?_⟩
    ·have U:(K.length:Int)<=z:=gx U;have l:z=((z.toNat:ak):Int):=by lia
     refine x_sq ((Tj (n:=z.toNat) (c:=B.length) ko d0 hs (by lia) (by lia) (by rw[<-l];rfl) rfl S FE X (λv I H h=>n_ret (n_ret (n_ret (r_ret (q1 (by lia) v H (N h))))))).mono (λy y h=>h) λk H h=>e1 (by lia) k H (G h))
    ·wtm_at "r";exact cont _ O
 cases b with
 |false=>
  obtain⟨F,hK⟩:=SD;exact RP (by rw[hK,h0];exact W F)
 |true=>
  obtain⟨F,hK⟩:=SE;exact RQ (by rw[hK,h0];exact W F)
def Tq:(qz.all λmods=>modS.all λs=>(mods.contains s || pd mods s) == (jr s).any λx=>mods.contains x)=aj:=by decide +kernel
def Ts:(pb.all λds=>sz.all λs=>sA ds s == (kT s).any λx=>ds.contains x)=aj:=by decide +kernel
def FF:(qz.all λmods=>mods.length<=3 && mods.all λx=>x.length<=8)=aj:=by decide +kernel
def FG:(pb.all λmods=>mods.length<=3 && mods.all λx=>x.length<=8)=aj:=by decide +kernel
def Tt:(modS.all λs=>(aU s (sO ".")).length<=3 && s.length<=8 && cY s && ((dz 4).all λk=>pB (sO ".") ((aU s (sO ".")).take k)) && ((jr s).all cY)
 && decide ((mZ s (l4 s (sO ".") 0 s.length (s.length+1)) (sO ".").length).length<=4096))=aj:=by decide +kernel
def Tu:(sz.all λs=>(aU s (sO "/")).length<=4 && s.length<=16 && cY s && ((dz 5).all λk=>pB (sO "/") ((aU s (sO "/")).take k)) && ((kT s).all cY)
 && decide ((mZ s (l4 s (sO "/") 0 s.length (s.length+1)) (sO "/").length).length<=4096))=aj:=by decide +kernel
def Tv:((qz++pb).all λl=>l.all cY)=aj:=by decide +kernel
def Tw (h:fy r):r.1.length<=3/\∀x∈r.1,x.length<=8:=by
 have:=bW.mp FF _ h.1;simp only[cW,fq,bW]at this;exact this
def FH (h:fy r):r.2.length<=3/\∀x∈r.2,x.length<=8:=by
 have:=bW.mp FG _ h.2;simp only[cW,fq,bW]at this;exact this
def FJ {l:ah (au×AV)}{a0:ak×ah (au×AV)->St->Prop}(h1:B[i]? =ae (.inst d))(h2:B[d]? =ae (.bc l))(q:a0 (d,l) B):WP (uF i) B a0 E:=av (dj h1 (av (dj h2 (aQ q))))
def zK {a0:AV->St->Prop}{a:ak}{l:ah (au×AV)}{x:aI}(h1:B[a]? =ae (.inst d))(h2:B[d]? =ae (.bc l))(hx:sO x∈p4)(hl:l.lookup (sO x)=ae v)(hv:xB v=aj)(q:a0 v B):WP (mx (.ref a) (aq x)) B a0 E:=
 av (bw hx (av (eh (av (FJ h1 h2 (av (dU hl (av (bw hv (aQ q))))))))))
def Tz {g:ak}{D:ah ((au ⊕ Int)×AV)}{x:AV}{k:au ⊕ Int}(h:B[g]? =ae (.dict D))(hk:gC x=ae k)(q:QB (eE D k).isSome B):WP (dQ .In x (.ref g)) B QB E:=
 av (dj h (av (dU hk (aQ q))))
def TA {l:ah au}{x:AV}(hk:keyOk x=aj)(q:QB (inSet l x) B):WP (dQ .In x (.cL l)) B QB E:=av (bw hk (aQ q))
def TB {a0:AV->St->Prop}{g:ak}{D:ah ((au ⊕ Int)×AV)}{x:AV}{k:au ⊕ Int}(h:B[g]? =ae (.dict D))(hk:gC x=ae k)(hv:eE D k=ae v)(q:a0 v B):WP (ir (.ref g) x) B a0 E:=
 av (dj h (av (dU hk (dU hv q))))
def sX {g:ak}{D:ah ((au ⊕ Int)×AV)}{x:AV}{k:au ⊕ Int}{a0:b8->St->Prop}(h:B[g]? =ae (.dict D))(hk:gC x=ae k)(hl:D.length<=64)(q:a0 () (B.set g (.dict (putD D k v)))):WP (oN (.ref g) x v) B a0 E:=
 av (eh (av (dj h (av (dU hk (av (bw hl (k7 q))))))))
def zL {a0:AV->St->Prop}{x y:au}(hl:x.length+y.length<=4096)(q:a0 (.str (x++y)) B):WP (gc .Add (.str x) (.str y)) B a0 E:=av (bw rfl (av (qE (av (bw hl (aQ q))))))
def FO {a0:AV->St->Prop}{x y:au}(q:a0 (.bool (pA x y)) B):WP (e8 F (.str x) .startswith [.str y] []) B a0 E:=av (qE (av (fE (av (eZ (av (qE (aQ q))))))))
def nW {x:au}{a0:b8->St->Prop}(h:mm= .startswith\/mm= .split\/mm= .join)(q:a0 () B):WP (lG (.str x) mm) B a0 E:=bw h q
def fz.mods {a0:AV->St->Prop}{a g:ak}{D:ah ((au ⊕ Int)×AV)}(h:fz B a d dd g r D)(q:a0 (.cL r.1) B):WP (mx (.ref a) (aq "_mods")) B a0 E:=
 zK h.inst h.bc (by decide +kernel) (by kernel_rfl) rfl q
def fz.TC {a0:AV->St->Prop}{a g:ak}{D:ah ((au ⊕ Int)×AV)}(h:fz B a d dd g r D)(q:a0 (.ref dd) B):WP (mx (.ref a) (aq "_dirs")) B a0 E:=
 zK h.inst h.bc (by decide +kernel) (by kernel_rfl) rfl q
def fz.pv {a0:AV->St->Prop}{a g:ak}{D:ah ((au ⊕ Int)×AV)}(h:fz B a d dd g r D)(q:a0 (.ref g) B):WP (mx (.ref a) (aq "_ignore")) B a0 E:=
 zK h.inst h.bc (by decide +kernel) (by kernel_rfl) rfl q
def TF {l l':ah au}{a0:au->aB}(h:l'.Perm l):l'.any a0=l.any a0:=by
 rw[qW];simp only[uu];exact⟨λ⟨x,B,D⟩=>⟨x,h.mem_iff.mp B,D⟩,λ⟨x,B,D⟩=>⟨x,h.mem_iff.mpr B,D⟩⟩
def FP {α:Type}{l:ah α}{x:α}{a0:α->aB}(hx:l[k]? =ae x)(h:(l.take k).any a0=az)(hf:a0 x=az):(l.take (k+1)).any a0=az:=by
 rw[take_snoc hx,BD,h]
 simpa using hf
def eg.str (h:eg m):EH m:=by
 rcases h with h |⟨s,-,h⟩
 ·exact .inl h
 ·exact .inr ⟨s,h⟩
def f3.str (h:f3 m):EI m:=by
 rcases h with h |⟨s,-,h⟩
 ·exact .inl h
 ·exact .inr ⟨s,h⟩
theorem zM {a0:AV->St->Prop}{a g:ak}{D:ah ((au ⊕ Int)×AV)}{T:au ⊕ Int}(h:fz B a d dd g r D)(hl:D.length<=64)(hm:EH m)(hp:EI p)(hr:fy r)(hk:gC m=ae T)(q1:∀v,eE D T=ae v->a0 v B)(q2:eE D T=ag->(m= .int 7->r.1=[])->a0 (.int (b2i (dv r p m))) (B.set g (.dict (putD D T (.int (b2i (dv r p m)))))))(e:eE D T=ag->m= .int 7->r.1≠[]->E "AttributeError" B):
  WP (FN (k+1) (.fn (aq "_Ignore.names")) [.ref a,p,m] []) B a0 E:=by
 have V:=Tw hr;have W:=FH hr;have Z:keyOk m=aj:=by
  rcases hm with rfl |⟨s,rfl⟩<;>rfl
 refine RN ?_;unfold y3;wtm_at "r";refine h.pv (Tz h.dict hk ⟨λc=>?_,λc=>?_⟩)
 ·obtain⟨v,K⟩:=Bu.mp c;wtm_at "r";refine h.pv ?_;wtm_at "r";refine TB h.dict hk K ?_;wtm_at "r";exact q1 v K
 have J:eE D T=ag:=by
  cases u:eE D T with
  |none=>rfl
  |some v=>rw[u]at c;cases c
 wtm_at "r";refine h.mods (TA Z ⟨λM=>?_,λM=>?_⟩)
 ·have R:dv r p m=aj:=by
   rcases hm with rfl |⟨s,rfl⟩
   ·cases M
   ·have M:r.1.contains s=aj:=M;show((r.1.contains s || pd r.1 s) || qA r.2 p)=aj;rw[M];rfl
  wtm_at "r";refine h.pv ?_;wtm_at "r";refine sX h.dict hk hl ?_;wtm_at "r";rw[R]at q2;refine q2 J λl=>?_;subst l;cases M
 wtm_at "r";refine h.mods (Rw ?_);intros _ S _ F;refine⟨rfl,?_⟩;have cont:(m= .int 7->r.1=[])->sC r.1 m=az->∀N,WP (sq [
 bJ (aR .Is (eL 1) (eK .none)) [
  aE (dM (iB (eL 0) "_ignore") (eL 2)) (eK (.int 1)),
  bL (eK (.int 1))] [],
 fw az (pL 4) (iA (iB (eL 0) "_dirs")) [
  bJ (tV (bX (eL 1) .startswith [(aY .Add (eL 4) (eK (vS "/")))] [])) [
   aE (dM (iB (eL 0) "_ignore") (eL 2)) (eK (.int 1)),
   bL (eK (.int 1))] []],
 aE (dM (iB (eL 0) "_ignore") (eL 2)) (eK (.int 0)),
 bL (eK (.int 0))] ⟨FN k,[],[ae (.ref a),ae p,ae m,N,ag,ag]⟩) B (λx B=>WP (eP x.1) B a0 E) E:=by
  intro j w;intros _ N;have R:dv r p m=qA r.2 p:=by unfold dv;rw[w];rfl
  have q2:=q2 J j;wtm_at "r";refine zB ?_;rcases hp with rfl |⟨ps,rfl⟩
  ·refine t_t ?_;wtm_at "r";refine h.pv ?_;wtm_at "r";refine sX h.dict hk hl ?_;wtm_at "r";rw[R]at q2;exact q2
  ·refine t_f ?_;have R:dv r (.str ps) m=sA r.2 ps:=R;rw[R]at q2;wtm_at "r";refine h.TC (ff h.fM ⟨rfl,?_⟩);refine k8 (G:=λH=>H=B) (a0:=λk2 I H=>H=B/\(r.2.take k2).any (λx=>pA ps (x++sO "/"))=az/\∃A,I=[ae (.ref a),ae (.str ps),ae m,N,A,ag]) (K:=r.2.map .str)
    (Yl.gK λH e=>by rw[e];exact h.fM) (by rw[aO];exact FI 0 3 1 128 W.1 rfl) (λz z z h=>h.1) ⟨rfl,rfl,_,rfl⟩ ?_ ?_
   ·rintro k2 v _ H K ⟨rfl,G,A,rfl⟩;rw[dA]at K;cases L:r.2[k2]? with
    |none=>rw[L]at K;cases K
    |some x=>
     rw[L]at K;cases K;have Y:=W.2 x (cD L);wtm_at "r";refine⟨(λh=>nomatch h.1),nW (.inl rfl) ?_⟩;wtm_at "r";refine zL (by have:(aq "/").length=1:=(by decide +kernel);lia) ?_;wtm_at "r";refine FO ?_;wtm_at "r";refine⟨λO=>?_,λO=>?_⟩
     ·wtm_at "r";refine h.pv ?_;wtm_at "r";refine sX h.dict hk hl ?_;wtm_at "r";have:sA r.2 ps=aj:=uu.mpr ⟨x,cD L,O⟩;rw[this]at q2;exact q2
     ·wtm_at "r";exact⟨rfl,FP L G O,_,rfl⟩
   ·rintro _ H ⟨rfl,G,A,rfl⟩;rw[aO,j5]at G;wtm_at "r";refine h.pv ?_;wtm_at "r";refine sX h.dict hk hl ?_;wtm_at "r";have:sA r.2 ps=az:=G;rw[this]at q2;exact q2
 rcases hm with rfl |⟨s,rfl⟩
 ·-- the number 7
  match S,F with
  | [],F=>
   refine sQ (aQ ⟨rfl,n_next ?_⟩);exact cont (λz=>F.symm.eq_nil) rfl _
  |y :: S,F=>
   refine vZ (aQ ⟨rfl,?_⟩);refine cu rfl (x_sq (w_qIf (w_tV (EW (l:=[(aY .Add (eL 3) (eK (vS ".")))]) (ks:=[]) (by decide) (aM (v:=.int 7) rfl ⟨λz=>e J rfl (λh=>?_),λh=>absurd ⟨rfl,rfl⟩ h⟩)))));rw[h]at F;exact absurd F.eq_nil (by simp)
 ·refine k8 (G:=λz=>eM) (a0:=λk2 I H=>H=B/\(S.take k2).any (λx=>pA s (x++sO "."))=az/\∃N,I=[ae (.ref a),ae p,ae (.str s),N,ag,ag]) (K:=S.map .str)
    Yl.set (by rw[aO,F.length_eq];exact FI 0 3 1 128 V.1 rfl) (λz z z z=>trivial) ⟨rfl,rfl,_,rfl⟩ ?_ ?_
  ·rintro k2 v _ H K ⟨rfl,G,N,rfl⟩;rw[dA]at K;cases L:S[k2]? with
   |none=>rw[L]at K;cases K
   |some x=>
    rw[L]at K;cases K;have U:=F.mem_iff.mp (cD L);have Y:=V.2 x U;wtm_at "r";refine⟨(λh=>nomatch h.1),nW (.inl rfl) ?_⟩;wtm_at "r";refine zL (by have:(aq ".").length=1:=(by decide +kernel);lia) ?_;wtm_at "r";refine FO ?_;wtm_at "r";refine⟨λO=>?_,λO=>?_⟩
    ·wtm_at "r";refine h.pv ?_;wtm_at "r";refine sX h.dict hk hl ?_;wtm_at "r";have:dv r p (.str s)=aj:=by
      have X:pd r.1 s=aj:=uu.mpr ⟨x,U,O⟩;show((r.1.contains s || pd r.1 s) || qA r.2 p)=aj;rw[X,rq];rfl
     rw[this]at q2;exact q2 J (λh=>nomatch h)
    ·wtm_at "r";exact⟨rfl,FP L G O,_,rfl⟩
  ·rintro _ H ⟨rfl,G,N,rfl⟩;rw[aO,j5,TF F]at G;refine n_next (cont (λh=>nomatch h) ?_ _);have X:pd r.1 s=az:=G;have M:r.1.contains s=az:=M;show(r.1.contains s || pd r.1 s)=az;rw[X,M];rfl
def wa {n:aS}{m':AV}:dw (n++[(m,p)]) m'=(dw n m').or (if m=m' then ae p else ag):=by
 unfold dw;rw[I9];cases B:n.find? (λq=>decide (q.1=m'))with
 |some q=>rfl
 |none=>
  by_cases e:m=m'
  ·simp[e]
  ·simp[e]
def getD_snoc {D:ah ((au ⊕ Int)×AV)}{k k':au ⊕ Int}(h:eE D k=ag):eE (putD D k v) k'=if k=k' then ae v else eE D k':=by
 have B:D.any (λp=>p.1=k)=az:=by
  unfold eE at h;rw[A7,List.find?_eq_none]at h;rw[HH];exact λx E=>h x E
 unfold putD;rw[B];show eE (D++[(k,v)]) k'=_;unfold eE;rw[I9];by_cases e:k=k'
 ·subst e;unfold eE at h;rw[A7]at h;rw[h];simp
 ·rw[aK e];cases F:D.find? (λp=>decide (p.1=k'))with
  |some q=>rfl
  |none=>simp[e]
def TG {m':AV}{k:au ⊕ Int}(h:gC m=ae k)(h':gC m'=ae k):m=m':=by
 cases m <;>cases h <;>cases m' <;>cases h' <;>rfl
def TH {D:ah ((au ⊕ Int)×AV)}{k:au ⊕ Int}:(putD D k v).length<=D.length+1:=by
 unfold putD;split
 ·rw[aO];exact gR _
 ·rw[bK];simp
def kW.old {n:aS}{D:ah ((au ⊕ Int)×AV)}{q:AV}(h:kW r n D)(hm:eg m)(hp:f3 p)(hf:dw n m=ae q):kW r (n++[(m,p)]) D:=by
 obtain⟨K,G,J,I⟩:=h;have T:∀B,dw (n++[(m,p)]) B=dw n B:=by
  intro B;rw[wa];by_cases e:m=B
  ·subst e;rw[hf];rfl
  ·rw[aK e];cases dw n B <;>rfl
 refine⟨by rw[bK];simp;lia,λB k F H=>by rw[T];exact G B k F H,λq E=>?_,λh=>by rw[T];exact I h⟩;rcases dX.mp E with E |E
 ·exact J q E
 ·rw[aJ.mp E];exact⟨hp,hm⟩
theorem kW.new {n:aS}{D:ah ((au ⊕ Int)×AV)}{k:au ⊕ Int}(h:kW r n D)(hm:eg m)(hp:f3 p)(hk:gC m=ae k)(h7:m= .int 7->r.1=[])(hf:dw n m=ag):
  kW r (n++[(m,p)]) (putD D k (.int (b2i (dv r p m)))):=by
 obtain⟨N,I,M,K⟩:=h;have J:eE D k=ag:=by rw[I m k hm hk,hf];rfl
 refine⟨by have:=TH (D:=D) (k:=k) (v:=.int (b2i (dv r p m)));rw[bK];simp;lia,λG H F B=>?_,λq E=>?_,λh=>?_⟩
 ·rw[getD_snoc J,wa];by_cases e:m=G
  ·subst e;have:k=H:=by rw[hk]at B;exact dp B
   rw[aN this,aN rfl,hf];rfl
  ·have: ¬ k=H:=λL=>e (TG hk (by rw[L];exact B));rw[aK this,aK e,I G H F B];cases dw n G <;>rfl
 ·rcases dX.mp E with E |E
  ·exact M q E
  ·rw[aJ.mp E];exact⟨hp,hm⟩
 ·rw[wa,K h];by_cases e:m= .int 7
  ·exact absurd (h7 e) h
  ·rw[aK e];rfl
def wb {g:ak}(h:B[g]? =ae o):B.set g o=B:=by
 obtain⟨E,D⟩:=cF.mp h;rw[<-D,Bw]
def FQ {a0:AV->St->Prop}{a g:ak}{D:ah ((au ⊕ Int)×AV)}{n:aS}(h:fz B a d dd g r D)(ok:kW r n D)(hl:n.length<=60)(hm:eg m)(hp:f3 p)(hr:fy r)(q:∀D',(m= .int 7->r.1=[])->kW r (n++[(m,p)]) D'->a0 (.int (b2i (dv r ((dw n m).getD p) m))) (B.set g (.dict D')))(e:m= .int 7->r.1≠[]->E "AttributeError" B):
  WP (FN (k+1) (.fn (aq "_Ignore.names")) [.ref a,p,m] []) B a0 E:=by
 have I:∃T,gC m=ae T:=by
  rcases hm with rfl |⟨s,-,rfl⟩
  ·exact⟨_,rfl⟩
  ·exact⟨_,rfl⟩
 obtain⟨T,I⟩:=I;have G:=ok.get m T hm I;refine zM h (by have:=ok.len;lia) hm.str hp.str hr I (λv N=>?_) (λK H=>?_) λu H L=>e H L
 ·rw[N]at G;cases F:dw n m with
  |none=>rw[F]at G;cases G
  |some M=>
   rw[F]at G;have G:v= .int (b2i (dv r M m)):=dp G;have:=q D (λH=>by
    cases J:r.1 with
    |nil=>rfl
    |cons x l=>
     have:=ok.EJ (by rw[J];simp);rw[H,this]at F;cases F) (ok.old hm hp F)
   rw[F,wb h.dict]at this;rw[G];exact this
 ·rw[K]at G;cases F:dw n m with
  |some M=>rw[F]at G;cases G
  |none=>
   have:=q _ H (ok.new hm hp I H F);rw[F]at this;exact this
def bG.dict:∀{B:St} {X:ah eW} {M:ah Rd} {ns:ah aS} {q:eW},bG B X M ns->q∈X->∃D,B[q.g]? =ae (.dict D)
 |_,[],_,_,_,_,hq=>nomatch hq
 |_,_ :: _,[],_,_,h,_=>h.elim
 |_,_ :: _,_ :: _,[],_,h,_=>h.elim
 |_,q :: X,r :: M,n :: ns,q',h,hq=>by
  rcases bu.mp hq with rfl |hq
  ·obtain⟨⟨D,E,-⟩,-⟩:=h;exact⟨D,E.dict⟩
  ·exact bG.dict h.2 hq
def bG.nX {ns:ah aS}(h:bG B X M ns)(hi:B[i]? =ae o)(ho:∀D,o≠ .dict D): ¬ gs X i:=by
 rintro⟨q,hq,rfl⟩;obtain⟨D,E⟩:=h.dict hq;rw[hi]at E;exact ho D (dp E)
def fz.fr {P:ak->Prop}{a g:ak}{D:ah ((au ⊕ Int)×AV)}(h:fz B a d dd g r D)(a0:Fr P B H)(h1: ¬ P a)(h2: ¬ P d)(h3: ¬ P dd)(h4: ¬ P g):fz H a d dd g r D:=
 ⟨a0.get h.inst h1,a0.get h.bc h2,a0.get h.fM h3,a0.get h.dict h4⟩
def bG.fr {P:ak->Prop}(a0:Fr P B H):∀{X:ah eW} {M:ah Rd} {ns:ah aS},bG B X M ns->(∀q∈X,¬ P q.a/\¬ P q.d/\¬ P q.dd/\¬ P q.g)->bG H X M ns
 | [],[],[],_,_=>trivial
 |_ :: _,[],_,h,_=>h.elim
 |_ :: _,_ :: _,[],h,_=>h.elim
 | [],_ :: _,_,h,_=>h.elim
 | [],[],_ :: _,h,_=>h.elim
 |q :: X,r :: M,n :: ns,⟨⟨D,h1,h2⟩,h3⟩,hp=>
  have:=hp q (.head _)
  ⟨⟨D,h1.fr a0 this.1 this.2.1 this.2.2.1 this.2.2.2,h2⟩,bG.fr a0 h3 λF E=>hp F (.tail _ E)⟩
def bG.at:∀{B:St} {X:ah eW} {M:ah Rd} {ns:ah aS} {q:eW},bG B X M ns->q∈X->∃r D,fz B q.a q.d q.dd q.g r D:=by
 intro K I;induction I generalizing K with
 |nil=>
  intro _ _ _ _ E;exact nomatch E
 |cons q X G=>
  intro F;cases F with
  |nil=>
   intro _ _ h _;exact h.elim
  |cons r M=>
   intro J;cases J with
   |nil=>
    intro _ h _;exact h.elim
   |cons n ns=>
    intro L h E;rcases bu.mp E with rfl |E
    ·obtain⟨⟨D,H,-⟩,-⟩:=h;exact⟨r,D,H⟩
    ·exact G h.2 E
def bG.other {ns:ah aS}{g:ak}{D0 D':ah ((au ⊕ Int)×AV)}(h:bG B X M ns)(hg:B[g]? =ae (.dict D0))(a0:∀q∈X,q.g≠g):bG (B.set g (.dict D')) X M ns:=
 bG.fr (P:=λi=>i=g) (Fr.set rfl) h λq F=>by
  obtain⟨r,D,E⟩:=h.at F;exact⟨cC E.inst hg (by simp),cC E.bc hg (by simp),cC E.fM hg (by simp),a0 q F⟩
def TJ {a:ak}{l:ah (au×AV)}{a0:b8->St->Prop}(h1:B[a]? =ae (.inst d))(h2:B[d]? =ae (.bc l))(h3:(l.lookup (aq "names")).isNone=aj)(q:a0 () B):WP (lG (.ref a) .names) B a0 E:=
 av (dj h1 (av (dj h2 (bw ⟨rfl,h3⟩ q))))
def wc {a:ak}{a0:AV->St->Prop}(q:WP (F (.fn (aq "_Ignore.names")) (.ref a :: args) []) B a0 E):WP (e8 F (.ref a) .names args []) B a0 E:=av (eh (av (eZ q)))
def fz.has {a g:ak}{D:ah ((au ⊕ Int)×AV)}{a0:b8->St->Prop}(h:fz B a d dd g r D)(q:a0 () B):WP (lG (.ref a) .names) B a0 E:=TJ h.inst h.bc (by kernel_rfl) q
def zN {x:AV}{a0:ax (AV×AI)->St->Prop}(h:B[s]? =ae (.list K))(hx:K[j]? =ae x)(q:a0 (ae (x,.list (ae s) (j+1))) B):WP (bx (.list (ae s) j)) B a0 E:=by
 refine av (fB h ?_);rw[hx];exact aQ q
def FR {a0:ax (AV×AI)->St->Prop}(h:B[s]? =ae (.list K))(hx:K[j]? =ag)(q:a0 ag B):WP (bx (.list (ae s) j)) B a0 E:=by
 refine av (fB h ?_);rw[hx];exact aQ q
def TK {p:AV}{a0 ct:ak}{rl:ah AV}{pl:AV}(hm:eg m)(hp:f3 p):∀(X:ah eW) (M:ah Rd) (ns:ah aS) (j d0:ak) (B:St) (e0:ah AV) (x0 x1 x2:ax AV) (c0:ah AV->St->Prop) (E:aI->St->Prop),
  (∀r∈M,fy r)->(∀n∈ns,n.length<=60)->bG B X M ns->X.Pairwise (λp q=>p.g≠q.g)->B[a0]? =ae (.list rl)->rl.drop j=X.map (λq=>.ref q.a)->X.length < d0->e0.length+X.length<=4096->B[ct]? =ae (.cell (ae (.dB p m pl)))->
  (∀(il:ah Int) H,(b7 M ns m p).1=ae il.sum->il.length=X.length->bG H X M (b7 M ns m p).2->Fr (gs X) B H->c0 (e0++il.map .int) H)->
  (∀H,(b7 M ns m p).1=ag->bG H X M (b7 M ns m p).2->Fr (gs X) B H->E "AttributeError" H)->
  WP (cw zh [] (pL 1) d0 (.list (ae a0) j) ⟨FN (k+1),[(aq "thing",ct)],[x0,x1,x2]⟩ e0) B c0 E:=by
 intro X;induction X with
 |nil=>
  intro M ns j d0 B e0 x0 x1 x2 c0 E w z h I T N U o V q e;rcases d0 with _ |d0
  ·exact XX 1 0 (CH 1 0 0 0 U ZZ) rfl
  rcases M with _ |⟨_,_⟩
  ·rcases ns with _ |⟨_,_⟩
   ·refine v8 (FR T (rH (pT.mp N)) ⟨rfl,?_⟩);have:=q [] B rfl rfl trivial (Fr.refl _ _);rw[t9,fS]at this;exact this
   ·exact h.elim
  ·exact h.elim
 |cons q0 X ih=>
  intro M ns j d0 B e0 x0 x1 x2 c0 E w z h I T N U o V q e;rcases d0 with _ |d0
  ·exact XX 1 0 (CH 1 0 0 0 U ZZ) rfl
  rcases M with _ |⟨r,M⟩
  ·exact h.elim
  rcases ns with _ |⟨n,ns⟩
  ·exact h.elim
  have h0:=h;obtain⟨⟨D,F,h2⟩,h3⟩:=h;have hj:rl[j]? =ae (.ref q0.a):=by
   have:(rl.drop j)[0]? =ae (.ref q0.a):=by rw[N];rfl
   rwa [xn,xo]at this
  have oV:rl.drop (j+1)=X.map (λq=>.ref q.a):=by
   have:=drop_cons hj;rw[this]at N;injection N
  have qm:e0.length+(X.length+1)<=4096:=o;have zO:X.length+1 < d0+1:=U;obtain⟨Z,f0⟩:=lD.mp I;refine Fv (zN T hj ⟨rfl,?_⟩);wtm_at "r";refine qH ?_;refine t_t ?_;refine⟨by exact TT AL o,?_⟩;unfold zh;wtm_at "r";refine⟨(λh=>nomatch h.2),F.has ?_⟩;wtm_at "r";refine sV (by decide) rfl rfl ?_;wtm_at "r";refine sV (by decide) rfl rfl ?_;wtm_at "r";refine wc (FQ F h2 (z n (.head _)) hm hp (w r (.head _)) (λJ h7 O=>?_) λe7 A=>?_)
  ·have L:b7 (r :: M) (n :: ns) m p=((b7 M ns m p).1.map λi=>b2i (dv r ((dw n m).getD p) m)+i,(n++[(m,p)]) :: (b7 M ns m p).2):=aK λc=>c.2 (h7 c.1);have l:Fr (gs (q0 :: X)) B (B.set q0.g (.dict J)):=Fr.set ⟨q0,.head _,rfl⟩;have FT:∀q∈X,q.g≠q0.g:=λq S=>(Z q S).symm;have wd:=h3.other (D':=J) F.dict FT;have we:fz (B.set q0.g (.dict J)) q0.a q0.d q0.dd q0.g r J:=
    ⟨g_ne (cC F.dict F.inst (by simp)) F.inst,g_ne (cC F.dict F.bc (by simp)) F.bc,g_ne (cC F.dict F.fM (by simp)) F.fM,de F.dict⟩
   have G:∀{H:St},Fr (gs X) (B.set q0.g (.dict J)) H->fz H q0.a q0.d q0.dd q0.g r J/\Fr (gs (q0 :: X)) B H:=λf=>
    ⟨we.fr f (wd.nX we.inst (by simp)) (wd.nX we.bc (by simp)) (wd.nX we.fM (by simp)) (λ⟨q,S,e⟩=>FT q S e.symm),l.trans (f.mono λi ⟨q,S,e⟩=>⟨q,.tail _ S,e⟩)⟩
   refine ih M ns (j+1) d0 _ _ _ _ _ c0 E (λr u=>w r (.tail _ u)) (λn Y=>z n (.tail _ Y)) wd f0 (g_ne (cC F.dict T (by simp)) T) oV (by exact FI 2 1 1 0 zO rfl) (by rw[bK,ux];lia) (g_ne (cC F.dict V (by simp)) V) (λil H b W K f=>?_) λH b K f=>?_
   ·have:=q (b2i (dv r ((dw n m).getD p) m) :: il) H (by rw[L,b];rfl) (by rw[fm,W];rfl) (by rw[L];exact⟨⟨J,(G f).1,O⟩,K⟩) (G f).2;rw[jY];exact this
   ·exact e H (by rw[L,b];rfl) (by rw[L];exact⟨⟨J,(G f).1,O⟩,K⟩) (G f).2
  ·have L:b7 (r :: M) (n :: ns) m p=(ag,n :: ns):=aN ⟨e7,A⟩;exact e B (by rw[L]) (by rw[L];exact h0) (Fr.refl _ _)
def TL:(mM.map λd=>cE d.2.2 40 d.2.1)=ae sD:=by kernel_rfl
theorem TM {cR cA:ak}{t:AV}{a:fg}{e:aH}{sc:bN}{a0:AV->St->Prop}(hl:mM=ae (a,e,sc))(h:B[i]? =ae (.lam a e sc [(sO "readers",cR),(sO "asks",cA)]))(q:WP (sD ⟨FN k,[(sO "thing",B.length),(sO "readers",cR),(sO "asks",cA)],[ag,ag,ag,ag]⟩) (B++[.cell (ae t)]) a0 E):WP (FN (k+1) (.ref i) [t] []) B a0 E:=by
 have D:(mM.map λd=>P.guard (e9 d.2.2=aj)>>=λu=>P.opt (fV d.1 [t] [])>>=λb=>cP (FN k) d.2.2 [(sO "readers",cR),(sO "asks",cA)] b)
  =ae (P.alloc (.cell ag)>>=λi=>km (sO "thing") t ⟨FN k,[(sO "thing",i),(sO "readers",cR),(sO "asks",cA)],[ag,ag,ag,ag]⟩>>=λI=>P.pure ⟨FN k,[(sO "thing",i),(sO "readers",cR),(sO "asks",cA)],I⟩):=by kernel_rfl
 have F:=TL;rw[hl]at D F;have D:=dp D;have F:cE sc 40 e=sD:=dp F;have G:WP (P.guard (e9 sc=aj)>>=λu=>P.opt (fV a [t] [])>>=λb=>cP (FN k) sc [(sO "readers",cR),(sO "asks",cA)] b) B (λQ B=>WP (sD Q) B a0 E) E:=by
  have TN:(P.guard (e9 sc=aj)>>=λu=>P.opt (fV a [t] [])>>=λb=>cP (FN k) sc [(sO "readers",cR),(sO "asks",cA)] b)=_:=D;rw[TN];exact av (eI (av (nV (x:="thing") (v':=ag) lk_here Bv (by rw[zv];exact aQ q))))
 show WP (P.load i>>=λo=>match o with
  |.lam a e sc cs=>P.guard (e9 sc=aj)>>=λu=>P.opt (fV a [t] [])>>=λb=>cP (FN k) sc cs b>>=λQ=>cE sc 40 e Q
  |_=>P.fail) B a0 E
 refine av (dj h ?_);show WP (P.guard (e9 sc=aj)>>=λu=>P.opt (fV a [t] [])>>=λb=>cP (FN k) sc [(sO "readers",cR),(sO "asks",cA)] b>>=λQ=>cE sc 40 e Q) B a0 E;have H:(P.guard (e9 sc=aj)>>=λu=>P.opt (fV a [t] [])>>=λb=>cP (FN k) sc [(sO "readers",cR),(sO "asks",cA)] b>>=λQ=>cE sc 40 e Q)
  =((P.guard (e9 sc=aj)>>=λu=>P.opt (fV a [t] [])>>=λb=>cP (FN k) sc [(sO "readers",cR),(sO "asks",cA)] b)>>=λQ=>cE sc 40 e Q):=by
  unfold P.guard;cases fV a [t] []<;>split <;>rfl
 rw[H,F];exact av G
def Good.mono {x:eN}{ns:ah aS}(G:Good x M ns as B)(h:∀i,eY x i->H[i]? =B[i]?):Good x M ns as H:=by
 obtain⟨N,L,S,Q,⟨a,e,I,R,U⟩,J⟩:=G;refine⟨by rw[h _ (.inl rfl)];exact N,by rw[h _ (.inr (.inl rfl))];exact L,by rw[h _ (.inr (.inr (.inl rfl)))];exact S,by rw[h _ (.inr (.inr (.inr (.inl rfl))))];exact Q,
  ⟨a,e,I,R,by rw[h _ (.inr (.inr (.inr (.inr (.inl rfl)))))];exact U⟩,?_⟩
 have T:∀(X:ah eW) (M:ah Rd) (ns:ah aS),(∀q∈X,q∈x.qs)->bG B X M ns->bG H X M ns:=by
  intro X;induction X with
  |nil=>intro M ns _ h;match M,ns,h with | [],[],h=>exact trivial
  |cons q X K=>
   intro M ns F O
   match M,ns,O with
   |r :: M,n :: ns,⟨⟨D,ha,hb⟩,hc⟩=>
    obtain f:∀i,(i=q.a\/i=q.d\/i=q.dd\/i=q.g)->H[i]? =B[i]? :=λi V=>h i (.inr (.inr (.inr (.inr (.inr ⟨q,F q (.head _),V⟩)))));exact⟨⟨D,⟨by rw[f _ (.inl rfl)];exact ha.inst,by rw[f _ (.inr (.inl rfl))];exact ha.bc,by rw[f _ (.inr (.inr (.inl rfl)))];exact ha.fM,by rw[f _ (.inr (.inr (.inr rfl)))];exact ha.dict⟩,hb⟩,K M ns (λW E=>F W (.tail _ E)) hc⟩
 exact T _ _ _ (λu h=>h) J
def Good.app {x:eN}{ns:ah aS}{l:St}(G:Good x M ns as B):Good x M ns as (B++l)/\∀i,eY x i->i < B.length:=by
 have F:∀i,eY x i->i < B.length:=by
  intro i E;rcases E with rfl |rfl |rfl |rfl |rfl |⟨q,hq,E⟩
  ·exact ba G.cA
  ·exact ba G.A
  ·exact ba G.cR
  ·exact ba G.R
  ·obtain⟨_,_,_,_,h⟩:=G.lm;exact ba h
  ·obtain⟨r,D,h⟩:=G.jQ.at hq;rcases E with rfl |rfl |rfl |rfl
   ·exact ba h.inst
   ·exact ba h.bc
   ·exact ba h.fM
   ·exact ba h.dict
 exact⟨G.mono λi E=>ly (F i E),F⟩
def zP {x:eN}(h:gs x.qs i):eY x i:=by
 obtain⟨q,B,rfl⟩:=h;exact .inr (.inr (.inr (.inr (.inr ⟨q,B,.inr (.inr (.inr rfl))⟩))))
def Good.rd {x:eN}{ns c0:ah aS}(G:Good x M ns as B)(a0:Fr (gs x.qs) B H)(h:bG H x.qs M c0):Good x M c0 as H:=by
 obtain⟨a,e,E,F,D⟩:=G.lm;exact⟨a0.get G.cA (G.jQ.nX G.cA (by simp)),a0.get G.A (G.jQ.nX G.A (by simp)),a0.get G.cR (G.jQ.nX G.cR (by simp)),a0.get G.R (G.jQ.nX G.R (by simp)),⟨a,e,E,F,a0.get D (G.jQ.nX D (by simp))⟩,h⟩
def Good.ask {x:eN}{ns:ah aS}{a0:ah AV}(ok:x.Ok)(G:Good x M ns as B):Good x M ns a0 (B.set x.A (.list a0)):=by
 obtain⟨a,e,I,J,E⟩:=G.lm;refine⟨g_ne (cC G.A G.cA (by simp)) G.cA,de G.A,g_ne (cC G.A G.cR (by simp)) G.cR,g_ne ok.ar G.R,⟨a,e,I,J,g_ne (cC G.A E (by simp)) E⟩,?_⟩;refine bG.fr (P:=λi=>i=x.A) (Fr.set rfl) G.jQ λq H=>?_;obtain⟨r,D,F⟩:=G.jQ.at H;exact⟨cC F.inst G.A (by simp),cC F.bc G.A (by simp),λh=>ok.ad q H h.symm,cC F.dict G.A (by simp)⟩
def vt:∀{l:ah Int},intsOf (l.map .int)=ae l:=by
 intro l;induction l with
 |nil=>
  exact rfl
 |cons x l B=>
  show(intsOf (l.map .int)).map (x :: ·)=_;rw[B];rfl
def FU {l:ah Int}{a0:AV->St->Prop}(h:B[i]? =ae (.list (l.map .int)))(q:a0 (.int l.sum) B):WP (et ⟨F,O,I⟩ (.bi "sum") [.ref i] []) B a0 E:=by
 exact mU rfl (av (fE (av (eZ (av (eh (av (fB h (av (dU vt (aQ q)))))))))))
def TP {x:eN}{ns:ah aS}{pl:AV}{c0:AV->St->Prop}(ok:x.Ok)(G:Good x M ns as B)(hm:eg m)(hp:f3 p)(hr:∀r∈M,fy r)(hn:∀n∈ns,n.length<=60)(hq:x.qs.length<=60)(has:as.length<=4096)(q:∀s H,(b7 M ns m p).1=ae s->Good x M (b7 M ns m p).2 (as++[pl]) H->Fr (eY x) B H->c0 (.int s) H)(e:∀H,(b7 M ns m p).1=ag->Good x M (b7 M ns m p).2 (as++[pl]) H->Fr (eY x) B H->E "AttributeError" H):
  WP (FN (k+2) (.ref x.lm) [.dB p m pl] []) B c0 E:=by
 obtain⟨b,o,Z,w,S⟩:=G.lm;refine TM w S ?_;obtain K:(B++[AO.cell (ae (.dB p m pl))])[B.length]? =ae (.cell (ae (.dB p m pl))):=g_last;obtain I:Good x M ns as (B++[AO.cell (ae (.dB p m pl))]):=G.app.1;obtain W:Fr (eY x) B (B++[AO.cell (ae (.dB p m pl))]):=Fr.app;generalize Y:B.length=ct at *;generalize B++[AO.cell (ae (.dB p m pl))]=a7 at *;unfold sD;obtain z:=I.cA;obtain u:=I.cR;wtm_at "r";refine⟨(λh=>nomatch h.2),hW I.A (.inl rfl) ?_⟩;wtm_at "r";refine sV (by decide) rfl rfl ?_;wtm_at "r";refine jt I.A has ?_;obtain J:=I.ask ok (a0:=as++[pl]);obtain O:(a7.set x.A (.list (as++[pl])))[ct]? =ae (.cell (ae (.dB p m pl))):=g_ne (cC I.A K (by simp)) K;obtain V:Fr (eY x) B (a7.set x.A (.list (as++[pl]))):=W.trans (Fr.set (.inr (.inl rfl)));generalize a7.set x.A (.list (as++[pl]))=bF at *;obtain u:=J.cR;wtm_at "r";refine iH (cs:=[(aq "thing",ct)]) (L:=[ag,ag,ag]) (by decide +kernel) (by kernel_rfl) (λv=>by kernel_rfl) rfl ?_;wtm_at "r";refine ff J.R ⟨rfl,?_⟩;refine TK (pl:=pl) hm hp x.qs M ns 0 128 bF [] ag ag ag _ _ hr hn J.jQ ok.sep J.R rfl (by exact FI 0 60 1 128 hq rfl) (by simp;exact FI 0 60 0 4096 hq rfl) O (λL D U N F f=>?_) λD U F f=>?_
 ·obtain l:=J.rd f F;obtain j:=V.trans (f.mono λi R=>zP R);rw[mn];refine bp (by rw[aO];exact CF 0 0 0 60 0 4096 (EL N) hq rfl) ?_;obtain X:=(l.app (l:=[AO.list (L.map .int)])).1;obtain A:Fr (eY x) B (D++[AO.list (L.map .int)]):=j.trans Fr.app;obtain T:(D++[AO.list (L.map .int)])[D.length]? =ae (AO.list (L.map .int)):=g_last;generalize D++[AO.list (L.map .int)]=cO at *;wtm_at "r";refine FU T ?_;wtm_at "r";refine bp (by simp) ?_;wtm_at "r";refine lV g_last (by decide) rfl ?_;exact q _ _ U X.app.1 (A.trans Fr.app)
 ·exact e D U (J.rd f F) (V.trans (f.mono λi R=>zP R))
def sY {ns:ah aS}{t:Thing}{i:Int}(h:(b7 M ns t.2.1 t.1).1=ae i):bM M ns (t :: R)=(i :: (bM M (b7 M ns t.2.1 t.1).2 R).1,(bM M (b7 M ns t.2.1 t.1).2 R).2):=by
 rw[bM];rw[show b7 M ns t.2.1 t.1=(ae i,(b7 M ns t.2.1 t.1).2) from qX h rfl]
def sZ {ns:ah aS}{t:Thing}(h:(b7 M ns t.2.1 t.1).1=ag):bM M ns (t :: R)=([],(b7 M ns t.2.1 t.1).2):=by
 rw[bM];rw[show b7 M ns t.2.1 t.1=(ag,(b7 M ns t.2.1 t.1).2) from qX h rfl]
def wg:∀{ns:ah aS} {R:ah Thing},(bM M ns R).1.length<=R.length:=by
 intro ns l;induction l generalizing ns with
 |nil=>
  exact a4 _
 |cons t R B=>
  cases h:(b7 M ns t.2.1 t.1).1 with
  |none=>rw[sZ h];exact cZ _
  |some i=>rw[sY h];exact Aw B
def TQ {b:ak}:∀{M:ah Rd} {ns:ah aS},(∀n∈ns,n.length<=b)->∀n∈(b7 M ns m p).2,n.length<=b+1:=by
 intro F;induction F with
 |nil=>
  intro D;cases D with
  |nil=>
   intro _ _ B;exact nomatch B
  |cons _ _=>
   intro _ _ B;exact nomatch B
 |cons r M G=>
  intro D;cases D with
  |nil=>
   intro _ _ B;exact nomatch B
  |cons n ns=>
   intro h E B;have B:E∈(if m= .int 7/\r.1≠[]then ((ag:ax Int),n :: ns)else ((b7 M ns m p).1.map λi=>b2i (dv r ((dw n m).getD p) m)+i,(n++[(m,p)]) :: (b7 M ns m p).2)).2:=B;split at B
   ·exact xp (h E B)
   ·rcases bu.mp B with rfl |B
    ·rw[bK];have:=h n (.head _);simp;exact this
    ·exact G (λn B=>h n (.tail _ B)) E B
def TR {x:eN}(ok:x.Ok)(hr:∀r∈M,fy r)(hq:x.qs.length<=60)(ht:∀t∈R,iE t)(hb:b0+R.length<=60)(has:gB.length+R.length<=4096):
  iV (FN (k+2)) (.ref x.lm) (eY x) (KJ x M dI gB R b0) (EK x M dI gB R) (R.map tA) (bM M dI R).1 where
 call j y B hy:=by
  rintro⟨ns,G,ha,hn,hj⟩;rw[dA]at hy;cases E:R[j]? with
  |none=>rw[E]at hy;cases hy
  |some t=>
   rw[E]at hy;cases hy;have S:=ba E;obtain⟨T,U⟩:=ht t (cD E);have L:gB++gn (R.take (j+1))=(gB++gn (R.take j))++[.int t.2.2]:=by
    rw[take_snoc E];unfold gn;rw[dH,<-jY];rfl
   rw[drop_cons E]at ha;have K:(gB++gn (R.take j)).length<=4096:=by
    unfold gn;rw[bK,aO,er];lia
   refine TP ok G U T hr (λn I=>by have:=hn n I;lia) hq K (λs H N O f=>?_) λH N O f=>?_
   ·rw[sY N]at ha;have D:s :: (bM M (b7 M ns t.2.1 t.1).2 (R.drop (j+1))).1=(bM M dI R).1.drop j:=(lC ha).1;have J:(bM M (b7 M ns t.2.1 t.1).2 (R.drop (j+1))).2=(bM M dI R).2:=(lC ha).2;have F:(bM M dI R).1[j]? =ae s:=by
     have:((bM M dI R).1.drop j)[0]? =ae s:=by rw[<-D];rfl
     rwa [xn,xo]at this
    refine⟨s,F,rfl,⟨_,by rw[L];exact O,?_,λn I=>?_,ba F⟩,f⟩
    ·rw[drop_cons F]at D;injection D with _ D;exact qX D J
    ·have:=TQ hn n I;lia
   ·rw[sZ N]at ha;have D:[]=(bM M dI R).1.drop j:=(lC ha).1;have J:(b7 M ns t.2.1 t.1).2=(bM M dI R).2:=(lC ha).2;have Q:(bM M dI R).1.length=j:=by have:=pT.mp D.symm;exact AN (this) (hj)
    refine⟨rfl,Q,?_,f⟩;unfold EK;rw[Q,L,<-J];exact O
 zg j B H:=by
  rintro⟨ns,G,h⟩ _ F;exact⟨ns,G.mono F,h⟩
 QG B H G _ F:=Good.mono G F
 inside j B:=by
  rintro⟨ns,G,h⟩ i hi;exact(G.app (l:=[])).2 i hi
 le:=by rw[aO];exact wg
def TS {x:eN}(j:ak)(B:St)(h:KJ x M dI gB R b0 j B):jP B (.ref x.lm):=by
 obtain⟨ns,G,h⟩:=h;obtain⟨a,e,D,F,E⟩:=G.lm;exact⟨_,a,e,D,_,rfl,E⟩
def TU {x:eN}(G:Good x M dI gB B)(hb:∀n∈dI,n.length<=b0):KJ x M dI gB R b0 0 B:=
 ⟨dI,by unfold gn;rw[ug,t9,fS];exact G,by rw[mo,mo],hb,cZ _⟩
def yH {x:eN}(h:KJ x M dI gB R b0 R.length B):Good x M (bM M dI R).2 (gB++gn R) B:=by
 obtain⟨ns,G,h,-⟩:=h;rw[kf (a4 _)]at h;have:ns=(bM M dI R).2:=(lC h).2;rw[<-this];rw[j5]at G;exact G
def Ex.g (h:Ex B H)(hi:B[i]? =ae o):H[i]? =ae o:=Fr.get h hi id
def Ex.any (h:Ex B H):Fr D B H:=Fr.mono h λu h=>h.elim
def Ex.nY (h:Ex B H)(hi:B.length<=i):Ex B (H.set i o):=Fr.old h (Fr.set (D:=λj=>j=i) rfl) λj D e=>by exact XX 1 0 (CH 0 0 1 0 (CH 0 0 0 0 hi (EG e)) D) rfl
def lZ {s:au}(h:cY s=aj):a8 n B (.str s)=ae (.str s):=by
 have e:a8 n B (.str s)=if cY s then ae (.str s)else ag:=by cases n <;>rfl
 rw[e,aN h]
def zQ:∀{l:ah au},(∀s∈l,cY s=aj)->c8 (a8 n B) (l.map .str)=ae (l.map .str):=by
 intro l;induction l with
 |nil=>
  intro _;exact rfl
 |cons s l F=>
  intro h;obtain E:a8 n B (.str s)=ae (.str s):=lZ (h s (.head _));show(match a8 n B (.str s),c8 (a8 n B) (l.map .str)with |some d,ae ds=>ae (d :: ds) |_,_=>bq)=_;rw[E,F λs D=>h s (.tail _ D)];rfl
def qI {i:Int}:a8 n B (.int i)=ae (.int i):=by cases n <;>rfl
def zR:∀{l:ah Int},c8 (a8 n B) (l.map .int)=ae (l.map .int):=by
 intro l;induction l with
 |nil=>
  exact rfl
 |cons i l D=>
  show(match a8 n B (.int i),c8 (a8 n B) (l.map .int)with |some d,ae ds=>ae (d :: ds) |_,_=>bq)=_;rw[qI,D];rfl
def l3 {ds:ah hX}(h:B[i]? =ae (.list l))(hd:c8 (a8 n B) l=ae ds):a8 (n+1) B (.ref i)=ae (.list ds):=by
 show((B[i]?.bind listOf).bind λl=>(c8 (a8 n B) l).map Ja)=_;rw[h];show(c8 (a8 n B) l).map Ja=_;rw[hd];rfl
def s7 {b:AV}{x y:hX}(h1:a8 8 B a=ae x)(h2:a8 8 B b=ae y)(q:QB (!bY x y) B):WP (dQ .NotEq a b) B QB E:=by
 show WP (lF a b>>=λc=>te (!c)) B QB E;exact av (zF h1 h2 (sL q))
def w_eq {b:AV}{x y:hX}(h1:a8 8 B a=ae x)(h2:a8 8 B b=ae y)(q:QB (bY x y) B):WP (dQ .Eq a b) B QB E:=by
 show WP (lF a b) B QB E;exact zF h1 h2 q
def zS {ds:ah hX}(h:B[i]? =ae (.list l))(hd:c8 (a8 7 B) l=ae ds)(hj:B[j]? =ae (.list []))(q:QB (!l.isEmpty) B):WP (dQ .NotEq (.ref i) (.ref j)) B QB E:=by
 refine s7 (l3 h hd) (l3 hj (ds:=[]) rfl) ?_;have:bY (.list ds) (.list [])=l.isEmpty:=by
  rw[bY];cases l with
  |nil=>cases hd;rw[lE];rfl
  |cons x l=>
   have:c8 (a8 7 B) (x :: l)=(match a8 7 B x,c8 (a8 7 B) l with |some d,ae ds=>ae (d :: ds) |_,_=>bq):=rfl;rw[this]at hd;cases F:a8 7 B x with
   |none=>rw[F]at hd;cases hd
   |some d=>
    rw[F]at hd;cases D:c8 (a8 7 B) l with
    |none=>rw[D]at hd;cases hd
    |some G=>rw[D]at hd;cases hd;rw[lE];rfl
 rw[this];exact q
def FV {l:ah au}{s:au}(h:B[i]? =ae (.list (l.map .str)))(hs:cY s=aj)(hl:∀s∈l,cY s=aj)(q:QB (l.contains s) B):WP (dQ .In (.str s) (.ref i)) B QB E:=by
 refine av (dj h ?_);show WP (xy (.str s) (l.map .str)) B QB E;refine av (w_get ?_);obtain D:a8 8 B (.str s)=ae (.str s):=lZ hs;rw[D,zQ hl];refine aQ ?_;have e:((l.map PyData.str).any λy=>bY y (.str s))=l.contains s:=by
  rw[List.any_map,List.contains_eq_any_beq]
  congr 1
  funext x
  show bY (.str x) (.str s)=_;rw[bY];rw[qW,bU,bU];exact eq_comm
 rw[e];exact q
def m_split {a0:AV->St->Prop}{s c:au}(hc:(c.length == 0)=az)(hl:s.length<=4096)(hp:(mZ s (l4 s c 0 s.length (s.length+1)) c.length).length<=4096)(c0:(aU s c).length<=4096)(q:a0 (.ref B.length) (B++[.list ((aU s c).map .str)])):WP (e8 F (.str s) .split [.str c] []) B a0 E:=
 av (qE (av (fE (av (eZ (av (qE (av (bw ⟨hc,hl,hp⟩ (bp (by rw[aO];exact c0) q))))))))))
def sk:∀{l:ah au},strsOf (l.map .str)=ae l:=by
 intro l;induction l with
 |nil=>
  exact rfl
 |cons x l B=>
  show(strsOf (l.map .str)).map (x :: ·)=_;rw[B];rfl
def zT {a0:AV->St->Prop}{s:au}{l:ah au}(h:B[i]? =ae (.list (l.map .str)))(hj:pB s l=aj)(q:a0 (.str (jv s l)) B):WP (e8 F (.str s) .join [.ref i] []) B a0 E:=
 av (qE (av (fE (av (eZ (av (eh (av (fB h (av (dU sk (av (bw hj (aQ q))))))))))))))
def wh:∀{n k:ak} {c:Int} {v:AV},(mP 1 n c)[k]? =ae v->v= .int (c+k)/\k < n:=by
 intro F;induction F with
 |zero=>
  intro _ _ _ h;exact nomatch h
 |succ n D=>
  intro B;cases B with
  |zero=>
   intro c v h;cases h;exact⟨by simp,Bh _⟩
  |succ k=>
   intro c v h;obtain⟨G,E⟩:=D (k:=k) (c:=c+1) h;refine⟨?_,by exact FI 1 0 2 1 E rfl⟩;rw[G];congr 1;lia
def qJ {d:Int}:∀{n:ak} {c:Int},(mP d n c).length=n:=by
 intro n;induction n with
 |zero=>
  intro _;exact rfl
 |succ n B=>
  intro c;show(mP d n (c+d)).length+1=_;rw[B]
def wi {a0:AV->St->Prop}(e:B[i]? =ae (.list l))(hl:l.length<=4096)(hz:z=k)(hk:k<=8192)(q:a0 (.ref B.length) (B++[.list (l.take k)])):WP (kl (.ref i) ag (ae (.int z))) B a0 E:=by
 subst hz;exact FD e hl (by exact FI 0 8192 1 4611686018427387904 hk rfl) q
def FW (h:fy r):(∀s∈r.1,cY s=aj)/\∀s∈r.2,cY s=aj:=by
 have:=bW.mp Tv;exact⟨bW.mp (this _ (gO _ h.1)),bW.mp (this _ (hY _ h.2))⟩
theorem zU {s:au}(h:s∈modS):vQ s (sO ".") 3 (jr s):=by
 have:=bW.mp Tt s h;simp only[cW,fq,bW,nr]at this;obtain⟨⟨⟨⟨⟨G,E⟩,D⟩,I⟩,B⟩,H⟩:=this;exact⟨G,by exact FI 0 8 0 16 E rfl,D,λk F=>I k (by exact FI 0 3 1 4 F rfl),B,H⟩
theorem FX {s:au}(h:s∈sz):vQ s (sO "/") 4 (kT s):=by
 have:=bW.mp Tu s h;simp only[cW,fq,bW,nr]at this;obtain⟨⟨⟨⟨⟨G,E⟩,D⟩,I⟩,B⟩,H⟩:=this;exact⟨G,by exact E,D,λk F=>I k (by exact FI 0 4 1 5 F rfl),B,H⟩
def TV {s:au}(h:fy r)(hs:s∈modS):sC r.1 (.str s)=(jr s).any λx=>r.1.contains x:=by
 have:=bW.mp (bW.mp Tq _ h.1) s hs;exact eq_of_beq this
def TX {s:au}(h:fy r)(hs:s∈sz):qA r.2 (.str s)=(kT s).any λx=>r.2.contains x:=by
 have:=bW.mp (bW.mp Ts _ h.2) s hs;exact eq_of_beq this
def TY {α:Type}{l:ah α}{a0:α->aB}:(!(l.filter a0).isEmpty)=l.any a0:=by
 rw[qW];simp[uu,ua,Jb]
def s8 {α:Type}{l:ah α}{x:α}{a0:α->aB}(hx:l[k]? =ae x):(l.take (k+1)).filter a0=(l.take k).filter a0++(if a0 x then [x]else []):=by
 rw[take_snoc hx,List.filter_append]
 congr 1
 by_cases h:a0 x
 ·rw[aN h,Jc h];rfl
 ·rw[aK h,Jd h];rfl
def qK {a0:aB->St->Prop}{t:DT}(h:WP (t Q) B a0 E):mN Q a0 E [t] B:=h
theorem TZ {a0:ah AV->St->Prop}{c pi:ak}{s:au}(fs:vQ s (sO ".") 3 (jr s))(hc:B[c]? =ae (.cell (ae (.ref pi))))(hp:B[pi]? =ae (.list ((aU s (sO ".")).map .str)))(q:∀H,Ex B H->a0 ((jr s).map .str) H):
  WP (cw (bX (eK (vS ".")) .join [(fu (eC "parts") ag (ae (aY .Add (eL 1) (eK (.int 1)))))] []) [] (pL 1) 128 (.range 0 (aU s (sO ".")).length 1) ⟨F,[(aq "parts",c)],[ag,ag,ag]⟩ []) B a0 E:=by
 obtain D:=fs.len;refine lY (G:=λu=>eM) (a0:=λj J I H=>J=((jr s).take j).map .str/\Ex B H/\mR I) (K:=mP 1 (aU s (sO ".")).length 0)
  Yl.range (by rw[qJ];exact FI 0 3 1 128 D rfl) (λu u u u u=>trivial) ⟨rfl,Fr.refl _ _,mR.mk⟩ ?_ ?_
 ·intros _ j v J O H _ R M;obtain⟨rfl,G,L⟩:=M;obtain (⟨T,U,S,rfl⟩):=L;obtain⟨rfl,K⟩:=wh R;obtain T4:=G.g hc;obtain qG:=G.g hp;wtm_at "r";refine qH ?_;refine t_t ?_;refine⟨by rw[aO,er];exact TT ML (CF 1 0 0 3 0 4096 K D rfl),?_⟩;wtm_at "r";refine⟨(λh=>nomatch h.1),nW (.inr (.inr rfl)) ?_⟩;wtm_at "r";refine wi (k:=j+1) qG (by rw[aO];exact FI 0 3 0 4096 D rfl) (by lia) (by exact CF 1 0 0 3 1 8192 K D rfl) ?_;wtm_at "r";rw[<-rI];refine zT g_last (fs.join _ (by exact TT K D)) ?_;refine⟨?_,G.trans Fr.app,mR.mk⟩;have N:(jr s)[j]? =ae (jv (sO ".") ((aU s (sO ".")).take (j+1))):=by
   unfold jr;rw[dA,Je K];rfl
  rw[take_snoc N,dH];rfl
 ·rintro J I H ⟨rfl,G,-⟩;rw[qJ,gy (by unfold jr;rw[aO,wR];exact a4 _)];exact q H G
theorem T5 {c0:ah AV->St->Prop}{c ai:ak}{L a0:ah au}(hL:L.length<=16)(d0:∀x∈L,cY x=aj)(e0:∀x∈a0,cY x=aj)(hc:B[c]? =ae (.cell (ae (.ref mi))))(hm:B[mi]? =ae (.list (a0.map .str)))(ha:B[ai]? =ae (.list (L.map .str)))(q:c0 ((L.filter λx=>a0.contains x).map .str) B):
  WP (cw (eL 1) [(aR .In (eL 1) (eC "modules"))] (pL 1) 128 (.list (ae ai) 0) ⟨F,[(aq "modules",c)],[ag,ag,ag]⟩ []) B c0 E:=by
 refine lY (G:=λH=>H=B) (a0:=λj D I H=>D=((L.take j).filter λx=>a0.contains x).map .str/\H=B/\mR I) (K:=L.map .str)
  (Yl.gK λH e=>by rw[e];exact ha) (by rw[aO];exact FI 0 16 1 128 hL rfl) (λu u u u h=>h.2.1) ⟨rfl,rfl,mR.mk⟩ ?_ ?_
 ·intros _ j v D R H _ J O;obtain⟨rfl,rfl,N⟩:=O;obtain (⟨T,U,S,rfl⟩):=N;rw[dA]at J;cases G:L[j]? with
  |none=>rw[G]at J;cases J
  |some x=>
   intros x _ G;rw[G]at J;cases J;wtm_at "r";refine qK ?_;wtm_at "r";refine FV hm (d0 x (cD G)) e0 ⟨λK=>?_,λK=>?_⟩
   ·refine⟨?_,?_⟩
    ·rw[aO];have:=pD (λx=>a0.contains x) (L.take j);rw[er]at this;exact TT this (CF 0 0 0 16 0 4096 MR hL rfl)
    ·wtm_at "r";refine⟨?_,rfl,mR.mk⟩;rw[s8 G,aN K,dH];rfl
   ·refine⟨?_,rfl,mR.mk⟩;rw[s8 G,aK (by rw[K];simp),fS]
 ·rintro D I H ⟨rfl,rfl,-⟩;rw[aO,j5];exact q
theorem T6 {c0:ah AV->St->Prop}{c cd pi:ak}{s:au}{a0:ah au}(fs:vQ s (sO "/") 4 (kT s))(d0:∀x∈a0,cY x=aj)(hc:B[c]? =ae (.cell (ae (.ref pi))))(hp:B[pi]? =ae (.list ((aU s (sO "/")).map .str)))(e0:B[cd]? =ae (.cell (ae (.ref di))))(hd:B[di]? =ae (.list (a0.map .str)))(q:∀H (l:ah Int),Ex B H->(!l.isEmpty)=(kT s).any (λx=>a0.contains x)->l.length<=16->c0 (l.map .int) H):
  WP (cw (eL 1) [(aR .In (bX (eK (vS "/")) .join [(fu (eC "steps") ag (ae (eL 1)))] []) (eC "directories"))] (pL 1) 128 (.range 0 (aU s (sO "/")).length 1) ⟨F,[(aq "steps",c),(aq "directories",cd)],[ag,ag,ag,ag]⟩ []) B c0 E:=by
 obtain D:=fs.len;refine lY (G:=λy=>eM) (a0:=λj L I H=>(∃l:ah Int,L=l.map .int/\(!l.isEmpty)=((kT s).take j).any (λx=>a0.contains x)/\l.length<=j)/\Ex B H/\jo I) (K:=mP 1 (aU s (sO "/")).length 0)
  Yl.range (by rw[qJ];exact FI 0 4 1 128 D rfl) (λy y y y y=>trivial) ⟨⟨[],rfl,rfl,a4 _⟩,Fr.refl _ _,jo.mk⟩ ?_ ?_
 ·intros _ j v L Y H _ Z U;obtain⟨W,K,T⟩:=U;obtain (⟨k,u,A,w,rfl⟩):=T;obtain (⟨l,rfl,O,J⟩):=W;obtain⟨rfl,R⟩:=wh Z;obtain T4:=K.g hc;obtain qG:=K.g hp;wtm_at "r";refine qK ?_;wtm_at "r";refine⟨(λh=>nomatch h.1),nW (.inr (.inr rfl)) ?_⟩;wtm_at "r";refine wi (k:=j) qG (by rw[aO];exact FI 0 4 0 4096 D rfl) (by lia) (by exact CF 1 0 0 4 0 8192 R D rfl) ?_;wtm_at "r";rw[<-rI];refine zT g_last (fs.join _ (by exact CF 1 0 0 4 0 4 R D rfl)) ?_;obtain G:Ex B (H++[AO.list (((aU s (sO "/")).take j).map .str)]):=K.trans Fr.app;obtain Wv:=G.g e0;obtain oV:=G.g hd;have X:(kT s)[j]? =ae (jv (sO "/") ((aU s (sO "/")).take j)):=by
   unfold kT;rw[dA,Je R];rfl
  wtm_at "r";refine FV oV (fs.EM _ (cD X)) d0 ⟨λN=>?_,λN=>?_⟩
  ·refine⟨by rw[aO];exact TT J (CF 1 0 0 4 0 4096 R D rfl),?_⟩;wtm_at "r";refine⟨⟨l++[0+(j:Int)],by rw[dH];rfl,?_,by simp;exact J⟩,G,jo.mk⟩;obtain N:a0.contains (jv (sO "/") ((aU s (sO "/")).take j))=aj:=N;rw[take_snoc X,BD,pI,N];simp
  ·refine⟨⟨l,rfl,?_,by exact FI 0 0 0 1 J rfl⟩,G,jo.mk⟩;obtain N:a0.contains (jv (sO "/") ((aU s (sO "/")).take j))=az:=N;rw[take_snoc X,BD,pI,N,O];simp
 ·intros _ L I H _ S;obtain⟨V,K,-⟩:=S;obtain (⟨l,rfl,O,J⟩):=V;rw[qJ]at O J;rw[gy (by unfold kT;rw[aO,wR];exact a4 _)]at O;exact q H l K O (by exact CF 0 0 0 4 0 16 J D rfl)
theorem T7 {a0:AV->St->Prop}(hr:fy r)(hm:eg m)(hp:f3 p)(e0:B[mi]? =ae (.list (r.1.map .str)))(h0:B[di]? =ae (.list (r.2.map .str)))(q:∀H,Ex B H->a0 (.bool (dv r p m)) H):WP (FN (k+1) (.fn (aq "_law_to_be_left_out")) [p,m,.ref mi,.ref di] []) B a0 E:=by
 obtain V:=FW hr;refine RU ?_;obtain hM:(B++[AO.cell (ae (.ref mi)),.cell (ae (.ref di)),.cell ag,.cell ag])[B.length]? =ae (.cell (ae (.ref mi))):=qD;obtain hD:(B++[AO.cell (ae (.ref mi)),.cell (ae (.ref di)),.cell ag,.cell ag])[B.length+1]? =ae (.cell (ae (.ref di))):=iY;obtain hP:(B++[AO.cell (ae (.ref mi)),.cell (ae (.ref di)),.cell ag,.cell ag])[B.length+2]? =ae (.cell ag):=iY;obtain hS:(B++[AO.cell (ae (.ref mi)),.cell (ae (.ref di)),.cell ag,.cell ag])[B.length+3]? =ae (.cell ag):=iY;obtain Y:Ex B (B++[AO.cell (ae (.ref mi)),.cell (ae (.ref di)),.cell ag,.cell ag]):=Fr.app;generalize B++[AO.cell (ae (.ref mi)),.cell (ae (.ref di)),.cell ag,.cell ag]=a7 at *;have cont:∀(D:St) (ai:ak) (L:ah au) (x5:ax AV),Ex B D->D[B.length]? =ae (.cell (ae (.ref mi)))->D[B.length+1]? =ae (.cell (ae (.ref di)))->D[B.length+3]? =ae (.cell ag)->D[ai]? =ae (.list (L.map .str))->
   L.length<=16->(∀x∈L,cY x=aj)->sC r.1 m=L.any (λx=>r.1.contains x)->
   WP (sq [bJ (nR (aR .Is (eL 0) (eK .none)) (aR .NotEq (d9 (eG [(".0",.local),("name",.local),("modules",.free)]) az (iA (eL 4)) (pL 1) [(aR .In (eL 1) (eC "modules"))] (eL 1)) (eList []))) [
  bL (eK (.bool aj))] [],
 aE (pC "steps") (bX (eL 0) .split [(eK (vS "/"))] []),
 bL (lQ .NotEq (d9 (eG [(".0",.local),("k",.local),("directories",.free),("steps",.free)]) az (iS (iU [(aX (eK (.bi "len")) [(eC "steps")] [])])) (pL 1) [(aR .In (bX (eK (vS "/")) .join [(fu (eC "steps") ag (ae (eL 1)))] []) (eC "directories"))] (eL 1)) (eList []))]
   ⟨FN k,[(aq "steps",B.length+3),(aq "parts",B.length+2),(aq "directories",B.length+1),(aq "modules",B.length)],[ae p,ae m,ag,ag,ae (.ref ai),x5,ag,ag,ag]⟩) D (λx B=>WP (eP x.1) B a0 E) E:=by
  intros _ D ai L x5 _ Y hM hD hS A hL j u;wtm_at "r";refine zB ?_;rcases hp with rfl |⟨ps,FY,rfl⟩
  ·refine t_t ?_;wtm_at "r";have:dv r .none m=aj:=by unfold dv qA;rw[rq]
   rw[this]at q;exact q _ Y
  ·refine t_f ?_;obtain I:=FX FY;wtm_at "r";refine iH (cs:=[(aq "modules",B.length)]) (L:=[ag,ag,ag]) (by decide +kernel) (by kernel_rfl) (λv=>by kernel_rfl) rfl ?_;wtm_at "r";refine ff A ⟨rfl,T5 hL j V.1 hM (Y.g e0) A ?_⟩;obtain o:(L.filter λx=>r.1.contains x).length<=L.length:=pD _ _;refine bp (by rw[aO];exact CF 0 0 0 16 0 4096 o hL rfl) ?_;wtm_at "r";refine bp (by simp) ?_;refine zS (g_app g_last) (zQ λs b=>j s ((A4.mp b).1)) g_last ?_;have e1:(!((L.filter λx=>r.1.contains x).map AV.str).isEmpty)=sC r.1 m:=by
    rw[u,<-TY,BE]
   rw[e1];obtain W:Ex B (D++[AO.list ((L.filter λx=>r.1.contains x).map .str)]++[AO.list []]):=(Y.trans Fr.app).trans Fr.app;obtain d0:(D++[AO.list ((L.filter λx=>r.1.contains x).map .str)]++[AO.list []])[B.length+1]? =ae (.cell (ae (.ref di))):=g_app (g_app hD);obtain w:(D++[AO.list ((L.filter λx=>r.1.contains x).map .str)]++[AO.list []])[B.length+3]? =ae (.cell ag):=g_app (g_app hS);generalize D++[AO.list ((L.filter λx=>r.1.contains x).map .str)]++[AO.list []]=bk at *;refine⟨λc1=>?_,λc1=>?_⟩
   ·wtm_at "r";have:dv r (.str ps) m=aj:=by unfold dv;rw[c1];rfl
    rw[this]at q;exact q _ W
   ·have M:dv r (.str ps) m=(kT ps).any λx=>r.2.contains x:=by
     unfold dv;rw[c1,TX hr FY];rfl
    rw[M]at q;obtain F:=I.len;wtm_at "r";refine⟨(λh=>nomatch h.1),nW (.inr (.inl rfl)) ?_⟩;wtm_at "r";refine m_split (by decide +kernel) (by have:=I.short;exact FI 0 16 0 4096 this rfl) I.parts (dW F (by decide)) ?_;obtain j0:(bk++[AO.list ((aU ps (sO "/")).map .str)])[B.length+3]? =ae (.cell ag):=g_app w;wtm_at "r";obtain K:Ex B ((bk++[AO.list ((aU ps (sO "/")).map .str)]).set (B.length+3) (.cell (ae (.ref bk.length)))):=Ex.nY (W.trans Fr.app) (by exact RR 0 3 rfl);obtain N:((bk++[AO.list ((aU ps (sO "/")).map .str)]).set (B.length+3) (.cell (ae (.ref bk.length))))[B.length+3]? =ae (.cell (ae (.ref bk.length))):=de j0;obtain O:((bk++[AO.list ((aU ps (sO "/")).map .str)]).set (B.length+3) (.cell (ae (.ref bk.length))))[B.length+1]? =ae (.cell (ae (.ref di))):=g_ne (by exact NT (gR _)) (g_app d0);obtain J:((bk++[AO.list ((aU ps (sO "/")).map .str)]).set (B.length+3) (.cell (ae (.ref bk.length))))[bk.length]? =ae (.list ((aU ps (sO "/")).map .str)):=g_ne (by have:=ba w;exact NE (this)) g_last;generalize (bk++[AO.list ((aU ps (sO "/")).map .str)]).set (B.length+3) (.cell (ae (.ref bk.length)))=dZ at *;refine iH (cs:=[(aq "steps",B.length+3),(aq "directories",B.length+1)]) (L:=[ag,ag,ag,ag]) (by decide +kernel) (by kernel_rfl) (λv=>by kernel_rfl) rfl ?_;wtm_at "r";refine f_len J ?_;wtm_at "r";rw[aO];refine pg (by exact KN (by decide)) (by exact JC 4096 (FI 0 4 1 4096 I.len rfl)) ?_;rw[eB];wtm_at "r";refine⟨rfl,T6 I V.2 N J O (K.g h0) λZ l G hl f0=>?_⟩;refine bp (by rw[aO];exact FI 0 16 0 4096 f0 rfl) ?_;wtm_at "r";refine bp (by simp) ?_;refine zS (g_app g_last) zR g_last ?_;rw[BE,hl];wtm_at "r";exact q _ (((K.trans G).trans Fr.app).trans Fr.app)
 unfold y4;wtm_at "r";refine bp (by simp) ?_;obtain U:(a7++[AO.list []])[B.length]? =ae (.cell (ae (.ref mi))):=g_app hM;obtain X:(a7++[AO.list []])[B.length+1]? =ae (.cell (ae (.ref di))):=g_app hD;obtain R:(a7++[AO.list []])[B.length+2]? =ae (.cell ag):=g_app hP;obtain z:(a7++[AO.list []])[B.length+3]? =ae (.cell ag):=g_app hS;obtain T:Ex B (a7++[AO.list []]):=Y.trans Fr.app;obtain i0:(a7++[AO.list []])[a7.length]? =ae (.list []):=g_last;generalize a7++[AO.list []]=D at *;wtm_at "r";rcases hm with rfl |⟨s,b,rfl⟩
 ·refine s7 qI qI ?_;have:(!bY (.int 7) (.int 7))=az:=by rw[bY];rfl
  rw[this];refine t_f (x_nil (n_next ?_));exact cont D a7.length [] ag T U X z i0 (cZ _) (λv h=>nomatch h) rfl
 ·obtain I:=zU b;obtain h1:a8 8 D (.str s)=ae (.str s):=lZ I.ok;refine s7 h1 qI ?_;have:(!bY (.str s) (.int 7))=aj:=by rw[bY];rfl
  rw[this];refine t_t ?_;obtain F:=I.len;wtm_at "r";refine⟨(λh=>nomatch h.1),nW (.inr (.inl rfl)) ?_⟩;wtm_at "r";refine m_split (by decide +kernel) (by have:=I.short;exact FI 0 16 0 4096 this rfl) I.parts (dW F (by decide)) ?_;obtain f:(D++[AO.list ((aU s (sO ".")).map .str)])[B.length+2]? =ae (.cell ag):=g_app R;obtain l0:=ba R;wtm_at "r";obtain K:Ex B ((D++[AO.list ((aU s (sO ".")).map .str)]).set (B.length+2) (.cell (ae (.ref D.length)))):=Ex.nY (T.trans Fr.app) (by exact RR 0 2 rfl);obtain g0:((D++[AO.list ((aU s (sO ".")).map .str)]).set (B.length+2) (.cell (ae (.ref D.length))))[B.length+2]? =ae (.cell (ae (.ref D.length))):=de f;obtain c0:((D++[AO.list ((aU s (sO ".")).map .str)]).set (B.length+2) (.cell (ae (.ref D.length))))[B.length]? =ae (.cell (ae (.ref mi))):=g_ne (by exact NT (gR _)) (g_app U);obtain O:((D++[AO.list ((aU s (sO ".")).map .str)]).set (B.length+2) (.cell (ae (.ref D.length))))[B.length+1]? =ae (.cell (ae (.ref di))):=g_ne (by exact NT (a4 _)) (g_app X);obtain N:((D++[AO.list ((aU s (sO ".")).map .str)]).set (B.length+2) (.cell (ae (.ref D.length))))[B.length+3]? =ae (.cell ag):=g_ne (by exact NE (a4 _)) (g_app z);obtain J:((D++[AO.list ((aU s (sO ".")).map .str)]).set (B.length+2) (.cell (ae (.ref D.length))))[D.length]? =ae (.list ((aU s (sO ".")).map .str)):=g_ne (by exact NE (l0)) g_last;generalize (D++[AO.list ((aU s (sO ".")).map .str)]).set (B.length+2) (.cell (ae (.ref D.length)))=dZ at *;refine iH (cs:=[(aq "parts",B.length+2)]) (L:=[ag,ag,ag]) (by decide +kernel) (by kernel_rfl) (λv=>by kernel_rfl) rfl ?_;wtm_at "r";refine f_len J ?_;wtm_at "r";rw[aO];refine pg (by exact KN (by decide)) (by exact JC 4096 (FI 0 3 1 4096 I.len rfl)) ?_;rw[eB];wtm_at "r";refine⟨rfl,TZ I g0 J λZ G=>?_⟩;have S:(jr s).length<=16:=by unfold jr;rw[aO,wR];exact dW F (by decide)
  refine bp (by rw[aO];exact FI 0 16 0 4096 S rfl) ?_;refine cu rfl (n_next (x_nil (n_next ?_)));exact cont _ Z.length (jr s) ag ((K.trans G).trans Fr.app) (g_app (G.g c0)) (g_app (G.g O)) (g_app (G.g N)) g_last S I.EM (TV hr b)
def dO.fr (a0:Fr D B H):∀{is:ah ak} {ns:ah aS},dO B is ns->(∀i∈is,¬ D i)->dO H is ns:=by
 intro F;induction F with
 |nil=>
  intro E;cases E with
  |nil=>
   intro _ _;exact trivial
  |cons _ _=>
   intro h _;exact h.elim
 |cons i is G=>
  intro E;cases E with
  |nil=>
   intro h _;exact h.elim
  |cons n ns=>
   rintro⟨h1,h2⟩ hd;exact⟨a0.get h1 (hd i (.head _)),G h2 λj I=>hd j (.tail _ I)⟩
def fc.fr (a0:Fr D B H):∀{X:ah (ak×ak)} {M:ah Rd},fc B X M->(∀q∈X,¬ D q.1/\¬ D q.2)->fc H X M:=by
 intro F;induction F with
 |nil=>
  intro E;cases E with
  |nil=>
   intro _ _;exact trivial
  |cons _ _=>
   intro h _;exact h.elim
 |cons q X G=>
  intro E;cases E with
  |nil=>
   intro h _;exact h.elim
  |cons r M=>
   rintro⟨h1,h2⟩ hd;exact⟨⟨a0.get h1.1 (hd q (.head _)).1,a0.get h1.2 (hd q (.head _)).2⟩,G h2 λj I=>hd j (.tail _ I)⟩
def dO.at:∀{B:St} {is:ah ak} {ns:ah aS} {i:ak},dO B is ns->i∈is->∃n,B[i]? =ae (.list (nA n)):=by
 intro J E;induction E generalizing J with
 |nil=>
  intro _ _ _ h;exact nomatch h
 |cons i is G=>
  intro F;cases F with
  |nil=>
   intro _ h _;exact h.elim
  |cons n ns=>
   rintro j ⟨I,H⟩ D;rcases bu.mp D with rfl |D
   ·exact⟨n,I⟩
   ·exact(G H) D
def FZ (h:eg m):∃d,a8 8 B m=ae d/\(m= .int 7/\d= .int 7\/∃s,m= .str s/\d= .str s):=by
 rcases h with rfl |⟨s,hs,rfl⟩
 ·exact⟨_,qI,.inl ⟨rfl,rfl⟩⟩
 ·exact⟨.str s,lZ (zU hs).ok,.inr ⟨s,rfl,rfl⟩⟩
theorem F3 {b:AV}(ha:eg a)(hb:eg b)(q:QB (decide (a=b)) B):WP (dQ .Eq a b) B QB E:=by
 obtain⟨x,H,G⟩:=FZ (B:=B) ha;obtain⟨y,D,F⟩:=FZ (B:=B) hb;refine w_eq H D ?_;have:bY x y=decide (a=b):=by
  rcases G with ⟨rfl,rfl⟩ |⟨s,rfl,rfl⟩<;>rcases F with ⟨rfl,rfl⟩ |⟨t,rfl,rfl⟩
  ·rw[bY,ja rfl];rfl
  ·rw[bY,pH (λh=>nomatch h)]
  ·rw[bY,pH (λh=>nomatch h)]
  ·rw[bY];rw[qW,bU,decide_eq_true_iff];exact⟨λh=>by rw[h],λh=>by injection h⟩
 rw[this];exact q
theorem T8 {c ai:ak}{n:aS}{a0:ah AV->St->Prop}(hl:n.length<=100)(hn:∀q∈n,eg q.1)(hm:eg m)(hc:B[c]? =ae (.cell (ae m)))(ha:B[ai]? =ae (.list (nA n)))(q:a0 ((n.filter λq=>decide (q.1=m)).map (·.2)) B):
  WP (cw (eL 2) [(aR .Eq (eL 1) (eC "module"))] (cx [(pL 1),(pL 2)]) 128 (.list (ae ai) 0) ⟨F,[(aq "module",c)],[ag,ag,ag,ag]⟩ []) B a0 E:=by
 refine lY (G:=λH=>H=B) (a0:=λj D I H=>D=((n.take j).filter λq=>decide (q.1=m)).map (·.2)/\H=B/\jo I) (K:=nA n)
  (Yl.gK λH e=>by rw[e];exact ha) (by unfold nA;rw[aO];exact FI 0 100 1 128 hl rfl) (λu u u u h=>h.2.1) ⟨rfl,rfl,jo.mk⟩ ?_ ?_
 ·intros _ j v D N H _ J M;obtain⟨rfl,rfl,L⟩:=M;obtain (⟨R,T,O,S,rfl⟩):=L;unfold nA at J;rw[dA]at J;cases G:n[j]? with
  |none=>rw[G]at J;cases J
  |some x=>
   intros x _ G;rw[G]at J;cases J;wtm_at "r";refine qK ?_;wtm_at "r";refine F3 (hn x (cD G)) hm ⟨λK=>?_,λK=>?_⟩
   ·refine⟨?_,?_⟩
    ·rw[aO];have:=pD (λq:AV×AV=>decide (q.1=m)) (n.take j);rw[er]at this;exact TT this (CF 0 0 0 100 0 4096 MR hl rfl)
    ·wtm_at "r";refine⟨?_,rfl,jo.mk⟩;rw[s8 G,aN K,dH];rfl
   ·refine⟨?_,rfl,jo.mk⟩;rw[s8 G,aK (by rw[K];simp),fS]
 ·rintro D I H ⟨rfl,rfl,-⟩;unfold nA;rw[aO,j5];exact q
def T9 {n:aS}:(((n++[(m,p)]).filter λq=>decide (q.1=m)).map (·.2))[0]? =ae ((dw n m).getD p):=by
 have h:dw (n++[(m,p)]) m=ae ((dw n m).getD p):=by
  rw[wa,aN rfl];cases dw n m <;>rfl
 rw[<-h];unfold dw;rw[dA,<-List.head?_eq_getElem?,List.head?_filter]
def Ua {l:ah au}(h:B[i]? =ae (.list (l.map .str)))(hl:∀s∈l,cY s=aj)(hj:B[j]? =ae (.list []))(q:QB (!l.isEmpty) B):WP (dQ .NotEq (.ref i) (.ref j)) B QB E:=
 zS h (zQ hl) hj (by rw[BE];exact q)
def Ub {t:ak}{ys:ah AV}{x y:AV}{a0:ax (AV×AI)->St->Prop}(h:B[s]? =ae (.list K))(hx:K[j]? =ae x)(h':B[t]? =ae (.list ys))(hy:ys[k]? =ae y)(q:a0 (ae (.pair x y,.zip (.list (ae s) (j+1)) (.list (ae t) (k+1)))) B):
  WP (bx (.zip (.list (ae s) j) (.list (ae t) k))) B a0 E:=av (zN h hx (av (zN h' hy (aQ q))))
def Uc {b:AI}{a0:ax (AV×AI)->St->Prop}(h:B[s]? =ae (.list K))(hx:K[j]? =ag)(q:a0 ag B):WP (bx (.zip (.list (ae s) j) b)) B a0 E:=av (FR h hx (aQ q))
def F4 {α β:Type}{l:ah α}{a0:β->α}{x:β}{K:ah β}(h:l.drop j=(x :: K).map a0):l[j]? =ae (a0 x)/\l.drop (j+1)=K.map a0:=by
 have B:l[j]? =ae (a0 x):=by
  have:(l.drop j)[0]? =ae (a0 x):=by rw[h];rfl
  rwa [xn,xo]at this
 refine⟨B,?_⟩;rw[drop_cons B]at h;injection h
def g9.snoc {n:aS}(h:g9 n)(hm:eg m)(hp:f3 p):g9 (n++[(m,p)]):=λq B=>by
 rcases dX.mp B with B |B
 ·exact h q B
 ·rw[aJ.mp B];exact⟨hm,hp⟩
def Ud {n:aS}(h:g9 n)(hp:f3 p):f3 ((dw n m).getD p):=by
 unfold dw;cases B:n.find? (λq=>decide (q.1=m))with
 |none=>exact hp
 |some q=>exact(h q (IJ B)).2
def Ue {cm:ak}{A0 n0:ah AV}(hm:eg m)(hp:f3 p)(g0 x5 x6:ax AV):∀(d0:ah ak) (a9:ah (ak×ak)) (M:ah Rd) (ns:ah aS) (j c0:ak) (B:St) (e0:Int) (x8 x9 fT bS f Y:ax AV) (a0:FL×ah (ax AV)->St->Prop) (E:aI->St->Prop),
  d0.length=a9.length->(∀r∈M,fy r)->(∀n∈ns,n.length<=60/\g9 n)->dO B d0 ns->fc B a9 M->d0.Nodup->(∀i∈d0,∀q∈a9,q.1≠i/\q.2≠i)->B[NP]? =ae (.list A0)->B[LP]? =ae (.list n0)->NP∉d0->LP∉d0->
  A0.drop j=d0.map .ref->n0.drop j=a9.map pM->d0.length < c0->B[cm]? =ae (.cell (ae m))->
  (∀(s:Int) H (x8 x9 fT bS f Y:ax AV),(b7 M ns m p).1=ae s->dO H d0 (b7 M ns m p).2->Fr (· ∈d0) B H->a0 (.next,[g0,ae (.ref NP),ae (.ref LP),ae (.ref rp),ae p,x5,x6,ae (.int (e0+s)),x8,x9,fT,bS,f,Y]) H)->
  (∀H I,(b7 M ns m p).1=ag->dO H d0 (b7 M ns m p).2->Fr (· ∈d0) B H->a0 (.ret (.ref rp),I) H)->
  WP (forA (sq sx) (cx [(pL 8),(cx [(pL 9),(pL 10)])]) c0 (.zip (.list (ae NP) j) (.list (ae LP) j)) ⟨FN (k+1),[(aq "module",cm)],[g0,ae (.ref NP),ae (.ref LP),ae (.ref rp),ae p,x5,x6,ae (.int e0),x8,x9,fT,bS,f,Y]⟩) B a0 E:=by
 intro d0;induction d0 with
 |nil=>
  intro a9 M ns j c0 B e0 x8 x9 fT bS f Y a0 E L hr hn hN hL s0 J W i0 l0 f0 R V hf hc q e;rcases c0 with _ |c0
  ·exact XX 1 0 (CH 1 0 0 0 hf ZZ) rfl
  rcases a9 with _ |⟨_,_⟩
  ·rcases M with _ |⟨_,_⟩
   ·rcases ns with _ |⟨_,_⟩
    ·refine sQ (Uc W (rH (pT.mp R)) ⟨rfl,?_⟩);have:=q 0 B x8 x9 fT bS f Y rfl trivial (Fr.refl _ _);rw[BF]at this;exact this
    ·exact hN.elim
   ·exact hL.elim
  ·simp at L
 |cons i d0 ih=>
  intro a9 M ns j c0 B e0 x8 x9 fT bS f Y a0 E L hr hn hN hL s0 J W i0 l0 f0 R V hf hc q e;rcases c0 with _ |c0
  ·exact XX 1 0 (CH 1 0 0 0 hf ZZ) rfl
  rcases a9 with _ |⟨md,a9⟩
  ·simp at L
  rcases M with _ |⟨r,M⟩
  ·exact hL.elim
  rcases ns with _ |⟨n,ns⟩
  ·exact hN.elim
  have E0:=hN;obtain⟨hi,hN⟩:=hN;obtain⟨⟨y0,O0⟩,hL⟩:=hL;obtain⟨J0,R⟩:=F4 R;obtain⟨N0,V⟩:=F4 V;have B0:=hr r (.head _);have L0:=FW B0;obtain⟨T,z⟩:=hn n (.head _);obtain⟨S,r0⟩:=pJ.mp s0;have zO:d0.length+1 < c0+1:=hf;refine vZ (Ub W J0 i0 N0 ⟨rfl,?_⟩);unfold pM;wtm_at "r";have cont:∀K,¬ (m= .int 7/\r.1≠[])->Ex B K->WP (sq [
   b9 (bX (eL 8) .append [(gI [(eC "module"),(eL 4)])] []),
   aE (pL 11) (bz (d9 (eG [(".0",.local),("name",.local),("where",.local),("module",.free)]) aj (iA (eL 8)) (cx [(pL 1),(pL 2)]) [(aR .Eq (eL 1) (eC "module"))] (eL 2)) (eK (.int 0))),
   bJ (tV (aX (eK (.fn (aq "_law_to_be_left_out"))) [(eL 11),(eC "module"),(eL 9),(eL 10)] [])) [
    o5 (pL 7) (eL 7) .Add (eK (.int 1))] []] ⟨FN (k+1),[(aq "module",cm)],[g0,ae (.ref NP),ae (.ref LP),ae (.ref rp),ae p,x5,x6,ae (.int e0),ae (.ref i),ae (.ref md.1),ae (.ref md.2),bS,f,Y]⟩) K
    (Left (λI B=>WP (forA (sq sx) (cx [(pL 8),(cx [(pL 9),(pL 10)])]) c0 (.zip (.list (ae NP) (j+1)) (.list (ae LP) (j+1))) ⟨FN (k+1),[(aq "module",cm)],I⟩) B a0 E) a0) E:=by
   intro K P0 u;have e1:b7 (r :: M) (n :: ns) m p=((b7 M ns m p).1.map λi=>b2i (dv r ((dw n m).getD p) m)+i,(n++[(m,p)]) :: (b7 M ns m p).2):=aK P0;have w0:=u.g hc;have U:=u.g hi;wtm_at "r";refine⟨(λh=>nomatch h.2),hW U (.inl rfl) ?_⟩;wtm_at "r";refine jt U (by unfold nA;rw[aO];exact FI 0 60 0 4096 T rfl) ?_;have I0:Fr (· ∈i :: d0) B (K.set i (.list (nA n++[.pair m p]))):=u.any.trans (Fr.set (.head _));have b:(K.set i (.list (nA n++[.pair m p])))[cm]? =ae (.cell (ae m)):=g_ne (cC U w0 (by simp)) w0;have o:(K.set i (.list (nA n++[.pair m p])))[i]? =ae (.list (nA (n++[(m,p)]))):=by
    rw[de U];unfold nA;rw[dH];rfl
   have G:Fr (λa=>a=i) B (K.set i (.list (nA n++[.pair m p]))):=u.any.trans (Fr.set rfl);have C0:=hN.fr G λa O e=>S (e ▸ O);have T0:=hL.fr G λq hq=>J i (.head _) q (.tail _ hq);have o0:=G.get y0 (J i (.head _) md (.head _)).1;have v0:=G.get O0 (J i (.head _) md (.head _)).2;have z0:=G.get W λe=>l0 (e ▸ .head _);have p0:=G.get i0 λe=>f0 (e ▸ .head _);generalize K.set i (.list (nA n++[.pair m p]))=bF at *;wtm_at "r";refine iH (cs:=[(aq "module",cm)]) (L:=[ag,ag,ag,ag]) (by decide +kernel) (by kernel_rfl) (λy=>by kernel_rfl) rfl ?_;wtm_at "r";refine ff o ⟨rfl,T8 (by rw[bK,ux];exact FI 0 60 1 100 T rfl) (λq hq=>(z.snoc hm hp q hq).1) hm b o ?_⟩;have m0:=pD (λq:AV×AV=>decide (q.1=m)) (n++[(m,p)]);rw[bK (as:=n),ux]at m0;refine bp (by rw[aO];exact CF 0 1 0 60 0 4096 m0 T rfl) ?_;refine w_K (lV g_last (by decide) T9 ?_);have X:Ex bF (bF++[AO.list (((n++[(m,p)]).filter λq=>decide (q.1=m)).map (·.2))]):=Fr.app;generalize bF++[AO.list (((n++[(m,p)]).filter λq=>decide (q.1=m)).map (·.2))]=bk at *;have U0:=X.g b;wtm_at "r";refine T7 B0 hm (Ud z hp) (X.g o0) (X.g v0) λZ R0=>?_;have F:Ex bF Z:=X.trans R0;have w:Fr (· ∈i :: d0) B Z:=I0.trans F.any;have u0:=F.g o;have step:∀(v:Int),v=b2i (dv r ((dw n m).getD p) m)->∀A,WP (forA (sq sx) (cx [(pL 8),(cx [(pL 9),(pL 10)])]) c0 (.zip (.list (ae NP) (j+1)) (.list (ae LP) (j+1))) ⟨FN (k+1),[(aq "module",cm)],[g0,ae (.ref NP),ae (.ref LP),ae (.ref rp),ae p,x5,x6,ae (.int (e0+v)),ae (.ref i),ae (.ref md.1),ae (.ref md.2),A,f,Y]⟩) Z a0 E:=by
    intro v hv A;refine ih a9 M ns (j+1) c0 Z (e0+v) _ _ _ _ _ _ a0 E (by simpa using L) (λr K0=>hr r (.tail _ K0)) (λn F0=>hn n (.tail _ F0)) (C0.fr F λy y h=>h) (T0.fr F λy y=>⟨id,id⟩) r0
     (λa O q hq=>J a (.tail _ O) q (.tail _ hq)) (F.g z0) (F.g p0) (λh=>l0 (.tail _ h)) (λh=>f0 (.tail _ h)) R V (by exact FI 2 1 1 0 zO rfl) (F.g b) (λs h0 y8 y9 G0 A S0 H0 O j0 D=>?_) λh0 I O j0 D=>?_
    ·have:=q (v+s) h0 y8 y9 G0 A S0 H0 (by rw[e1,O,hv];rfl) (by rw[e1];exact⟨D.get u0 S,j0⟩) (w.trans (D.mono λa O=>.tail _ O));rw[Int.add_assoc];exact this
    ·exact e h0 I (by rw[e1,O];rfl) (by rw[e1];exact⟨D.get u0 S,j0⟩) (w.trans (D.mono λa O=>.tail _ O))
   wtm_at "r";refine⟨λN=>?_,λN=>?_⟩
   ·wtm_at "r";exact step 1 (by rw[N];rfl) _
   ·wtm_at "r";have:=step 0 (by rw[N];rfl) (ae ((dw n m).getD p));rw[BF]at this;exact this
  unfold sx;wtm_at "r";refine F3 hm (.inl rfl) ⟨λN=>?_,λN=>?_⟩
  ·have N:m= .int 7:=gx N;wtm_at "r";refine bp (by simp) ?_;refine Ua (g_app y0) L0.1 g_last ⟨λc2=>?_,λc2=>?_⟩
   ·have Q0:r.1≠[]:=λh=>by rw[h]at c2;cases c2
    have e1:b7 (r :: M) (n :: ns) m p=(ag,n :: ns):=aN ⟨N,Q0⟩;wtm_at "r";have hx:Ex B (B++[AO.list []]):=Fr.app;exact e _ _ (by rw[e1]) (by rw[e1];exact dO.fr hx E0 λy y h=>h) hx.any
   ·refine x_nil (n_next (cont _ (λh=>h.2 ?_) Fr.app));cases M0:r.1 with
    |nil=>rfl
    |cons x l=>rw[M0]at c2;cases c2
  ·have N:m≠ .int 7:=jE N;exact t_f (x_nil (n_next (cont B (λh=>N h.1) (Fr.refl _ _))))
def F5 {b:ak}(hm:eg m)(hp:f3 p):∀{M:ah Rd} {ns:ah aS},(∀n∈ns,n.length<=b/\g9 n)->∀n∈(b7 M ns m p).2,n.length<=b+1/\g9 n:=by
 intro F;induction F with
 |nil=>
  intro D;cases D with
  |nil=>
   intro _ _ B;exact nomatch B
  |cons _ _=>
   intro _ _ B;exact nomatch B
 |cons r M G=>
  intro D;cases D with
  |nil=>
   intro _ _ B;exact nomatch B
  |cons n ns=>
   intro h E B;unfold b7 at B;split at B
   ·exact⟨xp (h E B).1,(h E B).2⟩
   ·rcases bu.mp B with rfl |B
    ·have:=h n (.head _);exact⟨by rw[bK];simp;exact this.1,this.2.snoc hm hp⟩
    ·exact G (λn B=>h n (.tail _ B)) E B
def sE.mk:sE row NP LP rp [ae (.ref row),ae (.ref NP),ae (.ref LP),ae (.ref rp),x4,x5,x6,x7,x8,x9,fT,bS,f,Y]:=⟨_,_,_,_,_,_,_,_,_,_,rfl⟩
theorem F6 {ns:ah aS}{c0:ah ak}{a0:AV->St->Prop}(A0:c0.length=a9.length)(hr:∀r∈M,fy r)(ht:∀t∈R,iE t)(hn:∀n∈ns,n.length<=b0/\g9 n)(hb:b0+R.length<=60)(hN:dO B c0 ns)(hL:fc B a9 M)(O0:c0.Nodup)(d0:∀i∈c0,∀q∈a9,q.1≠i/\q.2≠i)(E0:c0.length<=60)(M0:B[NP]? =ae (.list (c0.map .ref)))(P0:B[LP]? =ae (.list (a9.map pM)))(e0:B[row]? =ae (.list (R.map tA)))(B0:NP∉c0)(r0:LP∉c0)(K0:row∉c0)(q:∀H rp,dO H c0 (bM M ns R).2->Fr (· ∈c0) B H->B.length<=rp->H[rp]? =ae (.list ((bM M ns R).1.map .int))->a0 (.ref rp) H):
  WP (FN (k+2) (.fn (aq "_law_ranks")) [.ref row,.ref NP,.ref LP] []) B a0 E:=by
 refine RX ?_;obtain y0:(B++[AO.cell ag])[B.length]? =ae (.cell ag):=g_last;obtain hx:Ex B (B++[AO.cell ag]):=Fr.app;obtain F:B.length < (B++[AO.cell ag]).length:=ba y0;generalize hc:B.length=cm at *;generalize B++[AO.cell ag]=a7 at *;unfold za;wtm_at "r";refine bp (by simp) ?_;obtain o0:(a7++[AO.list []])[cm]? =ae (.cell ag):=g_app y0;obtain h0:Ex B (a7++[AO.list []]):=hx.trans Fr.app;obtain m0:(a7++[AO.list []])[a7.length]? =ae (.list []):=g_last;generalize a7++[AO.list []]=bF at *;generalize a7.length=rp at *;obtain l0:=h0.g e0;obtain old:∀{i o},B[i]? =ae o->i < cm:=λh=>by have:=ba h;exact TT this (EL hc)
 obtain W:∀i∈c0,i < cm:=λi l=>by obtain⟨n,h⟩:=hN.at l;exact old h
 obtain V:rp∉c0:=λh=>by have:=W _ h;exact XX 2 0 (CH 1 0 1 0 F this) rfl
 obtain w:cm∉c0:=λh=>by have:=W _ h;exact XX 1 0 this rfl
 wtm_at "r";obtain I0:(bM M ns R).1.length<=R.length:=wg;refine ff l0 ⟨rfl,?_⟩;refine k8 (G:=λH=>H[row]? =ae (.list (R.map tA))) (a0:=λj I H=>(∃N,dO H c0 N/\bM M N (R.drop j)=((bM M ns R).1.drop j,(bM M ns R).2)/\∀n∈N,n.length<=b0+j/\g9 n)/\j<=(bM M ns R).1.length/\H[rp]? =ae (.list (((bM M ns R).1.take j).map .int))/\(∃v,H[cm]? =ae (.cell v))/\Fr (· ∈c0) B H/\
   sE row NP LP rp I) (K:=R.map tA)
  (Yl.gK λH e=>e) (by rw[aO];exact CF 0 0 0 60 1 128 AR hb rfl) (λx x x h=>h.2.2.2.2.1.get e0 K0)
  ⟨⟨ns,hN.fr h0 λx x h=>h,by rw[mo,mo],hn⟩,cZ _,m0,⟨_,o0⟩,h0.any,sE.mk⟩ ?_ ?_
 ·intros _ j v Z0 K _ hv F0;obtain⟨U0,hj,O,C0,j0,L0⟩:=F0;obtain (⟨x4,x5,x6,x7,x8,x9,w0,z0,f,Y,rfl⟩):=L0;obtain (⟨N,A,Z,n0⟩):=U0;obtain (⟨cv,p0⟩):=C0;rw[dA]at hv;cases S:R[j]? with
  |none=>rw[S]at hv;cases hv
  |some t=>
   intros t _ S;rw[S]at hv;cases hv;obtain V0:=ba S;obtain⟨hp,hm⟩:=ht t (cD S);rw[drop_cons S]at Z;unfold tA;wtm_at "r";obtain b:(K.set cm (.cell (ae t.2.1)))[cm]? =ae (.cell (ae t.2.1)):=de p0;obtain U:Fr (· ∈c0) B (K.set cm (.cell (ae t.2.1))):=j0.old (Fr.set (D:=λi=>i=cm) rfl) λi l e=>by exact XX 1 0 (CH 0 0 1 0 (CH 0 0 0 0 (EL hc) (EG e)) l) rfl
   obtain g0:Fr (λi=>i=cm) K (K.set cm (.cell (ae t.2.1))):=Fr.set rfl;obtain Q0:=A.fr g0 λi l e=>w (e ▸ l);obtain f0:=g0.get O (by exact NT (F));generalize K.set cm (.cell (ae t.2.1))=cO at *;obtain m:=U.get M0 B0;obtain z:=U.get P0 r0;obtain G0:=hL.fr U λq hq=>⟨λh=>(d0 _ h q hq).1 rfl,λh=>(d0 _ h q hq).2 rfl⟩;wtm_at "r";refine ff m ?_;wtm_at "r";refine ff z ⟨rfl,?_⟩;refine Ue hm hp (ae (.ref row)) x5 (ae (.int t.2.2)) c0 a9 M N 0 128 cO 0 x8 x9 w0 z0 f Y _ _ A0 hr (λn i0=>by have:=n0 n i0;exact⟨by lia,this.2⟩) Q0 G0 O0 d0 m z B0 r0 rfl rfl (by exact FI 0 60 1 128 E0 rfl) b (λs T y8 y9 W0 a1 c1 Y0 h1 u D=>?_) λT I h1 u D=>?_
   ·obtain G:=D.get f0 V;obtain s0:=D.get b w;obtain T0:=U.trans D;rw[sY h1]at Z;obtain J:=(lC Z).1;obtain X:=(lC Z).2;have hs:(bM M ns R).1[j]? =ae s:=by
     have:((bM M ns R).1.drop j)[0]? =ae s:=by rw[<-J];rfl
     rwa [xn,xo]at this
    rw[uy];wtm_at "r";refine⟨(λh=>nomatch h.2),hW G (.inl rfl) ?_⟩;wtm_at "r";refine jt G (by rw[aO,er];exact CF 1 0 0 60 0 4096 (CH 1 0 0 0 (CH 0 0 1 0 ML V0) AR) hb rfl) ?_;obtain L:Fr (λi=>i=rp) T (T.set rp (.list (((bM M ns R).1.take j).map .int++[.int s]))):=Fr.set rfl;have v0:(T.set rp (.list (((bM M ns R).1.take j).map .int++[.int s])))[rp]? =ae (.list (((bM M ns R).1.take (j+1)).map .int)):=by
     rw[de G,take_snoc hs,dH];rfl
    obtain N0:Fr (· ∈c0) B (T.set rp (.list (((bM M ns R).1.take j).map .int++[.int s]))):=T0.old L λi l e=>by exact XX 2 0 (CH 1 0 1 0 (CH 1 0 0 0 (CH 0 0 1 0 (EL hc) F) (EG e)) l) rfl
    obtain u0:=L.get s0 (by exact NE (F));obtain H0:=u.fr L λi l e=>V (e ▸ l);refine n_next (x_nil (l_next ⟨⟨_,H0,?_,λn i0=>?_⟩,ba hs,v0,⟨_,u0⟩,N0,sE.mk⟩))
    ·rw[drop_cons hs]at J;injection J with _ J;exact qX J X
    ·have:=F5 hm hp n0 n i0;exact⟨by lia,this.2⟩
   ·rw[sZ h1]at Z;obtain J:=(lC Z).1;obtain X:=(lC Z).2;have hl:(bM M ns R).1.length=j:=by have:=pT.mp J.symm;exact AN (this) (hj)
    wtm_at "r";rw[X]at u;obtain G:=D.get f0 V;rw[gy (by exact(EL hl))]at G;exact q T rp u (U.trans D) (by exact FI 1 0 0 0 F rfl) G
 ·intros _ b1 K _ J0;obtain⟨S0,hj,O,-,j0,R0⟩:=J0;obtain (⟨x4,x5,x6,x7,x8,x9,w0,z0,f,Y,rfl⟩):=R0;obtain (⟨N,A,Z,-⟩):=S0;rw[aO]at *;rw[Ii]at Z;obtain X:N=(bM M ns R).2:=(lC Z).2;wtm_at "r";rw[gy (by exact I0)]at O;rw[X]at A;exact q K rp A j0 (by exact FI 1 0 0 0 F rfl) O
def Ug (h:bf b x y=aj):bf b y x=az:=by
 cases B:bf b y x with
 |false=>rfl
 |true=>
  have:=lW h B;rw[v3]at this;cases this
def Uh:∀{S:ah Tr} {k:ak},gJ b S->S.filter (λt=>decide (fA b S t=k))=S[k]?.toList:=by
 intro l;induction l with
 |nil=>
  intro k _;exact rfl
 |cons a S G=>
  intro k h;obtain⟨F,H⟩:=lD.mp h;have E:fA b (a :: S) a=0:=by
   unfold fA;rw[List.countP_eq_zero];intro u D;rcases bu.mp D with rfl |D
   ·rw[v3];simp
   ·rw[Ug (F u D)];simp
  have B:∀t∈S,fA b (a :: S) t=fA b S t+1:=by
   intro t B;unfold fA;exact List.countP_cons_of_pos (p:=λu=>bf b u t) (F t B)
  cases k with
  |zero=>
   rw[Jc (by rw[E];rfl)];have:S.filter (λt=>decide (fA b (a :: S) t=0))=[]:=by
    rw[Jb];intro t h;rw[B t h];simp
   rw[this];rfl
  |succ k=>
   rw[Jd (by rw[E];simp)];have:S.filter (λt=>decide (fA b (a :: S) t=k+1))=S.filter (λt=>decide (fA b S t=k)):=by
    apply List.filter_congr;intro t h;rw[B t h];simp
   rw[this,G H];rfl
def Ui {a0:ah Tr}(h:a0.Perm S)(hs:gJ b S)(k:ak):a0.filter (λt=>decide (fA b a0 t=k))=S[k]?.toList:=by
 have e:(λt=>decide (fA b a0 t=k))=λt=>decide (fA b S t=k):=by
  funext t
  unfold fA;rw[h.countP_eq]
 rw[e];obtain B:=h.filter λt=>decide (fA b S t=k);rw[Uh hs]at B;cases D:S[k]? with
 |none=>rw[D]at B;exact B.eq_nil
 |some t=>rw[D]at B;exact List.perm_singleton.mp B
def Uj {α:Type}{S:ah α}:∀{w:ak},(dz w).flatMap (λk=>S[k]?.toList)=S.take w:=by
 intro n;induction n with
 |zero=>
  exact rfl
 |succ w B=>
  rw[wQ,BG,B,AQ];simp
def F7 {x:Int×AV}:∀{S:ah (Int×AV)} {n:ak},(bV b x (S.take n)).take n=(bV b x S).take n
 |_,0=>by simp
 | [],n+1=>rfl
 |y :: S,n+1=>by
  show(if bg b x.1 y.1 then x :: y :: S.take n else y :: bV b x (S.take n)).take (n+1)=(if bg b x.1 y.1 then x :: y :: S else y :: bV b x S).take (n+1);split
  ·show x :: (y :: S.take n).take n=x :: (y :: S).take n
   congr 1
   cases n with
   |zero=>rfl
   |succ n=>
    show y :: (S.take (n+1)).take n=y :: S.take n;rw[List.take_take,m7 (gR n)]
  ·show y :: (bV b x (S.take n)).take n=y :: (bV b x S).take n;rw[F7]
def Uk:∀(ys S:ah (Int×AV)),ys.foldl (λS x=>(bV b x S).take n) (S.take n)=(ys.foldl (λS x=>bV b x S) S).take n:=by
 intro l;induction l with
 |nil=>
  intro _;exact rfl
 |cons y ys B=>
  intro S;show ys.foldl _ ((bV b y (S.take n)).take n)=(ys.foldl _ (bV b y S)).take n;rw[F7,B]
def F8:fx b n ys=(ys.foldl (λS x=>bV b x S) []).take n:=by
 have:=Uk (b:=b) (n:=n) ys [];rw[A6]at this;exact this
def Ul {w:ak}(hl:V.length=K.length):(dz w).flatMap (lT b (dh b 0 V K))=(fx b w (V.zip K)).map (·.2):=by
 obtain⟨S,E,D,B,-⟩:=view (b:=b) (V:=V) (K:=K) V.length (a4 _) (by exact(EL hl));rw[gy (by rw[sW];exact ML)]at D;rw[gy (by rw[pZ];exact ML)]at B;have e:lT b (dh b 0 V K)=λk=>(S[k]?.toList).map (·.2.2):=by
  funext k
  unfold lT;rw[Ui D E]
 rw[e,F8,<-B,<-rI,oJ,<-Uj,List.map_flatMap];rfl
theorem Um {r:Int}{x:AV}:∀{V:ah Int} {K:ah AV} {i:ak},V.length<=K.length->fA b (dh b i V K) (tr b j r x)=V.countP (λr'=>bg b r' r)+(V.take (j - i)).countP (λr'=>r' == r):=by
 intro H;induction H with
 |nil=>
  intro K i _;rw[A6];cases K <;>rfl
 |cons B V E=>
  intros B V _ E;intro I;cases I with
  |nil=>
   intro _ h;simp at h
  |cons G K=>
   intro i h;have E:=E (K:=K) (i:=i+1) (by simpa using h);have F:bf b (tr b i B G) (tr b j r x)=(bg b B r || (B == r && decide (i < j))):=by
    unfold bf fL tr bg;cases b with
    |false=>
     by_cases e:B=r
     ·simp[e]
     ·simp[e]
    |true=>
     by_cases e:B=r
     ·simp[e]
     ·have: ¬ r=B:=λh=>e h.symm;simp[e,this]
   unfold fA at E |-;show(tr b i B G :: dh b (i+1) V K).countP _=_;rw[uh,E,uh,F];by_cases D:i < j
   ·rw[show j - i=(j - (i+1))+1 from (GC (Nat.sub_pos_of_lt D)).symm,List.take_succ_cons,uh];simp only[D,decide_true,Bool.and_true];by_cases e:B=r
    ·subst e;have:bg b B B=az:=by unfold bg;cases b <;>simp
     simp[this];exact qL _ _ _
    ·have:(B == r)=az:=by simpa using e
     rw[this];simp;exact Af _ _ _
   ·rw[show j - i=0 from Jf (n7.mp D),show j - (i+1)=0 from Jf (xp (n7.mp D)),ug,ug];simp only[D,decide_false,w7,AY];simp
def wj:∀{K:ah AV} {n:Int} {k:ak} {v:AV},(mQ n K)[k]? =ae v->∃x,K[k]? =ae x/\v= .pair (.int (n+k)) x:=by
 intro B;induction B with
 |nil=>
  intro _ _ _ h;exact nomatch h
 |cons x K E=>
  intro n D;cases D with
  |zero=>
   intro v h;cases h;exact⟨x,rfl,by simp⟩
  |succ k=>
   intro v h;obtain⟨y,G,F⟩:=E (n:=n+1) (k:=k) h;refine⟨y,G,?_⟩;rw[F];congr 2;lia
def nZ:∀{K:ah AV} {n:Int},(mQ n K).length=K.length:=by
 intro l;induction l with
 |nil=>
  intro _;exact rfl
 |cons x K B=>
  intro n;show(mQ (n+1) K).length+1=_;rw[B];rfl
def Un {cg cr cj:ak}{a r:Int}(hg:O.lookup (sO "greatest")=ae cg)(hr:O.lookup (sO "ranks")=ae cr)(hj:O.lookup (sO "j")=ae cj)(h1:B[cg]? =ae (.cell (ae (.bool b))))(h2:B[cr]? =ae (.cell (ae (.ref ri))))(h3:B[cj]? =ae (.cell (ae (.int j))))(h4:B[ri]? =ae (.list (V.map .int)))(h5:V[j]? =ae r)(a0:V.length<=64)(h6:I[2]? =ae (ae (.int a)))(q:QB (bg b a r) B):
  WP (yM (tV (eC "greatest")) (aR .Gt (eL 2) (bz (eC "ranks") (eC "j"))) (aR .Lt (eL 2) (bz (eC "ranks") (eC "j"))) ⟨F,O,I⟩) B QB E:=by
 obtain D:=ba h5;refine w_tIf (w_tV (gp hg h1 (tr_bool ⟨λc=>?_,λc=>?_⟩)))
 ·subst c;exact w_tCmp (aM h6 (w_Idx (gp hr h2 (gp hj h3 (lV h4 ⟨by exact JP,by exact JC (2 ^ 62) (CF 1 0 0 64 1 4611686018427387904 D a0 rfl)⟩ (v:=.int r) (by rw[eB,dA,h5];rfl) (c_gt q))))))
 ·subst c;exact w_tCmp (aM h6 (w_Idx (gp hr h2 (gp hj h3 (lV h4 ⟨by exact JP,by exact JC (2 ^ 62) (CF 1 0 0 64 1 4611686018427387904 D a0 rfl)⟩ (v:=.int r) (by rw[eB,dA,h5];rfl) (c_lt q))))))
theorem F9 {c0:ah AV->St->Prop}{li:ak}{l:ah Int}{a0:Int->aB}{t:DT}(e0:l.length<=64)(hl:B[li]? =ae (.list (l.map .int)))(ht:∀(I:ah (ax AV)) (a:Int) (QB:aB->St->Prop),I.length=n->I[2]? =ae (ae (.int a))->QB (a0 a) B->WP (t ⟨F,cs,I⟩) B QB E)(hn:3<=n)(L:ah (ax AV))(hL:L.length=n)(q:∀d0,d0.length=l.countP a0->c0 d0 B):
  WP (cw (eL 1) [t] (cx [(pL 1),(pL 2)]) 128 (.enum 0 (.list (ae li) 0)) ⟨F,cs,L⟩ []) B c0 E:=by
 refine lY (G:=λH=>H=B) (a0:=λj d0 I H=>d0.length=(l.take j).countP a0/\H=B/\I.length=n) (K:=mQ 0 (l.map .int))
    (Yl.enum (Yl.gK λH e=>by rw[e];exact hl)) (by rw[nZ,aO];exact FI 0 64 1 128 e0 rfl) (λu u u u h=>h.2.1) ⟨rfl,rfl,hL⟩ ?_ ?_
 ·intros _ j v d0 I H _ O N;obtain⟨D,rfl,M⟩:=N;obtain (⟨x,K,rfl⟩):=wj O;rw[dA]at K;cases G:l[j]? with
  |none=>rw[G]at K;cases K
  |some a=>
   intros a _ G;rw[G]at K;cases K;refine vT rfl rfl (x_put_cons (cu rfl (x_put_cons (cu rfl (x_put_nil ?_)))));have J:((I.set 1 (ae (.int (0+j)))).set 2 (ae (.int a))).length=n:=by rw[eJ,eJ];exact M
   refine qK (ht _ a _ J (l8 (by rw[eJ];exact TT hn (EG M))) ⟨λc=>?_,λc=>?_⟩)
   ·refine⟨?_,?_⟩
    ·have:=BH (p:=a0) (l:=l.take j);rw[er]at this;exact CF 0 0 0 64 0 4096 (CH 0 0 0 0 (CH 0 0 0 0 (EL D) this) MR) e0 rfl
    ·refine aM (v:=.int (0+j)) (by rw[jz (by decide),l8 (by lia)]) ⟨?_,rfl,J⟩;rw[take_snoc G,Jg,bK,D];simp[c]
   ·refine⟨?_,rfl,J⟩;rw[take_snoc G,Jg,D];simp[c]
 ·rintro d0 I H ⟨D,rfl,-⟩;rw[nZ,aO,j5]at D;exact q d0 D
def sF.mk {fp:ak}:sF row fp z [ae (.ref row),ag,ae (.int z),ag,ae (.ref fp),x5,x6,x7,x8,x9,fT,bS,f]:=⟨_,_,_,_,_,_,_,_,rfl⟩
def qB.mk {fp:ak}{w:Int}:qB row fp z w [ae (.ref row),ag,ae (.int z),ag,ae (.ref fp),ae (.int w),x6,x7,x8,x9,fT,bS,f]:=⟨_,_,_,_,_,_,_,rfl⟩
theorem Uo {a0:AV->St->Prop}(hz: -1<=z)(a1:z<=4)(c0:K.length<=64)(hl:0 < z->V.length=K.length)(i0:B[row]? =ae (.list K))(d0:B[ri]? =ae (.list (V.map .int)))(q:∀H fp,Ex B H->B.length<=fp->H[fp]? =ae (.list ((dz z.toNat).flatMap (lT b (dh b 0 V K))))->a0 (.ref fp) H):
  WP (FN (k+1) (.fn (aq "_law_few")) [.ref row,.ref ri,.int z,.bool b] []) B a0 E:=by
 refine RY ?_;obtain h0:(B++[AO.cell (ae (.ref ri)),.cell (ae (.bool b)),.cell ag])[B.length]? =ae (.cell (ae (.ref ri))):=qD;obtain h1:(B++[AO.cell (ae (.ref ri)),.cell (ae (.bool b)),.cell ag])[B.length+1]? =ae (.cell (ae (.bool b))):=iY;obtain h2:(B++[AO.cell (ae (.ref ri)),.cell (ae (.bool b)),.cell ag])[B.length+2]? =ae (.cell ag):=iY;obtain hx:Ex B (B++[AO.cell (ae (.ref ri)),.cell (ae (.bool b)),.cell ag]):=Fr.app;obtain j0:=ba h2;generalize B++[AO.cell (ae (.ref ri)),.cell (ae (.bool b)),.cell ag]=a7 at *;unfold zb;wtm_at "r";refine bp (by simp) ?_;obtain C0:Ex B (a7++[AO.list []]):=hx.trans Fr.app;obtain F0:(a7++[AO.list []])[B.length]? =ae (.cell (ae (.ref ri))):=g_app h0;obtain M0:(a7++[AO.list []])[B.length+1]? =ae (.cell (ae (.bool b))):=g_app h1;obtain L0:(a7++[AO.list []])[B.length+2]? =ae (.cell ag):=g_app h2;obtain J0:(a7++[AO.list []])[a7.length]? =ae (.list []):=g_last;generalize a7++[AO.list []]=bF at *;generalize a7.length=fp at *;wtm_at "r";refine pg (by lia) (by lia) ?_;wtm_at "r";refine⟨rfl,?_⟩;have R0:(dh b 0 V K).length<=64:=by rw[sW];exact TT MR c0
 obtain E0:∀k,(lT b (dh b 0 V K) k).length<=64:=λk=>by
  unfold lT;rw[aO];exact dW (pD _ _) R0
 have B0:∀w,((dz w).flatMap (lT b (dh b 0 V K))).length<=w * 64:=by
  intro w;induction w with
  |zero=>simp
  |succ w ih=>
   rw[wQ,BG,bK];have:=E0 w;simp only[List.flatMap_cons,List.flatMap_nil,fS]
   lia
 refine k8 (G:=λy=>eM) (a0:=λw I H=>H[fp]? =ae (.list ((dz w).flatMap (lT b (dh b 0 V K))))/\H[B.length]? =ae (.cell (ae (.ref ri)))/\H[B.length+1]? =ae (.cell (ae (.bool b)))/\(∃v,H[B.length+2]? =ae (.cell v))/\Ex B H/\
   sF row fp z I) (K:=mP 1 z.toNat 0)
  Yl.range (by rw[qJ];lia) (λy y y y=>trivial) ⟨J0,F0,M0,⟨_,L0⟩,C0,sF.mk⟩ ?_ ?_
 ·intros _ w v Z0 y0 _ hv H0;obtain⟨l,T0,N0,V0,u,G0⟩:=H0;obtain (⟨x5,x6,x7,x8,x9,r0,u0,f,rfl⟩):=G0;obtain (⟨cv,P0⟩):=V0;obtain⟨rfl,hw⟩:=wh hv;obtain G:=hl (by lia);obtain n0:=u.g i0;wtm_at "r";refine ff n0 ⟨rfl,?_⟩;refine k8 (G:=λH=>H[row]? =ae (.list K)) (a0:=λj I H=>H[fp]? =ae (.list ((dz w).flatMap (lT b (dh b 0 V K))++(((dh b 0 V K).take j).filter λt=>decide (fA b (dh b 0 V K) t=w)).map (·.2.2)))/\H[B.length]? =ae (.cell (ae (.ref ri)))/\H[B.length+1]? =ae (.cell (ae (.bool b)))/\(∃v,H[B.length+2]? =ae (.cell v))/\Ex B H/\
   qB row fp z (0+w) I) (K:=mQ 0 K)
    (Yl.enum (Yl.gK λH e=>e)) (by rw[nZ];exact FI 0 64 1 128 c0 rfl) (λy y y h=>h.2.2.2.2.1.g i0) ⟨by rw[ug,HC,t9,fS];exact l,T0,N0,⟨_,P0⟩,u,qB.mk⟩ ?_ ?_
  ·intros _ j v Y0 R _ hv O0;obtain⟨S,v0,p0,I0,s0,S0⟩:=O0;obtain (⟨x6,x7,x8,x9,r0,u0,f,rfl⟩):=S0;obtain (⟨cv,A⟩):=I0;obtain (⟨x,w0,rfl⟩):=wj hv;obtain hj:=ba w0;obtain o0:=cy (show j < V.length by exact TT hj (EG G));obtain hT:=zD (b:=b) (i:=0) o0 w0;rw[ke]at hT;obtain g0:=Um (b:=b) (r:=V[j]'(by exact TT hj (EG G))) (x:=x) (j:=j) (V:=V) (K:=K) (i:=0) (by exact(EL G));rw[Nat.sub_zero]at g0;generalize V[j]'(by exact TT hj (EG G))=r at *;wtm_at "r";obtain M:Ex B (R.set (B.length+2) (.cell (ae (.int (0+j))))):=Ex.nY s0 (by exact RR 0 2 rfl);obtain X:Fr (λi=>i=B.length+2) R (R.set (B.length+2) (.cell (ae (.int (0+j))))):=Fr.set rfl;obtain O:(R.set (B.length+2) (.cell (ae (.int (0+j)))))[B.length+2]? =ae (.cell (ae (.int (0+j)))):=de A;obtain W:=X.get v0 (by exact NE (gR _));obtain m:=X.get p0 (by exact NE (a4 _));obtain U0:=X.get S (cC S A (by simp));generalize R.set (B.length+2) (.cell (ae (.int (0+j))))=dZ at *;rw[uy]at O;wtm_at "r";refine iH (cs:=[(aq "ranks",B.length),(aq "j",B.length+2),(aq "greatest",B.length+1)]) (L:=[ag,ag,ag,ag,ag,ag]) (by decide +kernel) (by kernel_rfl) (λy=>by kernel_rfl) rfl ?_;wtm_at "r";refine ff (M.g d0) ⟨rfl,F9 (n:=6) (a0:=λa=>bg b a r) (by exact TT (EL G) c0) (M.g d0) (λI a QB y h qq=>Un (by wtm_at "cel") (by wtm_at "cel") (by wtm_at "cel") m W O (M.g d0) o0 (by exact TT (EL G) c0) h qq) (by decide) _ rfl λJ f0=>?_⟩;obtain Q0:=BH (p:=λa=>bg b a r) (l:=V);refine bp (by exact CF 0 0 0 64 0 4096 (CH 0 0 0 0 (CH 0 0 0 0 (EL f0) Q0) (EL G)) c0 rfl) ?_;obtain Y:Ex dZ (dZ++[AO.list J]):=Fr.app;obtain m0:(dZ++[AO.list J])[dZ.length]? =ae (.list J):=g_last;generalize dZ++[AO.list J]=fQ at *;generalize dZ.length=i8 at *;obtain K0:=Y.g W;obtain W0:=Y.g O;wtm_at "r";refine iH (cs:=[(aq "ranks",B.length),(aq "j",B.length+2)]) (L:=[ag,ag,ag,ag,ag]) (by decide +kernel) (by kernel_rfl) (λy=>by kernel_rfl) rfl ?_;wtm_at "r";refine wi (k:=j) (Y.g (M.g d0)) (by rw[aO];exact CF 0 0 0 64 0 4096 (EL G) c0 rfl) rfl (by exact CF 1 0 0 64 0 8192 hj c0 rfl) ?_;wtm_at "r";rw[<-rI];obtain T:Ex fQ (fQ++[AO.list ((V.take j).map .int)]):=Fr.app;obtain A0:(fQ++[AO.list ((V.take j).map .int)])[fQ.length]? =ae (.list ((V.take j).map .int)):=g_last;generalize fQ++[AO.list ((V.take j).map .int)]=dk at *;generalize fQ.length=i9 at *;refine ff A0 ⟨rfl,F9 (n:=5) (a0:=λa=>a == r) (by rw[er];exact TT ML (CF 1 0 0 64 0 64 hj c0 rfl)) A0 (λI a QB y h qq=>?_) (by decide) _ rfl λF U=>?_⟩
   ·refine w_tCmp (aM h (w_Idx (gp (by wtm_at "cel") (T.g K0) (gp (by wtm_at "cel") (T.g W0) (lV (T.g (Y.g (M.g d0))) ⟨by exact JP,by exact JC (2 ^ 62) (CF 1 0 0 64 1 4611686018427387904 hj c0 rfl)⟩ (v:=.int r) (by rw[eB,dA,o0];rfl) (mW qq))))))
   obtain e0:=BH (p:=λa:Int=>a == r) (l:=V.take j);rw[er]at e0;refine bp (by exact CF 1 0 0 64 0 4096 (CH 0 0 1 0 (CH 0 0 0 0 (CH 0 0 0 0 (EL U) e0) ML) hj) c0 rfl) ?_;obtain z0:Ex dk (dk++[AO.list F]):=Fr.app;obtain l0:(dk++[AO.list F])[dk.length]? =ae (.list F):=g_last;obtain Z:=z0.g (T.g m0);generalize dk++[AO.list F]=gq at *;generalize dk.length=Ww at *;obtain D:Ex dZ gq:=(Y.trans T).trans z0;wtm_at "r";refine f_len Z ?_;wtm_at "r";refine f_len l0 ?_;wtm_at "r";refine mW ?_;have N:((dh b 0 V K).take (j+1)).filter (λt=>decide (fA b (dh b 0 V K) t=w))=((dh b 0 V K).take j).filter (λt=>decide (fA b (dh b 0 V K) t=w))++(if J.length+F.length=w then [tr b j r x]else []):=by
    rw[s8 hT,g0,<-f0,<-U];simp
   obtain L:=D.g U0;refine⟨λc=>?_,λc=>?_⟩
   ·have c:J.length+F.length=w:=by have:=eq_of_beq c;lia
    rw[aN c]at N;wtm_at "r";refine⟨(λh=>nomatch h.2),hW L (.inl rfl) ?_⟩;wtm_at "r";refine jt L ?_ ?_
    ·rw[bK,aO];obtain h1:=B0 w;obtain h2:=pD (λt=>decide (fA b (dh b 0 V K) t=w)) ((dh b 0 V K).take j);rw[er]at h2;have:w<=4:=by lia
     have:w * 64<=256:=by lia
     exact TT (SS (TT h1 this) (TT h2 (TT ML (TT (ny hj) c0)))) (by decide)
    have o:B.length<=fp:=by exact FI 3 0 0 0 j0 rfl
    refine n_next (x_nil (n_next (x_nil (l_next ?_))));refine⟨?_,?_,?_,⟨ae (.int j),?_⟩,Ex.nY (M.trans D) o,qB.mk⟩
    ·rw[N,dH,<-jY];exact de L
    ·exact g_ne (cC L (D.g W) (by simp)) (D.g W)
    ·exact g_ne (cC L (D.g m) (by simp)) (D.g m)
    ·exact g_ne (cC L (D.g O) (by simp)) (D.g O)
   ·obtain c: ¬ J.length+F.length=w:=λh=>by
     have:=IZ c;lia
    rw[aK c,fS]at N;wtm_at "r";exact⟨by rw[N];exact L,D.g W,D.g m,⟨_,D.g O⟩,M.trans D,qB.mk⟩
  ·rintro _ R ⟨S,v0,p0,A,s0,x6,x7,x8,x9,r0,u0,f,rfl⟩;rw[nZ,gy (by rw[sW];exact MR)]at S;refine n_next (x_nil (l_next ⟨?_,v0,p0,A,s0,sF.mk⟩));rw[S,wQ,BG];simp[lT]
 ·rintro _ y0 ⟨l,-,-,-,u,x5,x6,x7,x8,x9,r0,u0,f,rfl⟩;rw[qJ]at l;wtm_at "r";exact q y0 fp u (by exact FI 3 0 0 0 j0 rfl) l
def Ga {a b:au}(ha:cY a=aj)(hb:cY b=aj)(q:QB (a == b) B):WP (dQ .Eq (.str a) (.str b)) B QB E:=w_eq (lZ ha) (lZ hb) (by rw[bY];exact q)
def zV {a b:au}(ha:cY a=aj)(hb:cY b=aj)(q:QB (!(a == b)) B):WP (dQ .NotEq (.str a) (.str b)) B QB E:=s7 (lZ ha) (lZ hb) (by rw[bY];exact q)
def zW {a0:AV->St->Prop}{s:au}{lo hi:ax AV}{a b:ax Int}(hl:s.length<=4096)(ha:oM lo=P.pure a)(hb:oM hi=P.pure b)(q:a0 (.str (lg s a b)) B):WP (kl (.str s) lo hi) B a0 E:=by
 unfold kl;rw[ha,hb];exact av (bw hl (aQ q))
def Up {a0:AV->St->Prop}{t:AV}(h:gb t=ae l)(q:a0 (.int l.length) B):WP (et ⟨F,O,I⟩ (.bi "len") [t] []) B a0 E:=by
 refine mU rfl (av (fE (av (eZ ?_))));rw[h];exact aQ q
def Uq {a0:AV->St->Prop}{s:au}(q:a0 (.ty "str") B):WP (et ⟨F,O,I⟩ (.ty "type") [.str s] []) B a0 E:=mV rfl (av (fE (av (eZ (aQ q)))))
def Ur {a0:AV->St->Prop}{i:Int}(q:a0 (.ty "int") B):WP (et ⟨F,O,I⟩ (.ty "type") [.int i] []) B a0 E:=mV rfl (av (fE (av (eZ (aQ q)))))
def Gb {a b:aI}(q:QB (a == b) B):WP (dQ .Is (.ty a) (.ty b)) B QB E:=q
def Us {a0:AV->St->Prop}(e:B[i]? =ae (.list l))(hv:l.getLast? =ae v)(q:a0 v (B.set i (.list l.dropLast))):WP (e8 F (.ref i) .pop [] []) B a0 E:=
 av (eh (av (zw (av (eZ (av (fB e (av (dU hv (av (k7 (aQ q))))))))))))
def Gc {a0:AV->St->Prop}(e:B[i]? =ae (.list l))(hl:0 < l.length)(hv:l[l.length - 1]? =ae v)(q:a0 v B):WP (ir (.ref i) (.int (-1))) B a0 E:=by
 refine av (dj e (av (w_strict (av (bw (by decide) (dU ?_ q))))));rw[aK (by decide),show(-1+(l.length:Int))=((l.length - 1:ak):Int) from (Int.add_comm _ _).trans (IM hl).symm,aN JP];exact hv
def Ut:lU.all EN=aj:=by decide +kernel
theorem Uu {s:au}(h:s∈lU):NF s:=by
 have:=bW.mp Ut s h;unfold EN at this;simp only[cW,fq,bW,wY,bU]at this;obtain⟨⟨⟨⟨⟨⟨⟨⟨⟨⟨J,I⟩,L⟩,M⟩,H⟩,E⟩,F⟩,G⟩,K⟩,D⟩,B⟩:=this;exact⟨J,I,L,M,H,E,F,G,K,D,B⟩
def Uv {s:au}{a0:AV->St->Prop}(q:a0 (.str (aq "")) B):WP (FN (k+1) (.fn (aq "_kind")) [a,.str s] []) B a0 E:=by
 refine RH ?_;unfold yV;wtm_at "r";refine Uq ?_;wtm_at "r";refine Gb ?_;refine t_t ?_;wtm_at "r";exact q
def Uw {s:au}{c0:AV->St->Prop}(a0:NF s)(q:c0 (.dB (vS "") (vS "/") (.str (bT s))) B):WP (FN (k+1) (.fn (aq "_splitroot")) [.str s] []) B c0 E:=by
 have D:cY (sO "/")=aj:=by decide +kernel
 obtain F:=a0.len;refine RJ ?_;unfold yX;wtm_at "r";refine zW (a:=ag) (b:=ae 1) (by exact FI 0 100 0 4096 F rfl) rfl rfl ?_;rw[a0.s1];wtm_at "r";refine zV D D ?_;rw[IE];refine t_f ?_;wtm_at "r";refine zW (a:=ae 1) (b:=ae 2) (by exact FI 0 100 0 4096 F rfl) rfl rfl ?_;wtm_at "r";refine zV a0.QI D ?_;rw[a0.s2];refine t_t ?_;wtm_at "r";refine zW (a:=ae 1) (b:=ag) (by exact FI 0 100 0 4096 F rfl) rfl rfl ?_;wtm_at "r";exact q
def Ux {kw:ak}{b c:AV}{s:au}{a0:AV->St->Prop}(hk:B[kw]? =ae (.dict []))(q:a0 (.str s) B):WP (FN (k+2) (.fn (aq "_c_path")) [a,b,c,.one (.str s),.ref kw] []) B a0 E:=by
 refine RI ?_;unfold yW;wtm_at "r";refine Up rfl ?_;wtm_at "r";refine mW ?_;refine t_t ?_;wtm_at "r";refine SA hk ?_;refine t_t ?_;wtm_at "r";refine sV (by decide) rfl rfl ?_;wtm_at "r";refine Uv ?_;wtm_at "r";refine sU (by decide +kernel) ?_;rw[show(aq "").length=0 by decide +kernel];refine t_f ?_;wtm_at "r";exact q
def Uy:(lU.all λs=>decide (0 < (iF s).length) && decide ((iF s).length<=100))=aj:=by decide +kernel
def Uz {nc:ah au}{c x:au}(h:x∈dx nc c):x∈nc\/x=c:=by
 unfold dx at h;split at h
 ·exact .inl h
 ·split at h
  ·rcases dX.mp h with h |h
   ·exact .inl h
   ·exact .inr (aJ.mp h)
  ·exact .inl (List.dropLast_subset _ h)
def UA {nc:ah au}{c:au}:(dx nc c).length<=nc.length+1:=by
 unfold dx;split
 ·exact gR _
 ·split
  ·simp
  ·rw[List.length_dropLast];exact dW (GB _ _) (gR _)
theorem UB {ni:ak}{nc:ah au}{c:au}{c0:FL×ah (ax AV)->St->Prop}(hn:B[ni]? =ae (.list (nc.map .str)))(hc:cY c=aj)(e0:c.length<=100)(d0:∀x∈nc,cY x=aj)(hl:nc.length<=100)(q:∀a0,(a0= .next\/a0= .cont)->c0 (a0,[x0,ae (vS "/"),ae (vS "."),ae (vS ".."),x4,ae (vS "/"),x6,ae (.ref ni),ae (.str c),x9]) (B.set ni (.list ((dx nc c).map .str)))):
  WP (sq yY ⟨F,[],[x0,ae (vS "/"),ae (vS "."),ae (vS ".."),x4,ae (vS "/"),x6,ae (.ref ni),ae (.str c),x9]⟩) B c0 E:=by
 have T:cY (sO ".")=aj:=by decide +kernel
 have O:cY (sO "..")=aj:=by decide +kernel
 unfold yY;wtm_at "r";refine sU (by exact FI 0 100 0 4096 e0 rfl) ?_;have skip:(c.length == 0 || c == sO ".")=aj->dx nc c=nc:=λh=>by unfold dx;rw[aN h]
 by_cases R:c.length=0
 ·have U:(c.length == 0)=aj:=by rw[R];rfl
  show vO _ _ _ _ (!(c.length != 0)) _;rw[show(!(c.length != 0))=aj by rw[R];rfl];refine t_t ?_;refine t_t ?_;wtm_at "r";have:=q .cont (.inr rfl);rw[skip (by rw[U];rfl),wb hn]at this;exact this
 have U:(c.length == 0)=az:=by simpa using R
 show vO _ _ _ _ (!(c.length != 0)) _;rw[show(!(c.length != 0))=az by simpa using R];refine t_f ?_;wtm_at "r";refine Ga hc T ⟨λM=>?_,λM=>?_⟩
 ·wtm_at "r";have:=q .cont (.inr rfl);rw[skip (by have M:(c == sO ".")=aj:=M;rw[M,rq]),wb hn]at this;exact this
 have S:(c.length == 0 || c == sO ".")=az:=by
  obtain M:(c == sO ".")=az:=M;rw[U,M];rfl
 wtm_at "r";have app:dx nc c=nc++[c]->WP (sq [b9 (bX (eL 7) .append [(eL 8)] [])] ⟨F,[],[x0,ae (vS "/"),ae (vS "."),ae (vS ".."),x4,ae (vS "/"),x6,ae (.ref ni),ae (.str c),x9]⟩) B c0 E:=by
  intro e;wtm_at "r";refine⟨(λh=>nomatch h.2),hW hn (.inl rfl) ?_⟩;wtm_at "r";refine jt hn (by rw[aO];exact FI 0 100 0 4096 hl rfl) ?_;have:=q .next (.inl rfl);rw[e,dH]at this;exact n_next (x_nil this)
 have K:∀{y H},c0 y H->jO (λI B=>WP (sq [] ⟨F,[],I⟩) B c0 E) c0 y H:=λ{y H} h=>by
  obtain⟨a0,l⟩:=y;cases a0 <;>exact h
 refine zV hc O ⟨λG=>?_,λG=>?_⟩
 ·refine t_t ((app ?_).a5 λu u h=>K h);unfold dx;have G:(!(c == sO ".."))=aj:=G;rw[S,G];rfl
 have G:(!(c == sO ".."))=az:=G;wtm_at "r";refine sU (by decide +kernel) ?_;rw[show((aq "/").length != 0)=aj by decide +kernel];refine t_f ?_;refine t_f ?_;wtm_at "r";refine pq hn ?_
 match nc,hn,d0,hl,q,skip,app with
 | [],hn,d0,hl,q,skip,app=>
  refine t_f ?_;wtm_at "r";refine pq hn ?_;refine t_f ?_;have:=q .next (.inl rfl);have e:dx [] c=[]:=by
   unfold dx;rw[S,G];rfl
  rw[e,wb hn]at this;exact x_nil (n_next (x_nil (K this)))
 |a :: nc,hn,d0,hl,q,skip,app=>
  refine t_t ?_;wtm_at "r";have D:=List.getLast?_eq_some_getLast (show a :: nc≠[] by simp);obtain L:=List.getLast_mem (show a :: nc≠[] by simp);generalize (a :: nc).getLast (by simp)=z at D L;have J:((a :: nc).map AV.str)[((a :: nc).map AV.str).length - 1]? =ae (.str z):=by
   rw[aO,dA,<-List.getLast?_eq_getElem?,D];rfl
  refine Gc hn (by simp) J ?_;wtm_at "r";refine Ga (d0 z L) O ⟨λN=>?_,λN=>?_⟩
  ·refine(app ?_).a5 λu u h=>K h;have N:(z == sO "..")=aj:=N;unfold dx;rw[S,G,D,eq_of_beq N];simp
  ·wtm_at "r";refine pq hn ?_;refine t_t ?_;wtm_at "r";refine⟨(λh=>nomatch h.2),hW hn (.inr (.inr (.inl rfl))) ?_⟩;wtm_at "r";refine Us hn (by rw[List.getLast?_map,D];rfl) ?_;have:=q .next (.inl rfl);have e:dx (a :: nc) c=(a :: nc).dropLast:=by
    obtain N:(z == sO "..")=az:=N;unfold dx;rw[S,G,D];have:(ae z == ae (sO ".."))=az:=N;rw[this];simp
   rw[e,List.map_dropLast]at this;exact n_next (x_nil (n_next (x_nil (K this))))
def bj.app {l:St}(h:bj B)(hl:l.all (λo=>!jh o)=aj):bj (B++l):=by
 unfold bj at *;rw[List.all_append,h,hl];rfl
def bj.set (h:bj B)(ho:jh o=az):bj (B.set i o):=by
 unfold bj at *;rw[bW]at *;intro x D;rcases Jh D with D |rfl
 ·exact h x D
 ·rw[ho];rfl
def sG.mk {ni:ak}:sG ni [x0,ae (vS "/"),ae (vS "."),ae (vS ".."),x4,ae (vS "/"),x6,ae (.ref ni),x8,x9]:=⟨_,_,_,_,_,rfl⟩
theorem UC {s:au}{a0:AV->St->Prop}(hs:s∈lU)(q:∀H,Ex B H->(bj B->bj H)->a0 (.str (iF s)) H):WP (FN (k+2) (.fn (aq "_normpath")) [.str s] []) B a0 E:=by
 obtain f:=Uu hs;obtain b:=bW.mp Uy s hs;simp only[cW,fq]at b;obtain h1:=f.pos;obtain h2:=f.len;refine RK ?_;unfold yZ;wtm_at "r";refine sU (by exact FI 0 100 0 4096 h2 rfl) ?_;rw[show(s.length != 0)=aj by simp;lia];refine t_f ?_;wtm_at "r";refine Uw f ?_;wtm_at "r";obtain h3:=f.EO;obtain l:=f.QJ;refine⟨(λh=>nomatch h.1),nW (.inr (.inl rfl)) ?_⟩;wtm_at "r";refine m_split (by decide +kernel) (by exact FI 0 100 0 4096 h3 rfl) f.parts (dW l (by decide)) ?_;obtain V:Ex B (B++[AO.list ((aU (bT s) (aq "/")).map .str)]):=Fr.app;obtain N:(B++[AO.list ((aU (bT s) (aq "/")).map .str)])[B.length]? =ae (.list ((aU (bT s) (aq "/")).map .str)):=g_last;obtain W:bj B->bj (B++[AO.list ((aU (bT s) (aq "/")).map .str)]):=λh=>h.app rfl;generalize B++[AO.list ((aU (bT s) (aq "/")).map .str)]=a7 at *;wtm_at "r";refine bp (by simp) ?_;obtain X:Ex B (a7++[AO.list []]):=V.trans Fr.app;obtain M:(a7++[AO.list []])[B.length]? =ae (.list ((aU (bT s) (aq "/")).map .str)):=g_app N;obtain A:(a7++[AO.list []])[a7.length]? =ae (.list []):=g_last;obtain T:=ba N;obtain m:bj B->bj (a7++[AO.list []]):=λh=>(W h).app rfl;generalize a7++[AO.list []]=bF at *;generalize a7.length=ni at *;wtm_at "r";refine ff M ⟨rfl,?_⟩;refine k8 (G:=λH=>H[B.length]? =ae (.list ((aU (bT s) (aq "/")).map .str))) (a0:=λj I H=>H[ni]? =ae (.list ((((aU (bT s) (sO "/")).take j).foldl dx []).map .str))/\H[B.length]? =ae (.list ((aU (bT s) (aq "/")).map .str))/\Ex B H/\(bj B->bj H)/\
   (∀x∈((aU (bT s) (sO "/")).take j).foldl dx [],cY x=aj)/\(((aU (bT s) (sO "/")).take j).foldl dx []).length<=j/\sG ni I) (K:=(aU (bT s) (aq "/")).map .str)
  (Yl.gK λH e=>e) (by rw[aO];exact wJ l (by decide)) (λy y y h=>h.2.1) ⟨A,M,X,m,(λy h=>nomatch h),a4 _,_,_,_,_,_,rfl⟩ ?_ ?_
 ·intros _ j v e0 G _ U Z;obtain⟨F,c0,K,J,O,R,o⟩:=Z;obtain (⟨x0,x4,x6,x8,x9,rfl⟩):=o;rw[dA]at U;cases L:(aU (bT s) (aq "/"))[j]? with
  |none=>rw[L]at U;cases U
  |some c=>
   intros c _ L;rw[L]at U;cases U;obtain⟨hc,w⟩:=f.QK c (cD L);obtain hj:j < (aU (bT s) (sO "/")).length:=ba L;refine cu rfl ?_;obtain u:(aU (bT s) (sO "/")).take (j+1)=(aU (bT s) (sO "/")).take j++[c]:=take_snoc L;refine UB F hc w O (by exact TT R (CF 1 0 0 10 0 100 hj l rfl)) λfl hf=>?_;rw[show dx (((aU (bT s) (sO "/")).take j).foldl dx []) c=((aU (bT s) (sO "/")).take (j+1)).foldl dx [] by rw[u,uv];rfl];have D:(G.set ni (.list ((((aU (bT s) (sO "/")).take (j+1)).foldl dx []).map .str)))[ni]? =ae (.list ((((aU (bT s) (sO "/")).take (j+1)).foldl dx []).map .str))/\(G.set ni (.list ((((aU (bT s) (sO "/")).take (j+1)).foldl dx []).map .str)))[B.length]? =ae (.list ((aU (bT s) (aq "/")).map .str))/\Ex B (G.set ni (.list ((((aU (bT s) (sO "/")).take (j+1)).foldl dx []).map .str)))/\
    (∀x∈((aU (bT s) (sO "/")).take (j+1)).foldl dx [],cY x=aj)/\(((aU (bT s) (sO "/")).take (j+1)).foldl dx []).length<=j+1:=by
    refine⟨de F,g_ne (by exact NT (T)) c0,Ex.nY K (by exact FI 1 0 0 0 T rfl),?_,?_⟩
    ·intros _ x _ S;rw[u,uv]at S;rcases Uz S with h |rfl
     ·exact O x h
     ·exact hc
    ·rw[u,uv];exact dW UA (by exact FI 0 0 1 1 R rfl)
   rcases hf with rfl |rfl
   ·exact⟨D.1,D.2.1,D.2.2.1,(λh=>(J h).set rfl),D.2.2.2.1,D.2.2.2.2,sG.mk⟩
   ·exact⟨D.1,D.2.1,D.2.2.1,(λh=>(J h).set rfl),D.2.2.2.1,D.2.2.2.2,sG.mk⟩
 ·intros _ d0 G _ Y;obtain⟨F,-,K,J,-,-,z⟩:=Y;obtain (⟨x0,x4,x6,x8,x9,rfl⟩):=z;rw[aO,show(aU (bT s) (sO "/")).take (aU (bT s) (aq "/")).length=aU (bT s) (sO "/") from j5]at F;wtm_at "r";refine⟨(λh=>nomatch h.1),nW (.inr (.inr rfl)) ?_⟩;wtm_at "r";refine zT F f.join ?_;have h6:(aq "/").length<=1:=by decide +kernel
  refine zL (dW (GF h6 f.QM) (by decide)) ?_;wtm_at "r";obtain e:aq "/"++jv (aq "/") ((aU (bT s) (sO "/")).foldl dx [])=iF s:=rfl;rw[e];obtain h7:(iF s).length<=4096:=dW b.2 (by decide)
  with_reducible refine sU h7 ?_
  rw[show((iF s).length != 0)=aj from qS.mpr (Nat.pos_iff_ne_zero.mp b.1)];refine t_t ?_;wtm_at "r";exact q _ K J
def UD {a0:AV->St->Prop}(h:Body su ⟨FN k,[],[ae (.one v),ae (.ref B.length),ag,ag]⟩ (B++[.dict []]) a0 E):WP (FN (k+1) (.fn (aq "normpath")) [v] []) B a0 E:=by
 obtain G:∀i,((defOf jJ).map λd=>cP (FN k) d.2.2 [] [(aq "args",.one v),(aq "kwargs",.ref i)])=ae (P.pure ⟨FN k,[],[ae (.one v),ae (.ref i),ag,ag]⟩):=λi=>by kernel_rfl
 obtain e:(defOf jJ).map (λq=>eu (cS q.2.2 20) q.2.1)=ae (sq su):=Q8;have F:FN (k+1) (.fn (aq "normpath")) [v] []=oR (FN k) [v] []:=by kernel_rfl
 rw[F];unfold oR;cases D:defOf jJ with
 |none=>rw[D]at e;cases e
 |some d=>
  rw[D]at e;obtain e:eu (cS d.2.2 20) d.2.1=sq su:=dp e;refine av (eI (av ?_));have:=G B.length;rw[D]at this;have this:=dp this;rw[show cP (FN k) d.2.2 [] [(aq "args",.one v),(aq "kwargs",.ref B.length)]=_ from this];refine aQ (av ?_);show WP (eu (cS d.2.2 20) d.2.1 _) _ _ _;rw[e];exact h
def UE {s:au}{a0:AV->St->Prop}(hs:s∈lU)(q:∀H,Ex B H->(bj B->bj H)->a0 (.str (iF s)) H):WP (FN (k+3) (.fn (aq "normpath")) [.str s] []) B a0 E:=by
 refine UD ?_;unfold su;wtm_at "r";refine Ux g_last ?_;wtm_at "r";refine UC hs λH D F=>?_;wtm_at "r";exact q _ (Fr.app.trans D) λh=>F (h.app rfl)
def zX {l:ah (au×AV)}{x:aI}{a0:b8->St->Prop}(h1:B[i]? =ae (.inst d))(h2:B[d]? =ae (.bc l))(hx:sO x∈p4)(hl:l.length<=64)(q:a0 () (B.set d (.bc (putField l (sO x) v)))):WP (p5 (.ref i) (aq x) v) B a0 E:=
 av (bw hx (av (eh (av (FJ h1 h2 (av (bw hl (k7 q))))))))
def UG {a0:AV->St->Prop}(q:a0 (.cL []) B):WP (et ⟨F,O,I⟩ (.ty "set") [] []) B a0 E:=mV rfl (av (eZ (aQ q)))
def UH {a0:AV->St->Prop}{l:ah au}(h:B[i]? =ae (.list (l.map .str)))(hn:l.Nodup/\l.length<=3)(q:a0 (.cL l) B):WP (et ⟨F,O,I⟩ (.ty "set") [.ref i] []) B a0 E:=
 mV rfl (av (eZ (av (fE (av (eh (av (fB h (av (dU sk (av (bw hn (aQ q)))))))))))))
def UI {a0:AV->St->Prop}{b:AV}(h:Body vG ⟨FN k,[],[ae (.ref (B.length+1)),ae a,ae b,ag]⟩ (B++[.bc [],.inst B.length]) (λv c0=>v= .none/\a0 (.ref (B.length+1)) c0) E):WP (FN (k+1) (.fn (aq "_Ignore")) [a,b] []) B a0 E:=by
 have G:FN (k+1) (.fn (aq "_Ignore")) [a,b] []=qb (FN k) [a,b] []:=by kernel_rfl
 obtain F:∀i,FN (k+1) (.fn (aq "_Ignore.__init__")) [.ref i,a,b] []=lL (FN k) nH [.ref i,a,b] []:=λi=>by kernel_rfl
 rw[G];refine av (eI (av (eI (av ?_))));rw[<-F];rw[jY,bK];refine(RM (k:=k) (E:=E) h).a5 λr c0 D=>?_;obtain⟨rfl,D⟩:=D;exact aQ D
def UJ:(pb.all λds=>decide (ds.map iF=ds))=aj:=by decide +kernel
def UK:(qz.all λl=>decide (l.Nodup) && decide (l.length<=3))=aj:=by decide +kernel
def UL:kW r [] D0 where
 len:=a4 _
 get m T hm hk:=by
  rcases hm with rfl |⟨s,hs,rfl⟩
  ·cases hk;rfl
  ·cases hk;have:(modS.all λs=>decide (eE D0 (.inl s)=ag))=aj:=by decide +kernel
   exact gx (bW.mp this s hs)
 ok q hq:=nomatch hq
 EJ _:=rfl
theorem UM {ds:ah au}{a0:ah AV->St->Prop}(d0:∀s∈ds,s∈lU)(hl:ds.length<=3)(c0:B[di]? =ae (.list (ds.map .str)))(q:∀H,Ex B H->(bj B->bj H)->a0 ((ds.map iF).map .str) H):
  WP (cw (aX (eK (.fn (aq "normpath"))) [(eL 1)] []) [] (pL 1) 128 (.list (ae di) 0) ⟨FN (k+3),[],[ag,ag,ag]⟩ []) B a0 E:=by
 refine lY (G:=λH=>H[di]? =ae (.list (ds.map .str))) (a0:=λj F I H=>F=((ds.take j).map iF).map .str/\Ex B H/\(bj B->bj H)/\∃S T R,I=[S,T,R]) (K:=ds.map .str)
  (Yl.gK λH e=>e) (by rw[aO];exact FI 0 3 1 128 hl rfl) (λu u u u h=>h.2.1.g c0) ⟨rfl,Fr.refl _ _,id,_,_,_,rfl⟩ ?_ ?_
 ·intros _ j v F V H _ J N;obtain⟨rfl,L,G,M⟩:=N;obtain (⟨S,T,R,rfl⟩):=M;rw[dA]at J;cases D:ds[j]? with
  |none=>rw[D]at J;cases J
  |some c=>
   intros c _ D;rw[D]at J;cases J;refine cu rfl (qH (t_t ⟨by rw[aO,aO,er];exact CF 0 0 0 3 0 4096 MR hl rfl,?_⟩));wtm_at "r";refine UE (d0 c (cD D)) λU K O=>⟨?_,L.trans K,(λh=>O (G h)),_,_,_,rfl⟩;rw[take_snoc D,dH,dH];rfl
 ·rintro F _ H ⟨rfl,L,G,-⟩;rw[aO,j5];exact q H L G
def UN {a0:AV->St->Prop}{mods:ah au}(c0:B[mi]? =ae (.list (mods.map .str)))(d0:mods.Nodup/\mods.length<=3)(hl:I[1]? =ae (ae (.ref mi)))(q:a0 (.cL mods) B):
  WP (gH (gm (tV (eL 1))) (aX (eK (.ty "set")) [] []) (aX (eK (.ty "set")) [(eL 1)] []) ⟨F,[],I⟩) B a0 E:=by
 refine w_If (w_tNot (w_tV (aM hl (pq c0 ⟨λc=>?_,λc=>?_⟩))))
 ·cases mods with
  |nil=>exact w_Call (w_K (w_evs_nil (w_kws_nil (UG q))))
  |cons x l=>cases c
 ·exact w_Call (w_K (w_evs_cons (aM hl (w_evs_nil (w_kws_nil (UH c0 d0 q))))))
def UO {a0:AV->St->Prop}{ds:ah au}(c0:B[di]? =ae (.list (ds.map .str)))(e0:∀s∈ds,s∈lU)(d0:ds.length<=3)(hl:I[2]? =ae (ae (.ref di)))(q:∀H dd,Ex B H->(bj B->bj H)->B.length<=dd->H[dd]? =ae (.list ((ds.map iF).map .str))->a0 (.ref dd) H):
  WP (gH (gm (tV (eL 2))) (eList []) (d9 (eG [(".0",.local),("d",.local),("normpath",.globalImplicit)]) az (iA (eL 2)) (pL 1) [] (aX (eK (.fn (aq "normpath"))) [(eL 1)] [])) ⟨FN (k+3),[],I⟩) B a0 E:=by
 refine w_If (w_tNot (w_tV (aM hl (pq c0 ⟨λc=>?_,λc=>?_⟩))))
 ·cases ds with
  |nil=>exact w_List (w_evs_nil (bp (by simp) (q _ _ Fr.app (λh=>h.app rfl) (a4 _) g_last)))
  |cons x l=>cases c
 ·refine iH (cs:=[]) (L:=[ag,ag,ag]) (by decide +kernel) (by kernel_rfl) (λu=>by kernel_rfl) rfl ?_;refine w_iA (aM hl (ff c0 ⟨rfl,UM e0 d0 c0 λH F D=>?_⟩));exact bp (by rw[aO,aO];exact FI 0 3 0 4096 d0 rfl) (q _ _ (F.trans Fr.app) (λh=>(D h).app rfl) F.len g_last)
def w_dict {a0:AV->St->Prop}(q:a0 (.ref B.length) (B++[.dict D0])):WP (Eh (vS "<string>") (.int 1) Q) B a0 E:=
 av (dU rfl (av (dU rfl (av (dU rfl (av (eI (aQ q))))))))
def Gd {mods ds:ah au}{a0:AV->St->Prop}(hm:mods∈qz)(g0:∀s∈ds,s∈lU)(hl:ds.length<=3)(c0:B[mi]? =ae (.list (mods.map .str)))(d0:B[di]? =ae (.list (ds.map .str)))(q:∀H i d dd g,Ex B H->(bj B->bj H)->B.length<=i->B.length<=d->B.length<=dd->B.length<=g->fz H i d dd g (mods,ds.map iF) D0->a0 (.ref i) H):
  WP (FN (k+4) (.fn (aq "_Ignore")) [.ref mi,.ref di] []) B a0 E:=by
 obtain Z:=bW.mp UK mods hm;simp only[cW,fq]at Z;refine UI ?_;obtain A:(B++[AO.bc [],.inst B.length])[B.length]? =ae (.bc []):=qD;obtain T:(B++[AO.bc [],.inst B.length])[B.length+1]? =ae (.inst B.length):=iY;obtain O:Ex B (B++[AO.bc [],.inst B.length]):=Fr.app;obtain w:bj B->bj (B++[AO.bc [],.inst B.length]):=λh=>h.app rfl;generalize B++[AO.bc [],.inst B.length]=a7 at *;unfold vG;refine x_sq (w_Set (UN (O.g c0) Z rfl (x_pAttr (aM rfl (zX T A (by decide +kernel) (by decide) (n_next ?_))))));obtain M:Fr (λj=>j=B.length) a7 (a7.set B.length (.bc (putField [] (sO "_mods") (.cL mods)))):=Fr.set rfl;obtain R:Ex B (a7.set B.length (.bc (putField [] (sO "_mods") (.cL mods)))):=Ex.nY O (a4 _);obtain S:(a7.set B.length (.bc (putField [] (sO "_mods") (.cL mods))))[B.length]? =ae (.bc [(sO "_mods",.cL mods)]):=de A;obtain L:=M.get T (by exact NT (a4 _));obtain e0:bj B->bj (a7.set B.length (.bc (putField [] (sO "_mods") (.cL mods)))):=λh=>(w h).set rfl;generalize a7.set B.length (.bc (putField [] (sO "_mods") (.cL mods)))=bF at *;refine x_sq (w_Set (UO (R.g d0) g0 hl rfl λF dd J V N o=>x_pAttr (aM rfl (zX (J.g L) (J.g S) (by decide +kernel) (by simp) (n_next ?_)))));obtain G:=ba L;obtain m:∀v,putField [(sO "_mods",.cL mods)] (sO "_dirs") v=[(sO "_mods",.cL mods),(sO "_dirs",v)]:=λv=>by kernel_rfl
 rw[m];obtain I:Fr (λj=>j=B.length) F (F.set B.length (.bc [(sO "_mods",.cL mods),(sO "_dirs",.ref dd)])):=Fr.set rfl;obtain b:Ex B (F.set B.length (.bc [(sO "_mods",.cL mods),(sO "_dirs",.ref dd)])):=Ex.nY (R.trans J) (a4 _);obtain f0:(F.set B.length (.bc [(sO "_mods",.cL mods),(sO "_dirs",.ref dd)]))[B.length]? =ae (.bc [(sO "_mods",.cL mods),(sO "_dirs",.ref dd)]):=de (J.g S);obtain u:=I.get (J.g L) (by exact NT (a4 _));obtain U:=I.get o (by exact NT (CF 2 0 0 0 1 0 G N rfl));obtain f:bj B->bj (F.set B.length (.bc [(sO "_mods",.cL mods),(sO "_dirs",.ref dd)])):=λh=>(V (e0 h)).set rfl;generalize F.set B.length (.bc [(sO "_mods",.cL mods),(sO "_dirs",.ref dd)])=cO at *;refine x_sq (w_Set (w_dict ?_));obtain W:(cO++[AO.dict D0])[B.length+1]? =ae (.inst B.length):=g_app u;obtain l:(cO++[AO.dict D0])[B.length]? =ae (.bc [(sO "_mods",.cL mods),(sO "_dirs",.ref dd)]):=g_app f0;obtain h0:Ex B (cO++[AO.dict D0]):=b.trans Fr.app;obtain z:(cO++[AO.dict D0])[cO.length]? =ae (.dict D0):=g_last;obtain X:(cO++[AO.dict D0])[dd]? =ae (.list ((ds.map iF).map .str)):=g_app U;obtain K:=ba u;obtain i0:bj B->bj (cO++[AO.dict D0]):=λh=>(f h).app rfl;generalize cO++[AO.dict D0]=dZ at *;generalize cO.length=g at *;refine x_pAttr (aM rfl (zX W l (by decide +kernel) (by simp) (n_next ?_)));obtain Y:∀v,putField [(sO "_mods",.cL mods),(sO "_dirs",.ref dd)] (sO "_ignore") v=[(sO "_mods",.cL mods),(sO "_dirs",.ref dd),(sO "_ignore",v)]:=λv=>by kernel_rfl
 rw[Y];obtain D:Fr (λj=>j=B.length) dZ (dZ.set B.length (.bc [(sO "_mods",.cL mods),(sO "_dirs",.ref dd),(sO "_ignore",.ref g)])):=Fr.set rfl;obtain j0:Ex B (dZ.set B.length (.bc [(sO "_mods",.cL mods),(sO "_dirs",.ref dd),(sO "_ignore",.ref g)])):=Ex.nY h0 (a4 _);refine x_nil (r_next ⟨rfl,?_⟩);exact q _ (B.length+1) B.length dd g j0 (λh=>(i0 h).set rfl) (by exact gR _) (a4 _) (by exact CF 2 0 0 0 0 0 G N rfl) (by exact FI 2 0 0 0 K rfl) ⟨D.get W (by exact NT (a4 _)),de l,D.get X (by exact NT (CF 2 0 0 0 1 0 G N rfl)),D.get z (by exact NT (FI 2 0 1 0 K rfl))⟩
def bG.one {q:eW}{n:aS}(h:bG B [q] [r] [n]):∃D,fz B q.a q.d q.dd q.g r D/\kW r n D:=h.1
def bG.get:∀{B:St} {X:ah eW} {M:ah Rd} {ns:ah aS} {k:ak} {q:eW},bG B X M ns->X[k]? =ae q->∃r n,M[k]? =ae r/\ns[k]? =ae n/\bG B [q] [r] [n]:=by
 intro K H;induction H generalizing K with
 |nil=>
  intro _ _ _ _ _ D;exact nomatch D
 |cons q X F=>
  intro E;cases E with
  |nil=>
   intro _ _ _ h _;exact h.elim
  |cons r M=>
   intro I;cases I with
   |nil=>
    intro _ _ h _;exact h.elim
   |cons n ns=>
    intro G;cases G with
    |zero=>
     intro J h D;cases D;exact⟨r,n,rfl,rfl,h.1,trivial⟩
    |succ k=>
     intro J h D;exact F (k:=k) h.2 D
def bG.UP {g:ak}{D0:ah ((au ⊕ Int)×AV)}{ns:ah aS}(h:bG B X M ns)(hg:B[g]? =ae (.dict D0))(c0:∀q∈X,q.g≠g)(a0:Fr (λi=>i=g) B H):bG H X M ns:=
 bG.fr a0 h λq F=>by
  obtain⟨r,D,E⟩:=h.at F;exact⟨cC E.inst hg (by simp),cC E.bc hg (by simp),cC E.fM hg (by simp),c0 q F⟩
def bG.upd:∀{B H:St} {X:ah eW} {M:ah Rd} {ns:ah aS} {k:ak} {q:eW} {r:Rd} {n':aS},bG B X M ns->X[k]? =ae q->M[k]? =ae r->X.Pairwise (λp q=>p.g≠q.g)->Fr (λi=>i=q.g) B H->bG H [q] [r] [n']->bG H X M (ns.set k n'):=by
 intro B H U;induction U generalizing B H with
 |nil=>
  intro _ _ _ _ _ _ _ E _ _ _ _;exact nomatch E
 |cons q X T=>
  intro S;cases S with
  |nil=>
   intro _ _ _ _ _ h _ _ _ _ _;exact h.elim
  |cons r M=>
   intro Y;cases Y with
   |nil=>
    intro _ _ _ _ h _ _ _ _ _;exact h.elim
   |cons n ns=>
    intro W;cases W with
    |zero=>
     intro Q R n' h E I J f O;cases E;cases I;obtain⟨⟨D,G,-⟩,K⟩:=h;exact⟨O.1,K.UP G.dict (λp V=>((lD.mp J).1 p V).symm) f⟩
    |succ k=>
     intro Q R n' h E I J f O;obtain E:X[k]? =ae Q:=E;obtain I:M[k]? =ae R:=I;obtain A:=h;obtain⟨⟨D,G,N⟩,K⟩:=h;obtain⟨Z,F⟩:=K.dict (cD E);obtain L:=(lD.mp J).1 Q (cD E);exact⟨⟨D,G.fr f (cC G.inst F (by simp)) (cC G.bc F (by simp)) (cC G.fM F (by simp)) L,N⟩,(T K) E I (lD.mp J).2 f O⟩
def dO.get:∀{B:St} {is:ah ak} {ns:ah aS} {k i:ak},dO B is ns->is[k]? =ae i->∃n,ns[k]? =ae n/\dO B [i] [n]:=by
 intro J E;induction E generalizing J with
 |nil=>
  intro _ _ _ _ D;exact nomatch D
 |cons i is H=>
  intro F;cases F with
  |nil=>
   intro _ _ h _;exact h.elim
  |cons n ns=>
   intro I;cases I with
   |zero=>
    intro G h D;cases D;exact⟨n,rfl,h.1,trivial⟩
   |succ k=>
    intro G h D;exact H (k:=k) h.2 D
def dO.upd:∀{B H:St} {is:ah ak} {ns:ah aS} {k i:ak} {n':aS},dO B is ns->is[k]? =ae i->is.Nodup->Fr (· ∈[i]) B H->dO H [i] [n']->dO H is (ns.set k n'):=by
 intro B H K;induction K generalizing B H with
 |nil=>
  intro _ _ _ _ _ D _ _ _;exact nomatch D
 |cons i is J=>
  intro I;cases I with
  |nil=>
   intro _ _ _ h _ _ _ _;exact h.elim
  |cons n ns=>
   intro L;cases L with
   |zero=>
    intro G n' h D E f F;cases D;refine⟨F.1,h.2.fr f λj M e=>?_⟩;rw[aJ]at e;subst e;exact(pJ.mp E).1 M
   |succ k=>
    intro G n' h D E f F;obtain D:is[k]? =ae G:=D;refine⟨f.get h.1 λe=>?_,(J h.2) D (pJ.mp E).2 f F⟩;rw[aJ]at e;subst e;exact(pJ.mp E).1 (cD D)
def fc.get:∀{B:St} {X:ah (ak×ak)} {M:ah Rd} {k:ak} {q:ak×ak},fc B X M->X[k]? =ae q->∃r,M[k]? =ae r/\fc B [q] [r]:=by
 intro J E;induction E generalizing J with
 |nil=>
  intro _ _ _ _ D;exact nomatch D
 |cons q X G=>
  intro F;cases F with
  |nil=>
   intro _ _ h _;exact h.elim
  |cons r M=>
   intro H;cases H with
   |zero=>
    intro I h D;cases D;exact⟨r,rfl,h.1,trivial⟩
   |succ k=>
    intro I h D;exact G (k:=k) h.2 D
def Ge {n:aS}(h: ¬ (m= .int 7/\r.1≠[])):jR r n m=([b2i (dv r ((dw n m).getD .none) m)],[n++[(m,.none)]]):=by
 have B:b7 [r] [n] m .none=(ae (b2i (dv r ((dw n m).getD .none) m)+0),[n++[(m,.none)]]):=aK h;unfold jR;rw[sY (i:=b2i (dv r ((dw n m).getD .none) m)+0) (by rw[B]),B];rw[BF];rfl
def Gf {n:aS}(h:m= .int 7/\r.1≠[]):jR r n m=([],[n]):=by
 obtain B:b7 [r] [n] m .none=(ag,[n]):=aN h;unfold jR;rw[sZ (by rw[B]),B]
def UQ {x:eW}{n:aS}{a0:AV->St->Prop}(h:bG B [x] [r] [n])(hl:n.length<=60)(hm:eg m)(hr:fy r)(q:∀H i,bG H [x] [r] (jR r n m).2->Fr (λi=>i=x.g) B H->B.length<=i->H[i]? =ae (.list ((jR r n m).1.map .int))->a0 (.ref i) H):
  WP (FN (k+2) (.fn (aq "_law_says")) [.ref x.a,m] []) B a0 E:=by
 have U:=h;obtain⟨D,F,S⟩:=h.one;refine RO ?_;unfold zc;wtm_at "r";refine⟨(λh=>nomatch h.2),F.has ?_⟩;wtm_at "r";refine wc (FQ F S hl hm (.inl rfl) hr (λI R M=>?_) λT K=>?_)
 ·have N:jR r n m=_:=Ge λc=>c.2 (R c.1);rw[N]at q;have O:Fr (λi=>i=x.g) B (B.set x.g (.dict I)):=Fr.set rfl;have L:bG (B.set x.g (.dict I)) [x] [r] [n++[(m,.none)]]:=
   ⟨⟨I,⟨g_ne (cC F.dict F.inst (by simp)) F.inst,g_ne (cC F.dict F.bc (by simp)) F.bc,g_ne (cC F.dict F.fM (by simp)) F.fM,de F.dict⟩,M⟩,trivial⟩
  have G:B.length<=(B.set x.g (.dict I)).length:=O.len;generalize B.set x.g (.dict I)=bF at *;wtm_at "r";refine Ur ?_;wtm_at "r";refine Gb ?_;refine t_t ?_;wtm_at "r";refine bp (by simp) ?_;refine n_ret (r_ret ?_);have J:Ex bF (bF++[AO.list [.int (b2i (dv r ((dw n m).getD .none) m))]]):=Fr.app;exact q _ _ (L.fr J λu u=>⟨id,id,id,id⟩) (O.trans Fr.app) G g_last
 ·have N:jR r n m=_:=Gf ⟨T,K⟩;rw[N]at q;refine⟨rfl,?_⟩;wtm_at "r";refine bp (by simp) ?_;refine n_ret (r_ret ?_);have J:Ex B (B++[AO.list []]):=Fr.app;exact q _ _ (U.fr J λu u=>⟨id,id,id,id⟩) Fr.app (a4 _) g_last
def UR {l:ah Int}{a0:AV->St->Prop}(h:Body vN ⟨FN 11,dc,ae (.gU l) :: zj⟩ [.cell ag,.cell ag,.cell ag,.cell ag,.cell ag] a0 E):WP (FN 12 (.fn (aq "law")) [.gU l] []) [] a0 E:=
 fD (c0:=P.alloc (.cell ag)>>=λa=>P.alloc (.cell ag)>>=λb=>P.alloc (.cell ag)>>=λc=>P.alloc (.cell ag)>>=λd=>P.alloc (.cell ag)>>=λe=>P.pure ⟨FN 11,[(sO "readers",e),(sO "asks",d),(sO "wish",c),(sO "k",b),(sO "total",a)],ae (.gU l) :: zj⟩) Rh (by decide +kernel) (by kernel_rfl)
  (av (eI (av (eI (av (eI (av (eI (av (eI (aQ h)))))))))))
def wk {a0:FL×ah (ax AV)->St->Prop}:∀{l1 l2:ah DS} {I:ah (ax AV)} {B:St},WP (sq l1 ⟨F,O,I⟩) B (jO (λc0 B=>WP (sq l2 ⟨F,O,c0⟩) B a0 E) a0) E->WP (sq (l1++l2) ⟨F,O,I⟩) B a0 E:=by
 intro G;induction G with
 |nil=>
  intro l2 I B h;exact h
 |cons s l1 D=>
  intro l2 I B h;refine x_sq ?_;have h:WP (s ⟨F,O,I⟩>>=λx=>match x with
   |(.next,I)=>sq l1 { (⟨F,O,I⟩:RT)with loc:=I }
   |x=>P.pure x) B (jO (λc0 B=>WP (sq l2 ⟨F,O,c0⟩) B a0 E) a0) E:=h
  refine P.mono _ (λr H x=>?_) h;cases r with
  |err k=>exact x
  |ok y=>
   obtain⟨f,c0⟩:=y;cases f with
   |next=>exact D (l2:=l2) x
   |brk=>exact x
   |cont=>exact x
   |ret v=>exact x
def US {a b:Int}{a0:AV->St->Prop}(g:0<=b/\b<=60/\a.natAbs < 2 ^ 62)(h:a0 (.int (a ^ b.toNat)) B):WP (gc .Pow (.int a) (.int b)) B a0 E:=av (w_strict (av (bw g (aQ h))))
def UT {l':ah AV}{a0:AV->St->Prop}(h:B[i]? =ae (.list l))(h':B[j]? =ae (.list l'))(hl:(l++l').length<=4096)(q:a0 (.ref B.length) (B++[.list (l++l')])):WP (gc .Add (.ref i) (.ref j)) B a0 E:=
 av (bw rfl (av (eh (av (fB h (av (fB h' (bp hl q))))))))
def Gg {l:ah Int}{a0:AV->St->Prop}(q:a0 (.ref B.length) (B++[.list ((l.take 6).map .int)])):WP (kl (.gU l) ag (ae (.int 6))) B a0 E:=by
 refine av (zH (av (zI (av (bw ⟨rfl,zJ (m:=6) (by decide)⟩ ?_)))));show WP (cz ((l.map AV.int).take (min 6 (l.map AV.int).length))) B a0 E;rw[FC,<-rI];exact bp (by rw[aO,er];exact dW (th _ _) (by decide)) q
def UU {a0:AV->St->Prop}(hn:bj B)(q:∀a e sc,mM=ae (a,e,sc)->a0 (.ref B.length) (B++[.lam a e sc [(sO "readers",4),(sO "asks",3)]])):WP (Ej mM ⟨F,dc,I⟩) B a0 E:=by
 obtain G:∀F I,(mM.map λd=>fK ⟨F,dc,I⟩ d.2.2.names [])=ae (ae [(sO "readers",4),(sO "asks",3)]):=λF I=>by kernel_rfl
 cases D:mM with
 |none=>have:=G F I;rw[D]at this;cases this
 |some d=>
  obtain⟨a,e,sc⟩:=d;have:=G F I;rw[D]at this;have this:fK ⟨F,dc,I⟩ sc.names []=_:=dp this;exact av (w_get (av (bw hn (av (dU this (av (eI (aQ (q a e sc D)))))))))
def cl_readers:dc.lookup (aq "readers")=ae 4:=by kernel_rfl
def cl_asks:dc.lookup (aq "asks")=ae 3:=by kernel_rfl
def cl_wish:dc.lookup (aq "wish")=ae 2:=by kernel_rfl
def cl_k:dc.lookup (aq "k")=ae 1:=by kernel_rfl
def cl_total:dc.lookup (aq "total")=ae 0:=by kernel_rfl
def Gh {c:ak}{c0 x:Int}(hc:O.lookup (sO "total")=ae c)(ht:B[c]? =ae (.cell (ae (.int c0))))(he:∀a0:AV->St->Prop,a0 (.int x) B->WP (e ⟨F,O,I⟩) B a0 E)(hx:0<=x/\x<=20)(q:∀b,QB b B):
  WP (aR .Eq (aY .Mod (aY .FloorDiv (eC "total") (aY .Pow (eK (.int 2)) e)) (eK (.int 2))) (eK (.int 1)) ⟨F,O,I⟩) B QB E:=by
 have D:∀n:Fin 21,0 < (2:Int) ^ n.val/\(2:Int) ^ n.val < 2 ^ 29:=by decide +kernel
 refine w_tCmp (w_Bin (w_Bin (gp hc ht (w_Bin (w_K (he _ (US ⟨hx.1,by lia,by decide⟩ (ph (D ⟨x.toNat,by lia⟩) (w_K (pj (by decide) (w_K (mW (q _)))))))))))))
theorem Gi {li:ak}{x y z:au}{t:DT}{a0:ah AV->St->Prop}(hl:B[li]? =ae (.list [.str x,.str y,.str z]))(ht:∀(I:ah (ax AV)) (i:ak) (QB:aB->St->Prop),i < 3->I[1]? =ae (ae (.int i))->(∀b,QB b B)->WP (t ⟨F,cs,I⟩) B QB E)(q:∀sub,sub∈subs x y z->a0 (sub.map .str) B):
  WP (cw (eL 2) [t] (cx [(pL 1),(pL 2)]) 128 (.enum 0 (.list (ae li) 0)) ⟨F,cs,[ag,ag,ag,ag,ag]⟩ []) B a0 E:=by
 refine lY (G:=λH=>H=B) (a0:=λj D I H=>(∃sub,sub∈zk [x,y,z] j/\D=sub.map .str/\sub.length<=j)/\H=B/\lR I) (K:=mQ 0 ([x,y,z].map .str))
  (Yl.enum (Yl.gK λH e=>by rw[e];exact hl)) (by rw[nZ];simp) (λa a a a h=>h.2.1) ⟨⟨[],.head _,rfl,a4 _⟩,rfl,lR.mk⟩ ?_ ?_
 ·intros _ j v D S H _ T O;obtain⟨M,rfl,N⟩:=O;obtain (⟨V,X,U,W,Y,rfl⟩):=N;obtain (⟨sub,J,rfl,G⟩):=M;obtain (⟨u,K,rfl⟩):=wj T;rw[dA]at K;cases L:[x,y,z][j]? with
  |none=>rw[L]at K;cases K
  |some w=>
   intros w _ L;rw[L]at K;cases K;have R:j < 3:=ba L;wtm_at "r";refine qK (ht _ j _ R (by rw[uy];rfl) λb=>⟨λa=>?_,λa=>?_⟩)
   ·refine⟨by rw[aO];exact CF 0 0 1 3 0 4096 G R rfl,?_⟩;wtm_at "r";refine⟨⟨sub++[w],?_,by rw[dH];rfl,by simp;exact G⟩,rfl,lR.mk⟩;refine hY _ (mu.mpr ⟨sub,J,?_⟩);rw[L];rfl
   ·exact⟨⟨sub,gO _ J,rfl,by exact FI 0 0 0 1 G rfl⟩,rfl,lR.mk⟩
 ·rintro D I H ⟨⟨sub,J,rfl,-⟩,rfl,-⟩;rw[nZ]at J;exact q sub J
def fc.snoc:∀{B:St} {X:ah (ak×ak)} {M:ah Rd} {q:ak×ak} {r:Rd},fc B X M->B[q.1]? =ae (.list (r.1.map .str))->B[q.2]? =ae (.list (r.2.map .str))->fc B (X++[q]) (M++[r]):=by
 intro I G;induction G generalizing I with
 |nil=>
  intro D;cases D with
  |nil=>
   intro _ _ _ F E;exact⟨⟨F,E⟩,trivial⟩
  |cons _ _=>
   intro _ _ h _ _;exact h.elim
 |cons J K H=>
  intro D;cases D with
  |nil=>
   intro _ _ h _ _;exact h.elim
  |cons _ _=>
   intro _ _ h F E;exact⟨h.1,(H h.2) F E⟩
def fc.len:∀{B:St} {X:ah (ak×ak)} {M:ah Rd},fc B X M->X.length=M.length:=by
 intro G E;induction E generalizing G with
 |nil=>
  intro D;cases D with
  |nil=>
   intro _;exact rfl
  |cons _ _=>
   intro h;exact h.elim
 |cons H I F=>
  intro D;cases D with
  |nil=>
   intro h;exact h.elim
  |cons _ _=>
   intro h;rw[fm,fm,(F h.2)]
def fc.lt:∀{B:St} {X:ah (ak×ak)} {M:ah Rd},fc B X M->∀q∈X,q.1 < B.length/\q.2 < B.length:=by
 intro I E;induction E generalizing I with
 |nil=>
  intro _ _ _ D;exact nomatch D
 |cons q X G=>
  intro F;cases F with
  |nil=>
   intro h _ _;exact h.elim
  |cons r M=>
   intro h H D;rcases bu.mp D with rfl |D
   ·exact⟨ba h.1.1,ba h.1.2⟩
   ·exact(G h.2) H D
def UW {l:ah Int}{a0:AV->St->Prop}(hl:I[0]? =ae (ae (.gU l)))(q:∀H n1 (nums:ah Int),Ex B H->(bj B->bj H)->B.length<=n1->H[n1]? =ae (.list (nums.map .int))->1<=nums.length/\nums.length<=16->a0 (.ref n1) H):
  WP (aY .Add (fu (eL 0) ag (ae (eK (.int 6)))) (eList [(eK (.int 1728)),(eK (.int 1466)),(eK (.int 48)),(eK (.int 34)),(eK (.int 41)),(eK (.int 787)),(eK (.int 42)),(eK (.int 1536)),(eK (.int 55)),(eK (.int 33))]) ⟨F,O,I⟩) B a0 E:=by
 have D:(l.take 6).length<=6:=by rw[er];exact ML
 refine w_Bin (w_Slice (aM hl (w_optE_none (w_optE_some (w_K (Gg ?_))))));wtm_at "r";refine bp (by simp) ?_;refine UT (l:=(l.take 6).map .int) (l':=[1728,1466,48,34,41,787,42,1536,55,33].map .int) (g_app g_last) g_last (by rw[bK,aO,aO];simp;exact FI 0 6 0 4086 ML rfl) ?_;rw[<-dH];refine q _ _ _ ((Fr.app.trans Fr.app).trans Fr.app) (λG=>((G.app rfl).app rfl).app rfl) ?_ g_last ?_
 ·rw[bK,bK];exact TT AL AL
 ·rw[bK];simp;exact ML
def UX {l:ah Int}{a0:AV->St->Prop}(hl:I[0]? =ae (ae (.gU l)))(q:∀H c0,Ex B H->(bj B->bj H)->a0 (.int c0) H):
  WP (aY .Add (aX (eK (.bi "sum")) [(fu (eL 0) ag (ae (eK (.int 6))))] []) (eK (.int 84104)) ⟨F,O,I⟩) B a0 E:=by
 refine w_Bin (w_Call (w_K (w_evs_cons (w_Slice (aM hl (w_optE_none (w_optE_some (w_K (Gg ?_)))))))));refine w_evs_nil (w_kws_nil (FU g_last (w_K (b_add ?_))));exact q _ _ Fr.app λh=>h.app rfl
theorem UY {l:ah Int}{a0:FL×ah (ax AV)->St->Prop}(q:∀H n1 LP a9 M c0 x5 x6,zl H n1 LP a9 M c0->a9.length=3->a0 (.next,[ae (.gU l),ae (.ref n1),ag,ae (.ref LP),ag,x5,x6,ag,ag,ag,ag,ag,ag,ag,ag,ag,ag,ag,ag,ag,ag,ag,ag,ag,ag,ag,ag,ag,ag,ag,ag,ag,ag,ag,ag,ag,ag,ag,ag,ag,ag,ag,ag]) H):
  WP (sq sy ⟨FN 11,dc,ae (.gU l) :: zj⟩) [.cell ag,.cell ag,.cell ag,.cell ag,.cell ag] a0 E:=by
 show WP (sq sy ⟨FN 11,dc,[ae (.gU l),ag,ag,ag,ag,ag,ag,ag,ag,ag,ag,ag,ag,ag,ag,ag,ag,ag,ag,ag,ag,ag,ag,ag,ag,ag,ag,ag,ag,ag,ag,ag,ag,ag,ag,ag,ag,ag,ag,ag,ag,ag,ag]⟩) _ a0 E;obtain h0:([.cell ag,.cell ag,.cell ag,.cell ag,.cell ag]:St)[0]? =ae (.cell ag):=rfl;obtain h1:([.cell ag,.cell ag,.cell ag,.cell ag,.cell ag]:St)[1]? =ae (.cell ag):=rfl;obtain h2:([.cell ag,.cell ag,.cell ag,.cell ag,.cell ag]:St)[2]? =ae (.cell ag):=rfl;obtain h3:([.cell ag,.cell ag,.cell ag,.cell ag,.cell ag]:St)[3]? =ae (.cell ag):=rfl;obtain h4:([.cell ag,.cell ag,.cell ag,.cell ag,.cell ag]:St)[4]? =ae (.cell ag):=rfl;obtain hn:bj [.cell ag,.cell ag,.cell ag,.cell ag,.cell ag]:=rfl;generalize ([.cell ag,.cell ag,.cell ag,.cell ag,.cell ag]:St)=B at *;obtain k:=ba h4;unfold sy;refine x_sq (w_Set (UW rfl ?_));intros _ v1 n1 c0 _ V0 P0 f0 n0 N0;refine cu rfl (n_next ?_);simp only[gz,gA];refine x_sq (w_Set (UX rfl ?_));intros _ N T _ d0 o0;obtain U:Ex B N:=V0.trans d0;obtain a1:bj N:=o0 (P0 hn);obtain m0:=d0.g n0;obtain F0:=U.g h0;wtm_at "r";obtain F:Fr (λi=>i=0) N (N.set 0 (.cell (ae (.int T)))):=Fr.set rfl;obtain R0:bj (N.set 0 (.cell (ae (.int T)))):=a1.set rfl;obtain d1:(N.set 0 (.cell (ae (.int T))))[0]? =ae (.cell (ae (.int T))):=de F0;obtain Q0:=F.get (U.g h1) (by decide);obtain W0:=F.get (U.g h2) (by decide);obtain o1:=F.get (U.g h3) (by decide);obtain M0:=F.get (U.g h4) (by decide);obtain W:=F.get m0 (by exact NT (CF 5 0 0 0 1 0 k f0 rfl));obtain s1:=F.len;obtain u1:=U.len;generalize N.set 0 (.cell (ae (.int T)))=bk at *;refine bp (by simp) ?_;wtm_at "r";refine bp (by simp) ?_;refine ff g_last ⟨rfl,?_⟩;obtain Y0:(bk++[AO.list []]++[AO.list ([.int 0,.int 6,.int 12])])[bk.length]? =ae (.list []):=g_app g_last;obtain y0:(bk++[AO.list []]++[AO.list ([.int 0,.int 6,.int 12])])[(bk++[AO.list []]).length]? =ae (.list [.int 0,.int 6,.int 12]):=g_last;obtain V:Ex bk (bk++[AO.list []]++[AO.list ([.int 0,.int 6,.int 12])]):=Fr.app.trans Fr.app;obtain S0:bj (bk++[AO.list []]++[AO.list ([.int 0,.int 6,.int 12])]):=(R0.app rfl).app rfl;have f:bk.length < (bk++[AO.list []]).length:=by rw[bK];simp
 generalize (bk++[AO.list []]).length=ki at *;generalize bk++[AO.list []]++[AO.list ([.int 0,.int 6,.int 12])]=cO at *;obtain m1:=V.g d1;obtain U0:=V.g Q0;obtain G0:=V.g W0;obtain p1:=V.g o1;obtain Z0:=V.g M0;obtain l0:=V.g W;obtain u:=ba W;have K:5<=bk.length:=by exact CF 5 0 1 0 5 0 (CH 5 0 0 0 k f0) u rfl
 generalize bk.length=LP at *;refine k8 (G:=λH=>H[ki]? =ae (.list [.int 0,.int 6,.int 12])) (a0:=λj I H=>H[ki]? =ae (.list [.int 0,.int 6,.int 12])/\H[0]? =ae (.cell (ae (.int T)))/\(∃a9 M,zl H n1 LP a9 M c0/\a9.length=j)/\ki < H.length/\∃x5 x6,I=[ae (.gU l),ae (.ref n1),ag,ae (.ref LP),ag,x5,x6,ag,ag,ag,ag,ag,ag,ag,ag,ag,ag,ag,ag,ag,ag,ag,ag,ag,ag,ag,ag,ag,ag,ag,ag,ag,ag,ag,ag,ag,ag,ag,ag,ag,ag,ag,ag]) (K:=[.int 0,.int 6,.int 12])
  (Yl.gK λH e=>e) (by decide) (λy y y h=>h.1) ⟨y0,m1,⟨[],[],⟨⟨_,U0⟩,G0,p1,Z0,l0,N0,Y0,trivial,(λy h=>nomatch h),(λy h=>nomatch h),⟨K,by exact TT k f0⟩,u,S0⟩,rfl⟩,ba y0,_,_,rfl⟩ ?_ ?_
 ·intros _ j v r1 L _ m I0;obtain⟨p0,e1,g1,J0,H0⟩:=I0;obtain (⟨x5,x6,rfl⟩):=H0;obtain (⟨a9,M,A,o⟩):=g1;obtain⟨kk,rfl,Wx,Wy⟩:∃kk:Int,v= .int kk/\0<=kk/\kk<=12:=by
   match j,m with
   | 0,m=>cases m;exact⟨0,rfl,by decide,by decide⟩
   | 1,m=>cases m;exact⟨6,rfl,by decide,by decide⟩
   | 2,m=>cases m;exact⟨12,rfl,by decide,by decide⟩
  obtain j0:=ba m;obtain j0:j < 3:=j0;obtain⟨cv,f1⟩:=A.c1;wtm_at "r";obtain F:Fr (λi=>i=1) L (L.set 1 (.cell (ae (.int kk)))):=Fr.set rfl;obtain i0:(L.set 1 (.cell (ae (.int kk))))[1]? =ae (.cell (ae (.int kk))):=de f1;obtain e0:=F.get e1 (by decide);obtain O0:bj (L.set 1 (.cell (ae (.int kk)))):=A.ER.set rfl;obtain w:=F.len;generalize L.set 1 (.cell (ae (.int kk)))=fQ at *;refine iH (cs:=[(aq "total",0),(aq "k",1)]) (L:=[ag,ag,ag,ag,ag]) (by decide +kernel) (by kernel_rfl) (λy=>by kernel_rfl) rfl ?_;wtm_at "r";refine bp (by simp) ?_;wtm_at "r";obtain z:Ex fQ (fQ++[AO.list [vS "a",vS "a.b",vS "b"]]):=Fr.app;obtain i1:bj (fQ++[AO.list [vS "a",vS "a.b",vS "b"]]):=O0.app rfl;obtain E0:(fQ++[AO.list [vS "a",vS "a.b",vS "b"]])[fQ.length]? =ae (.list [vS "a",vS "a.b",vS "b"]):=g_last;generalize fQ++[AO.list [vS "a",vS "a.b",vS "b"]]=dk at *;refine ff E0 ⟨rfl,Gi E0 (λI i QB hi g0 qq=>Gh (by wtm_at "cel") (z.g e0) (x:=kk+i) (λa0 R=>?_) (by lia) qq) λmods X=>?_⟩
  ·exact w_Bin (gp (by wtm_at "cel") (z.g i0) (aM g0 (b_add R)))
  obtain C0:=(bW.mp FF mods X);simp only[cW,fq]at C0;refine bp (by rw[aO];exact FI 0 3 0 4096 C0.1 rfl) ?_;obtain A0:Ex fQ (dk++[AO.list (mods.map .str)]):=z.trans Fr.app;obtain l1:bj (dk++[AO.list (mods.map .str)]):=i1.app rfl;obtain j1:(dk++[AO.list (mods.map .str)])[dk.length]? =ae (.list (mods.map .str)):=g_last;obtain B0:=z.len;generalize dk++[AO.list (mods.map .str)]=gq at *;wtm_at "r";refine iH (cs:=[(aq "total",0),(aq "k",1)]) (L:=[ag,ag,ag,ag,ag]) (by decide +kernel) (by kernel_rfl) (λy=>by kernel_rfl) rfl ?_;wtm_at "r";refine bp (by simp) ?_;wtm_at "r";obtain b:Ex fQ (gq++[AO.list [vS "/l",vS "/l/a",vS "/w"]]):=A0.trans Fr.app;obtain b1:bj (gq++[AO.list [vS "/l",vS "/l/a",vS "/w"]]):=l1.app rfl;obtain r0:(gq++[AO.list [vS "/l",vS "/l/a",vS "/w"]])[gq.length]? =ae (.list [vS "/l",vS "/l/a",vS "/w"]):=g_last;obtain K0:(gq++[AO.list [vS "/l",vS "/l/a",vS "/w"]])[dk.length]? =ae (.list (mods.map .str)):=g_app j1;obtain t1:=A0.len;obtain w0:=b.len;generalize gq++[AO.list [vS "/l",vS "/l/a",vS "/w"]]=fR at *;refine ff r0 ⟨rfl,Gi r0 (λI i QB hi g0 qq=>Gh (by wtm_at "cel") (b.g e0) (x:=kk+3+i) (λa0 R=>?_) (by lia) qq) λJ Y=>?_⟩
  ·exact w_Bin (w_Bin (gp (by wtm_at "cel") (b.g i0) (w_K (b_add (aM g0 (b_add R))))))
  obtain u0:=(bW.mp FG J Y);simp only[cW,fq]at u0;refine bp (by rw[aO];exact FI 0 3 0 4096 u0.1 rfl) ?_;obtain Z:Ex fQ (fR++[AO.list (J.map .str)]):=b.trans Fr.app;obtain s0:bj (fR++[AO.list (J.map .str)]):=b1.app rfl;obtain z0:(fR++[AO.list (J.map .str)])[fR.length]? =ae (.list (J.map .str)):=g_last;obtain v0:(fR++[AO.list (J.map .str)])[dk.length]? =ae (.list (mods.map .str)):=g_app K0;generalize fR++[AO.list (J.map .str)]=zY at *;obtain G:Fr (λi=>i=1) L zY:=F.trans Z.any;obtain O:=G.get A.lp (by have:=A.fO;exact NT (FI 5 0 2 0 K rfl));obtain S:=ba A.lp;wtm_at "r";refine⟨(λh=>nomatch h.2),hW O (.inl rfl) ?_⟩;wtm_at "r";refine jt O (by rw[aO];exact CF 0 0 1 3 0 4096 (EL o) j0 rfl) ?_;obtain D:Fr (λi=>i=LP) zY (zY.set LP (.list (a9.map pM++[.pair (.ref dk.length) (.ref fR.length)]))):=Fr.set rfl;refine n_next (x_nil (l_next ⟨?_,D.get (Z.g e0) (by exact NE (FI 5 0 1 0 K rfl)),⟨a9++[(dk.length,fR.length)],M++[(mods,J)],?_,by rw[bK,o];rfl⟩,?_,_,_,rfl⟩))
  ·exact D.get (G.get p0 (by exact NT (CF 5 0 1 0 2 0 K f rfl))) (by exact NT (f))
  ·refine⟨⟨_,D.get (Z.g i0) (by exact NE (FI 5 0 2 0 K rfl))⟩,D.get (G.get A.c2 (by exact NT (a4 _))) (by exact NE (FI 5 0 3 0 K rfl)),D.get (G.get A.c3 (by exact NT (gR _))) (by exact NE (FI 5 0 4 0 K rfl)),D.get (G.get A.c4 (by exact NT (RR 2 4 rfl))) (by exact NE (K)),D.get (G.get A.num (by have:=A.fO;exact NT (FI 5 0 2 0 this.2 rfl))) ?_,A.nl,?_,?_,?_,?_,A.fO,A.EP,s0.set rfl⟩
   ·have:=A.EP;exact NE (u)
   ·rw[de O,dH];rfl
   ·refine fc.snoc ((A.at_.fr G λq R=>?_).fr D λq R=>?_) (D.get v0 (by exact NT (TT S (TT w B0)))) (D.get z0 (by exact NT (TT S (TT w w0))))
    ·exact⟨NT (CF 5 0 1 0 2 0 A.fO.1 (A.low q R).1 rfl),NT (CF 5 0 1 0 2 0 A.fO.1 (A.low q R).2 rfl)⟩
    ·have:=A.low q R;exact⟨NT (this.1),NT (this.2)⟩
   ·intro r hr;rcases dX.mp hr with hr |hr
    ·exact A.ok r hr
    ·rw[aJ.mp hr];exact⟨X,Y⟩
   ·intro q R;rcases dX.mp R with R |R
    ·exact A.low q R
    ·rw[aJ.mp R];exact⟨by show LP < dk.length;exact TT S (TT w B0),by show LP < fR.length;exact TT S (TT w w0)⟩
  ·have:=D.len;have:=G.len;exact TT J0 (TT this Jy)
 ·intros _ q1 L _ T0;obtain⟨-,-,L0,-,c1⟩:=T0;obtain (⟨x5,x6,rfl⟩):=c1;obtain (⟨a9,M,A,o⟩):=L0;exact n_next (x_nil (q L n1 LP a9 M c0 x5 x6 A o))
def bG.snoc:∀{B:St} {X:ah eW} {M:ah Rd} {ns:ah aS} {q:eW} {r:Rd} {n:aS},bG B X M ns->bG B [q] [r] [n]->bG B (X++[q]) (M++[r]) (ns++[n]):=by
 intro I F;induction F generalizing I with
 |nil=>
  intro D;cases D with
  |nil=>
   intro E;cases E with
   |nil=>
    intro _ _ _ _ h;exact h
   |cons _ _=>
    intro _ _ _ h _;exact h.elim
  |cons _ _=>
   intro _ _ _ _ h _;exact h.elim
 |cons J K G=>
  intro D;cases D with
  |nil=>
   intro _ _ _ _ h _;exact h.elim
  |cons _ _=>
   intro E;cases E with
   |nil=>
    intro _ _ _ h _;exact h.elim
   |cons _ _=>
    intro _ _ _ h H;exact⟨h.1,(G h.2) H⟩
def bG.ex {ns:ah aS}(h:bG B X M ns)(a0:Ex B H):bG H X M ns:=h.fr a0 λu u=>⟨id,id,id,id⟩
def bG.lt {ns:ah aS}{q:eW}(h:bG B X M ns)(hq:q∈X):q.g < B.length:=by
 obtain⟨D,h⟩:=h.dict hq;exact ba h
def UZ:(pb.all λds=>ds.all λs=>lU.contains s)=aj:=by decide +kernel
theorem U2 {a0:ah AV->St->Prop}(d0:B[LP]? =ae (.list (a9.map pM)))(c0:fc B a9 M)(e0:∀r∈M,fy r)(hl:a9.length<=60)(q:∀H X,Ex B H->(bj B->bj H)->bG H X M (M.map λc=>[])->X.Pairwise (λp q=>p.g≠q.g)->(∀q∈X,Behind B.length q)->X.length=a9.length->a0 (X.map λq=>.ref q.a) H):
  WP (cw (aX (eK (.fn (aq "_Ignore"))) [(eL 1),(eL 2)] []) [] (cx [(pL 1),(pL 2)]) 128 (.list (ae LP) 0) ⟨FN (k+4),[],[ag,ag,ag,ag]⟩ []) B a0 E:=by
 obtain o:=c0.len;refine lY (G:=λH=>H[LP]? =ae (.list (a9.map pM))) (a0:=λj N I H=>(∃X:ah eW,N=X.map (λq=>.ref q.a)/\bG H X (M.take j) ((M.take j).map λx=>[])/\X.Pairwise (λp q=>p.g≠q.g)/\(∀q∈X,Behind B.length q)/\X.length=j)/\Ex B H/\(bj B->bj H)/\∃x0 x1 x2 x3,I=[x0,x1,x2,x3]) (K:=a9.map pM)
  (Yl.gK λH e=>e) (by rw[aO];exact FI 0 60 1 128 hl rfl) (λx x x x h=>h.2.1.g d0) ⟨⟨[],rfl,trivial,BA,(λx h=>nomatch h),rfl⟩,Fr.refl _ _,id,_,_,_,_,rfl⟩ ?_ ?_
 ·intros _ j v N l0 H _ Y l;obtain⟨z,R,O,A⟩:=l;obtain (⟨x0,x1,x2,x3,rfl⟩):=A;obtain (⟨X,rfl,S,U,V,D⟩):=z;rw[dA]at Y;cases F:a9[j]? with
  |none=>rw[F]at Y;cases Y
  |some md=>
   intros md _ F;rw[F]at Y;cases Y;obtain hj:=ba F;obtain (⟨r,hr,w⟩):=c0.get F;obtain⟨⟨Z,i0⟩,-⟩:=w;have K:=e0 r (cD hr);obtain m:=FH K;obtain f0:r.2.map iF=r.2:=gx (bW.mp UJ r.2 K.2);obtain h0:∀s∈r.2,s∈lU:=λs U=>Ay.mp (bW.mp (bW.mp UZ r.2 K.2) s U);unfold pM;wtm_at "r";refine qH ?_;refine t_t ?_;refine⟨by rw[aO];exact TT (EL D) (CF 1 0 0 60 0 4096 hj hl rfl),?_⟩;wtm_at "r";refine Gd K.1 h0 m.1 (R.g Z) (R.g i0) λm0 i d dd g T W hi hd f hg L=>?_;rw[f0]at L;obtain J:=R.len;refine⟨⟨X++[⟨i,d,dd,g⟩],by rw[dH];rfl,?_,?_,?_,by rw[bK,D];rfl⟩,R.trans T,λh=>W (O h),_,_,_,_,rfl⟩
   ·rw[take_snoc hr,dH];exact(S.ex T).snoc ⟨⟨D0,L,UL⟩,trivial⟩
   ·rw[xm];refine⟨U,Bz ..,λa ha b V=>?_⟩;rw[aJ.mp V];have:=S.lt ha;show a.g≠g;exact NE (TT this hg)
   ·intro q' G;rcases dX.mp G with G |G
    ·exact V q' G
    ·rw[aJ.mp G];exact⟨by show B.length<=i;exact TT J hi,by show B.length<=d;exact TT J hd,by show B.length<=dd;exact TT J f,by show B.length<=g;exact TT J hg⟩
 ·intros _ N j0 H _ g0;obtain⟨u,R,O,-⟩:=g0;obtain (⟨X,rfl,S,U,V,D⟩):=u;rw[aO]at S D;rw[gy (by exact(EG o))]at S;exact q H X R O S U V D
def U3 {a g:ak}(h:fz B a d dd g ([],[sO "/w"]) D0)(hl:I[7]? =ae (ae (.ref a)))(q:∀H D,Ex (B.set g (.dict D)) H->(bj B->bj H)->QB az H):
  WP (aR .NotEq (eList [(bX (eL 7) .names [(eK (vS "/w/q.py")),(eK (vS "q"))] []),(bX (eL 7) .names [(eK (vS "/wx/q.py")),(eK (vS "r"))] [])]) (eList [(eK (.int 1)),(eK (.int 0))]) ⟨FN (k+1),dc,I⟩) B QB E:=by
 have K:fy ([],[sO "/w"]):=by
  constructor
  ·exact .head _
  ·have:(pb.contains [sO "/w"])=aj:=by decide +kernel
   exact Ay.mp this
 have N:eE D0 (.inl (sO "q"))=ag:=by decide +kernel
 have G:eE (putD D0 (.inl (sO "q")) (.int (b2i (dv ([],[sO "/w"]) (vS "/w/q.py") (vS "q"))))) (.inl (sO "r"))=ag:=by decide +kernel
 have L:b2i (dv ([],[sO "/w"]) (vS "/w/q.py") (vS "q"))=1:=by decide +kernel
 have Q:b2i (dv ([],[sO "/w"]) (vS "/wx/q.py") (vS "r"))=0:=by decide +kernel
 refine w_tCmp (w_List (w_evs_cons (v5 (by decide) (aM hl ⟨(λh=>nomatch h.2),h.has ?_⟩))));wtm_at "r";refine wc (zM (T:=.inl (sO "q")) h (by decide) (.inr ⟨_,rfl⟩) (.inr ⟨_,rfl⟩) K rfl (λv M=>?_) (λu u=>?_) λu e u=>nomatch e)
 ·rw[N]at M;cases M
 rw[L];have R:fz (B.set g (.dict (putD D0 (.inl (sO "q")) (.int 1)))) a d dd g ([],[sO "/w"]) (putD D0 (.inl (sO "q")) (.int 1)):=
  ⟨g_ne (cC h.dict h.inst (by simp)) h.inst,g_ne (cC h.dict h.bc (by simp)) h.bc,g_ne (cC h.dict h.fM (by simp)) h.fM,de h.dict⟩
 obtain S:bj B->bj (B.set g (.dict (putD D0 (.inl (sO "q")) (.int 1)))):=λF=>F.set rfl;obtain J:∀D,(B.set g (.dict (putD D0 (.inl (sO "q")) (.int 1)))).set g (.dict D)=B.set g (.dict D):=λD=>oK ..;generalize B.set g (.dict (putD D0 (.inl (sO "q")) (.int 1)))=bF at *;refine w_evs_cons (v5 (by decide) (aM hl ⟨(λh=>nomatch h.2),R.has ?_⟩));wtm_at "r";refine wc (zM (T:=.inl (sO "r")) R (by decide +kernel) (.inr ⟨_,rfl⟩) (.inr ⟨_,rfl⟩) K rfl (λv M=>?_) (λu u=>?_) λu e u=>nomatch e)
 ·rw[L]at G;rw[G]at M;cases M
 rw[Q,J];obtain O:bj B->bj (B.set g (.dict (putD (putD D0 (.inl (sO "q")) (.int 1)) (.inl (sO "r")) (.int 0)))):=λF=>F.set rfl;wtm_at "r";refine bp (by simp) ?_;wtm_at "r";refine bp (by simp) ?_;refine s7 (l3 (ds:=[.int 1,.int 0]) (g_app g_last) (zR (l:=[1,0]))) (l3 (ds:=[.int 1,.int 0]) g_last (zR (l:=[1,0]))) ?_;rw[show(!bY (.list [.int 1,.int 0]) (.list [.int 1,.int 0]))=az by simp[bY,lE]];exact q _ _ (Fr.app.trans Fr.app) λF=>((O F).app rfl).app rfl
theorem U4 {n1:ak}{d0:ah Int}{a0:FL×ah (ax AV)->St->Prop}(c0:zl B n1 LP a9 M d0)(h3:a9.length=3)(q:∀H x x7,ES B.length H x n1 LP a9 M d0->a0 (.next,[x0,ae (.ref n1),ag,ae (.ref LP),ag,x5,x6,x7,ae (.ref x.lm),ag,ag,ag,ag,ag,ag,ag,ag,ag,ag,ag,ag,ag,ag,ag,ag,ag,ag,ag,ag,ag,ag,ag,ag,ag,ag,ag,ag,ag,ag,ag,ag,ag,ag]) H):
  WP (sq vH ⟨FN 11,dc,[x0,ae (.ref n1),ag,ae (.ref LP),ag,x5,x6,ag,ag,ag,ag,ag,ag,ag,ag,ag,ag,ag,ag,ag,ag,ag,ag,ag,ag,ag,ag,ag,ag,ag,ag,ag,ag,ag,ag,ag,ag,ag,ag,ag,ag,ag,ag]⟩) B a0 E:=by
 obtain⟨cv,L0⟩:=c0.c1;have n0:=ba c0.lp;have C0:=ba c0.num;have I:=ba c0.c4;unfold vH;wtm_at "r";refine iH (cs:=[]) (L:=[ag,ag,ag,ag]) (by decide +kernel) (by kernel_rfl) (λv=>by kernel_rfl) rfl ?_;wtm_at "r";refine ff c0.lp ⟨rfl,U2 c0.lp c0.at_ c0.ok (by exact FI 0 3 0 60 (EL h3) rfl) ?_⟩;intros _ S X _ o0 E0 hq hs hb w0;refine bp (by rw[aO];exact CF 0 0 0 3 0 4096 (EL w0) (EL h3) rfl) ?_;have m:Ex B (S++[AO.list (X.map λq=>.ref q.a)]):=o0.trans Fr.app;have M0:bj (S++[AO.list (X.map λq=>.ref q.a)]):=(E0 c0.ER).app rfl;have J0:bG (S++[AO.list (X.map λq=>.ref q.a)]) X M (M.map λv=>[]):=hq.ex Fr.app;have N0:(S++[AO.list (X.map λq=>.ref q.a)])[S.length]? =ae (.list (X.map λq=>.ref q.a)):=g_last;have u:=o0.len;generalize S++[AO.list (X.map λq=>.ref q.a)]=bF at *;generalize V0:S.length=R at *;have I0:=m.g c0.c4;wtm_at "r";have O:Fr (λi=>i=4) bF (bF.set 4 (.cell (ae (.ref R)))):=Fr.set rfl;have z0:(bF.set 4 (.cell (ae (.ref R))))[4]? =ae (.cell (ae (.ref R))):=de I0;have G0:bj (bF.set 4 (.cell (ae (.ref R)))):=M0.set rfl;have j:Fr (λi=>i=4) B (bF.set 4 (.cell (ae (.ref R)))):=m.any.trans O;have v0:bG (bF.set 4 (.cell (ae (.ref R)))) X M (M.map λv=>[]):=J0.fr O λq G=>by
  have:=hb q G;obtain⟨w,b,h3,h4⟩:=this;exact⟨NT (TT I w),⟨NT (TT I b),⟨NT (TT I h3),NT (TT I h4)⟩⟩⟩
 have h0:=O.get N0 (by exact NT (TT I u));generalize bF.set 4 (.cell (ae (.ref R)))=bk at *;refine bp (by simp) ?_;wtm_at "r";refine bp (by simp) ?_;wtm_at "r";have s0:Ex bk (bk++[AO.list []]++[AO.list [vS "/l/../w//"]]):=Fr.app.trans Fr.app;have H0:bj (bk++[AO.list []]++[AO.list [vS "/l/../w//"]]):=(G0.app rfl).app rfl;refine Gd (mods:=[]) (ds:=[sO "/l/../w//"]) (.head _) (λs hs=>by rw[aJ.mp hs];exact .tail _ (.tail _ (.tail _ (.head _)))) (by decide) (g_app g_last) g_last ?_;intros _ p0 a d dd g _ R0 l ha hd W0 hg u0;have hw:[sO "/l/../w//"].map iF=[sO "/w"]:=by decide +kernel
 rw[hw]at u0;have l:=l H0;have j0:Ex bk p0:=s0.trans R0;have Y0:=s0.len;have g0:=j.len;refine cu rfl (n_next ?_);simp only[gz,gA];refine x_sq (w_qIf (U3 u0 rfl ?_));intros _ F D _ S0 k;refine t_f (x_nil (n_next ?_));have F0:Fr (λi=>i=g) p0 F:=(Fr.set (D:=λi=>i=g) rfl).trans S0.any;have W:Ex bk F:=j0.old F0 λi hi e=>by exact XX 3 0 (CH 2 0 1 0 (CH 1 0 1 0 (CH 0 0 1 0 (CH 0 0 0 0 hg (EG e)) hi) LJ) LJ) rfl
 have k:=k l;wtm_at "r";refine bp (by simp) ?_;have V:Ex bk (F++[AO.list []]):=W.trans Fr.app;have P0:bj (F++[AO.list []]):=k.app rfl;have B0:(F++[AO.list []])[F.length]? =ae (.list []):=g_last;have N:=W.len;generalize F++[AO.list []]=dk at *;have K0:=V.g (j.get c0.c3 (by decide));wtm_at "r";have J:Fr (λi=>i=3) dk (dk.set 3 (.cell (ae (.ref F.length)))):=Fr.set rfl;have y0:(dk.set 3 (.cell (ae (.ref F.length))))[3]? =ae (.cell (ae (.ref F.length))):=de K0;have Q0:bj (dk.set 3 (.cell (ae (.ref F.length)))):=P0.set rfl;have i0:=J.get B0 (by exact NT (CF 5 0 0 0 4 0 (CH 5 0 0 0 I g0) N rfl));have O0:=J.get (V.g h0) (by exact NT (CF 5 0 0 0 4 0 I u rfl));have T0:=J.get (V.g z0) (by decide);have A0:bG (dk.set 3 (.cell (ae (.ref F.length)))) X M (M.map λv=>[]):=(v0.ex V).fr J λq G=>by
  obtain⟨w,b,h3,h4⟩:=hb q G
  lia
 have l0:Fr (λi=>i=3\/i=4) B (dk.set 3 (.cell (ae (.ref F.length)))):=((j.trans V.any).mono λi h=>.inr h).trans (J.mono λi h=>.inl h);generalize dk.set 3 (.cell (ae (.ref F.length)))=gq at *;refine UU Q0 ?_;intros _ o f z _ f0;have Y:Ex gq (gq++[AO.lam o f z [(sO "readers",4),(sO "asks",3)]]):=Fr.app;have Z:(gq++[AO.lam o f z [(sO "readers",4),(sO "asks",3)]])[gq.length]? =ae (.lam o f z [(sO "readers",4),(sO "asks",3)]):=g_last;have U:Fr (λi=>i=3\/i=4) B (gq++[AO.lam o f z [(sO "readers",4),(sO "asks",3)]]):=l0.trans Fr.app;have K:=ba Z;generalize gq++[AO.lam o f z [(sO "readers",4),(sO "asks",3)]]=fR at *;have L:=ba i0;have e0:=l0.len;wtm_at "r";have r0:∀q∈X,q.a < bk.length/\q.d < bk.length/\q.dd < bk.length/\q.g < bk.length:=λq G=>by
  obtain⟨r,D',h⟩:=v0.at G;exact⟨ba h.inst,ba h.bc,ba h.fM,ba h.dict⟩
 have U0:=W.len;have m0:=ba h0;have T:=q fR ⟨3,F.length,4,R,gq.length,X⟩ (ae (.ref a)) ⟨⟨Y.g y0,Y.g i0,Y.g T0,Y.g O0,⟨o,f,z,f0,Z⟩,A0.ex Y⟩,⟨hs,by show F.length≠R;exact NT (TT m0 N),λq G=>by
   have:=(r0 q G).2.2.1;show F.length≠q.dd;exact NT (TT this N)⟩,?_,by rw[<-h3];exact w0,⟨_,U.get L0 (by decide)⟩,U.get c0.c2 (by decide),U.get c0.num (by have:=c0.fO;exact NO (NT (FI 5 0 4 0 c0.fO.2 rfl)) (NT (c0.fO.2))),c0.nl,U.get c0.lp (by have:=c0.fO;exact NO (NT (FI 5 0 4 0 c0.fO.1 rfl)) (NT (c0.fO.1))),c0.at_.fr U λq G=>by exact⟨NO (NT (CF 5 0 1 0 4 0 c0.fO.1 (c0.low q G).1 rfl)) (NT (CF 5 0 1 0 5 0 c0.fO.1 (c0.low q G).1 rfl)),NO (NT (CF 5 0 1 0 4 0 c0.fO.1 (c0.low q G).2 rfl)) (NT (CF 5 0 1 0 5 0 c0.fO.1 (c0.low q G).2 rfl))⟩,c0.ok,λq' G=>?_,?_,U.len,rfl,rfl⟩
 ·exact T
 ·rintro i (rfl |rfl |rfl |rfl |rfl |⟨q',G,hi⟩)
  ·exact .inl rfl
  ·exact .inr (.inr (by show B.length<=F.length/\F.length < _;exact⟨TT g0 N,CF 1 0 1 0 1 0 L K rfl⟩))
  ·exact .inr (.inl rfl)
  ·exact .inr (.inr ⟨by exact u,by exact CF 2 0 1 0 1 0 (CH 1 0 1 0 (CH 1 0 0 0 m0 N) L) K rfl⟩)
  ·exact .inr (.inr (by show B.length<=gq.length/\gq.length < _;exact⟨e0,K⟩))
  ·obtain⟨w,b,h3,h4⟩:=hb q' G;obtain⟨k1,k2,k3,k4⟩:=r0 q' G;rcases hi with rfl |rfl |rfl |rfl
   ·exact .inr (.inr (by exact⟨w,CF 2 0 1 0 1 0 (CH 1 0 1 0 (CH 1 0 0 0 k1 N) L) K rfl⟩))
   ·exact .inr (.inr (by exact⟨b,CF 2 0 1 0 1 0 (CH 1 0 1 0 (CH 1 0 0 0 k2 N) L) K rfl⟩))
   ·exact .inr (.inr (by exact⟨h3,CF 2 0 1 0 1 0 (CH 1 0 1 0 (CH 1 0 0 0 k3 N) L) K rfl⟩))
   ·exact .inr (.inr (by exact⟨h4,CF 2 0 1 0 1 0 (CH 1 0 1 0 (CH 1 0 0 0 k4 N) L) K rfl⟩))
 ·have w:=c0.low q' G;have b:=c0.at_.lt q' G;exact⟨TT c0.fO.1 (ny w.1),TT c0.fO.1 (ny w.2),b⟩
 ·have:=c0.fO;exact⟨this.1,⟨this.2,⟨n0,C0⟩⟩⟩
def hU.fr (a0:Fr D B H):∀{is:ah ak} {ns:ah (ah Thing)},hU B is ns->(∀i∈is,¬ D i)->hU H is ns:=by
 intro F;induction F with
 |nil=>
  intro E;cases E with
  |nil=>
   intro _ _;exact trivial
  |cons _ _=>
   intro h _;exact h.elim
 |cons i is G=>
  intro E;cases E with
  |nil=>
   intro h _;exact h.elim
  |cons n ns=>
   rintro⟨h1,h2⟩ hd;exact⟨a0.get h1 (hd i (.head _)),G h2 λj I=>hd j (.tail _ I)⟩
def hU.snoc:∀{B:St} {is:ah ak} {ns:ah (ah Thing)} {i:ak} {n:ah Thing},hU B (is++[i]) (ns++[n])↔hU B is ns/\B[i]? =ae (.list (n.map tA)):=by
 intro B F;induction F generalizing B with
 |nil=>
  intro D;cases D with
  |nil=>
   intro i n;exact⟨λh=>⟨trivial,h.1⟩,λh=>⟨h.2,trivial⟩⟩
  |cons G ns=>
   intro i n;exact⟨λh=>by cases ns <;>exact h.2.elim,λh=>h.1.elim⟩
 |cons H is E=>
  intro D;cases D with
  |nil=>
   intro i n;exact⟨λh=>by cases is <;>exact h.2.elim,λh=>h.1.elim⟩
  |cons G ns=>
   intro i n;constructor
   ·rintro⟨h1,h2⟩;have:=E.mp h2;exact⟨⟨h1,this.1⟩,this.2⟩
   ·rintro⟨⟨h1,h2⟩,h3⟩;exact⟨h1,E.mpr ⟨h2,h3⟩⟩
def hU.len:∀{B:St} {is:ah ak} {ns:ah (ah Thing)},hU B is ns->is.length=ns.length:=by
 intro G E;induction E generalizing G with
 |nil=>
  intro D;cases D with
  |nil=>
   intro _;exact rfl
  |cons _ _=>
   intro h;exact h.elim
 |cons H I F=>
  intro D;cases D with
  |nil=>
   intro h;exact h.elim
  |cons _ _=>
   intro h;rw[fm,fm,(F h.2)]
def hU.get:∀{B:St} {is:ah ak} {ns:ah (ah Thing)} {k i:ak},hU B is ns->is[k]? =ae i->∃n,ns[k]? =ae n/\B[i]? =ae (.list (n.map tA)):=by
 intro J E;induction E generalizing J with
 |nil=>
  intro _ _ _ _ D;exact nomatch D
 |cons i is H=>
  intro F;cases F with
  |nil=>
   intro _ _ h _;exact h.elim
  |cons n ns=>
   intro I;cases I with
   |zero=>
    intro G h D;cases D;exact⟨n,rfl,h.1⟩
   |succ k=>
    intro G h D;exact H (k:=k) h.2 D
def zZ {a:ah (ah Thing)}{t:ah Thing}:total (a++[t])=total a+t.length:=by
 unfold total;rw[dH,Ji];simp
def U5 (h:R∈bR):R.length<=total bR:=by
 induction bR with
 |nil=>cases h
 |cons a l B=>
  obtain e:total (a :: l)=a.length+total l:=rfl;rcases bu.mp h with rfl |h
  ·exact TT AL (EG e)
  ·have:=B h;exact TT this (TT AR (EG e))
def z9 {x n:Int}(hn:0 < n):0<=x.fmod n/\x.fmod n < n:=⟨Int.fmod_nonneg_of_pos x hn,Int.fmod_lt_of_pos x hn⟩
def pick {j:Int}{P:AV->Prop}{a0:AV->St->Prop}(h:B[i]? =ae (.list l))(hj:0<=j/\j < l.length)(hl:l.length<=16)(hP:∀v∈l,P v)(q:∀v,P v->a0 v B):WP (ir (.ref i) (.int j)) B a0 E:=by
 have D:j.toNat < l.length:=by lia
 exact lV h ⟨hj.1,by lia⟩ (cy D) (q _ (hP _ (pW D)))
def Gj (h:∀R∈bR,R≠[]):bR.length<=total bR:=by
 induction bR with
 |nil=>exact cZ _
 |cons a l D=>
  obtain E:a.length≠0:=λe=>h a (.head _) (nq.mp e);have:=D λR B=>h R (.tail _ B);obtain e:total (a :: l)=a.length+total l:=rfl;rw[fm];lia
theorem U6 {RW OD:ak}{c0:ah ak}{d0:ah Int}{a0:FL×ah (ax AV)->St->Prop}(C:LawC b0 B RW OD c0 bR d0 j)(hj:j < 16)(e0:b0<=B.length)(q:∀H ip lp U lt U7,QN b0 H RW OD ip lp U lt U7 j->Fr (λi=>b0<=i) B H->a0 (.next,[x0,x1,ag,x3,ag,x5,x6,x7,x8,ae (.ref RW),ae (.ref OD),ae (.int j),ae (.int z),Y,ag,ag,ag,ag,ag,ag,ag,ag,ag,ag,ag,ag,ag,ag,ag,ag,ag,ag,ag,ag,ag,ag,ag,ag,ag,ag,ag,ag,ag]) H):
  WP (zd ⟨F,dc,[x0,x1,ag,x3,ag,x5,x6,x7,x8,ae (.ref RW),ae (.ref OD),ae (.int j),ae (.int z),Y,ag,ag,ag,ag,ag,ag,ag,ag,ag,ag,ag,ag,ag,ag,ag,ag,ag,ag,ag,ag,ag,ag,ag,ag,ag,ag,ag,ag,ag]⟩) B a0 E:=by
 have M:=C.at_.len;obtain w:=Gj λR W=>(C.ok R W).1;have K:=C.iG;have N:=C.qC;have app:WP (sq [b9 (bX (eL 9) .append [(eList [])] []),b9 (bX (eL 10) .append [(aY .FloorDiv (eL 12) (eK (.int 96)))] [])] ⟨F,dc,[x0,x1,ag,x3,ag,x5,x6,x7,x8,ae (.ref RW),ae (.ref OD),ae (.int j),ae (.int z),Y,ag,ag,ag,ag,ag,ag,ag,ag,ag,ag,ag,ag,ag,ag,ag,ag,ag,ag,ag,ag,ag,ag,ag,ag,ag,ag,ag,ag,ag]⟩) B a0 E:=by
  obtain S:=ba C.od;obtain X:=ba C.js;wtm_at "r";refine⟨(λh=>nomatch h.2),hW C.js (.inl rfl) ?_⟩;wtm_at "r";refine bp (by simp) ?_;have L:Ex B (B++[AO.list []]):=Fr.app;obtain o:(B++[AO.list []])[B.length]? =ae (.list []):=g_last;generalize u:B++[AO.list []]=a7 at *;have m:a7.length=B.length+1:=by rw[<-u,bK];rfl
  wtm_at "r";refine jt (L.g C.js) (by rw[aO];exact CF 0 0 1 16 0 4096 (CH 0 0 0 0 (CH 0 0 0 0 (EL M) w) (EL K)) hj rfl) ?_;have G:Fr (λi=>i=RW) a7 (a7.set RW (.list (c0.map .ref++[.ref B.length]))):=Fr.set rfl;have A:(a7.set RW (.list (c0.map .ref++[.ref B.length])))[RW]? =ae (.list ((c0++[B.length]).map .ref)):=by
   rw[de (L.g C.js),dH];rfl
  have J:=G.get (L.g C.od) (by exact NT (N.2));generalize a7.set RW (.list (c0.map .ref++[.ref B.length]))=bF at *;refine n_next ?_;wtm_at "r";refine⟨(λh=>nomatch h.2),hW J (.inl rfl) ?_⟩;wtm_at "r";refine ph (by decide) ?_;wtm_at "r";refine jt J (by rw[aO];have:=C.len;exact CF 0 0 1 16 0 4096 (CH 0 0 0 0 (CH 0 0 0 0 (CH 0 0 0 0 (EG this) (EL M)) w) (EL K)) hj rfl) ?_;have D:Fr (λi=>i=OD) bF (bF.set OD (.list (d0.map .int++[.int (z.fdiv 96)]))):=Fr.set rfl;have Z:Fr (λi=>i=RW\/i=OD) B (bF.set OD (.list (d0.map .int++[.int (z.fdiv 96)]))):=(L.any.trans (G.mono λi h=>.inl h)).trans (D.mono λi h=>.inr h);refine n_next (x_nil (q _ c0 B.length bR [] (d0++[z.fdiv 96]) ⟨?_,?_,?_,?_,?_,C.ok,(λv h=>nomatch h),by simpa using K,?_,?_,N⟩ (Z.mono λi h=>by lia)))
  ·exact D.get A (by exact NE (N.2))
  ·rw[de J,dH];rfl
  ·exact C.at_.fr Z λi V=>by have:=C.low i V;lia
  ·exact D.get (G.get o (by exact NT (X))) (by exact NT (S))
  ·rw[bK,C.len];rfl
  ·rw[tD];refine⟨C.nd,by simp,λa ha b hb=>?_⟩;rw[aJ.mp hb];obtain⟨k,hk⟩:=Jj ha;obtain⟨n,-,h⟩:=C.at_.get hk;have:=ba h;exact NE (this)
  ·intro i V;rcases dX.mp V with V |V
   ·exact C.low i V
   ·rw[aJ.mp V];exact⟨e0,S⟩
 obtain g0:∀{y H},a0 y H->jO (λI B=>WP (sq [] ⟨F,dc,I⟩) B a0 E) a0 y H:=λ{y H} h=>by
  obtain⟨f,l⟩:=y;cases f <;>exact h
 unfold zd;wtm_at "r";refine mW ⟨λc1=>?_,λc1=>?_⟩
 ·exact t_t app
 ·obtain f0:j≠0:=λe=>by
   subst e;cases c1
  wtm_at "r";refine ph (by decide) ?_;wtm_at "r";refine pj (by decide) ?_;wtm_at "r";refine mW ⟨λc2=>app,λc2=>?_⟩;refine x_nil ?_;have T:c0≠[]:=λe=>by
   subst e;have:bR=[]:=nq.mp M.symm;subst this;exact f0 K.symm
  have O:bR≠[]:=λe=>by
   subst e;exact T (nq.mp M)
  have e1:=BC T;have e2:=BC O;generalize c0.dropLast=ip at e1;generalize c0.getLast T=lp at e1;generalize bR.dropLast=U at e2;generalize bR.getLast O=lt at e2;subst e1 e2;obtain⟨h1,h2⟩:=hU.snoc.mp C.at_;exact q B ip lp U lt d0 ⟨C.js,C.od,h1,h2,by have:=C.len;rw[bK]at this;exact this,λR W=>C.ok R (gO _ W),(C.ok lt (hY _ (.head _))).2,by rw[<-zZ];exact K,C.nd,C.low,N⟩ (Fr.refl _ _)
def Gk:∀v∈[vS "a",vS "a.b",vS "ab",vS "b.a",vS "a",vS "a.b",vS "ab",.int 7],eg v:=by
 intro v B;simp only[bu,pK,tU]at B;rcases B with rfl |rfl |rfl |rfl |rfl |rfl |rfl |rfl
 ·exact .inr ⟨_,.head _,rfl⟩
 ·exact .inr ⟨_,.tail _ (.head _),rfl⟩
 ·exact .inr ⟨_,.tail _ (.tail _ (.head _)),rfl⟩
 ·exact .inr ⟨_,.tail _ (.tail _ (.tail _ (.head _))),rfl⟩
 ·exact .inr ⟨_,.head _,rfl⟩
 ·exact .inr ⟨_,.tail _ (.head _),rfl⟩
 ·exact .inr ⟨_,.tail _ (.tail _ (.head _)),rfl⟩
 ·exact .inl rfl
def U8:∀v∈[vS "/l/x.py",vS "/l/a/x.py",vS "/w/x.py",.none],f3 v:=by
 intro v B;simp only[bu,pK,tU]at B;rcases B with rfl |rfl |rfl |rfl
 ·exact .inr ⟨_,.head _,rfl⟩
 ·exact .inr ⟨_,.tail _ (.head _),rfl⟩
 ·exact .inr ⟨_,.tail _ (.tail _ (.head _)),rfl⟩
 ·exact .inl rfl
theorem U9 {n1:ak}{c0:ah Int}{a0:FL×ah (ax AV)->St->Prop}(hn:B[n1]? =ae (.list (c0.map .int)))(f0:1<=c0.length/\c0.length<=16)(q:∀H RW OD e0 bR d0 bS f Y,Ex B H->LawC B.length H RW OD e0 bR d0 c0.length->a0 (.next,[x0,ae (.ref n1),ag,x3,ag,x5,x6,x7,x8,ae (.ref RW),ae (.ref OD),bS,f,Y,ag,ag,ag,ag,ag,ag,ag,ag,ag,ag,ag,ag,ag,ag,ag,ag,ag,ag,ag,ag,ag,ag,ag,ag,ag,ag,ag,ag,ag]) H):
  WP (sq vI ⟨FN 11,dc,[x0,ae (.ref n1),ag,x3,ag,x5,x6,x7,x8,ag,ag,ag,ag,ag,ag,ag,ag,ag,ag,ag,ag,ag,ag,ag,ag,ag,ag,ag,ag,ag,ag,ag,ag,ag,ag,ag,ag,ag,ag,ag,ag,ag,ag]⟩) B a0 E:=by
 unfold vI;wtm_at "r";refine bp (by simp) ?_;wtm_at "r";refine bp (by simp) ?_;have Z:Ex B (B++[AO.list []]++[AO.list []]):=Fr.app.trans Fr.app;have g0:(B++[AO.list []]++[AO.list []])[B.length]? =ae (.list []):=g_app g_last;have s0:(B++[AO.list []]++[AO.list []])[(B++[AO.list []]).length]? =ae (.list []):=g_last;have b:B.length < (B++[AO.list []]).length:=by rw[bK];simp
 generalize (B++[AO.list []]).length=OD at *;generalize B++[AO.list []]++[AO.list []]=a7 at *;wtm_at "r";refine ff (Z.g hn) ⟨rfl,?_⟩;refine k8 (G:=λH=>H[n1]? =ae (.list (c0.map .int))) (a0:=λj I H=>(∃e0 bR d0,LawC B.length H B.length OD e0 bR d0 j)/\Ex B H/\∃bS f Y,I=[x0,ae (.ref n1),ag,x3,ag,x5,x6,x7,x8,ae (.ref B.length),ae (.ref OD),bS,f,Y,ag,ag,ag,ag,ag,ag,ag,ag,ag,ag,ag,ag,ag,ag,ag,ag,ag,ag,ag,ag,ag,ag,ag,ag,ag,ag,ag,ag,ag]) (K:=mQ 0 (c0.map .int))
  (Yl.enum (Yl.gK λH e=>e)) (by rw[nZ,aO];exact FI 0 16 1 128 f0.2 rfl) (λy y y h=>h.2.1.g hn) ⟨⟨[],[],[],⟨g0,s0,trivial,rfl,(λy h=>nomatch h),rfl,GK,(λy h=>nomatch h),⟨a4 _,b⟩⟩⟩,Z,_,_,_,rfl⟩ ?_ ?_
 ·intros _ j v y0 V _ hv i0;obtain⟨u0,K,h0⟩:=i0;obtain (⟨bS,f,Y,rfl⟩):=h0;obtain (⟨e0,bR,d0,C⟩):=u0;obtain (⟨u,l,rfl⟩):=wj hv;rw[dA]at l;cases o:c0[j]? with
  |none=>rw[o]at l;cases l
  |some z=>
   intros z _ o;rw[o]at l;cases l;have hj:=ba o;rw[show(0:Int)+(j:Int)=j from uy _];refine vT rfl rfl (x_put_cons (cu rfl (x_put_cons (cu rfl (x_put_nil ?_)))));simp only[gz,gA];refine x_sq (U6 C (by exact TT hj f0.2) K.len ?_);intros _ D ip lp U lt M _ F l0;refine n_next ?_;have m0:Ex B D:=K.old l0 λi k h=>by exact XX 1 0 (CH 0 0 1 0 h k) rfl
   wtm_at "r";refine bp (by simp) ?_;have N:Ex D (D++[AO.list [vS "a",vS "a.b",vS "ab",vS "b.a",vS "a",vS "a.b",vS "ab",.int 7]]):=Fr.app;have v0:(D++[AO.list [vS "a",vS "a.b",vS "ab",vS "b.a",vS "a",vS "a.b",vS "ab",.int 7]])[D.length]? =ae (.list [vS "a",vS "a.b",vS "ab",vS "b.a",vS "a",vS "a.b",vS "ab",.int 7]):=g_last;generalize D++[AO.list [vS "a",vS "a.b",vS "ab",vS "b.a",vS "a",vS "a.b",vS "ab",.int 7]]=cO at *;wtm_at "r";refine pj (by decide) ?_;refine pick (P:=eg) v0 (by have:=z9 (x:=z) (n:=8) (by decide);simpa using this) (by simp) Gk ?_;intros _ m _ hm;have W:=N.g F.js;have w:=N.g F.last;wtm_at "r";refine Gc W (by simp) (v:=.ref lp) (by rw[aO,dA,bK];simp) ?_;refine⟨(λh=>nomatch h.2),hW w (.inl rfl) ?_⟩;wtm_at "r";refine bp (by simp) ?_;have S:Ex D (cO++[AO.list [vS "/l/x.py",vS "/l/a/x.py",vS "/w/x.py",.none]]):=N.trans Fr.app;have p0:(cO++[AO.list [vS "/l/x.py",vS "/l/a/x.py",vS "/w/x.py",.none]])[cO.length]? =ae (.list [vS "/l/x.py",vS "/l/a/x.py",vS "/w/x.py",.none]):=g_last;generalize cO++[AO.list [vS "/l/x.py",vS "/l/a/x.py",vS "/w/x.py",.none]]=dZ at *;wtm_at "r";refine ph (by decide) ?_;wtm_at "r";refine pj (by decide) ?_;refine pick (P:=f3) p0 (by have:=z9 (x:=z.fdiv 8) (n:=4) (by decide);simpa using this) (by simp) U8 ?_;intros _ p _ hp;wtm_at "r";have A:=F.iG;refine jt (S.g F.last) (by rw[aO];exact CF 1 0 0 16 0 4096 (CH 0 0 1 0 (CH 0 0 0 0 AR (EL A)) hj) f0.2 rfl) ?_;have O:Fr (λi=>i=lp) dZ (dZ.set lp (.list (lt.map tA++[.dB p m (.int j)]))):=Fr.set rfl;have L:Fr (λi=>i=lp) D (dZ.set lp (.list (lt.map tA++[.dB p m (.int j)]))):=S.any.trans O;have J:=F.low lp (hY _ (.head _));have T:=F.qC;have o0:=(tD.mp F.nd).2.2;refine n_next (x_nil (l_next ⟨⟨ip++[lp],U++[lt++[(p,m,(j:Int))]],M,⟨L.get F.js (by exact NE (CF 1 0 1 0 1 0 b J.2 rfl)),L.get F.od (by exact NE (J.2)),hU.snoc.mpr ⟨F.at_.fr L λi k e=>o0 i k lp (.head _) e,?_⟩,?_,?_,?_,F.nd,F.low,T⟩⟩,m0.old L λi k e=>by exact XX 1 0 (CH 0 0 1 0 (CH 0 0 0 0 J.1 (EG e)) k) rfl,_,_,_,rfl⟩))
   ·rw[de (S.g F.last),dH];rfl
   ·rw[bK];exact F.len
   ·intro R G;rcases dX.mp G with G |G
    ·exact F.ok R G
    ·rw[aJ.mp G];refine⟨by simp,λt X=>?_⟩;rcases dX.mp X with X |X
     ·exact F.QO t X
     ·rw[aJ.mp X];exact⟨hp,hm⟩
   ·rw[zZ,bK];simp;lia
 ·intros _ w0 V _ n0;obtain⟨j0,K,r0⟩:=n0;obtain (⟨bS,f,Y,rfl⟩):=r0;obtain (⟨e0,bR,d0,C⟩):=j0;rw[nZ,aO]at C;exact n_next (x_nil (q V B.length OD e0 bR d0 _ _ _ K C))
def Good.fr {x:eN}{ns:ah aS}(G:Good x M ns as B)(a0:Fr D B H)(h:∀i,eY x i->¬ D i):Good x M ns as H:=
 G.mono λi E=>a0.keep i ((G.app (l:=[])).2 i E) (h i E)
theorem asked {x:eN}{ns:ah aS}{a0:AV->St->Prop}(c0:x.Ok)(hr:∀r∈M,fy r)(hq:x.qs.length<=60)(ht:∀t∈R,iE t)(g0:R≠[])(e0:R.length<=16)(hn:∀n∈ns,n.length<=b0)(hb:b0+R.length<=60)(has:as.length+R.length<=4096)(hz: -1<=z)(f0:z<=4)(G:Good x M ns as B)(hG:Gv w B A s (R.map tA))(d0: ¬ eY x A)(hs: ¬ eY x s)(q:∀v H,zm x M ns as R b z w A s B v H->v≠ .none->a0 v H)(e:∀H,zm x M ns as R b z w A s B .none H->E "AttributeError" H):
  WP (FN 11 (.fn (aq (if b then "nlargest" else "nsmallest"))) [.int z,.ref A] [(aq "key",.ref x.lm)]) B a0 E:=by
 obtain ko:=TR (k:=8) (x:=x) (M:=M) (dI:=ns) (gB:=as) (R:=R) (b0:=b0) c0 hr hq ht hb has;have D:(R.map tA).length=R.length:=aO ..;refine Tp (k0:=7) (b:=b) ko TS d0 hs (by simpa using g0) (by exact CF 0 0 0 16 0 64 (EL D) e0 rfl) (λy X=>?_) hz f0 (TU G hn) hG (λJ v H h=>?_) (λJ v H h=>?_) λJ k H h=>?_
 ·obtain⟨t,-,rfl⟩:=mu.mp X;exact⟨_,_,_,rfl⟩
 ·have F:cB M ns R z=([],ns):=aK (by lia);have O:fe M ns R z=[]:=aK (by lia);obtain V:jS M ns R z w=R.map tA:=aK (by lia);obtain⟨⟨r,rfl,L,K⟩,⟨Z,j,Y,-,-⟩,f⟩:=h;rw[mo,mo]at Y;obtain U':Good x M ns as H:=G.mono λi W=>f.keep i ((G.app (l:=[])).2 i W) id;refine q _ _ ⟨by rw[F,O,fS];exact U',Ex.any f,⟨0,?_,λu=>by rw[V,mo],λu u=>cZ _⟩,.inr ⟨by lia,r,rfl,L,?_⟩⟩ (by simp)
  ·cases w with
   |true=>exact .inl (It.fr (D:=λu=>dm) hG f id id)
   |false=>exact⟨hG.1,f.get hG.2 id⟩
  ·rw[K];unfold nS;rw[F];rfl
 ·have F:cB M ns R z=bM M ns R:=aN J;have U:(bM M ns R).1.length=R.length:=by rw[<-h.len,D]
  have O:fe M ns R z=gn R:=by
   unfold fe;rw[aN J,F,U,gy (by exact gR _)]
  obtain⟨⟨r,rfl,L,K⟩,-,S,f,I⟩:=h;rw[D]at S I;refine q _ _ ⟨by rw[F,O];exact yH S,f,⟨R.length,I,λT=>?_,λu u=>a4 _⟩,.inr ⟨by rw[F];exact NB (DN ((EG U))),r,rfl,L,?_⟩⟩ (by simp)
  ·unfold jS;rw[aN ⟨T,J⟩,F,U,kf (by exact(EL D)),kf (by exact FI 0 0 0 1 (EL D) rfl)]
  ·rw[K];unfold nS;rw[F]
 ·have F:cB M ns R z=bM M ns R:=aN J;have O:fe M ns R z=gn (R.take ((bM M ns R).1.length+1)):=by
   unfold fe;rw[aN J,F]
  obtain⟨rfl,N,S,f,I⟩:=h;rw[D]at N;refine e _ ⟨by rw[F,O];exact S,f,⟨_,I,λT=>?_,λu u=>by exact N⟩,.inl ⟨J,by rw[F];exact N,rfl⟩⟩;unfold jS;rw[aN ⟨T,J⟩,F]
def Va {m:ak}{a0:AV->St->Prop}(h:jq w B A s m K)(hl:K.length<=4096)(hm:w=aj->qx B A s m K->m<=K.length)(q:∀H i,Fr (λj=>w=aj/\j=A) B H->B.length<=i->H[i]? =ae (.list (if w then K.drop m else K))->a0 (.ref i) H):WP (et ⟨F,O,I⟩ (.ty "list") [.ref A] []) B a0 E:=by
 cases w with
 |false=>
  refine mV rfl (av (fE (av (eZ (av (eh (av (dj h.2 (bp hl (q _ _ Fr.app (a4 _) g_last))))))))))
 |true=>
  obtain h:qx B A s m K:=h;obtain hm:=hm rfl h;rcases h with h |⟨h1,h2⟩
  ·refine mV rfl (av (fE (av (eZ (av (eh (av (dj h.1 (av (fB h.2 (av (bw ⟨hm,hl⟩ (av (k7 (bp ?_ ?_)))))))))))))))
   ·rw[IY];exact TT SB hl
   ·exact q _ _ (Fr.trans (Fr.set ⟨rfl,rfl⟩) Fr.app) (by rw[eJ];exact a4 _) g_last
  ·refine mV rfl (av (fE (av (eZ (av (eh (av (dj h1 (bp (by simp) ?_)))))))));refine q _ _ Fr.app (a4 _) ?_;rw[show(if (aj=aj)then K.drop m else K)=[] from kf h2];exact g_last
def Gl {o:Int}(h:I[19]? =ae (ae (.int o)))(q:QB (iX o) B):WP (aR .Eq (aY .Mod (aY .FloorDiv (eL 19) (eK (.int 12))) (eK (.int 2))) (eK (.int 1)) ⟨F,dc,I⟩) B QB E:=
 w_tCmp (w_Bin (w_Bin (aM h (w_K (ph (by decide) (w_K (pj (by decide) (w_K (mW q)))))))))
def Vb {a0:AV->St->Prop}{o:Int}(h:I[19]? =ae (ae (.int o)))(c0:I[18]? =ae (ae (.ref rp)))(hr:B[rp]? =ae (.list K))(hl:K.length<=4096)(q:∀H A s,Gv (iX o) H A s K->Ex B H->B.length<=A->(s=A\/s=rp)->a0 (.ref A) H):
  WP (gH (aR .Eq (aY .Mod (aY .FloorDiv (eL 19) (eK (.int 12))) (eK (.int 2))) (eK (.int 1))) (aX (eK (.bi "iter")) [(eL 18)] []) (aX (eK (.ty "list")) [(eL 18)] []) ⟨F,dc,I⟩) B a0 E:=by
 refine w_If (Gl h ⟨λc=>?_,λc=>?_⟩)
 ·refine w_Call (w_K (w_evs_cons (aM c0 (w_evs_nil (w_kws_nil (Fu hr ?_))))));rw[c]at q;exact q _ _ rp ⟨g_last,g_app hr⟩ Fr.app (a4 _) (.inr rfl)
 ·refine w_Call (w_K (w_evs_cons (aM c0 (w_evs_nil (w_kws_nil (mV rfl (av (fE (av (eZ (av (eh (av (dj hr (bp hl ?_)))))))))))))));rw[c]at q;exact q _ _ B.length ⟨rfl,g_last⟩ Fr.app (a4 _) (.inl rfl)
def Aa (h:B[2]? =ae (.cell (ae (.int z))))(hc:O.lookup (sO "wish")=ae 2)(q:QB (decide (0 < z)) B):WP (aR .Gt (eC "wish") (eK (.int 0)) ⟨F,O,I⟩) B QB E:=
 w_tCmp (gp hc h (w_K (c_gt q)))
def Vc {a0:AV->St->Prop}{ns:ah aS}{c0:ah ak}(o0:I[18]? =ae (ae (.ref row)))(l0:I[14]? =ae (ae (.ref NP)))(h3:I[3]? =ae (ae (.ref LP)))(hw:B[2]? =ae (.cell (ae (.int z))))(f0:c0.length=a9.length)(hr:∀r∈M,fy r)(ht:∀t∈R,iE t)(hn:∀n∈ns,n.length<=b0/\g9 n)(hb:b0+R.length<=60)(hN:dO B c0 ns)(hL:fc B a9 M)(n0:c0.Nodup)(e0:∀i∈c0,∀q∈a9,q.1≠i/\q.2≠i)(j0:c0.length<=60)(i0:B[NP]? =ae (.list (c0.map .ref)))(h0:B[LP]? =ae (.list (a9.map pM)))(d0:B[row]? =ae (.list (R.map tA)))(m0:NP∉c0)(p0:LP∉c0)(g0:row∉c0)(q:∀H ri,dO H c0 (cB M ns R z).2->Fr (· ∈c0) B H->B.length<=ri->H[ri]? =ae (.list ((cB M ns R z).1.map .int))->a0 (.ref ri) H):
  WP (gH (aR .Gt (eC "wish") (eK (.int 0))) (aX (eK (.fn (aq "_law_ranks"))) [(eL 18),(eL 14),(eL 3)] []) (eList []) ⟨FN 11,dc,I⟩) B a0 E:=by
 refine w_If (Aa hw cl_wish ⟨λc=>?_,λc=>?_⟩)
 ·obtain D:0 < z:=gx c;obtain F:cB M ns R z=bM M ns R:=aN D;rw[F]at q;refine w_Call (w_K (w_evs_cons (aM o0 (w_evs_cons (aM l0 (w_evs_cons (aM h3 (w_evs_nil (w_kws_nil (f_fn ?_))))))))));exact F6 f0 hr ht hn hb hN hL n0 e0 j0 i0 h0 d0 m0 p0 g0 q
 ·obtain D: ¬ 0 < z:=jE c;obtain F:cB M ns R z=([],ns):=aK D;rw[F]at q;obtain G:Ex B (B++[AO.list []]):=Fr.app;exact w_List (w_evs_nil (bp (by simp) (q _ _ (hN.fr G λu u h=>h) G.any (a4 _) g_last)))
theorem Vd {li:ak}{us:ah Thing}{QL:ah AV->St->Prop}(hl:B[li]? =ae (.list (us.map tA)))(a0:us.length<=64)(hw:B[2]? =ae (.cell (ae (.int z))))(q:QL (if 0 < z then gn us else []) B):
  WP (cw (eL 3) [(aR .Gt (eC "wish") (eK (.int 0)))] (cx [(pL 1),(pL 2),(pL 3)]) 128 (.list (ae li) 0) ⟨F,[(aq "wish",2)],[ag,ag,ag,ag,ag]⟩ []) B QL E:=by
 refine lY (G:=λH=>H=B) (a0:=λj D I H=>D=(if 0 < z then gn (us.take j)else [])/\H=B/\lR I) (K:=us.map tA)
  (Yl.gK λH e=>by rw[e];exact hl) (by rw[aO];exact FI 0 64 1 128 a0 rfl) (λw w w w h=>h.2.1) ⟨by split <;>rfl,rfl,lR.mk⟩ ?_ ?_
 ·intros _ j v D N H _ K M;obtain⟨rfl,rfl,L⟩:=M;obtain (⟨Q,T,O,R,S,rfl⟩):=L;rw[dA]at K;cases G:us[j]? with
  |none=>rw[G]at K;cases K
  |some u=>
   intros u _ G;rw[G]at K;cases K;have U:=ba G;unfold tA;wtm_at "r";refine qK (Aa hw lk_here ⟨λc=>?_,λc=>?_⟩)
   ·have J:0 < z:=gx c;rw[aN J,aN J];refine⟨by unfold gn;rw[aO,er];exact CF 0 0 0 64 0 4096 MR a0 rfl,?_⟩;wtm_at "r";refine⟨?_,rfl,lR.mk⟩;rw[take_snoc G];unfold gn;rw[dH];rfl
   ·have J: ¬ 0 < z:=jE c;rw[aK J,aK J];exact⟨rfl,rfl,lR.mk⟩
 ·rintro D _ H ⟨rfl,rfl,-⟩;rw[aO,j5];exact q
def Ve {a0:AV->St->Prop}{m:ak}{y:Int}(e:B[i]? =ae (.list l))(hl:l.length<=4096)(hy:y=m)(hm:m<=8192)(q:a0 (.ref B.length) (B++[.list (l.drop m)])):WP (kl (.ref i) (ae (.int y)) ag) B a0 E:=by
 have F:y.toNat=m:=by rw[hy];exact eB m
 have D:nC (ae y)=aj:=by rw[hy];exact zJ (by lia)
 refine av (zI (av (zH (av (fB e (FA ⟨D,rfl⟩ hl ?_ q))))));show(l.take l.length).drop (min y.toNat l.length)=l.drop m;rw[j5,F];by_cases h:m<=l.length
 ·rw[m7 h]
 ·rw[tL (by exact FI 1 0 0 0 (NG h) rfl),kf (a4 _),kf (by exact FI 1 0 0 0 (NG h) rfl)]
def Vf {a0:AV->St->Prop}{ns:ah aS}{o:Int}{V:ah AV}(d0:I[18]? =ae (ae (.ref row)))(g0:I[24]? =ae (ae (.ref ri)))(i0:I[19]? =ae (ae (.int o)))(hw:B[2]? =ae (.cell (ae (.int z))))(c0:B[row]? =ae (.list (R.map tA)))(f0:B[ri]? =ae (.list V))(h0:R.length<=64)(e0:V.length=(cB M ns R z).1.length)(j0:V.length<=64)(q:∀H li,Ex B H->(B.length<=li\/li=row)->H[li]? =ae (.list (jS M ns R z (iX o)))->a0 (.ref li) H):
  WP (gH (jN (aR .Gt (eC "wish") (eK (.int 0))) (aR .Eq (aY .Mod (aY .FloorDiv (eL 19) (eK (.int 12))) (eK (.int 2))) (eK (.int 1)))) (fu (eL 18) (ae (aY .Add (aX (eK (.bi "len")) [(eL 24)] []) (eK (.int 1)))) ag) (eL 18) ⟨F,dc,I⟩) B a0 E:=by
 have G: ¬ (iX o=aj/\0 < z)->WP (eL 18 ⟨F,dc,I⟩) B a0 E:=λh=>by
  have e:jS M ns R z (iX o)=R.map tA:=aK h;rw[e]at q;exact aM d0 (q B row (Fr.refl _ _) (.inr rfl) c0)
 refine w_If (w_tAnd (Aa hw cl_wish ⟨λc=>Gl i0 ⟨λD=>?_,λD=>G λh=>absurd (D.symm.trans h.1) (by decide)⟩,λc=>t_f (G λh=>jE c h.2)⟩));obtain e:jS M ns R z (iX o)=(R.map tA).drop ((cB M ns R z).1.length+1):=aN ⟨D,gx c⟩;rw[e]at q;refine w_Slice (aM d0 (w_optE_some (w_Bin (w_Call (w_K (w_evs_cons (aM g0 (w_evs_nil (w_kws_nil (f_len f0 (w_K (b_add (w_optE_none ?_)))))))))))));exact Ve c0 (by rw[aO];exact FI 0 64 0 4096 h0 rfl) (m:=(cB M ns R z).1.length+1) (by rw[e0];lia) (by exact CF 0 0 0 64 1 8192 (EG e0) j0 rfl) (q _ _ Fr.app (.inl (a4 _)) g_last)
def Vg {a0:AV->St->Prop}{lm:ak}(d0:I[21]? =ae (ae (.bool b)))(c0:I[22]? =ae (ae (.ref A)))(h8:I[8]? =ae (ae (.ref lm)))(hw:B[2]? =ae (.cell (ae (.int z))))(h:WP (F (.fn (aq (if b then "nlargest" else "nsmallest"))) [.int z,.ref A] [(aq "key",.ref lm)]) B a0 E):
  WP (gH (tV (eL 21)) (aX (eK (.fn (aq "nlargest"))) [(eC "wish"),(eL 22)] [(aq "key",(eL 8))]) (aX (eK (.fn (aq "nsmallest"))) [(eC "wish"),(eL 22)] [(aq "key",(eL 8))]) ⟨F,dc,I⟩) B a0 E:=by
 refine w_If (w_tV (aM d0 (tr_bool ⟨λc=>?_,λc=>?_⟩)))
 ·subst c;exact w_Call (w_K (w_evs_cons (gp cl_wish hw (w_evs_cons (aM c0 (w_evs_nil (w_kws_cons (aM h8 (w_kws_nil (f_fn h))))))))))
 ·subst c;exact w_Call (w_K (w_evs_cons (gp cl_wish hw (w_evs_cons (aM c0 (w_evs_nil (w_kws_cons (aM h8 (w_kws_nil (f_fn h))))))))))
def Vh {a0:AV->St->Prop}{ns:ah aS}{V:ah AV}(e0:I[18]? =ae (ae (.ref row)))(f0:I[24]? =ae (ae (.ref ri)))(hw:B[2]? =ae (.cell (ae (.int z))))(c0:B[row]? =ae (.list (R.map tA)))(d0:B[ri]? =ae (.list V))(g0:V.length=(cB M ns R z).1.length)(q:a0 (.bool (nU M ns R z)) B):WP (vD (lQ .Gt (eC "wish") (eK (.int 0))) (lQ .Lt (aX (eK (.bi "len")) [(eL 24)] []) (aX (eK (.bi "len")) [(eL 18)] [])) ⟨F,dc,I⟩) B a0 E:=by
 refine w_And (w_Cmp (gp cl_wish hw (w_K (c_gt (tr_bool ⟨λc=>?_,λc=>?_⟩)))))
 ·refine w_Cmp (w_Call (w_K (w_evs_cons (aM f0 (w_evs_nil (w_kws_nil (f_len d0 (w_Call (w_K (w_evs_cons (aM e0 (w_evs_nil (w_kws_nil (f_len c0 (c_lt ?_)))))))))))))));obtain c:decide (0 < z)=aj:=c;have e:nU M ns R z=decide ((V.length:Int) < ((R.map tA).length:Int)):=by
   unfold nU;rw[c,Bool.true_and,g0,aO];simp
  rw[<-e];exact q
 ·obtain c:decide (0 < z)=az:=c;have e:nU M ns R z=az:=by unfold nU;rw[c];rfl
  rw[e]at q;show a0 (.bool (decide (0 < z))) B;rw[c];exact q
def Vi {ns:ah aS}(h: ¬ 0 < z):nS b M ns R z=[]:=by
 unfold nS;rw[show z.toNat=0 by lia];have:fx b 0 ((cB M ns R z).1.zip (R.map tA))=[]:=nq.mp (by rw[Fs];exact AN (ML) (ZZ));rw[this];rfl
def Vj {a0:AV->St->Prop}{ns:ah aS}(i0:I[18]? =ae (ae (.ref row)))(e0:I[24]? =ae (ae (.ref ri)))(f0:I[21]? =ae (ae (.bool b)))(h0:I[26]? =ae (ae (.bool (nU M ns R z))))(hw:B[2]? =ae (.cell (ae (.int z))))(hz: -1<=z)(j0:z<=4)(g0:R.length<=64)(c0:B[row]? =ae (.list (R.map tA)))(d0:B[ri]? =ae (.list ((cB M ns R z).1.map .int)))(q:∀v H,Ex B H->((0 < z/\(cB M ns R z).1.length < R.length/\v= .none)\/(¬ (0 < z/\(cB M ns R z).1.length < R.length)/\∃r,v= .ref r/\B.length<=r/\H[r]? =ae (.list (nS b M ns R z))))->a0 v H):
  WP (gH (tV (eL 26)) (eK .none) (aX (eK (.fn (aq "_law_few"))) [(eL 18),(eL 24),(eC "wish"),(eL 21)] []) ⟨FN 11,dc,I⟩) B a0 E:=by
 refine w_If (w_tV (aM h0 (tr_bool ⟨λc=>?_,λc=>?_⟩)))
 ·unfold nU at c;rw[cW,fq,fq]at c;exact w_K (q _ _ (Fr.refl _ _) (.inl ⟨c.1,c.2,rfl⟩))
 ·have J: ¬ (0 < z/\(cB M ns R z).1.length < R.length):=by
   unfold nU at c;rw[Bool.and_eq_false_iff,Jk,Jk]at c
   lia
  have F:0 < z->(cB M ns R z).1.length=(R.map tA).length:=λh=>by
   have K:cB M ns R z=bM M ns R:=aN h;have:=wg (M:=M) (ns:=ns) (R:=R);rw[K]at J;rw[aO,K];lia
  refine w_Call (w_K (w_evs_cons (aM i0 (w_evs_cons (aM e0 (w_evs_cons (gp cl_wish hw (w_evs_cons (aM f0 (w_evs_nil (w_kws_nil (f_fn ?_))))))))))));refine Uo hz j0 (by rw[aO];exact g0) F c0 d0 λH N L G O=>q _ _ L (.inr ⟨J,N,rfl,G,?_⟩);rw[O];by_cases D:0 < z
  ·rw[Ul (F D)];rfl
  ·rw[Vi D,show z.toNat=0 by lia];rfl
def wm {i:Int}:∃d,(∀n B,a8 n B (.int i)=ae d)/\bY d d=aj:=⟨.int i,λu u=>qI,by rw[bY];simp⟩
def Vk (h:eg m):∃d,(∀n B,a8 n B m=ae d)/\bY d d=aj:=by
 rcases h with rfl |⟨s,hs,rfl⟩
 ·exact wm
 ·exact⟨.str s,λu u=>lZ (zU hs).ok,by rw[bY];simp⟩
def Vl (h:f3 m):∃d,(∀n B,a8 n B m=ae d)/\bY d d=aj:=by
 rcases h with rfl |⟨s,hs,rfl⟩
 ·exact⟨.none,λn B=>by cases n <;>rfl,by rw[bY]⟩
 ·exact⟨.str s,λu u=>lZ (FX hs).ok,by rw[bY];simp⟩
def Ab {a0:AV->ax hX}{x:AV}{d:hX}{ds:ah hX}(h:a0 x=ae d)(k:c8 a0 l=ae ds):c8 a0 (x :: l)=ae (d :: ds):=by
 show(match a0 x,c8 a0 l with |some d,ae ds=>ae (d :: ds) |_,_=>bq)=_;rw[h,k]
def Vm {t:Thing}(h:iE t):∃d,(∀n B,a8 (n+1) B (tA t)=ae d)/\bY d d=aj:=by
 obtain⟨F,H,K⟩:=Vl h.1;obtain⟨J,G,L⟩:=Vk h.2;obtain⟨E,I,D⟩:=wm (i:=t.2.2);refine⟨.tuple [F,J,E],λn B=>?_,?_⟩
 ·show(c8 (a8 n B) [t.1,t.2.1,.int t.2.2]).map Jl=_;rw[Ab (H n B) (Ab (G n B) (Ab (I n B) rfl))];rfl
 ·simp[bY,lE,K,L,D]
def Gm (h:∀t∈R,iE t):Flat (R.map tA):=λv D=>by
 obtain⟨t,B,rfl⟩:=mu.mp D;exact Vm (h t B)
def Vn {l:ah Int}:Flat (l.map .int):=λv F=>by
 obtain⟨t,G,rfl⟩:=mu.mp F;obtain⟨d,E,D⟩:=wm (i:=t);exact⟨d,λn B=>E _ _,D⟩
def Flat.sub {l':ah AV}(h:Flat l)(hs:∀v∈l',v∈l):Flat l':=λv B=>h v (hs v B)
def Vo {x y:Int×AV}:∀{S:ah (Int×AV)},y∈bV b x S->y=x\/y∈S:=by
 intro l;induction l with
 |nil=>
  intro h;exact .inl (aJ.mp h)
 |cons a S B=>
  intro h;unfold bV at h;split at h
  ·rcases bu.mp h with h |h
   ·exact .inl h
   ·exact .inr h
  ·rcases bu.mp h with h |h
   ·exact .inr (h ▸ .head _)
   ·rcases B h with h |h
    ·exact .inl h
    ·exact .inr (.tail _ h)
def Vp {y:Int×AV}:∀{K S:ah (Int×AV)},y∈K.foldl (λS x=>bV b x S) S->y∈K\/y∈S:=by
 intro B;induction B with
 |nil=>
  intro S h;exact .inr h
 |cons x K D=>
  intro S h;rcases D h with h |h
  ·exact .inl (.tail _ h)
  ·rcases Vo h with rfl |h
   ·exact .inl (.head _)
   ·exact .inr h
def Vq {K:ah (Int×AV)}{y:Int×AV}(h:y∈fx b n K):y∈K:=by
 rw[F8]at h;rcases Vp (Hy h)with h |h
 ·exact h
 ·cases h
def Vr {ns:ah aS}(h:∀t∈R,iE t):Flat (nS b M ns R z):=
 (Gm h).sub λv D=>by
  obtain⟨y,B,rfl⟩:=mu.mp D;exact(rA (a:=y.1) (b:=y.2) (Vq B)).2
def Vs {ns:ah aS}(h:∀t∈R,iE t):Flat (jS M ns R z w):=
 (Gm h).sub λv B=>by
  unfold jS at B;split at B
  ·exact wX B
  ·exact B
def Gn (h:Flat l):∃ds,(∀n B,c8 (a8 (n+1) B) l=ae ds)/\lE ds ds=aj:=by
 induction l with
 |nil=>exact⟨[],λu u=>rfl,by rw[lE]⟩
 |cons v l D=>
  obtain⟨ds,F,E⟩:=D λv H=>h v (.tail _ H);obtain⟨d,G,I⟩:=h v (.head _);refine⟨d :: ds,λn B=>?_,by rw[lE,I,E];rfl⟩;show(match a8 (n+1) B v,c8 (a8 (n+1) B) l with |some d,ae ds=>ae (d :: ds) |_,_=>bq)=_;rw[F,G]
def k5.fr {w:AV}(h:k5 Z B v w)(a0:Fr D B H)(hd:∀i,Z i->¬ D i):k5 Z H v w:=by
 obtain⟨l,i,j,K,J,L,F,E,G,I⟩:=h;exact⟨l,i,j,K,J,L,F,E,a0.get G (hd i F),a0.get I (hd j E)⟩
theorem Item.fr {w:AV}(h:Item Z B v w)(a0:Fr D B H)(hd:∀i,Z i->¬ D i):Item Z H v w:=by
 rcases h with h |⟨a,a',c,c',h1,h2,h3,h4⟩
 ·exact .inl (h.fr a0 hd)
 ·exact .inr ⟨a,a',c,c',h1,h2,h3.fr a0 hd,h4.imp id λh=>h.fr a0 hd⟩
def k6.fr (a0:Fr D B H)(hd:∀i,Z i->¬ D i):∀{vs ws:ah AV},k6 Z B vs ws->k6 Z H vs ws
 | [],[],_=>trivial
 | [],_ :: _,h=>h.elim
 |_ :: _,[],h=>h.elim
 |_ :: _,_ :: _,h=>⟨h.1.fr a0 hd,h.2.fr a0 hd⟩
def k6.snoc:∀{vs ws:ah AV} {v w:AV},k6 Z B vs ws->Item Z B v w->k6 Z B (vs++[v]) (ws++[w]):=by
 intro E;induction E with
 |nil=>
  intro D;cases D with
  |nil=>
   intro _ _ _ h;exact⟨h,trivial⟩
  |cons _ _=>
   intro _ _ h _;exact h.elim
 |cons H I F=>
  intro D;cases D with
  |nil=>
   intro _ _ h _;exact h.elim
  |cons _ _=>
   intro _ _ h G;exact⟨h.1,(F h.2) G⟩
def k5.data {w:AV}(h:k5 Z B v w):∃d,(∀n,a8 (n+2) B v=ae d)/\(∀n,a8 (n+2) B w=ae d)/\bY d d=aj:=by
 obtain⟨l,i,j,G,rfl,rfl,-,-,I,E⟩:=h;obtain⟨H,D,F⟩:=Gn G;exact⟨.list H,λn=>l3 I (D n B),λn=>l3 E (D n B),by rw[bY];exact F⟩
theorem Item.data {w:AV}(h:Item Z B v w):∃d,a8 7 B v=ae d/\a8 7 B w=ae d/\bY d d=aj:=by
 rcases h with h |⟨a,a',c,c',rfl,rfl,F,h4⟩
 ·obtain⟨d,E,D,F⟩:=h.data;exact⟨d,E 5,D 5,F⟩
 ·obtain⟨H,J,K,Q⟩:=F.data;have L:∃d,a8 6 B a=ae d/\a8 6 B a'=ae d/\bY d d=aj:=by
   rcases h4 with ⟨rfl,rfl⟩ |h4
   ·exact⟨.none,rfl,rfl,by rw[bY]⟩
   ·obtain⟨d,E,D,F⟩:=h4.data;exact⟨d,E 4,D 4,F⟩
  obtain⟨G,O,M,N⟩:=L;obtain I:∀a c,a8 6 B a=ae G->a8 6 B c=ae H->a8 7 B (.pair a c)=ae (.tuple [G,H]):=λa c E D=>by
   show(c8 (a8 6 B) [a,c]).map Jl=_;simp only[c8,E,D];rfl
  exact⟨.tuple [G,H],I _ _ O (J 4),I _ _ M (K 4),by simp[bY,lE,N,Q]⟩
def k6.data:∀{vs ws:ah AV},k6 Z B vs ws->∃ds,c8 (a8 7 B) vs=ae ds/\c8 (a8 7 B) ws=ae ds/\lE ds ds=aj
 | [],[],_=>⟨[],rfl,rfl,by rw[lE]⟩
 | [],_ :: _,h=>h.elim
 |_ :: _,[],h=>h.elim
 |v :: vs,w :: ws,h=>by
  obtain⟨d,G,F,H⟩:=h.1.data;obtain⟨ds,I,E,D⟩:=h.2.data;refine⟨d :: ds,?_,?_,by rw[lE,H,D];rfl⟩
  ·show(match a8 7 B v,c8 (a8 7 B) vs with |some d,ae ds=>ae (d :: ds) |_,_=>bq)=_;rw[G,I]
  ·show(match a8 7 B w,c8 (a8 7 B) ws with |some d,ae ds=>ae (d :: ds) |_,_=>bq)=_;rw[F,E]
def Vt {a0:ak->ak}(h:∀k,k < n->a0 k<=a0 (k+1))(h1:i<=j):j<=n->a0 i<=a0 j:=by
 induction h1 with
 |refl=>exact λu=>a4 _
 |step _ D=>exact λB=>dW (D (ny B)) (h _ B)
def Gp {P:ak->Prop}(h0:P 0)(h1:P 1)(h2:P 2)(h3:P 3)(h4:P 4)(h5:P 5)(h6:P 6)(h7:P 7)(k:ak)(h:k < 8):P k:=
 k.casesAuxOn (motive:=λk=>k < 8->P k) (λu=>h0) (λk=>k.casesAuxOn (motive:=λk=>k+1 < 8->P (k+1)) (λu=>h1) λk=>k.casesAuxOn (motive:=λk=>k+2 < 8->P (k+2)) (λu=>h2) λk=>k.casesAuxOn (motive:=λk=>k+3 < 8->P (k+3)) (λu=>h3)
  λk=>k.casesAuxOn (motive:=λk=>k+4 < 8->P (k+4)) (λu=>h4) λk=>k.casesAuxOn (motive:=λk=>k+5 < 8->P (k+5)) (λu=>h5) λk=>k.casesAuxOn (motive:=λk=>k+6 < 8->P (k+6)) (λu=>h6) λk=>k.casesAuxOn (motive:=λk=>k+7 < 8->P (k+7)) (λu=>h7)
  λk h=>absurd h (n7.mpr (GD 8 k))) h
def Ad.Ok.c {a:Ad}(a0:a.Ok)(i j:ak)(h:(l6 i j && l6 j 8)=aj):a.at i<=a.at j:=by
 rw[cW,p3,p3]at h;exact Vt (a0:=a.at) (Gp a0.bs.1 a0.bs.2.1 a0.bs.2.2 a0.ord.1 (ny a0.ord.2.1) (ny a0.ord.2.2.1) (ny a0.ord.2.2.2.1) (ny a0.ord.2.2.2.2)) h.1 h.2
def Ad.Ok.t {a:Ad}(a0:a.Ok)(i j:ak)(h:(l6 4 i && l6 (i+1) j && l6 j 8)=aj):a.at i < a.at j:=by
 rw[cW,cW,p3,p3,p3]at h;refine gT ?_ (a0.c (i+1) j (by rw[cW,p3,p3];exact⟨h.1.2,h.2⟩));exact Gp (P:=λk=>4<=k->a.at k < a.at (k+1)) (λh=>absurd h (by decide)) (λh=>absurd h (by decide)) (λh=>absurd h (by decide)) (λh=>absurd h (by decide)) (λu=>a0.ord.2.1) (λu=>a0.ord.2.2.1) (λu=>a0.ord.2.2.2.1) (λu=>a0.ord.2.2.2.2) i (gT h.1.2 h.2) h.1.1
def Ad.Ok.px {a:Ad}(a0:a.Ok)(h:i < a.bD\/a.NP<=i):i∉a.cQ:=λD=>by have:=a0.cQ i D;exact(h).elim (λB=>XX 1 0 (CH 0 0 1 0 this.1 B) rfl) (λB=>XX 1 0 (CH 0 0 1 0 B this.2) rfl)
def LS.fr {a:Ad}(c0:a.Ok)(S:LS a B)(a0:Fr D B H)(hd:∀i,i < a.bE->D i->a.iu i):LS a H:=by
 obtain⟨R,Q,V,U,L,N,O⟩:=S;obtain W:=c0.ord;obtain Z:=c0.lp;obtain Y:=c0.rows;obtain X:=c0.bs;obtain T:∀i,i < a.bE->¬ a.iu i->¬ D i:=λi E M h=>M (hd i E h);have I:∀{i},a.NP < i->(i < a.bA\/(a.bB<=i/\i < a.bD)\/i=a.NP)->dm:=λE h=>h.elim (λh=>dP _ (wI (gT h (c0.c 1 4 rfl)) E)) λh=>h.elim (λh=>dP _ (wI (gT h.2 (c0.c 3 4 rfl)) E)) λh=>dP _ (wJ (EL h) E);have F:∀i,5<=i->(i < a.bA\/(a.bB<=i/\i < a.bD)\/i=a.NP)->¬ D i:=λi L h=>T i (by exact(h).elim (λK=>TT K (c0.c 1 8 rfl)) (λK=>(K).elim (λJ=>TT J.2 (c0.c 3 8 rfl)) (λJ=>CF 0 0 1 0 1 0 (EL J) (c0.t 4 8 rfl) rfl))) λM=>by
  rcases M with g |g |g |g |g |g
  ·exact XX 6 5 (CH 5 0 1 5 L g) rfl
  ·exact h.elim (λh=>dP _ (gT h g.1)) λh=>h.elim (λh=>dP _ (gT g.2 h.1)) λh=>dP _ (gT g.2 (TT (c0.c 2 4 rfl) (EG h)))
  ·have:=c0.cQ i g;exact h.elim (λh=>dP _ (gT h (TT (c0.c 1 3 rfl) this.1))) λh=>h.elim (λh=>dP _ (gT h.2 this.1)) λh=>dP _ (gT this.2 (EG h))
  ·exact I (gT (c0.t 4 5 rfl) (EG g)) h
  ·exact I (gT (c0.t 4 6 rfl) (EG g)) h
  ·exact I (gT (c0.t 4 7 rfl) (EG g)) h
 exact⟨a0.get R (F _ (by exact c0.lp.1) (by exact .inl (c0.lp.2))),Q.fr a0 λq G=>⟨F _ (by have:=c0.a9 q G;exact this.1) (by have:=c0.a9 q G;exact .inl (this.2.1)),F _ (by have:=c0.a9 q G;exact this.2.2.1) (by have:=c0.a9 q G;exact .inl (this.2.2.2))⟩,a0.get V (F _ (by exact TT (c0.c 0 2 rfl) c0.rows.1) (by exact .inr (.inl (⟨c0.rows.1,c0.rows.2.1⟩)))),a0.get U (F _ (by exact TT (c0.c 0 2 rfl) c0.rows.2.2.1) (by exact .inr (.inl (⟨c0.rows.2.2.1,c0.rows.2.2.2⟩)))),
  L.fr a0 λi E=>F _ (by have:=c0.fP i E;exact TT (c0.c 0 2 rfl) this.1) (by have:=c0.fP i E;exact .inr (.inl (⟨this.1,this.2⟩))),a0.get N (F _ (by exact(c0.c 0 4 rfl)) (by exact .inr (.inr (AN (a4 _) (a4 _))))),dW O a0.len⟩
def Gq:∀{R:ah Thing} {ns:ah aS} {b:ak},(∀t∈R,iE t)->(∀n∈ns,n.length<=b/\g9 n)->∀n∈(bM M ns R).2,n.length<=b+R.length/\g9 n:=by
 intro H;induction H with
 |nil=>
  intro ns b _ E;exact λn h=>E n h
 |cons t R I=>
  intro ns b D E;have F:=F5 (M:=M) (D t (.head _)).2 (D t (.head _)).1 E;cases h:(b7 M ns t.2.1 t.1).1 with
  |none=>
   rw[sZ h];exact λn B=>⟨dW (F n B).1 (by rw[fm];lia),(F n B).2⟩
  |some i=>
   rw[sY h];intro n B;have:=I (λt G=>D t (.tail _ G)) F n B;exact⟨by rw[fm];lia,this.2⟩
def Vu {ns:ah aS}{b:ak}(ht:∀t∈R,iE t)(hn:∀n∈ns,n.length<=b/\g9 n):∀n∈(cB M ns R z).2,n.length<=b+R.length/\g9 n:=by
 unfold cB;split
 ·exact Gq ht hn
 ·exact λn h=>⟨by have:=(hn n h).1;exact TT this AL,(hn n h).2⟩
def Vv {ns:ah aS}:(cB M ns R z).1.length<=R.length:=by
 unfold cB;split
 ·exact wg
 ·exact cZ _
def Vw {ns:ah aS}:(fe M ns R z).length<=R.length:=by
 unfold fe;split
 ·unfold gn;rw[aO,er];exact MR
 ·exact cZ _
def Flat.Vx {ns:ah aS}(h:Flat as):Flat (as++fe M ns R z):=λv D=>by
 rcases dX.mp D with D |D
 ·exact h v D
 ·unfold fe at D;split at D
  ·obtain⟨t,G,rfl⟩:=mu.mp D;obtain⟨d,F,E⟩:=wm (i:=t.2.2);exact⟨d,λn B=>F _ _,E⟩
  ·cases D
def Vy {a0:AV->St->Prop}{l':ah AV}(h:B[i]? =ae (.list l))(h':B[j]? =ae (.list l'))(c0:i≠j/\l.length<=4096/\l'.length<=4096)(q:a0 .none (B.set i (.list (l++l')))):WP (e8 F (.ref i) .extend [.ref j] []) B a0 E:=
 av (eh (av (fE (av (eZ (av (eh (av (fB h (av (fB h' (av (bw c0 (av (k7 (aQ q))))))))))))))))
theorem Vz {I0:ax AV}{L0:ax AV}{J0:ax AV}{a:Ad}{ns:ah aS}{o:Int}{d0:FL×ah (ax AV)->St->Prop}(a0:a.Ok)(c0:QP a df B ns as W u rp R b z (iX o) A s v)(S0:∀n∈ns,n.length<=b0/\g9 n)(N1:as.length<=b0)(z1:Flat as)(O0:b0+R.length<=60)(r1:W.length<=100)(n1:u.length<=100)(ht:∀t∈R,iE t)(hz: -1<=z)(s1:z<=4)(q:∀H t d I0 L0 J0,LM a H (cB a.rs ns R z).2 (as++fe a.rs ns R z) (W++[t]) (u++[d]) (b0+R.length)->Fr a.iu df H->d0 (.next,[x0,x1,ag,ae (.ref a.LP),ag,x5,x6,x7,ae (.ref a.x.lm),ae (.ref a.RW),ae (.ref a.OD),bS,f,Y,ae (.ref a.NP),ae (.ref a.TD),ae (.ref a.DU),ae (.ref a.ON),ae (.ref rp),ae (.int o),ag,ae (.bool b),ae (.ref A),ae v,I0,L0,J0,ag,ag,ag,ag,ag,ag,ag,ag,ag,ag,ag,ag,ag,ag,ag,ag]) H):
  WP (sq vJ ⟨FN 11,dc,[x0,x1,ag,ae (.ref a.LP),ag,x5,x6,x7,ae (.ref a.x.lm),ae (.ref a.RW),ae (.ref a.OD),bS,f,Y,ae (.ref a.NP),ae (.ref a.TD),ae (.ref a.DU),ae (.ref a.ON),ae (.ref rp),ae (.int o),ag,ae (.bool b),ae (.ref A),ae v,I0,L0,J0,ag,ag,ag,ag,ag,ag,ag,ag,ag,ag,ag,ag,ag,ag,ag,ag]⟩) B d0 E:=by
 obtain o1:=a0.ord;obtain o2:=a0.lp;obtain o3:=a0.rows;obtain o4:=a0.bs;obtain l:=a0.fP rp c0.QR;obtain o6:=c0.hV;obtain y1:=c0.ls.long;obtain Z0:=Vv (M:=a.rs) (R:=R) (ns:=ns) (z:=z);obtain A0:=Vw (M:=a.rs) (R:=R) (ns:=ns) (z:=z);obtain i1:a.TD∉a.cQ:=a0.px (by exact .inr (FI 1 0 0 0 (a0.t 4 5 rfl) rfl));obtain U0:a.DU∉a.cQ:=a0.px (by exact .inr (FI 1 0 0 0 (a0.t 4 6 rfl) rfl));obtain T0:a.ON∉a.cQ:=a0.px (by exact .inr (FI 1 0 0 0 (a0.t 4 7 rfl) rfl));obtain (⟨m,u1,B1,p1⟩):=c0.left;have O:R.length<=60:=by exact TT AR O0
 unfold vJ;wtm_at "r";refine⟨(λh=>nomatch h.2),hW c0.td (.inl rfl) ?_⟩;wtm_at "r";refine Va u1 (by rw[aO];exact FI 0 60 0 4096 O rfl) (λh1 h2=>by rw[aO];exact p1 h1 h2) ?_;intros _ e0 li _ l0 h0 s0;have s0:e0[li]? =ae (.list (jS a.rs ns R z (iX o))):=by
  rw[s0];by_cases hw:iX o=aj
  ·rw[aN hw,B1 hw]
  ·rw[aK hw];unfold jS;rw[aK λh=>hw h.1]
 obtain l0:Fr (λj=>j=A) B e0:=l0.mono λj h=>h.2;obtain w0:=l0.get c0.td (by exact NE (TT (a0.t 5 8 rfl) c0.hV.1));obtain I1:=ba s0;obtain F1:=l0.len;wtm_at "r";refine jt w0 (by exact FI 0 100 0 4096 r1 rfl) ?_;obtain Z:Fr (λi=>i=a.TD) e0 (e0.set a.TD (.list (W++[.pair v (.ref li)]))):=Fr.set rfl;obtain f1:(e0.set a.TD (.list (W++[.pair v (.ref li)])))[a.TD]? =ae (.list (W++[.pair v (.ref li)])):=de w0;generalize e0.set a.TD (.list (W++[.pair v (.ref li)]))=bF at *;obtain T:Fr (λi=>i=A\/i=a.TD) B bF:=(l0.mono λi h=>.inl h).trans (Z.mono λi h=>.inr h);obtain W0:=Z.get s0 (by exact NT (TT (a0.t 5 8 rfl) (TT c0.ls.long h0)));obtain G1:=Z.len;obtain L:LS a bF:=c0.ls.fr a0 T λi F h=>by
  rcases h with h |h
  ·exact XX 1 0 (CH 0 0 1 0 (CH 0 0 0 0 c0.hV.1 (EG h)) F) rfl
  ·exact .inr (.inr (.inr (.inl h)))
 obtain m1:=c0.pf.fr T λi F h=>by have:=a0.cQ i F;exact(c0.val).elim (λG=>(h).elim (λD=>XX 2 0 (CH 1 0 1 0 (CH 1 0 0 0 (CH 1 0 0 0 (a0.t 4 8 rfl) c0.hV.1) (EG D)) this.2) rfl) (λD=>XX 2 0 (CH 1 0 1 0 (CH 1 0 0 0 (a0.t 4 5 rfl) (EG D)) this.2) rfl)) (λG=>(h).elim (λD=>XX 2 0 (CH 1 0 1 0 (CH 1 0 0 0 (CH 1 0 0 0 (a0.t 4 8 rfl) c0.hV.1) (EG D)) this.2) rfl) (λD=>XX 2 0 (CH 1 0 1 0 (CH 1 0 0 0 (a0.t 4 5 rfl) (EG D)) this.2) rfl))
 obtain p0:=T.get c0.row (by exact NO (NE (TT l.2 (TT (a0.c 3 8 rfl) c0.hV.1))) (NE (TT l.2 (a0.c 3 5 rfl))));obtain N0:=T.get c0.c2 (by exact NO (NE (CF 5 0 0 0 3 0 (a0.c 0 8 rfl) c0.hV.1 rfl)) (NE (FI 5 0 3 0 (a0.c 0 5 rfl) rfl)));refine n_next ?_;refine x_sq (w_Set (Vc (b0:=b0) rfl rfl rfl N0 (a0.nl.trans a0.ml.symm) a0.zo ht S0 O0 m1 L.at_ a0.nd (λi F q hq=>by exact⟨NE (TT (a0.a9 q hq).2.1 (TT (a0.c 1 3 rfl) (a0.cQ i F).1)),NE (TT (a0.a9 q hq).2.2.2 (TT (a0.c 1 3 rfl) (a0.cQ i F).1))⟩) (by rw[a0.nl];decide) L.np L.lp p0 (a0.px (by exact .inr (a4 _))) (a0.px (by exact .inl (TT a0.lp.2 (a0.c 1 3 rfl)))) (a0.px (by exact .inl (l.2))) ?_));intros _ S ri _ v1 I q1 M0;refine cu rfl (n_next ?_);simp only[gz,gA];obtain X:∀i∈a.cQ,a.bD<=i/\i < a.NP:=a0.cQ;obtain l1:∀{i},i < a.bD\/a.NP<=i->i∉a.cQ:=a0.px;obtain j0:=I.get p0 (l1 (by exact .inl (l.2)));obtain Y0:=I.get N0 (l1 (by exact .inl (FI 5 0 3 0 (a0.c 0 3 rfl) rfl)));obtain J1:=ba M0;obtain C1:=I.len;wtm_at "r";obtain f0:=I.get (T.get c0.on (by exact NO (NE (TT (a0.t 7 8 rfl) c0.hV.1)) (NT ((a0.t 5 7 rfl))))) T0;refine⟨(λh=>nomatch h.2),hW f0 (.inr (.inl rfl)) ?_⟩;wtm_at "r";refine iH (cs:=[(aq "wish",2)]) (L:=[ag,ag,ag,ag,ag]) (by decide +kernel) (by kernel_rfl) (λy=>by kernel_rfl) rfl ?_;wtm_at "r";refine f_len M0 ?_;wtm_at "r";refine wi (k:=(cB a.rs ns R z).1.length+1) j0 (by rw[aO];exact FI 0 60 0 4096 O rfl) (by rw[aO];lia) (by exact CF 0 0 0 60 1 8192 Z0 O rfl) ?_;rw[<-rI];obtain u0:Ex S (S++[AO.list ((R.take ((cB a.rs ns R z).1.length+1)).map tA)]):=Fr.app;obtain P0:(S++[AO.list ((R.take ((cB a.rs ns R z).1.length+1)).map tA)])[S.length]? =ae (.list ((R.take ((cB a.rs ns R z).1.length+1)).map tA)):=g_last;generalize S++[AO.list ((R.take ((cB a.rs ns R z).1.length+1)).map tA)]=cO at *;refine ff P0 ⟨rfl,Vd P0 (by rw[er];exact CF 0 0 0 60 0 64 MR O rfl) (u0.g Y0) ?_⟩;rw[show(if 0 < z then gn (R.take ((cB a.rs ns R z).1.length+1))else [])=fe a.rs ns R z from rfl];refine bp (by exact CF 0 0 0 60 0 4096 A0 O rfl) ?_;obtain v0:Ex S (cO++[AO.list (fe a.rs ns R z)]):=u0.trans Fr.app;obtain A1:(cO++[AO.list (fe a.rs ns R z)])[cO.length]? =ae (.list (fe a.rs ns R z)):=g_last;obtain H1:=u0.len;generalize cO++[AO.list (fe a.rs ns R z)]=dZ at *;wtm_at "r";refine Vy (v0.g f0) A1 ⟨by exact NE (CF 1 0 0 0 1 0 (CH 1 0 0 0 (CH 1 0 0 0 (a0.t 7 8 rfl) L.long) I.len) u0.len rfl),by lia,by exact CF 0 0 0 60 0 4096 A0 O rfl⟩ ?_;obtain o0:Fr (λi=>i=a.ON) dZ (dZ.set a.ON (.list (as++fe a.rs ns R z))):=Fr.set rfl;obtain g1:(dZ.set a.ON (.list (as++fe a.rs ns R z)))[a.ON]? =ae (.list (as++fe a.rs ns R z)):=de (v0.g f0);obtain D1:=v0.len;generalize dZ.set a.ON (.list (as++fe a.rs ns R z))=fQ at *;obtain K:Fr (λi=>i=a.ON) S fQ:=v0.any.trans o0;obtain U:=K.get j0 (by exact NE (TT l.2 (a0.c 3 7 rfl)));obtain F0:=K.get Y0 (by exact NE (FI 5 0 3 0 (a0.c 0 7 rfl) rfl));obtain m0:=K.get M0 (by exact NT (TT (a0.t 7 8 rfl) (TT L.long q1)));obtain E1:=o0.len;refine n_next ?_;refine x_sq (w_Set (Vf rfl rfl rfl F0 U m0 (by exact FI 0 60 0 64 O rfl) (aO ..) (by rw[aO];exact CF 0 0 0 60 0 64 Z0 O rfl) ?_));intros _ M1 lj _ J E0 b1;refine cu rfl (n_next ?_);simp only[gz,gA];refine x_sq (w_Set (Vh rfl rfl (J.g F0) (J.g U) (J.g m0) (aO ..) (cu rfl (n_next ?_))));simp only[gz,gA];obtain r0:=K.get (I.get (T.get c0.du (by exact NO (NE (TT (a0.t 6 8 rfl) c0.hV.1)) (NT ((a0.t 5 6 rfl))))) U0) (by exact NE ((a0.t 6 7 rfl)));wtm_at "r";refine⟨(λh=>nomatch h.2),hW (J.g r0) (.inl rfl) ?_⟩;refine w_evs_cons (w_Tup (w_evs_cons (Vj rfl rfl rfl rfl (J.g F0) hz s1 (by exact FI 0 60 0 64 O rfl) (J.g U) (J.g m0) ?_)));intros _ v' n0 _ V0 a1;wtm_at "r";obtain k:Ex fQ n0:=J.trans V0;refine jt (k.g r0) (by exact FI 0 100 0 4096 n1 rfl) ?_;obtain V:Fr (λi=>i=a.DU) n0 (n0.set a.DU (.list (u++[.pair v' (.ref lj)]))):=Fr.set rfl;obtain Q0:(n0.set a.DU (.list (u++[.pair v' (.ref lj)])))[a.DU]? =ae (.list (u++[.pair v' (.ref lj)])):=de (k.g r0);obtain L1:=k.len;generalize n0.set a.DU (.list (u++[.pair v' (.ref lj)]))=fR at *;obtain y0:Fr (λi=>i=a.DU) fQ fR:=k.any.trans V;obtain B0:Fr (λi=>i=a.ON\/i=a.DU) S fR:=(K.mono λi h=>.inl h).trans (y0.mono λi h=>.inr h);obtain g0:Fr (λi=>i∈a.cQ\/i=a.ON\/i=a.DU) bF fR:=(I.mono λi h=>.inl h).trans (B0.mono λi h=>.inr h);obtain w:Fr (λi=>(i=A\/i=a.TD)\/i∈a.cQ\/i=a.ON\/i=a.DU) B fR:=(T.mono λi h=>.inl h).trans (g0.mono λi h=>.inr h);obtain i0:∀i,((i=A\/i=a.TD)\/i∈a.cQ\/i=a.ON\/i=a.DU)->i=A\/a.iu i:=λi h=>by
  rcases h with (h |h) |h |h |h
  ·exact .inl h
  ·exact .inr (.inr (.inr (.inr (.inl h))))
  ·exact .inr (.inr (.inr (.inl h)))
  ·exact .inr (.inr (.inr (.inr (.inr (.inr h)))))
  ·exact .inr (.inr (.inr (.inr (.inr (.inl h)))))
 obtain P1:∀i,i < a.bE->¬ a.iu i->¬ ((i=A\/i=a.TD)\/i∈a.cQ\/i=a.ON\/i=a.DU):=λi F hm h=>by
  rcases i0 i h with h |h
  ·exact XX 1 0 (CH 0 0 1 0 (CH 0 0 0 0 c0.hV.1 (EG h)) F) rfl
  ·exact hm h
 obtain N:∀{i},a.bE<=i->a.Fz i:=λ{i} F hm=>by
  rcases hm with h |h |h |h |h |h
  ·exact XX 6 5 (CH 5 0 1 5 (CH 5 0 0 0 (a0.c 0 8 rfl) F) h) rfl
  ·exact XX 1 0 (CH 0 0 1 0 (CH 0 0 0 0 (a0.c 2 8 rfl) F) h.2) rfl
  ·have:=X i h;exact XX 2 0 (CH 1 0 1 0 (CH 1 0 0 0 (a0.t 4 8 rfl) F) this.2) rfl
  ·exact XX 1 0 (CH 1 0 0 0 (CH 1 0 0 0 (a0.t 5 8 rfl) F) (EL h)) rfl
  ·exact XX 1 0 (CH 1 0 0 0 (CH 1 0 0 0 (a0.t 6 8 rfl) F) (EL h)) rfl
  ·exact XX 1 0 (CH 1 0 0 0 (CH 1 0 0 0 (a0.t 7 8 rfl) F) (EL h)) rfl
 obtain j1:a.Fz rp:=λhm=>by
  rcases hm with h |h |h |h |h |h
  ·exact XX 6 5 (CH 5 0 1 5 (CH 5 0 0 0 (a0.c 0 2 rfl) l.1) h) rfl
  ·exact XX 1 0 (CH 0 0 1 0 l.1 h.2) rfl
  ·have:=X _ h;exact XX 1 0 (CH 0 0 1 0 this.1 l.2) rfl
  ·exact XX 1 0 (CH 0 0 1 0 (CH 0 0 0 0 (a0.c 3 5 rfl) (EG h)) l.2) rfl
  ·exact XX 1 0 (CH 0 0 1 0 (CH 0 0 0 0 (a0.c 3 6 rfl) (EG h)) l.2) rfl
  ·exact XX 1 0 (CH 0 0 1 0 (CH 0 0 0 0 (a0.c 3 7 rfl) (EG h)) l.2) rfl
 obtain H0:∀i,eY a.x i->¬ ((i=A\/i=a.TD)\/i∈a.cQ\/i=a.ON\/i=a.DU):=λi F h=>by
  obtain h1:=a0.foot i F;rcases h with (h |h) |h |h |h
  ·exact(h1).elim (λG=>XX 5 3 (CH 5 0 0 3 (CH 5 0 0 0 (CH 5 0 0 0 (a0.c 0 8 rfl) c0.hV.1) (EG h)) (EL G)) rfl) (λG=>(G).elim (λD=>XX 5 4 (CH 5 0 0 4 (CH 5 0 0 0 (CH 5 0 0 0 (a0.c 0 8 rfl) c0.hV.1) (EG h)) (EL D)) rfl) (λD=>XX 1 0 (CH 0 0 1 0 (CH 0 0 0 0 (CH 0 0 0 0 (a0.c 2 8 rfl) c0.hV.1) (EG h)) D.2) rfl))
  ·exact(h1).elim (λG=>XX 5 3 (CH 5 0 0 3 (CH 5 0 0 0 (a0.c 0 5 rfl) (EG h)) (EL G)) rfl) (λG=>(G).elim (λD=>XX 5 4 (CH 5 0 0 4 (CH 5 0 0 0 (a0.c 0 5 rfl) (EG h)) (EL D)) rfl) (λD=>XX 1 0 (CH 0 0 1 0 (CH 0 0 0 0 (a0.c 2 5 rfl) (EG h)) D.2) rfl))
  ·have:=X i h;exact(h1).elim (λG=>XX 5 3 (CH 5 0 0 3 (CH 5 0 0 0 (a0.c 0 3 rfl) this.1) (EL G)) rfl) (λG=>(G).elim (λD=>XX 5 4 (CH 5 0 0 4 (CH 5 0 0 0 (a0.c 0 3 rfl) this.1) (EL D)) rfl) (λD=>XX 1 0 (CH 0 0 1 0 (CH 0 0 0 0 (a0.c 2 3 rfl) this.1) D.2) rfl))
  ·exact(h1).elim (λG=>XX 5 3 (CH 5 0 0 3 (CH 5 0 0 0 (a0.c 0 7 rfl) (EG h)) (EL G)) rfl) (λG=>(G).elim (λD=>XX 5 4 (CH 5 0 0 4 (CH 5 0 0 0 (a0.c 0 7 rfl) (EG h)) (EL D)) rfl) (λD=>XX 1 0 (CH 0 0 1 0 (CH 0 0 0 0 (a0.c 2 7 rfl) (EG h)) D.2) rfl))
  ·exact(h1).elim (λG=>XX 5 3 (CH 5 0 0 3 (CH 5 0 0 0 (a0.c 0 6 rfl) (EG h)) (EL G)) rfl) (λG=>(G).elim (λD=>XX 5 4 (CH 5 0 0 4 (CH 5 0 0 0 (a0.c 0 6 rfl) (EG h)) (EL D)) rfl) (λD=>XX 1 0 (CH 0 0 1 0 (CH 0 0 0 0 (a0.c 2 6 rfl) (EG h)) D.2) rfl))
 obtain e1:∀i,i < 5->¬ ((i=A\/i=a.TD)\/i∈a.cQ\/i=a.ON\/i=a.DU):=λi F h=>by
  rcases h with (h |h) |h |h |h
  ·exact XX 6 5 (CH 5 0 1 5 (CH 5 0 0 0 (CH 5 0 0 0 (a0.c 0 8 rfl) c0.hV.1) (EG h)) F) rfl
  ·exact XX 6 5 (CH 5 0 1 5 (CH 5 0 0 0 (a0.c 0 5 rfl) (EG h)) F) rfl
  ·have:=X i h;exact XX 6 5 (CH 5 0 1 5 (CH 5 0 0 0 (a0.c 0 3 rfl) this.1) F) rfl
  ·exact XX 6 5 (CH 5 0 1 5 (CH 5 0 0 0 (a0.c 0 7 rfl) (EG h)) F) rfl
  ·exact XX 6 5 (CH 5 0 1 5 (CH 5 0 0 0 (a0.c 0 6 rfl) (EG h)) F) rfl
 obtain t1:=w.get c0.c2 (e1 2 (by decide));obtain⟨O1,w1⟩:=c0.c1;obtain d1:=g0.get W0 (by
  rintro (h |h |h)
  ·have:=X _ h;exact XX 2 0 (CH 1 0 1 0 (CH 1 0 0 0 (CH 1 0 0 0 (a0.t 4 8 rfl) c0.ls.long) h0) this.2) rfl
  ·exact XX 1 0 (CH 1 0 0 0 (CH 1 0 0 0 (CH 1 0 0 0 (a0.t 7 8 rfl) c0.ls.long) h0) (EL h)) rfl
  ·exact XX 1 0 (CH 1 0 0 0 (CH 1 0 0 0 (CH 1 0 0 0 (a0.t 6 8 rfl) c0.ls.long) h0) (EL h)) rfl)
 obtain R0:=V.get (V0.g b1) (by exact(c0.val).elim (λG=>(E0).elim (λD=>NT (CF 1 0 0 0 1 0 (CH 1 0 0 0 (CH 1 0 0 0 (CH 1 0 0 0 (a0.t 6 8 rfl) L.long) I.len) K.len) D rfl)) (λD=>NE (CF 1 0 0 0 1 0 (CH 0 0 1 0 (EL D) l.2) (a0.c 3 6 rfl) rfl))) (λG=>(E0).elim (λD=>NT (CF 1 0 0 0 1 0 (CH 1 0 0 0 (CH 1 0 0 0 (CH 1 0 0 0 (a0.t 6 8 rfl) L.long) I.len) K.len) D rfl)) (λD=>NE (CF 1 0 0 0 1 0 (CH 0 0 1 0 (EL D) l.2) (a0.c 3 6 rfl) rfl))));have G0:a.Fz lj:=by
  rcases E0 with h |h
  ·exact N (by exact CF 0 0 0 0 0 0 (CH 0 0 0 0 (CH 0 0 0 0 L.long I.len) K.len) h rfl)
  ·rw[h];exact j1
 obtain C0:k5 a.Fz fR (.ref li) (.ref lj):=⟨_,li,lj,Vs ht,rfl,rfl,N (by exact TT c0.ls.long h0),G0,d1,R0⟩;obtain K1:=J.len;have K0:(v= .none/\v'= .none)\/k5 a.Fz fR v v':=by
  rcases c0.val with ⟨h1,h2,h3⟩ |⟨h1,r,h2,h3,h4,h5⟩
  ·rcases a1 with ⟨k1,k2,k3⟩ |⟨k1,k2⟩
   ·exact .inl ⟨h3,k3⟩
   ·exact absurd ⟨h1,h2⟩ k1
  ·rcases a1 with ⟨k1,k2,k3⟩ |⟨k1,r',k2,k3,k4⟩
   ·exact absurd ⟨k1,k2⟩ h1
   ·refine .inr ⟨_,r,r',Vr ht,h2,k2,N h3,N (by exact CF 0 0 0 0 0 0 (CH 0 0 0 0 (CH 0 0 0 0 (CH 0 0 0 0 L.long I.len) K.len) J.len) k3 rfl),w.get h5 ?_,V.get k4 (by exact NT (CF 1 0 0 0 1 0 (CH 1 0 0 0 (CH 1 0 0 0 (CH 1 0 0 0 (CH 1 0 0 0 (a0.t 6 8 rfl) L.long) I.len) K.len) J.len) k3 rfl))⟩;rintro ((h |h) |h |h |h)
    ·exact XX 1 0 (CH 1 0 0 0 (NV h4 ((EL h))) (EG h)) rfl
    ·exact XX 1 0 (CH 1 0 0 0 (CH 1 0 0 0 (a0.t 5 8 rfl) h3) (EL h)) rfl
    ·have:=X _ h;exact XX 2 0 (CH 1 0 1 0 (CH 1 0 0 0 (a0.t 4 8 rfl) h3) this.2) rfl
    ·exact XX 1 0 (CH 1 0 0 0 (CH 1 0 0 0 (a0.t 7 8 rfl) h3) (EL h)) rfl
    ·exact XX 1 0 (CH 1 0 0 0 (CH 1 0 0 0 (a0.t 6 8 rfl) h3) (EL h)) rfl
 obtain z0:Fr a.iu df fR:=c0.fr.old w λi F h=>by
  rcases i0 i h with h |h
  ·exact XX 1 0 (CH 0 0 1 0 (CH 0 0 0 0 c0.hV.2 (EG h)) F) rfl
  ·exact h
 refine n_next (x_nil (q fR (.pair v (.ref li)) (.pair v' (.ref lj)) _ _ _ ⟨c0.ls.fr a0 w λi F h=>?_,c0.good.fr w H0,v1.fr B0 λi F h=>?_,?_,Q0,?_,(c0.items.fr z0 λi F h=>F h).snoc (.inr ⟨_,_,_,_,rfl,rfl,C0,K0⟩),⟨_,w.get w1 (e1 1 (by decide))⟩,⟨_,t1⟩,Vu ht S0,?_,z1.Vx⟩ z0))
 ·rcases i0 i h with h |h
  ·exact XX 1 0 (CH 0 0 1 0 (CH 0 0 0 0 c0.hV.1 (EG h)) F) rfl
  ·exact h
 ·have:=X i F;exact(c0.val).elim (λG=>(h).elim (λD=>XX 2 0 (CH 1 0 1 0 (CH 1 0 0 0 (a0.t 4 7 rfl) (EG D)) this.2) rfl) (λD=>XX 2 0 (CH 1 0 1 0 (CH 1 0 0 0 (a0.t 4 6 rfl) (EG D)) this.2) rfl)) (λG=>(h).elim (λD=>XX 2 0 (CH 1 0 1 0 (CH 1 0 0 0 (a0.t 4 7 rfl) (EG D)) this.2) rfl) (λD=>XX 2 0 (CH 1 0 1 0 (CH 1 0 0 0 (a0.t 4 6 rfl) (EG D)) this.2) rfl))
 ·refine g0.get f1 ?_;rintro (h |h |h)
  ·exact i1 h
  ·exact XX 1 0 (CH 1 0 0 0 (a0.t 5 7 rfl) (EG h)) rfl
  ·exact XX 1 0 (CH 1 0 0 0 (a0.t 5 6 rfl) (EG h)) rfl
 ·exact y0.get g1 (by exact NT ((a0.t 6 7 rfl)))
 ·rw[bK];lia
theorem VB {l0:ax AV}{j0:ax AV}{i0:ax AV}{e0:ax AV}{g0:ax AV}{f0:ax AV}{a:Ad}{ns:ah aS}{o:Int}{d0:FL×ah (ax AV)->St->Prop}(a0:a.Ok)(c0:LM a B ns as W u b0)(m0:b0+R.length<=60)(A0:W.length<=100)(s0:u.length<=100)(r0:R∈a.bR)(o0:rp∈a.fP)(h0:B[rp]? =ae (.list (R.map tA)))(q:∀H t d l0 j0 i0 e0 g0 f0,LM a H (cB a.rs ns R (jT o)).2 (as++fe a.rs ns R (jT o)) (W++[t]) (u++[d]) (b0+R.length)->Fr a.iu B H->d0 (.next,[x0,x1,ag,ae (.ref a.LP),ag,x5,x6,x7,ae (.ref a.x.lm),ae (.ref a.RW),ae (.ref a.OD),bS,f,Y,ae (.ref a.NP),ae (.ref a.TD),ae (.ref a.DU),ae (.ref a.ON),ae (.ref rp),ae (.int o),ag,l0,j0,i0,e0,g0,f0,ag,ag,ag,ag,ag,ag,ag,ag,ag,ag,ag,ag,ag,ag,ag,ag]) H):
  WP (sq vK ⟨FN 11,dc,[x0,x1,ag,ae (.ref a.LP),ag,x5,x6,x7,ae (.ref a.x.lm),ae (.ref a.RW),ae (.ref a.OD),bS,f,Y,ae (.ref a.NP),ae (.ref a.TD),ae (.ref a.DU),ae (.ref a.ON),ae (.ref rp),ae (.int o),ag,l0,j0,i0,e0,g0,f0,ag,ag,ag,ag,ag,ag,ag,ag,ag,ag,ag,ag,ag,ag,ag,ag]⟩) B d0 E:=by
 obtain o1:=a0.ord;obtain o2:=a0.lp;obtain o3:=a0.rows;obtain o4:=a0.bs;obtain j:=a0.fP rp o0;obtain⟨n0,ht⟩:=a0.tok R r0;obtain m:R.length<=16:=dW (U5 r0) a0.iG;obtain L0:=z9 (x:=o) (n:=6) (by decide);have hz: -1<=jT o:=by unfold jT;lia
 have p0:jT o<=4:=by unfold jT;lia
 obtain C0:=c0.s.long;obtain (⟨I0,w0⟩):=c0.c2;unfold vK;wtm_at "r";refine pj (by decide) ?_;wtm_at "r";rw[show o.fmod 6 - 1=jT o from rfl];obtain D:Fr (λi=>i=2) B (B.set 2 (.cell (ae (.int (jT o))))):=Fr.set rfl;obtain F0:(B.set 2 (.cell (ae (.int (jT o)))))[2]? =ae (.cell (ae (.int (jT o)))):=de w0;generalize B.set 2 (.cell (ae (.int (jT o))))=a7 at *;refine ph (by decide) ?_;wtm_at "r";refine pj (by decide) ?_;wtm_at "r";refine mW (cu rfl (n_next ?_));simp only[gz,gA];generalize ((o.fdiv 6).fmod 2 == 1)=b;obtain Z:=D.get h0 (by exact NT (CF 5 0 0 0 3 0 (a0.c 0 2 rfl) j.1 rfl));refine x_sq (w_Set (Vb rfl rfl Z (by rw[aO];exact FI 0 16 0 4096 m rfl) ?_));intros _ U A s _ hG w G hs;refine cu rfl (n_next ?_);simp only[gz,gA];obtain H0:=D.len;obtain T:Fr (λi=>i=2) B U:=D.trans w.any;obtain G2:Good a.x a.rs ns as U:=c0.good.fr T λi L e=>by have:=a0.foot i L;exact(this).elim (λN=>XX 3 2 (CH 3 0 0 2 (EG N) (EL e)) rfl) (λN=>(N).elim (λO=>XX 4 2 (CH 4 0 0 2 (EG O) (EL e)) rfl) (λO=>XX 5 2 (CH 5 0 0 2 (CH 5 0 0 0 (a0.c 0 1 rfl) O.1) (EL e)) rfl))
 obtain X: ¬ eY a.x A:=λh=>by have:=a0.foot _ h;exact(this).elim (λN=>XX 5 3 (CH 5 0 0 3 (CH 5 0 0 0 (CH 5 0 0 0 (CH 5 0 0 0 (a0.c 0 8 rfl) c0.s.long) D.len) G) (EL N)) rfl) (λN=>(N).elim (λO=>XX 5 4 (CH 5 0 0 4 (CH 5 0 0 0 (CH 5 0 0 0 (CH 5 0 0 0 (a0.c 0 8 rfl) c0.s.long) D.len) G) (EL O)) rfl) (λO=>XX 1 0 (CH 0 0 1 0 (CH 0 0 0 0 (CH 0 0 0 0 (CH 0 0 0 0 (a0.c 2 8 rfl) c0.s.long) D.len) G) O.2) rfl))
 obtain u0: ¬ eY a.x s:=λh=>by have G0:s < a.bB:=(a0.foot _ h).elim (λe=>CF 0 3 5 0 1 0 (EL e) (a0.c 0 2 rfl) rfl) λk=>k.elim (λe=>CF 0 4 5 0 1 0 (EL e) (a0.c 0 2 rfl) rfl) λk=>k.2;exact hs.elim (λe=>X (e ▸ h)) λe=>dP _ (TT G0 (TT j.1 (EG e)))
 have E0:A < U.length:=by
  cases hw:iX o with
  |true=>rw[hw]at hG;exact ba hG.1
  |false=>rw[hw]at hG;exact ba hG.2
 obtain z:=w.g F0;obtain J0:=c0.al;have cont:∀v J,zm a.x a.rs ns as R b (jT o) (iX o) A s U v J->WP (sq vJ ⟨FN 11,dc,[x0,x1,ag,ae (.ref a.LP),ag,x5,x6,x7,ae (.ref a.x.lm),ae (.ref a.RW),ae (.ref a.OD),bS,f,Y,ae (.ref a.NP),ae (.ref a.TD),ae (.ref a.DU),ae (.ref a.ON),ae (.ref rp),ae (.int o),ag,ae (.bool b),ae (.ref A),ae v,e0,g0,f0,ag,ag,ag,ag,ag,ag,ag,ag,ag,ag,ag,ag,ag,ag,ag,ag]⟩) J d0 E:=by
  intros _ v J _ K;obtain S:=K.fr;obtain I:Fr (λi=>i=2\/DG (eY a.x) (iX o) A i) B J:=(T.mono λi h=>.inl h).trans (S.mono λi h=>.inr h);obtain F:∀i,i < a.bE->i≠2->¬ (i=3\/i=4\/(a.bA<=i/\i < a.bB))->¬ (i=2\/DG (eY a.x) (iX o) A i):=λi L l hf h=>by
   rcases h with h |h |h
   ·exact l h
   ·exact hf (a0.foot i h)
   ·have:=h.2;exact XX 1 0 (CH 0 0 1 0 (CH 0 0 0 0 (CH 0 0 0 0 (CH 0 0 0 0 c0.s.long D.len) G) (EG h.2)) L) rfl
  obtain (⟨K0,B0⟩):=c0.c1;obtain V:∀i,i < B.length->(i=2\/DG (eY a.x) (iX o) A i)->a.iu i:=λi L h=>by
   rcases h with h |h |h
   ·exact .inl (by exact FI 0 2 1 5 (EL h) rfl)
   ·rcases a0.foot i h with h |h |h
    ·exact .inl (by exact FI 0 3 1 5 (EL h) rfl)
    ·exact .inl (by exact FI 0 4 1 5 (EL h) rfl)
    ·exact .inr (.inl h)
   ·have:=h.2;exact XX 1 0 (CH 0 0 1 0 (CH 0 0 0 0 (CH 0 0 0 0 D.len G) (EG h.2)) L) rfl
  refine Vz a0 (df:=B) ⟨c0.s.fr a0 I λi L h=>V i (by exact TT L c0.s.long) h,K.good,c0.pf.fr I λi L=>F i (by have:=a0.cQ i L;exact CF 1 0 1 0 1 0 this.2 (a0.t 4 8 rfl) rfl) (by have:=a0.cQ i L;exact NT (CF 5 0 0 0 3 0 (a0.c 0 3 rfl) this.1 rfl)) (by have:=a0.cQ i L;exact NO (NT (CF 5 0 0 0 4 0 (a0.c 0 3 rfl) this.1 rfl)) (NO (NT (TT (a0.c 0 3 rfl) this.1)) (NB (DN (TT (a0.c 2 3 rfl) this.1))))),I.get c0.td (F _ (by exact(a0.t 5 8 rfl)) (by exact NT (FI 5 0 3 0 (a0.c 0 5 rfl) rfl)) (by exact NO (NT (FI 5 0 4 0 (a0.c 0 5 rfl) rfl)) (NO (NT ((a0.c 0 5 rfl))) (NB (DN ((a0.c 2 5 rfl))))))),I.get c0.du (F _ (by exact(a0.t 6 8 rfl)) (by exact NT (FI 5 0 3 0 (a0.c 0 6 rfl) rfl)) (by exact NO (NT (FI 5 0 4 0 (a0.c 0 6 rfl) rfl)) (NO (NT ((a0.c 0 6 rfl))) (NB (DN ((a0.c 2 6 rfl))))))),I.get c0.on (F _ (by exact(a0.t 7 8 rfl)) (by exact NT (FI 5 0 3 0 (a0.c 0 7 rfl) rfl)) (by exact NO (NT (FI 5 0 4 0 (a0.c 0 7 rfl) rfl)) (NO (NT ((a0.c 0 7 rfl))) (NB (DN ((a0.c 2 7 rfl))))))),
   c0.items,⟨_,I.get B0 (F _ (by exact FI 5 0 2 0 (a0.c 0 8 rfl) rfl) (by exact NE (a4 _)) (by exact NO (NE (gR _)) (NO (NE (RR 2 4 rfl)) (NA (DM (FI 5 0 2 0 (a0.c 0 1 rfl) rfl))))))⟩,S.get z ?_,⟨by exact TT c0.s.long (TT D.len G),by exact TT D.len G⟩,K.left,?_,⟨dW T.len S.len,λi L hm=>I.keep i L λh=>hm (V i L h)⟩,I.get h0 (F _ (by exact TT j.2 (a0.c 3 8 rfl)) (by exact NT (CF 5 0 0 0 3 0 (a0.c 0 2 rfl) j.1 rfl)) (by exact NO (NT (CF 5 0 0 0 4 0 (a0.c 0 2 rfl) j.1 rfl)) (NO (NT (TT (a0.c 0 2 rfl) j.1)) (NB (DN (j.1)))))),o0⟩ c0.nb c0.al c0.af m0 A0 s0 ht hz p0 (λH t d y0 z0 v0 h1 l=>q H t d _ _ _ y0 z0 v0 h1 l)
  ·rintro (h |h)
   ·have:=a0.foot _ h;exact(this).elim (λN=>XX 3 2 (EG N) rfl) (λN=>(N).elim (λO=>XX 4 2 (EG O) rfl) (λO=>XX 5 2 (CH 5 0 0 2 (a0.c 0 1 rfl) O.1) rfl))
   ·have:=h.2;exact XX 5 2 (CH 5 0 0 2 (CH 5 0 0 0 (CH 5 0 0 0 (CH 5 0 0 0 (a0.c 0 8 rfl) c0.s.long) D.len) G) (EG h.2)) rfl
  ·rcases K.val with h |⟨h,r,h1,l,h3⟩
   ·exact .inl h
   ·exact .inr ⟨h,r,h1,by exact TT c0.s.long (TT T.len l),by exact NT (TT E0 l),h3⟩
 refine x_sq (x_Try (Vg rfl rfl rfl z (asked (b0:=b0) a0.vR a0.zo (by rw[a0.q3];decide) ht n0 m (λn hn=>(c0.nb n hn).1) m0 (by lia) hz p0 G2 hG X u0 (λv J K hv=>?_) λJ K=>⟨rfl,?_⟩)))
 ·refine cu rfl (x_nil (n_next ?_));simp only[gz,gA];exact cont v J K
 ·refine w_Set (w_K (cu rfl (n_next ?_)));simp only[gz,gA];exact cont .none J K
def VC:∀{K ys:ah AV} {k:ak} {v:AV},(o8 K ys)[k]? =ae v->∃x y,K[k]? =ae x/\ys[k]? =ae y/\v= .pair x y:=by
 intro D;induction D with
 |nil=>
  intro B;cases B with
  |nil=>
   intro _ _ h;exact nomatch h
  |cons _ _=>
   intro _ _ h;exact nomatch h
 |cons x K E=>
  intro B;cases B with
  |nil=>
   intro _ _ h;exact nomatch h
  |cons y ys=>
   intro F;cases F with
   |zero=>
    intro v h;cases h;exact⟨x,y,rfl,rfl,rfl⟩
   |succ k=>
    intro v h;exact E (ys:=ys) (k:=k) h
def Gr:∀{K ys:ah AV},(o8 K ys).length=min K.length ys.length:=by
 intro D;induction D with
 |nil=>
  intro B;cases B with
  |nil=>
   exact rfl
  |cons _ _=>
   exact(IU _).symm
 |cons x K E=>
  intro B;cases B with
  |nil=>
   exact(IV _).symm
  |cons y ys=>
   exact(bZ (· +1) E).trans (IW ..).symm
def VD {l:ah DS}{a0:FL×ah (ax AV)->St->Prop}(q:∀H,Ex B H->H.length=B.length+7->(H[B.length]? =ae (.list [])/\H[B.length+1]? =ae (.list [])/\H[B.length+2]? =ae (.list []))->H[B.length+3]? =ae (.list ([B.length,B.length+1,B.length+2].map .ref))->H[B.length+4]? =ae (.list [])->H[B.length+5]? =ae (.list [])->H[B.length+6]? =ae (.list [])->
   WP (sq l ⟨FN 11,dc,[x0,x1,ag,x3,ag,x5,x6,x7,x8,x9,fT,bS,f,Y,ae (.ref (B.length+3)),ae (.ref (B.length+4)),ae (.ref (B.length+5)),ae (.ref (B.length+6)),ag,ag,ag,ag,ag,ag,ag,ag,ag,ag,ag,ag,ag,ag,ag,ag,ag,ag,ag,ag,ag,ag,ag,ag,ag]⟩) H a0 E):
  WP (sq (aE (pL 14) (eList [(eList []),(eList []),(eList [])]) :: aE (pL 15) (eList []) :: aE (pL 16) (eList []) :: aE (pL 17) (eList []) :: l) ⟨FN 11,dc,[x0,x1,ag,x3,ag,x5,x6,x7,x8,x9,fT,bS,f,Y,ag,ag,ag,ag,ag,ag,ag,ag,ag,ag,ag,ag,ag,ag,ag,ag,ag,ag,ag,ag,ag,ag,ag,ag,ag,ag,ag,ag,ag]⟩) B a0 E:=by
 refine x_sq (w_Set (w_List (w_evs_cons (w_List (w_evs_nil (bp (by simp) (w_evs_cons (w_List (w_evs_nil (bp (by simp) (w_evs_cons (w_List (w_evs_nil (bp (by simp) (w_evs_nil (bp (by simp) (cu rfl (n_next ?_))))))))))))))))));refine x_sq (w_Set (w_List (w_evs_nil (bp (by simp) (cu rfl (n_next ?_))))));refine x_sq (w_Set (w_List (w_evs_nil (bp (by simp) (cu rfl (n_next ?_))))));refine x_sq (w_Set (w_List (w_evs_nil (bp (by simp) (cu rfl (n_next ?_))))));simp only[gz,gA,jY,bK,fm,q7,rB,mn,ke,xk];refine q _ Fr.app (by simp) ⟨qD,iY,iY⟩ iY iY iY iY
def VE (h:bR[k]? =ae R):total (bR.take (k+1))=total (bR.take k)+R.length:=by
 rw[take_snoc h,zZ]
def Gs:total (bR.take k)<=total bR:=by
 have h:total bR=total (bR.take k)+total (bR.drop k):=by
  unfold total;rw[<-Ji,<-dH,Hx]
 exact TT AL (EG h)
def sJ.mk {a:Ad}{c0 a0:ax AV}:sJ x0 x1 x5 x6 x7 bS f Y a [x0,x1,ag,ae (.ref a.LP),ag,x5,x6,x7,ae (.ref a.x.lm),ae (.ref a.RW),ae (.ref a.OD),bS,f,Y,ae (.ref a.NP),ae (.ref a.TD),ae (.ref a.DU),ae (.ref a.ON),c0,a0,ag,ig,ij,ik,ib,ic,ie,ag,ag,ag,ag,ag,ag,ag,ag,ag,ag,ag,ag,ag,ag,ag,ag]:=⟨_,_,_,_,_,_,_,_,rfl⟩
theorem VF {a:Ad}{c0:FL×ah (ax AV)->St->Prop}(d0:a.Ok)(a0:LM a B dI [] [] [] 0)(q:∀H ns as W u e0 f0 ig ij ik ib ic ie,LM a H ns as W u 16->W.length<=16->u.length<=16->c0 (.next,[x0,x1,ag,ae (.ref a.LP),ag,x5,x6,x7,ae (.ref a.x.lm),ae (.ref a.RW),ae (.ref a.OD),bS,f,Y,ae (.ref a.NP),ae (.ref a.TD),ae (.ref a.DU),ae (.ref a.ON),e0,f0,ag,ig,ij,ik,ib,ic,ie,ag,ag,ag,ag,ag,ag,ag,ag,ag,ag,ag,ag,ag,ag,ag,ag]) H):
  WP (sq [fw aj (cx [(pL 18),(pL 19)]) (oZ (g8 (eL 9)) (g8 (eL 10))) vK] ⟨FN 11,dc,[x0,x1,ag,ae (.ref a.LP),ag,x5,x6,x7,ae (.ref a.x.lm),ae (.ref a.RW),ae (.ref a.OD),bS,f,Y,ae (.ref a.NP),ae (.ref a.TD),ae (.ref a.DU),ae (.ref a.ON),ag,ag,ag,ag,ag,ag,ag,ag,ag,ag,ag,ag,ag,ag,ag,ag,ag,ag,ag,ag,ag,ag,ag,ag,ag]⟩) B c0 E:=by
 have J:=a0.s.rows.len;have K:=Gj λR L=>(d0.tok R L).1;have p0:=d0.iG;wtm_at "r";refine ff a0.s.js ?_;wtm_at "r";refine ff a0.s.od ⟨rfl,?_⟩;refine k8 (G:=λH=>LS a H) (a0:=λk I H=>(∃ns as W u,LM a H ns as W u (total (a.bR.take k))/\W.length=k/\u.length=k)/\sJ x0 x1 x5 x6 x7 bS f Y a I) (K:=o8 (a.fP.map .ref) (a.kY.map .int))
  (Yl.zip (Yl.gK λH e=>e.js) (Yl.gK λH e=>e.od)) (by rw[Gr,aO];exact CF 0 0 0 16 1 128 (CH 0 0 0 0 (CH 0 0 0 0 ML (EL J)) K) d0.iG rfl) (λy y y h=>by obtain⟨⟨_,_,_,_,h,_⟩,_⟩:=h;exact h.s) ⟨⟨dI,[],[],[],a0,rfl,rfl⟩,sJ.mk⟩ ?_ ?_
 ·intros _ k v n0 S _ hv j;obtain⟨b,Z⟩:=j;obtain (⟨e0,f0,ig,ij,ik,ib,ic,ie,rfl⟩):=Z;obtain (⟨ns,as,W,u,F,T,O⟩):=b;obtain (⟨D,w,U,V,rfl⟩):=VC hv;rw[dA]at U V;cases G:a.fP[k]? with
  |none=>rw[G]at U;cases U
  |some rp=>
   intros rp _ G;cases m:a.kY[k]? with
   |none=>rw[m]at V;cases V
   |some o=>
    intros o _ m;rw[G]at U;rw[m]at V;cases U;cases V;have hk:=ba G;obtain (⟨R,L,N⟩):=F.s.rows.get G;have e1:=VE L;have X:=Gs (bR:=a.bR) (k:=k+1);refine vT rfl rfl (x_put_cons (cu rfl (x_put_cons (cu rfl (x_put_nil ?_)))));simp only[gz,gA];refine VB d0 F (by exact TT (EG e1) (CF 0 0 0 16 0 60 X d0.iG rfl)) (by exact CF 1 0 0 16 0 100 (CH 1 0 0 0 (CH 1 0 0 0 (CH 0 0 1 0 (EL T) hk) (EL J)) K) d0.iG rfl) (by exact CF 1 0 0 16 0 100 (CH 1 0 0 0 (CH 1 0 0 0 (CH 0 0 1 0 (EL O) hk) (EL J)) K) d0.iG rfl) (cD L) (cD G) N λH t d h0 l0 m0 o0 r0 i0 M3 hf=>?_;rw[<-e1]at M3;exact l_next ⟨⟨_,_,_,_,M3,by rw[bK,T];rfl,by rw[bK,O];rfl⟩,sJ.mk⟩
 ·intros _ j0 S _ g0;obtain⟨l,z⟩:=g0;obtain (⟨e0,f0,ig,ij,ik,ib,ic,ie,rfl⟩):=z;obtain (⟨ns,as,W,u,F,T,O⟩):=l;rw[Gr,aO,aO]at T O;have X:=Gs (bR:=a.bR) (k:=(o8 (a.fP.map .ref) (a.kY.map .int)).length);refine n_next (x_nil (q S ns as W u _ _ _ _ _ _ _ _ ⟨F.s,F.good,F.pf,F.td,F.du,F.on,F.items,F.c1,F.c2,λn hn=>?_,?_,F.af⟩ (by exact CF 0 0 0 16 0 16 (CH 0 0 0 0 (CH 0 0 0 0 (CH 0 0 0 0 (EL T) ML) (EL J)) K) d0.iG rfl) (by exact CF 0 0 0 16 0 16 (CH 0 0 0 0 (CH 0 0 0 0 (CH 0 0 0 0 (EL O) ML) (EL J)) K) d0.iG rfl)))
  ·have:=F.nb n hn;exact⟨by exact TT this.1 (TT X d0.iG),this.2⟩
  ·have:=F.al;exact TT F.al (TT X d0.iG)
def VG {a b c:ak}(h:M.length=3)(h1:B[a]? =ae (.list []))(h2:B[b]? =ae (.list []))(h3:B[c]? =ae (.list [])):dO B [a,b,c] (M.map λg=>[]):=by
 rcases M with _ |⟨_,_ |⟨_,_ |⟨_,_ |⟨_,_⟩⟩⟩⟩
 ·simp at h
 ·simp at h
 ·simp at h
 ·exact⟨h1,h2,h3,trivial⟩
 ·simp at h
def VH {bA n1:ak}{d0:St}{x:eN}{g0:ah Int}{RW OD:ak}{f0:ah ak}{e0:ah Int}{c0:FL×ah (ax AV)->St->Prop}(a0:ES bA d0 x n1 LP a9 M g0)(h5:5<=bA)(h3:a9.length=3)(hx:Ex d0 B)(C:LawC d0.length B RW OD f0 bR e0 g0.length)(h0:e0.length=f0.length)(q:∀(a:Ad) H ns as W u zp zq ig ij ik ib ic ie,a.Ok->a.rs=M->a.x=x->LM a H ns as W u 16->W.length<=16->u.length<=16->c0 (.next,[x0,x1,ag,ae (.ref a.LP),ag,x5,x6,x7,ae (.ref a.x.lm),ae (.ref a.RW),ae (.ref a.OD),bS,f,Y,ae (.ref a.NP),ae (.ref a.TD),ae (.ref a.DU),ae (.ref a.ON),zp,zq,ag,ig,ij,ik,ib,ic,ie,ag,ag,ag,ag,ag,ag,ag,ag,ag,ag,ag,ag,ag,ag,ag,ag]) H):
  WP (sq vL ⟨FN 11,dc,[x0,x1,ag,ae (.ref LP),ag,x5,x6,x7,ae (.ref x.lm),ae (.ref RW),ae (.ref OD),bS,f,Y,ag,ag,ag,ag,ag,ag,ag,ag,ag,ag,ag,ag,ag,ag,ag,ag,ag,ag,ag,ag,ag,ag,ag,ag,ag,ag,ag,ag,ag]⟩) B c0 E:=by
 unfold vL;refine VD λI G U K m Z j0 b=>?_;obtain⟨w,o,l⟩:=K;have F:Ex d0 I:=hx.trans G;obtain z:=hx.len;obtain L:=a0.fO;obtain X:=a0.bl;obtain R:=ba C.od;obtain N:=ba C.js;obtain T:∀i∈f0,d0.length<=i/\i < B.length:=λi V=>by
  obtain⟨k,hk⟩:=Jj V;obtain⟨n,-,h⟩:=C.at_.get hk;exact⟨(C.low i V).1,ba h⟩
 obtain O:=C.qC;obtain i0:=a0.at_.len;have A:(⟨x,bA,d0.length,B.length,B.length+7,LP,RW,OD,B.length+3,B.length+4,B.length+5,B.length+6,a9,f0,[B.length,B.length+1,B.length+2],M,bR,e0⟩:Ad).Ok:=
  ⟨a0.vR,a0.foot,λq hq=>by have:=a0.low q hq;exact⟨this.1,this.2.2.1,this.2.1,this.2.2.2⟩,⟨L.1,L.2.2.1⟩,⟨O.1,N,by show d0.length<=OD;exact CF 0 0 1 0 0 0 C.qC.1 C.qC.2 rfl,R⟩,T,λi V=>by
   simp only[bu,pK,tU]at V;show B.length<=i/\i < B.length+3
   lia,⟨by show B.length<=B.length+3;exact RR 0 3 rfl,by show B.length+3 < B.length+4;exact a4 _,by show B.length+4 < B.length+5;exact a4 _,by show B.length+5 < B.length+6;exact a4 _,by show B.length+6 < B.length+7;exact a4 _⟩,⟨h5,X,z⟩,by simp,h3,rfl,a0.q3,a0.ok,C.ok,by show total bR<=16;rw[C.iG];exact a0.nl.2,h0.symm,a0.cc⟩
 have S:LS (⟨x,bA,d0.length,B.length,B.length+7,LP,RW,OD,B.length+3,B.length+4,B.length+5,B.length+6,a9,f0,[B.length,B.length+1,B.length+2],M,bR,e0⟩:Ad) I:=
  ⟨F.g a0.lp,a0.at_.fr F λv v=>⟨id,id⟩,G.g C.js,G.g C.od,C.at_.fr G λv v h=>h,m,by rw[U];exact a4 _⟩
 obtain⟨n0,j⟩:=a0.c1;have J:dO I [B.length,B.length+1,B.length+2] (M.map λv=>[]):=by
  exact VG (i0.symm.trans h3) w o l
 have D:LM (⟨x,bA,d0.length,B.length,B.length+7,LP,RW,OD,B.length+3,B.length+4,B.length+5,B.length+6,a9,f0,[B.length,B.length+1,B.length+2],M,bR,e0⟩:Ad) I (M.map λv=>[]) [] [] [] 0:=
  ⟨S,a0.good.fr F λv v=>id,J,Z,j0,b,trivial,⟨_,F.g j⟩,⟨_,F.g a0.c2⟩,λn hn=>by
   obtain⟨r,-,rfl⟩:=mu.mp hn;exact⟨a4 _,λv h=>nomatch h⟩,a4 _,λv h=>nomatch h⟩
 apply VF A D;exact λH ns as W u v0 u0 l0 o0 p0 r0 s0 m0 M' h1 h2=>q _ H ns as W u _ _ _ _ _ _ _ _ A rfl rfl M' h1 h2
def bG.len:∀{B:St} {X:ah eW} {M:ah Rd} {ns:ah aS},bG B X M ns->X.length=M.length:=by
 intro H E;induction E generalizing H with
 |nil=>
  intro D;cases D with
  |nil=>
   intro _ _;exact rfl
  |cons _ _=>
   intro _ h;exact h.elim
 |cons I J F=>
  intro D;cases D with
  |nil=>
   intro _ h;exact h.elim
  |cons _ _=>
   intro G;cases G with
   |nil=>
    intro h;exact h.elim
   |cons _ _=>
    intro h;rw[fm,fm,(F h.2)]
def VI (r:Rd)(n:aS)(m:AV):∃n',(jR r n m).2=[n']:=by
 by_cases h:m= .int 7/\r.1≠[]
 ·exact⟨n,by rw[Gf h]⟩
 ·exact⟨_,by rw[Ge h]⟩
def Ac {a0:AV->St->Prop}(h:B[i]? =ae (.list l))(hv:l[k]? =ae v)(hk:k < 4)(q:a0 v B):WP (ir (.ref i) (.int k)) B a0 E:=by
 refine lV h ?_ (v:=v) (by rw[eB];exact hv) q;generalize D:(k:Int)=j
 lia
theorem VJ {a:Ad}{ns:ah aS}{b:ak}{M0 Y0:ax AV}{d0:FL×ah (ax AV)->St->Prop}(a0:a.Ok)(c0:LM a B ns as W u b)(hk:k < 3)(z0:B[1]? =ae (.cell (ae (.int k))))(hb:b+1<=60)(hm:eg m)(l1:W.length<=100)(f1:u.length<=100)(q:∀H lS t d,LM a H lS as (W++[t]) (u++[d]) (b+1)->H[1]? =ae (.cell (ae (.int k)))->Fr (λi=>a.iu i/\i≠1) B H->d0 (.next,[x0,x1,ag,ae (.ref a.LP),ag,x5,x6,x7,ae (.ref a.x.lm),ae (.ref a.RW),ae (.ref a.OD),bS,f,ae m,ae (.ref a.NP),ae (.ref a.TD),ae (.ref a.DU),ae (.ref a.ON),M0,Y0,ag,ig,ij,ik,ib,ic,ie,ag,ag,ag,ag,ag,ag,ag,ag,ag,ag,ag,ag,ag,ag,ag,ag]) H):
  WP (sq ze ⟨FN 11,dc,[x0,x1,ag,ae (.ref a.LP),ag,x5,x6,x7,ae (.ref a.x.lm),ae (.ref a.RW),ae (.ref a.OD),bS,f,ae m,ae (.ref a.NP),ae (.ref a.TD),ae (.ref a.DU),ae (.ref a.ON),M0,Y0,ag,ig,ij,ik,ib,ic,ie,ag,ag,ag,ag,ag,ag,ag,ag,ag,ag,ag,ag,ag,ag,ag,ag]⟩) B d0 E:=by
 obtain o1:=a0.ord;obtain o2:=a0.lp;obtain o3:=a0.rows;obtain o4:=a0.bs;have j0:=a0.cQ;obtain n1:=c0.s.long;have S:=cy (show k < a.x.qs.length by rw[a0.q3];exact hk);have l:=cy (show k < a.cQ.length by rw[a0.nl];exact hk);have m0:=cy (show k < a.a9.length by rw[a0.ml];exact hk);generalize a.x.qs[k]'(by rw[a0.q3];exact hk)=qd at S;generalize a.cQ[k]'(by rw[a0.nl];exact hk)=np at l;generalize a.a9[k]'(by rw[a0.ml];exact hk)=md at m0;obtain⟨r,n,K0,p0,p1⟩:=c0.good.jQ.get S;obtain⟨n2,I,T0⟩:=c0.pf.get l;rw[p0]at I;obtain I:=dp I;subst I;obtain⟨r2,X,Q0⟩:=c0.s.at_.get m0;rw[K0]at X;obtain X:=dp X;subst X;obtain V0:=a0.zo r (cD K0);obtain C0:=c0.nb n (cD p0);obtain⟨n',Y⟩:=VI r n m;obtain s0:=cD l;obtain W0:=cD m0;obtain D:=j0 np s0;obtain G:=a0.a9 md W0;obtain q1:eY a.x qd.g:=zP ⟨qd,cD S,rfl⟩;obtain E0:=a0.foot _ q1;obtain⟨I1,h0⟩:=c0.good.jQ.dict (cD S);obtain y0:qd.g≠3:=λe=>by
  have:=c0.good.cA;rw[a0.cc.1]at this;rw[e,this]at h0;cases h0
 obtain r1:qd.g≠4:=λe=>by
  have:=c0.good.cR;rw[a0.cc.2]at this;rw[e,this]at h0;cases h0
 obtain F:a.bA<=qd.g/\qd.g < a.bB:=E0.elim (λh=>absurd h y0) λh=>h.elim (λh=>absurd h r1) id;have E1:B[4]? =ae (.cell (ae (.ref a.x.R))):=by have:=c0.good.cR;rwa [a0.cc.2]at this
 unfold ze;wtm_at "r";refine⟨(λh=>nomatch h.2),hW c0.td (.inl rfl) ?_⟩;wtm_at "r";refine Ac c0.good.R (by rw[dA,S];rfl) (by exact FI 1 3 1 4 hk rfl) ?_;wtm_at "r";refine UQ p1 (by exact CF 0 0 1 60 0 60 C0.1 hb rfl) hm V0 λU i u0 Z g0 R0=>?_;obtain o0:=Z.get c0.td (by exact NT (TT F.2 (a0.c 2 5 rfl)));obtain B1:=Z.len;obtain H1:=ba R0;wtm_at "r";refine jt o0 (by exact FI 0 100 0 4096 l1 rfl) ?_;have J:Fr (λj=>j=a.TD) U (U.set a.TD (.list (W++[.ref i]))):=Fr.set rfl;obtain a1:(U.set a.TD (.list (W++[.ref i])))[a.TD]? =ae (.list (W++[.ref i])):=de o0;generalize U.set a.TD (.list (W++[.ref i]))=bF at *;have K:Fr (λj=>j=qd.g\/j=a.TD) B bF:=(Z.mono λi h=>.inl h).trans (J.mono λi h=>.inr h);obtain s1:=J.get R0 (by exact NT (TT (a0.t 5 8 rfl) (TT c0.s.long g0)));obtain C1:=J.len;obtain w0:=K.get c0.du (by exact NO (NT (TT F.2 (a0.c 2 6 rfl))) (NT ((a0.t 5 6 rfl))));obtain n0:=K.get z0 (by exact NO (NE (FI 5 0 2 0 (TT o4.1 F.1) rfl)) (NE (FI 5 0 2 0 (a0.c 0 5 rfl) rfl)));obtain e1:=K.get c0.s.np (by exact NO (NT (TT F.2 (a0.c 2 4 rfl))) (NE ((a0.t 4 5 rfl))));obtain L0:=K.get c0.s.lp (by exact NO (NE (TT a0.lp.2 F.1)) (NE (TT a0.lp.2 (a0.c 1 5 rfl))));refine n_next ?_;wtm_at "r";refine⟨(λh=>nomatch h.2),hW w0 (.inl rfl) ?_⟩;wtm_at "r";refine bp (by simp) ?_;have A0:Ex bF (bF++[AO.list [.dB .none m (.int 0)]]):=Fr.app;obtain F0:(bF++[AO.list [.dB .none m (.int 0)]])[bF.length]? =ae (.list ([((.none,m,0):Thing)].map tA)):=g_last;have G0:(bF++[AO.list [.dB .none m (.int 0)]]).length=bF.length+1:=by rw[bK];rfl
 generalize bF++[AO.list [.dB .none m (.int 0)]]=bk at *;obtain A1:=A0.g n0;wtm_at "r";refine Ac (A0.g e1) (by rw[dA,l];rfl) (by exact FI 1 3 1 4 hk rfl) ?_;wtm_at "r";refine bp (by simp) ?_;have l0:Ex bF (bk++[AO.list [.ref np]]):=A0.trans Fr.app;obtain U0:(bk++[AO.list [.ref np]])[bk.length]? =ae (.list ([np].map .ref)):=g_last;obtain B0:=(Fr.app:Ex bk (bk++[AO.list [.ref np]])).get F0 id;have w1:(bk++[AO.list [.ref np]]).length=bk.length+1:=by rw[bK];rfl
 generalize bk++[AO.list [.ref np]]=cO at *;obtain y1:=l0.g n0;wtm_at "r";refine Ac (l0.g L0) (by rw[dA,m0];rfl) (by exact FI 1 3 1 4 hk rfl) ?_;wtm_at "r";refine bp (by simp) ?_;have J0:Ex bF (cO++[AO.list [pM md]]):=l0.trans Fr.app;obtain S0:(cO++[AO.list [pM md]])[cO.length]? =ae (.list ([md].map pM)):=g_last;obtain H0:=(Fr.app:Ex cO (cO++[AO.list [pM md]])).get B0 id;obtain d1:=(Fr.app:Ex cO (cO++[AO.list [pM md]])).get U0 id;have t1:(cO++[AO.list [pM md]]).length=cO.length+1:=by rw[bK];rfl
 generalize cO++[AO.list [pM md]]=dZ at *;have f0:Fr (λj=>j=qd.g\/j=a.TD) B dZ:=K.trans J0.any;wtm_at "r";refine F6 (M:=[r]) (ns:=[n]) (R:=[(.none,m,0)]) (c0:=[np]) (a9:=[md]) (b0:=b) rfl (λr' i1=>by rw[aJ.mp i1];exact V0) (λt ht=>by rw[aJ.mp ht];exact⟨.inl rfl,hm⟩) (λn' Y=>by rw[aJ.mp Y];exact C0) hb
  (T0.fr f0 λj T e=>by rw[aJ]at T;exact(E0).elim (λc2=>XX 4 3 (CH 3 0 1 3 (EG c2) (NV y0 ((EL c2)))) rfl) (λc2=>(e).elim (λc1=>XX 1 0 (CH 0 0 1 0 (CH 0 0 0 0 (CH 0 0 0 0 (CH 0 0 0 0 (a0.c 2 3 rfl) D.1) (EG T)) (EL c1)) F.2) rfl) (λc1=>XX 2 0 (CH 1 0 1 0 (CH 1 0 0 0 (CH 1 0 0 0 (a0.t 4 5 rfl) (EG c1)) (EL T)) D.2) rfl))) (Q0.fr f0 λj T=>by rw[aJ]at T;subst T;exact⟨NO (NE (TT G.2.1 F.1)) (NE (TT G.2.1 (a0.c 1 5 rfl))),NO (NE (TT G.2.2.2 F.1)) (NE (TT G.2.2.2 (a0.c 1 5 rfl)))⟩) (by simp) (λj T w hw=>by rw[aJ]at T hw;subst T hw;exact⟨NE (TT G.2.1 (TT (a0.c 1 3 rfl) D.1)),NE (TT G.2.2.2 (TT (a0.c 1 3 rfl) D.1))⟩) (by simp) d1 S0 H0 (by rw[aJ];exact NT (CF 2 0 1 0 1 0 (CH 2 0 0 0 (CH 2 0 0 0 (CH 1 0 1 0 D.2 (a0.t 4 8 rfl)) c0.s.long) K.len) (EG G0) rfl)) (by rw[aJ];exact NT (CF 2 0 0 0 1 0 (CH 2 0 0 0 (CH 2 0 0 0 (CH 1 0 1 0 D.2 (a0.t 4 8 rfl)) c0.s.long) K.len) l0.len rfl)) (by rw[aJ];exact NT (CF 2 0 0 0 1 0 (CH 2 0 0 0 (CH 1 0 1 0 D.2 (a0.t 4 8 rfl)) c0.s.long) K.len rfl)) λN ri i0 P0 O0 V=>?_
 obtain i0:dO N [np] (jR r n m).2:=i0;obtain V:N[ri]? =ae (.list ((jR r n m).1.map .int)):=V;have o:Fr (λj=>j=np) dZ N:=P0.mono λj T=>aJ.mp T;obtain v0:=o.get (J0.g w0) (by exact NT (CF 1 0 1 0 1 0 D.2 (a0.t 4 6 rfl) rfl));obtain z1:=ba V;obtain D1:=o.len;wtm_at "r";refine jt v0 (by exact FI 0 100 0 4096 f1 rfl) ?_;have O:Fr (λj=>j=a.DU) N (N.set a.DU (.list (u++[.ref ri]))):=Fr.set rfl;obtain N0:(N.set a.DU (.list (u++[.ref ri])))[a.DU]? =ae (.list (u++[.ref ri])):=de v0;generalize N.set a.DU (.list (u++[.ref ri]))=dk at *;obtain Z0:Fr (λj=>j=np\/j=a.DU) dZ dk:=(o.mono λi h=>.inl h).trans (O.mono λi h=>.inr h);have e0:Fr (λj=>j=np\/j=a.DU) bF dk:=J0.any.trans Z0;obtain r0:Fr (λj=>j=a.TD\/j=np\/j=a.DU) U dk:=(J.mono λi h=>.inl h).trans (e0.mono λi h=>.inr h);have R:Fr (λj=>j=qd.g\/j=a.TD\/j=np\/j=a.DU) B dk:=(Z.mono λi h=>.inl h).trans (r0.mono λi h=>.inr h);have L:∀i,(i=qd.g\/i=a.TD\/i=np\/i=a.DU)->a.iu i/\i≠1:=λi h=>by
  rcases h with h |h |h |h
  ·exact⟨.inr (.inl (by exact⟨TT F.1 (EG h),CF 0 0 1 0 1 0 (EL h) F.2 rfl⟩)),by exact NT (CF 5 0 0 0 2 0 (TT o4.1 F.1) (EG h) rfl)⟩
  ·exact⟨.inr (.inr (.inr (.inl h))),by exact NT (CF 5 0 0 0 2 0 (a0.c 0 5 rfl) (EG h) rfl)⟩
  ·exact⟨.inr (.inr (.inl (h ▸ s0))),by exact NT (CF 5 0 0 0 2 0 (CH 5 0 0 0 (a0.c 0 3 rfl) D.1) (EG h) rfl)⟩
  ·exact⟨.inr (.inr (.inr (.inr (.inl h)))),by exact NT (CF 5 0 0 0 2 0 (a0.c 0 6 rfl) (EG h) rfl)⟩
 obtain (⟨F1,h1⟩):=c0.c2;rw[Y]at u0 i0;obtain j1:Fr (gs a.x.qs) B U:=Z.mono λi h=>⟨qd,cD S,h⟩;obtain G1:Good a.x a.rs (ns.set k n') as U:=c0.good.rd j1 (c0.good.jQ.upd S K0 a0.vR.sep Z u0);obtain G7:=G1.fr r0 λi hi h=>by
  have I0:i < a.bB:=(a0.foot i hi).elim (λe=>CF 0 3 5 0 1 0 (EL e) (a0.c 0 2 rfl) rfl) λk=>k.elim (λe=>CF 0 4 5 0 1 0 (EL e) (a0.c 0 2 rfl) rfl) λk=>k.2;exact h.elim (λe=>dP _ (TT I0 (TT (a0.c 2 5 rfl) (EG e)))) λk=>k.elim (λe=>dP _ (TT I0 (TT (TT (a0.c 2 3 rfl) D.1) (EG e)))) λe=>dP _ (TT I0 (TT (a0.c 2 6 rfl) (EG e)))
 have v1:dO dk a.cQ (ns.set k n'):=by
  obtain u1:dO dZ a.cQ ns:=c0.pf.fr f0 λj T e=>by have:=j0 j T;exact(E0).elim (λc2=>XX 4 3 (CH 3 0 1 3 (EG c2) (NV y0 ((EL c2)))) rfl) (λc2=>(e).elim (λc1=>XX 1 0 (CH 0 0 1 0 (CH 0 0 0 0 (CH 0 0 0 0 (a0.c 2 3 rfl) this.1) (EL c1)) F.2) rfl) (λc1=>XX 2 0 (CH 1 0 1 0 (CH 1 0 0 0 (a0.t 4 5 rfl) (EG c1)) this.2) rfl))
  obtain VK:=u1.upd l a0.nd P0 i0;exact VK.fr O λj T e=>by have:=j0 j T;exact XX 2 0 (CH 1 0 1 0 (CH 1 0 0 0 (a0.t 4 6 rfl) (EG e)) this.2) rfl
 obtain z:∀{i},a.bE<=i->a.Fz i:=λ{i} hi g1=>by
  rcases g1 with h |h |h |h |h |h
  ·exact XX 6 5 (CH 5 0 1 5 (CH 5 0 0 0 (a0.c 0 8 rfl) hi) h) rfl
  ·exact XX 1 0 (CH 0 0 1 0 (CH 0 0 0 0 (a0.c 2 8 rfl) hi) h.2) rfl
  ·have:=j0 i h;exact XX 2 0 (CH 1 0 1 0 (CH 1 0 0 0 (a0.t 4 8 rfl) hi) this.2) rfl
  ·exact XX 1 0 (CH 1 0 0 0 (CH 1 0 0 0 (a0.t 5 8 rfl) hi) (EL h)) rfl
  ·exact XX 1 0 (CH 1 0 0 0 (CH 1 0 0 0 (a0.t 6 8 rfl) hi) (EL h)) rfl
  ·exact XX 1 0 (CH 1 0 0 0 (CH 1 0 0 0 (a0.t 7 8 rfl) hi) (EL h)) rfl
 obtain same:k5 a.Fz dk (.ref i) (.ref ri):=⟨_,i,ri,Vn,rfl,rfl,z (by exact TT c0.s.long g0),z (by exact TT c0.s.long (TT f0.len O0)),e0.get s1 (by exact NO (NT (CF 2 0 0 0 1 0 (CH 2 0 0 0 (CH 1 0 1 0 D.2 (a0.t 4 8 rfl)) c0.s.long) g0 rfl)) (NT (TT (a0.t 6 8 rfl) (TT c0.s.long g0)))),O.get V (by exact NT (CF 1 0 0 0 1 0 (CH 1 0 0 0 (CH 1 0 0 0 (a0.t 6 8 rfl) c0.s.long) f0.len) O0 rfl))⟩;refine n_next (x_nil (q dk (ns.set k n') (.ref i) (.ref ri) ⟨c0.s.fr a0 R λi hi h=>(L i h).1,G7,v1,e0.get a1 (by exact NO (NT (CF 1 0 1 0 1 0 D.2 (a0.t 4 5 rfl) rfl)) (NE ((a0.t 5 6 rfl)))),N0,R.get c0.on (by exact NO (NT (TT F.2 (a0.c 2 7 rfl))) (NO (NT ((a0.t 5 7 rfl))) (NO (NT (CF 1 0 1 0 1 0 D.2 (a0.t 4 7 rfl) rfl)) (NT ((a0.t 6 7 rfl)))))),(c0.items.fr R λi hi h=>hi (L i h).1).snoc (.inl same),⟨_,R.get z0 λh=>(L 1 h).2 rfl⟩,⟨_,R.get h1 (by exact NO (NE (FI 5 0 3 0 (TT o4.1 F.1) rfl)) (NO (NE (FI 5 0 3 0 (a0.c 0 5 rfl) rfl)) (NO (NE (FI 5 0 3 0 (TT (a0.c 0 3 rfl) D.1) rfl)) (NE (FI 5 0 3 0 (a0.c 0 6 rfl) rfl)))))⟩,λm1 b1=>?_,xp c0.al,c0.af⟩ (R.get z0 λh=>(L 1 h).2 rfl) (R.mono L)));rcases Jh b1 with h |h
 ·have:=c0.nb m1 h;exact⟨by exact FI 0 0 0 1 this.1 rfl,this.2⟩
 ·rw[h];have:=Gq (M:=[r]) (R:=[(.none,m,0)]) (ns:=[n]) (b:=b) (λt ht=>by rw[aJ.mp ht];exact⟨.inl rfl,hm⟩) (λn' Y=>by rw[aJ.mp Y];exact C0) n' (by
   show n'∈(jR r n m).2;rw[Y];exact .head _)
  exact this
def LM.Gu {a:Ad}{ns:ah aS}{b:ak}(d0:a.Ok)(c0:LM a B ns as W u b)(a0:Fr (λi=>i=1) B H)(hc:∃v,H[1]? =ae (.cell v)):LM a H ns as W u b:=by
 obtain J:=d0.ord;obtain K:=d0.bs;obtain⟨I,G⟩:=c0.c2;exact⟨c0.s.fr d0 a0 λi w h=>.inl (by exact FI 0 1 1 5 (EL h) rfl),c0.good.fr a0 λi D e=>by have:=d0.foot i D;exact(this).elim (λE=>XX 3 1 (CH 3 0 0 1 (EG E) (EL e)) rfl) (λE=>(E).elim (λF=>XX 4 1 (CH 4 0 0 1 (EG F) (EL e)) rfl) (λF=>XX 5 1 (CH 5 0 0 1 (CH 5 0 0 0 (d0.c 0 1 rfl) F.1) (EL e)) rfl)),c0.pf.fr a0 λi D e=>by have:=d0.cQ i D;exact XX 5 1 (CH 5 0 0 1 (CH 5 0 0 0 (d0.c 0 3 rfl) this.1) (EL e)) rfl,a0.get c0.td (by exact NT (FI 5 0 2 0 (d0.c 0 5 rfl) rfl)),a0.get c0.du (by exact NT (FI 5 0 2 0 (d0.c 0 6 rfl) rfl)),a0.get c0.on (by exact NT (FI 5 0 2 0 (d0.c 0 7 rfl) rfl)),c0.items.fr a0 λi D e=>D (.inl (by exact FI 0 1 1 5 (EL e) rfl)),hc,⟨_,a0.get G (by exact NT (a4 _))⟩,c0.nb,c0.al,c0.af⟩
theorem VL {B:St}{a:Ad}{ns:ah aS}{d0 e0:ax AV}(c0:a.Ok)(a0:LM a B ns as W u 16)(ht:W.length<=16)(hd:u.length<=16):
  WP (sq vM ⟨FN 11,dc,[x0,x1,ag,ae (.ref a.LP),ag,x5,x6,x7,ae (.ref a.x.lm),ae (.ref a.RW),ae (.ref a.OD),bS,f,Y,ae (.ref a.NP),ae (.ref a.TD),ae (.ref a.DU),ae (.ref a.ON),d0,e0,ag,ig,ij,ik,ib,ic,ie,ag,ag,ag,ag,ag,ag,ag,ag,ag,ag,ag,ag,ag,ag,ag,ag]⟩) B (λx B=>WP (eP x.1) B (λv q=>v= .bool aj) E) E:=by
 obtain o1:=c0.ord;obtain o4:=c0.bs;unfold vM;wtm_at "r";refine pg (by decide) (by decide) ?_;wtm_at "r";refine⟨rfl,?_⟩;refine k8 (G:=λy=>eM) (a0:=λk I H=>(∃ns as W u,LM a H ns as W u (16+5 * k)/\W.length<=16+5 * k/\u.length<=16+5 * k)/\∃Y,I=[x0,x1,ag,ae (.ref a.LP),ag,x5,x6,x7,ae (.ref a.x.lm),ae (.ref a.RW),ae (.ref a.OD),bS,f,Y,ae (.ref a.NP),ae (.ref a.TD),ae (.ref a.DU),ae (.ref a.ON),d0,e0,ag,ig,ij,ik,ib,ic,ie,ag,ag,ag,ag,ag,ag,ag,ag,ag,ag,ag,ag,ag,ag,ag,ag]) (K:=mP 1 3 0)
  Yl.range (by decide) (λy y y y=>trivial) ⟨⟨ns,as,W,u,a0,ht,hd⟩,_,rfl⟩ ?_ ?_
 ·intros _ k v p0 F _ V l;obtain⟨i0,Z⟩:=l;obtain (⟨Y,rfl⟩):=Z;obtain (⟨ns,as,W,u,a0,ht,hd⟩):=i0;obtain⟨rfl,hk⟩:=wh V;rw[show(0:Int)+(k:Int)=k from uy _];obtain (⟨u0,f0⟩):=a0.c1;wtm_at "r";obtain U:Fr (λi=>i=1) F (F.set 1 (.cell (ae (.int k)))):=Fr.set rfl;obtain G:(F.set 1 (.cell (ae (.int k))))[1]? =ae (.cell (ae (.int k))):=de f0;obtain M2:=a0.Gu c0 U ⟨_,G⟩;generalize F.set 1 (.cell (ae (.int k)))=bF at *;refine bp (by simp) ?_;obtain Q:Ex bF (bF++[AO.list [vS "a",vS "a.b",vS "ab",vS "b.a",.int 7]]):=Fr.app;obtain K:(bF++[AO.list [vS "a",vS "a.b",vS "ab",vS "b.a",.int 7]])[bF.length]? =ae (.list [vS "a",vS "a.b",vS "ab",vS "b.a",.int 7]):=g_last;obtain D:=M2.s.long;generalize bF++[AO.list [vS "a",vS "a.b",vS "ab",vS "b.a",.int 7]]=bk at *;generalize bF.length=li at *;obtain T:=Q.g G;obtain M3:=M2.Gu c0 Q.any ⟨_,T⟩;refine ff K ⟨rfl,?_⟩;refine k8 (G:=λH=>H[li]? =ae (.list [vS "a",vS "a.b",vS "ab",vS "b.a",.int 7])) (a0:=λj I H=>(∃ns as W u,LM a H ns as W u (16+5 * k+j)/\W.length<=16+5 * k+j/\u.length<=16+5 * k+j)/\H[li]? =ae (.list [vS "a",vS "a.b",vS "ab",vS "b.a",.int 7])/\H[1]? =ae (.cell (ae (.int k)))/\∃Y,I=[x0,x1,ag,ae (.ref a.LP),ag,x5,x6,x7,ae (.ref a.x.lm),ae (.ref a.RW),ae (.ref a.OD),bS,f,Y,ae (.ref a.NP),ae (.ref a.TD),ae (.ref a.DU),ae (.ref a.ON),d0,e0,ag,ig,ij,ik,ib,ic,ie,ag,ag,ag,ag,ag,ag,ag,ag,ag,ag,ag,ag,ag,ag,ag,ag]) (K:=[vS "a",vS "a.b",vS "ab",vS "b.a",.int 7])
   (Yl.gK λH e=>e) (by decide) (λy y y h=>h.2.1) ⟨⟨ns,as,W,u,M3,ht,hd⟩,K,T,_,rfl⟩ ?_ ?_
  ·intros _ j m o0 g0 _ V o;obtain⟨z,l0,j0,h0⟩:=o;obtain (⟨Y,rfl⟩):=h0;obtain (⟨ns,as,W,u,w,ht,hd⟩):=z;obtain hj:j < 5:=ba V;obtain hm:eg m:=Gk m (by
    have:=cD V;simp only[bu,pK,tU]at this |-;rcases this with h |h |h |h |h <;>simp[h])
   refine cu rfl ?_;simp only[gz,gA];refine VJ c0 w hk j0 (by lia) hm (by lia) (by lia) λr0 m0 t d M5 b hf=>l_next ?_;refine⟨⟨m0,as,_,_,M5,by rw[bK,ux];lia,by rw[bK,ux];lia⟩,hf.get l0 (λh=>?_),b,_,rfl⟩;rcases h.1 with h |h |h |h |h |h
   ·exact XX 6 5 (CH 5 0 1 5 (CH 5 0 0 0 (c0.c 0 8 rfl) D) h) rfl
   ·exact XX 1 0 (CH 0 0 1 0 (CH 0 0 0 0 (c0.c 2 8 rfl) D) h.2) rfl
   ·have:=c0.cQ _ h;exact XX 2 0 (CH 1 0 1 0 (CH 1 0 0 0 (c0.t 4 8 rfl) D) this.2) rfl
   ·exact XX 1 0 (CH 1 0 0 0 (CH 1 0 0 0 (c0.t 5 8 rfl) D) (EL h)) rfl
   ·exact XX 1 0 (CH 1 0 0 0 (CH 1 0 0 0 (c0.t 6 8 rfl) D) (EL h)) rfl
   ·exact XX 1 0 (CH 1 0 0 0 (CH 1 0 0 0 (c0.t 7 8 rfl) D) (EL h)) rfl
  ·intros _ s0 g0 _ R;obtain⟨L,-,-,S⟩:=R;obtain (⟨Y,rfl⟩):=S;obtain (⟨ns,as,W,u,w,ht,hd⟩):=L;exact n_next (x_nil (l_next ⟨⟨ns,as,W,u,w,ht,hd⟩,_,rfl⟩))
 ·intros _ n0 F _ O;obtain⟨N,J⟩:=O;obtain (⟨Y,rfl⟩):=J;obtain (⟨ns,as,W,u,a0,-,-⟩):=N;obtain (⟨ds,h1,h2,h3⟩):=a0.items.data;obtain (⟨da,h4,h5⟩):=Gn a0.af;have X:F[3]? =ae (.cell (ae (.ref a.x.A))):=by have:=a0.good.cA;rwa [c0.cc.1]at this
  refine n_next (x_sq (x_Ret (w_And (w_Cmp (aM rfl (aM rfl (w_eq (l3 a0.td h1) (l3 a0.du h2) (tr_bool ⟨λy=>?_,λc=>?_⟩))))))))
  ·refine w_Cmp (gp cl_asks X (aM rfl (w_eq (l3 a0.good.A (h4 6 F)) (l3 a0.on (h4 6 F)) (n_ret (r_ret ?_)))));rw[bY,h5]
  ·rw[bY,h3]at c;cases c
def VM:vN=sy++(vH++(vI++(vL++vM))):=rfl
def VN (l:ah Int):(uP l).run [] (λr c=>r= .ok (.bool aj)):=by
 have T:WP (uP l) [] (λv y=>v= .bool aj) (λy y=>dm):=by
  refine UR ?_;show WP (sq vN _) _ _ _;rw[VM];refine wk (UY λo n1 LP w M I x5 x6 F H=>?_);refine wk (U4 F H λj x x7 E=>?_);refine wk (U9 E.num E.nl λL RW OD S c0 J Z f Y z G=>?_);obtain h5:=ba F.c4;refine wk (VH E (by exact h5) H z G G.len.symm λa Q ns as W u a0 m N R U V X O A e1 e2 D b K=>?_);exact VL A D b K
 exact P.mono _ (λr B h=>by
  cases r with
  |ok v=>exact bZ Res.ok h
  |err k=>exact h.elim) T
end Q
open PySem PySem.W PyProof.Rows
set_option maxHeartbeats 2000000
abbrev s9:Hook where
 α:=_
 obs:=xN
 val:=λu=>(rhs,ae (jW #[]))
 says:=λu h=>∃K:ju,K.In h/\lhs K=rhs/\h.get? 175=ae (jW #[])
 of:=λu s e=>⟨_,P7 s.heap,bZ (·.1) e,bZ (·.2) e⟩
 keeps:=λu u u x k=>x.elim λK y=>⟨K,λa o e=>k _ _ (y.1 a o e),y.2.1,k _ _ y.2.2⟩
set_option tactic.hygienic true in def holds (D : ∀ l : ah Int, l.length ≤ 63 → (uP l).run [] (fun r c => r = .ok (.bool aj))) : PySem.Challenge.rw_oc0179_01.Holds := holds_law P' fun VO => by
 refine holds_open (r:=PySem.Challenge.rw_oc0179_01.row) (q:=q0) (loose:=uX) (Xt:=fun u=>aj) (XP:=fun u u=>eM) (Yf:=s9.obs) (Ya:=s9.val) (YP:=s9.says) (N:=2016) Qd s9.of s9.keeps (fun u u=>trivial) (fun u u u u u=>trivial) (by rfl) (by rfl) (by rfl) (fun s u=>recFacts_of rfl) rfl VO (by decide +kernel) ⟨rfl,rfl,rfl,rfl,rfl,by decide +kernel⟩ ⟨[WData.list []],by decide +kernel,by decide +kernel⟩ ?_;intro w Wz ji mg mb G Y fa o pm cd doc dV kV ho VP yt hD VQ hg args vals as VR VS VT VU VV;obtain⟨K,KX,F,VW⟩:=Y;have VX:∀ P∈[175],ji.heap.get? P=ae (jW #[]):=fun P hP=>by rw[aJ.mp hP];exact VW
 refine Ground.open G ?_;intro T B D2 TE TW;clear VP yt hD ho
 wrow_args VR VS VT VU VV
 rename_i w5 hs VY VZ V4 yh w4 w3 aa items w0 hL ra wl r0 hI hr WA qr;clear hs VY VZ V4 yh ra wl r0 hr qr;have e1:=vC KX T.g (P6 F);have e2:fa=178:=by
  have:=VQ.symm.trans e1;exact Value.ref.inj (dp this)
 subst e2;exact Qs T (by decide +kernel) F KX VX hg hL hI (by lia) (D _ (by lia)) (λu=>rfl) (by wrow_post)
end Mine.Internal
theorem PySem.Challenge.cw_oc0179_01_holds : PySem.Challenge.rw_oc0179_01.Holds :=
 Mine.Internal.holds λl _=>Mine.Internal.Q.VN l
