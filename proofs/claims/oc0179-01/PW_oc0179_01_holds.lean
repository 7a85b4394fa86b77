import PyProof.Rows.All
import PyProof.AttrMiss
import PyProof.CollectIter
import PyProof.MeetsIn
import PyProof.EqKinds
import PyProof.P3Statements
import PyProof.StrBlockI
import PyProof.StrBlockL
import PyProof.ListNew
import PyProof.ListCopy
import PyProof.StrCalls2
import PyProof.Rows.SumAny
import PyProof.TypeOfCall
import PyProof.SetRoads
import PyProof.SetNew
import PyProof.Rows.SetFrom
import PyProof.Rows.ExtendIn
import Wide.Tac
import KE.KPop
import KE.KDictIter
import KE.KMinKey
import KE.KSortTup
import Wide.FinOn
import OpenK.AllK
import Wide.All
import Lean
import PySem.Challenge.RW_oc0179_01
set_option linter.all false
set_option Elab.async false
set_option backward.match.sparseCases false
set_option compiler.extract_closed false
set_option compiler.reuse false
set_option genInjectivity false
set_option genSizeOf false
set_option maxRecDepth 1000000
set_option tactic.hygienic false
set_option maxHeartbeats 20000000
open Option renaming some->ae,none->ag,none->bq,map_eq_some_iff->j3,bind_eq_some_iff->qV,ite_none_right_eq_some->tJ,map_some->tT,isNone_iff_eq_none->w8,map_eq_none_iff->Ba,isSome_iff_exists->Bx,map->Hs
open _root_ renaming List->ah,Nat->ak,Option->ax,Bool->aB,String->aI,if_neg->aK,if_pos->aN,Array->aZ,beq_iff_eq->bU,congrArg->bZ,Unit->b8,Nonempty->cU,False->dm,True->eN,decide_eq_true_eq->fu,of_decide_eq_true->gz,decide_eq_true->jc,if_false->je,if_true->jD,of_decide_eq_false->jG,beq_eq_false_iff_ne->oj,decide_eq_false->pK,bne_iff_ne->qU,or_false->tX,ForInStep->t9,Decidable->wu,beq_false_of_ne->AA,reduceIte->AY,bne_self_eq_false->AZ,ne_true_of_eq_false->Bq,beq_self_eq_true->IH,ne_of_beq_false->Jb,decide_eq_false_iff_not->Jn
open Bool renaming true->aj,false->az,and_eq_true->cW,false_eq_true->jd,false_ne_true->jg,or_eq_true->pQ,not_eq_true->pR,not_true->qW,eq_iff_iff->qY,or_true->ry,not_eq_true'->w7,and_false->xb,noConfusion->AD,or_false->A3,not_false->Hc,or_eq_false_iff->HX
open PySem.Str renaming ofString->aq
open PySem renaming Str->au,Value->aw,Addr->ay,wpAny->aA,wpAny_pure->aC,Shared->aD,Heap->aG,Expr->aH,model->aV,Env->bH,rawInt->bI,Scope->bN,wpAny_bind->bO,Tok->cK,Sem->dn,Stmt->dy,Around->d8,wpAny_holding->eA,wpAny_mono->eB,wpAny_field->e8,Arguments->fj,Pos->fk,sizeLine_eq->fH,pyIter->gb,SetTable->gv,wpAny_call_entry->gy,World->gN,mainGlobals->gO,wpAny_rule->gR,wpAny_setField_rec->gT,PyData->hZ,pyNext->ib,wpAny_letGo->ic,compareOp->ja,IsZip->jb,field->jf,nsFind->jy,IsPair->jz,starEach->jC,wpAny_standAt->jE,Operator->jW,rule->jZ,Builtin->j4,slot_listiter_next->j5,wpAny_seqItems->j6,slot_listiter_iter->j8,codeAny->kc,codeAny_builtin->ke,hashStr->lu,assign->ly,holding->lA,backTo->lC,isSubtype->lE,NameKind->l8,wpAny_isInstance->mh,backToKw->mo,keywordEach->mq,updateSeq->my,wpAny_updateSeq->mA,Model->m4,Program->m5,Keyword->m7,wpAny_newTuple->m9,notedBy->nj,wpAny_callSpecial?_slot->nk,wpAny_of_eq->nq,call_meets->nr,wpAny_attempt->ny,Const->n8,IsEnum->oi,wpAny_newList->om,partValue->oo,setField->oq,swapsWith->ow,callSpecial?->oz,wpAny_pyIter_slot->oB,isSubtype_stop->oD,keeperOf->oF,plainId_quiet->oJ,CmpOp->pD,JoinOk->pF,typeIs_str->pS,assignEach->pT,argsOk->pU,wpAny_askSetting->pV,getMethod_builtin->p3,wpAny_truthy_bool->qO,StrKeys->qP,builtinsNs->qQ,storeName->q7,wpAny_newObj_type->q8,wpAny_execs_nil->rg,seqItems?->rh,typeLookup_type->rj,builtinLookup_eq_fast->rm,isSubtype_type->rn,wpAny_setState_of->rq,letOwnedTupleGo->ru,entry_listiter_iter->rz,args_listiter_iter->rA,wants->rG,wpAny_specialOf->rH,wpAny_tryCatch->rI,wpAny_eqBool_int->tu,isTrue->tw,IsRangeIter->tz,pickOrder->tB,wpAny_allTrue_Or_cons->tH,standAt->tI,richCompare->tK,wpAny_setField->tO,wpAny_execs_cons->tR,wpAny_throw->tS,typeLookup->tW,wpAny_alloc->ua,wpAny_call->ud,codeAny_of_tree->ue,checkBuiltinCall->uf,wpAny_Call_Name_kw->uh,treeTable->uu,importedModules->uv,FuncData->wt,DictEntry->wz,IsRange->wD,seqEpoch->wF,newTuple->wG,newList->wH,newExc->wO,fastTable_eq_tree->wQ,setNext->wU,findBy->wY,bindArgs->wZ,cellOf->xd,compPost->xf,codeAny_mono->xh,ExcName->xm,wpAny_isTrue_BoolOp->Aw,wpAny_items_nil->Ax,wpAny_items_cons->Ay,entry_listiter_next->AJ,args_listiter_next->AK,raiseNew->AM,entryFor->AP,wpAny_pyIter_list->A4,evalArgs->Bc,sizeLine->Bf,relayAll->Bi,getMethod->Bs,wpAny_Constant_none->GP,wpAny_Constant_bool->GQ,wpAny_Constant_int->GR,wpAny_Constant_str->GS,wpAny_loadName_cell->GU,wpAny_allTrue_And_cons->G9,wpAny_allTrue_Or_nil->Ha,wpAny_Return_some->Hh,firstArgMember->Hi,entryFor_alias->Hk,wpAny_setEntries_of->Hr,wpAny_updateSeq_pair->Hy,codeAny_call_function->HG,slot_list_setitem->HM,callType_newIn->HN,wpAny_pyIter_enum->HQ,wpAny_pyIter_rangeiter->HU,wpAny_pyIter_zip->HV,wpAny_functionCodeX->H4,wpAny_builtinsFor->H5,weight_type_call_type->Ii,codeAny_call_builtin->Ik,am_int_getattr_none->IJ,am_entry_int_getattribute->IK,meets_getattribute_miss_int->IL
open List renaming mem_singleton->aJ,length_map->aO,mem_cons->bu,length_append->bK,all_eq_true->bW,getElem?_eq_getElem->cy,mem_of_getElem?->cD,getElem?_eq_some_iff->cF,size_toArray->cG,range->dz,getElem?_map->dA,map_append->dH,mem_append->dX,length_take->er,length_set->eM,length_cons->ft,append_nil->fU,map_cons->gc,lookup_cons->gx,take_of_length_le->gA,set_cons_succ->gB,set_cons_zero->gC,mem_append_left->gQ,mem_append_right->ia,getElem?_set_ne->jB,append_assoc->j2,take_length->j7,drop_eq_nil_of_le->kh,getElem?_append_left->lB,pairwise_cons->lG,toArray->mc,getElem?_set_self->me,forIn_nil->mn,nil_append->mu,drop_zero->mv,mem_map->mx,getElem?_eq_none_iff->nu,length_eq_zero_iff->nv,mem_range->nx,drop_eq_getElem_cons->oA,map_map->oM,set_set->oN,length_filter_le->pG,any_cons->pN,nodup_cons->pO,not_mem_nil->pP,drop_eq_nil_iff->pW,forIn_cons->pX,getElem_mem->pZ,length_zip->p5,mem_iff_getElem->qT,length_nil->q9,lookup->rB,of_mem_zip->rC,cons_append->rD,getElem?_eq_none->rJ,map_take->rK,nodup_append->tF,isEmpty_nil->tU,map_nil->ub,isEmpty_iff->uc,take_zero->uj,countP_cons->uk,map_reverse->uo,any_eq_true->uw,foldl_append->ux,getElem?_zip_eq_some->uy,length_singleton->uz,getElem?_append_right->wI,getElem_inj->wJ,range_succ->wV,length_range->wW,mem_of_mem_drop->w6,map_inj_left->xl,pairwise_iff_getElem->xo,pairwise_append->xp,getElem?_drop->xq,findIdx?_eq_some_iff_getElem->As,contains_iff_mem->AB,filterMap_cons->AW,take_add_one->AX,all_cons->A5,mem_filter->A7,take_nil->A9,zip_cons_cons->Bn,mem_cons_of_mem->Bo,getElem?_concat_length->By,set_getElem_self->Bz,reverse_perm->BA,perm_append_comm->BC,pairwise_singleton->BD,dropLast_concat_getLast->BF,any_append->BG,isEmpty_map->BH,flatMap_append->BK,countP_le_length->BM,find?_cons->GN,nodup_nil->GO,append_toArray->GZ,replicate->Hg,getElem?_toArray->Hj,eq_nil_of_length_eq_zero->Hl,length_eraseIdx_of_lt->Ho,length_eq_one_iff->Hv,mem_map_of_mem->Hz,take_append_drop->HB,mem_of_mem_take->HC,map_congr_left->HD,filter_nil->HH,filterMap_nil->HJ,any_eq_false->HL,zip_nil_right->H3,take_succ_eq_append_getElem->Ic,drop_length->Il,countP_mono_left->Ir,countP_true->Iu,ext_getElem->Iv,mem_reverse->Iw,getElem_map->II,mem_of_find?_eq_some->IM,getElem?_cons_succ->IT,take_left'->IW,length_drop->Ja,find?_append->Jc,filter_eq_nil_iff->Je,filter_cons_of_pos->Jf,filter_cons_of_neg->Jg,getElem?_range->Jh,countP_append->Jj,mem_or_eq_of_mem_set->Jk,sum_append->Jl,getElem?_of_mem->Jm
open PySem.Txt renaming split->aU,join->jx,slice->lr,startswith->pE
open Nat renaming le_refl->a4,zero_le->cZ,lt_irrefl->dP,le_trans->dW,le_succ->gU,lt_of_lt_of_le->gV,le_of_ble_eq_true->i6,lt_succ_self->jF,ne_of_lt->jX,zero_add->kg,ble->l9,min_eq_left->ng,le_of_lt->nC,le_of_eq->oa,not_lt->og,ble_eq->p6,add_assoc->qN,min_le_left->tn,le_add_right->tq,casesOn->tE,min_eq_right->tN,lt_trans->wK,lt_of_le_of_lt->wL,reduceAdd->xn,add_zero->xr,le_succ_of_le->xt,add_le_add_right->Ah,add_right_comm->Ai,add_comm->Aj,not_le->Ak,ne_of_gt->Al,le_antisymm->Am,le_min->An,succ_le_succ->Az,succ_pos->Bk,lt_succ_of_lt->Bl,add_le_add_left->GB,lt_of_le_of_ne->GC,min_le_right->GD,sub_le->GF,sub_add_cancel->GG,le_add_left->GH,add_le_add->GI,le_zero->Hm,mod_lt->Hn,le_of_succ_le_succ->Hu,le_of_sub_eq_zero->Ia,lt_of_sub_pos->Ib,div_le_self->IP,lt_or_gt_of_ne->IU,lt_or_ge->IV,zero_min->IY,min_zero->IZ,succ_min_succ->I9,sub_eq_zero_of_le->Ji
open PySem.Heap renaming get?_push_of_some->be,get?_push_size->cV,SameBut->fq,lt_size->gP,get?_update_self->iK,size_push->j',dictOf_iff->tG,get?_update_other->AG,get?_none_of_le->Bg,get?_push_ne->Bm,NewAttrErr->Br,ExtBut->HZ,NewExc->H6,size_update->IB
open PyProof.Rows renaming seqObj->bC,arrOf->jA,numOf->lz,get?_update_seq->nB,IntsAre->oh,isSubtype_of_subB->oK,listUpdate_at->oL,failedOf->qS,tail_any->tM,exec_Assign->wN,seqEpoch_at->xj,listItems_at->xk,general'->Aq,subscriptTail->AE,Subscript_->AF,size_push'->Bp,wpAny_call_entry_kw->IC,slot_list_sort->ID,entry_list_sort->IE,args_list_sort->We,args_list_sort_rev->Wf
open PySem.Obj renaming mapSeq->bQ,data_mapFields->nh,isFreed_of_fields->ou,putName_eq->rE,putNameByArray->rF,mapFields->tP,cls_mapFields->tQ,putSet->H8
open PySem.PyData renaming eqv->bY,strOk->cY,eqvAll->lH,depthAll->Hb,list->Jd,tuple->Jo
open Option.some renaming inj->dp,injEq->A8
open PySem.Value renaming none->dq,ref->gw,isStrOf->lx,type->lD,str->qX,int->tL,builtin->ug,isStrOf_shape->GK
open PySem.Heap.SameBut renaming update->dY
open Int renaming toNat_natCast->eD,ofNat_lt->i7,lt_trans->uq,zero_add->uA,natCast_nonneg->wy,neg_lt_neg->Au,eq_ofNat_of_zero_le->Av,add_zero->BJ,lt_of_lt_of_le->GJ,le_natAbs->GV,lt_of_le_of_lt->GW,ne_of_gt->GX,toNat_lt->Hd,not_lt->He,ofNat_le->Hf,ediv_one->HO,neg_neg->HP,fdiv_eq_ediv_of_nonneg->IQ,ofNat_sub->IS
open PySem.W renaming findIn->fm,Frag->jw,tabObj->jY,emptyDict->j9,Looks->oE,instObj->pH,takerIn->pI,boot_heap->p4,typeIn->qR,kla_obj->wA,callWith_of->wX,plainOver->Ao,hasDictIn->Ap,staticsOk->Bt,namesBound->Bu,gensDone->Bv,laidKept->Bw
open PySem.Builtin.Range renaming rangeFitsLong->fJ,rangeSize->kb,rangeFields->Wb,small->Wc
open PySem.NameKind renaming free->kf,cell->oG
open Classical renaming byContradiction->lq,em->ur
open Prod.mk renaming inj->lF,injEq->w9
open PySem.Builtin.Str renaming occurrences->l7,partsBetween->m6,strKind->IF
open PySem.Around renaming under_plainId->mw,under_plain->Ih
open PySem.SetTable renaming below->m8,grown->Bj,has->H7,fits_plain_off->H9,fresh->Ij
open ForInStep renaming yield->nz
open PySem.Code renaming builtin->oH,quiet_builtin->Ig
open PyProof.Rows.SortSt renaming mk'->pJ
open PySem.Keeper renaming machine->pY,frame->tY,boundFrame->tZ
open Prod renaming ext->qZ
open Pure renaming pure->tm
open PySem.Builtin.List renaming listUpdate->tC,listItems->GL,listExtendWith->Io,listSameRef->Ip,listSubscript?->Wa
open PySem.Data renaming noConfusion->tD
open Array renaming toList_map->um,getElem?_eq_getElem->wM,toList_inj->xi,length_toList->Bh,toList_push->Hq,getElem?_eq_none_iff->Ht,size_push->Im,toList_reverse->Iy,forIn_toList->IA
open PySem.FuncBody renaming stmts->wC
open List.Perm renaming cons->wR
open PySem.Calls renaming spliced_cons->xc,evalArgs_plain->Bd,spliced_nil->Be
open PySem.Shared renaming TypeIs->xg
open Ne renaming symm->AH
open PySem.pickOrder renaming go->AQ
open PySem.SetTable.below renaming go->AU
open PySem.Builtin.SmallTypes renaming nextOf->A2,ownedTupleIsFree->Hw,ownedTupleHandOut->Hx
open PUnit renaming unit->A6
open PySem.W.Looks renaming of_pure->Bb
open List.Pairwise renaming nil->BE
open String renaming ofList->GA
open PyProof renaming noPylong_small->GY
open PySem.DictEntry renaming refKey->HK
open PySem.ScopeKind renaming function->HW
open PySem.Manifest renaming find?->HY
open PySem.Builtin.Frozenset renaming newClass->Ie,slot0->V9,sizeOf->V',updateFrom->Wd
open PySem.Builtin.Builtins renaming bindParams->Iq
open StateT renaming run_pure->Iz
open PySem.IsL renaming update->IG
open PySem.Heap.IsSliceOf renaming new->V8
namespace Mine.Internal
section
open Lean
def jh (k:aI)(a:ah Syntax):Syntax:=.node .none k.toName a.toArray
def mp {α β}(f:α->β):ah α->ah β
 | []=>[]
 |a :: l=>f a :: mp f l
def fo {α β}(f:α->β->β)(b:β):ah α->β
 | []=>b
 |a :: l=>f a (fo f b l)
def mem (x:aI):ah aI->aB
 | []=>az
 |y :: l=>x == y || mem x l
def uB:ah Syntax->ah Syntax
 |a :: b :: l=>a :: .atom .none "," :: uB (b :: l)
 |l=>l
def xu:ah Syntax->ah Syntax
 |a :: l=>if a.isIdent then a :: xu l else []
 | []=>[]
def BN (a:ah Syntax)(w:ah Char)(s:ah Syntax):ah Syntax:=
 match w with
 | []=>s
 |c :: r=>
 let k:=GA r.reverse
 let n:=c.toNat - 48
 if c == '\'' then .atom .none k :: s
 else if c == '.' then mkIdent k.toName :: s
 else if c == '$' then a.getD (k.toNat?.getD 0) .missing :: s
 else if c == 'S' then jh "Lean.Parser.Tactic.tacticSeq" [jh "Lean.Parser.Tactic.tacticSeq1Indented" [jh "null" (s.take 1)]] :: s.drop 1
 else
 let d:=r.getLastD ' '
 jh ((if mem k ["null","group","hygieneInfo","fieldIdx","PySem.W.tacticWtm_at_"]then "" else if d == 'T' || d == 'C' then "Lean.Parser." else "Lean.Parser.Tactic.")++k) (s.take n).reverse :: s.drop n
def xw (a:ah Syntax):ah Char->ah Char->ah Syntax->ah Syntax
 |w,c :: r,s=>if c == ' ' then xw a [] r (BN a w s)else xw a (c :: w) r s
 |w,[],s=>BN a w s
def cH (t:aI)(a:ah Syntax):Syntax:=(xw a [] t.toList []).headD .missing
def kl (t u:Syntax):Syntax:=cH "first' |' 0$ S group2 |' 1$ S group2 null2 first2" [t,u]
def iL (t u:Syntax):Syntax:=cH "(' 0$ ;' 1$ null3 tacticSeq1Indented1 tacticSeq1 )' paren3" [t,u]
def Jp (r:Syntax):Syntax:=
 let b:=cH "rewrite' null0 optConfig1 [' 0$ null1 ]' rwRuleSeq3 null0 rewriteSeq4" [r]
 if (r.find? (·.isOfKind ``Parser.Term.syntheticHole)).isSome then b
 else kl (cH ("with_reducible_and_instances' refine' rw"++(if r[0].getNumArgs == 0 then "R" else "L")++". 0$ ?' _' Term.syntheticHole2 null2 Term.app2 refine2 S withReducibleAndInstances2") [r[1]]) b
def xx (p:Syntax):Syntax:=cH "0$ rintroPat.one1" [if p[1].getNumArgs == 0 && p[0][0].getNumArgs == 1 then p[0][0][0]else cH "(' 0$ )' rcasesPat.paren3" [p]]
def tupP (p:Syntax):aB:=p[0].isOfKind ``Parser.Tactic.rcasesPat.tuple && p[0][1].getNumArgs > 1
def uC:ah Syntax->Syntax
 | []=>cH "skip' skip1" []
 |p :: ps=>iL (cH (if tupP p then "(' intro' hrin. null1 intro2 ;' obtain' 0$ null1 rcasesPatMed1 null1 null0 :=' hrin. null1 null2 obtain4 null3 tacticSeq1Indented1 tacticSeq1 )' paren3" else "rintro' 1$ null1 null0 rintro3") [p[0],p]) (uC ps)
def xy (e t:Syntax)(ps:ah Syntax):ak->Syntax
 | 0=>cH "rcases' null0 0$ elimTarget2 null1 with' 1$ null1 rcasesPatMed1 null0 rcasesPatLo2 null2 rcases3" [e,t]
 |k+1=>
  let s:=fo (λq s=>iL (cH "try' clear' 0$ null1 clear2 S tacticTry_2" [q]) s) (uC (mp xx (ps.take (k+1))++[match ps.drop (k+1)with | [p]=>xx p |r=>cH "⟨' 0$ ⟩' rcasesPat.tuple3 rintroPat.one1" [jh "null" (uB r)]])) ((mp (λp=>p[0][0][0][0]) ps).reverse++[e])
  let f (n:aI):=iL (cH ("refine' "++n++". 0$ ?' _' Term.syntheticHole2 null2 Term.app2 refine2") [e]) s
  kl (f ("and"++toString (k+2))) (kl (f ("ex"++toString (k+1))) (xy e t ps k))
def Jq (x:Syntax):Syntax:=
 let c (t:aI):=cH t [x]
 let r (n:aI):=kl (iL (c ("replace' 0$ Term.letId1 null0 null0 :=' "++n++".inj. 0$ null1 Term.app2 Term.letIdDecl5 Term.letDecl1 replace2")) (c "cases' null0 0$ elimTarget2 null1 null0 null0 cases4"))
 let d (n:aI):=kl (iL (c ("refine' and2. "++n++".inj. 0$ null1 Term.app2 ?' _' Term.syntheticHole2 null2 Term.app2 refine2")) (c "(' clear' 0$ null1 clear2 ;' intro' h1. h2. null2 intro2 ;' cases' null0 h1. elimTarget2 null1 null0 null0 cases4 ;' cases' null0 h2. elimTarget2 null1 null0 null0 cases4 null7 tacticSeq1Indented1 tacticSeq1 )' paren3"))
 kl (c "subst' 0$ null1 subst2") (kl (c "contradiction' contradiction1") (r "Option.some" (r "AV.ref" (d "Prod.mk" (d "List.cons" (c "rcases' null0 0$ elimTarget2 null1 with' ⟨' null0 ⟩' rcasesPat.tuple3 null1 rcasesPatMed1 null0 rcasesPatLo2 null2 rcases3"))))))
def BO (x a:Syntax):ah aI->Syntax
 | []=>cH "cases' null0 (' [anonymous]. hygieneInfo1 Term.hygienicLParen2 0$ )' Term.paren3 elimTarget2 null1 null0 1$ null1 cases4" [x,a]
 |n :: l=>kl (cH ("induction' null0 0$ elimTarget2 null1 using' "++n++(if n == "Nat" then ".casesAuxOn" else ".casesOn")++". null2 null0 1$ null1 induction5") [x,a]) (BO x a l)
def BP:ah aI->Syntax
 | []=>cH "fail' null0 fail2" []
 |n :: l=>kl (cH ("refine' "++n++". ?' _' Term.syntheticHole2 null1 Term.app2 refine2") []) (BP l)
def xA:ak->ak->aI->ah aI
 |k+1,n,s=>if n < 2 then [s]else xA k ((n+1) / 2) (s++" .' 1' fieldIdx1 Term.proj3")++xA k (n / 2) (s++" .' 2' fieldIdx1 Term.proj3")
 | 0,_,s=>[s]
def BQ (c m:aI)(l a:ah Syntax):Syntax:=
 let k:=toString l.length
 let e:=a.isEmpty
 let f:=fo (λn s=>kl (cH ("exact' "++n++". exact2") []) s) (cH "first' |' apply' nP. apply2 S group2 |' apply' nF. apply2 S group2 null2 first2" []) ("nI neA neS neI neW neB neE neX neM neP neRT neK neAS neDA neR".splitOn " ")
 iL (cH ("refine' "++(if e then "no_implicit_lambda%' " else "")++m++k++". (' [anonymous]. hygieneInfo1 Term.hygienicLParen2 by' repeat'' 1$ S repeat'2 S Term.byTactic2 )' Term.paren3 _' Term.hole1 "++(if e then "?' _' Term.syntheticHole2 null3 Term.app2 Term.noImplicitLambda2" else "0$ ?' _' Term.syntheticHole2 null4 Term.app2")++" refine2") [a.headD .missing,f])
  (cH "generalize' 0$ null0 generalize3" [jh "null" (uB (mp (λp=>cH ("null0 (' [anonymous]. hygieneInfo1 Term.hygienicLParen2 "++c++k++". _' Term.hole1 _' Term.hole1 null2 Term.app2 )' Term.paren3"++p.1++" =' 0$ generalizeArg4") [p.2]) ((xA l.length l.length "").zip l)))])
def rL:ak->ah Syntax->Syntax
 |n+1,l=>
  let m:=l.length
  let k:=if m < 11 then m else if m < 13 then 10 else if m < 16 then 13 else if m < 20 then 16 else if m < 23 then 20 else 23
  let t:=BQ "pc" "pk" (l.take k) []
  if k == m then t else iL t (rL n (l.drop k))
 | 0,_=>.missing
def BR (e t:Syntax)(ps:ah Syntax):ak->Syntax
 | 0=>xy e t ps (ps.length - 1)
 |k+1=>kl (iL (BQ "oc" "ox" (mp (λp=>p[0][0][0][0]) (ps.take (k+1))) [e]) (iL (cH "try' clear' 0$ null1 clear2 S tacticTry_2" [e]) (uC [match ps.drop (k+1)with | [p]=>xx p |r=>cH "⟨' 0$ ⟩' rcasesPat.tuple3 rintroPat.one1" [jh "null" (uB r)]]))) (BR e t ps k)
def xB (b:aB)(l:ah Syntax):ak->Syntax
 | 0=>.missing
 |n+1=>
  let a:=xu l
  let t:=if a.isEmpty then cH "skip' skip1" []else if b then rL 9 a else cH "intro' 0$ intro2" [jh "null" a]
  match l.drop a.length with
  | []=>t
  |_ :: r=>iL t (xB (!b) r n)
def Jr (l:ah Syntax):Syntax:=
 let a:=xu l
 match a,l.drop a.length with
 |_,[]=>rL 9 a
 | [],_ :: r=>xB aj r r.length
 |_,[_]=>iL (cH "revert' 0$ revert2" [jh "null" a]) (rL 9 a)
 |_,_ :: b=>iL (cH "revert' 0$ revert2" [jh "null" a]) (iL (rL 9 a) (cH "intro' 0$ intro2" [jh "null" b]))
def uD:ak->Syntax->ah Syntax
 |n+1,s=>s :: fo (λs l=>uD n s++l) [] s.getArgs.toList
 | 0,_=>[]
def BS:ak->Syntax->Syntax
 |n+1,.node _ k a=>.node .none k (mp (BS n) a.toList).toArray
 |_,s=>s.setInfo .none
def nm (s:Syntax):aI:=toString s.getId.getRoot
def Js (s:Syntax)(l:ah aI):ah aI:=
 let k:=toString s.getKind
 mp nm (if k == "Lean.binderIdent" then [s[0]]else if k == "Lean.Parser.Term.basicFun" then s[0].getArgs.toList else if mem k ["Lean.Parser.Term.forall","Lean.Parser.Term.explicitBinder","Lean.Parser.Term.implicitBinder"]then s[1].getArgs.toList else [])++l
def Jt (tab hd:aI)(d:Syntax):Syntax:=
 let e:=d[1]
 let us:=uD 99 e[2]
 let ui:=mp nm us
 let bd:=fo Js [] us
 let vs:=fo (λx l=>if mem x ui && !mem x bd then ((mkIdent x.toName).raw,aj) :: l else l) (fo (λb l=>let f:=fo (λs f=>if s.isIdent then mem (nm s) (hd.splitOn " ")else f) az (uD 99 b[2]);mp (·,f) b[1].getArgs.toList++l) [] e[2][0].getArgs.toList) (tab.splitOn " ")
 let l:=(fo (λ(x,y) (l,f)=>(if f == y then x :: l else x :: .missing :: l,y)) ([],(vs.getLastD (.missing,aj)).2) vs)
 d.setArg 1 (e.setArg 3 (e[3].setArg 1 (cH "by' revert' 0$ revert2 ;' 1$ ;' (' 2$ )' paren3 null5 tacticSeq1Indented1 tacticSeq1 Term.byTactic2" [jh "null" (mp (·.1) vs),xB l.2 l.1 99,e[3][1][1]])))
def Ju (n:aI)(m b:Syntax):Syntax:=
 if b[0].getPos?.isNone || fo (λs f=>s.isToken "meta" || f) az (uD 9 m)then .missing else
 let k:=toString b.getKind
 let a:=[m,b[1],b[2],b[3],b[2][0],b[2][1][0],b,m.setArg 4 (cH "noncomputable' Command.noncomputable1 null1" [])]
 let q (s:aI):=cH (s++" Command.declaration2") a
 BS 999 (if k == "Lean.Parser.Command.definition" then q "0$ theorem' 1$ 4$ 5$ Command.declSig2 3$ Command.theorem4"
  else if k == "Lean.Parser.Command.abbrev" then if m[1].getNumArgs == 0 then q "7$ def' 1$ 2$ 3$ null0 Command.definition5" else (q "7$ 6$").modifyArg 0 (·.setArg 1 (jh "null" []))
  else if k == "Lean.Parser.Command.theorem" then
   let (tab,hd):=if n == "Mine.Internal.Q" then ("B H df E F I b w k i n s j U d A h b0 row dd LP k0 di rp ri mi NP Q O cs v a m T p M K l as args W u vs gE D Z QB z R x y r x6 x0 x5 x7 x1 bS f Y x3 x8 x9 ie ig ij x4 fV ik iq ir V e elt S L o J G body ifs N QL bR mm kw X dI a9 ks ys","AO AV Ad eO fj aB DE DS DT aH FL Int ah km ak aS ax Or RT Rd bN St au aI Tr")else ("X Y h H h₀ kn B J j own br C fK I Z jH A F U aP k i W n u ep E E' a D S L w s z dE v it o o' x y prog V pos p q G l le K Q kvs N e elt r target kw T xs ai ao d b M es O m mg fd R ct f op lo ci ca ifs mm loose","AI AO AV ay Arg fj d8 aZ aB pD n8 Cx DA DE DI DR DS DT bH aH Flow jw wt aG Int ah km m4 ak Obj jW ax Or fk m5 PySem.Fin RT Res Result bN gv aD St au aI cK b8 aw gN")
   Jt tab hd (q "0$ 6$")else q "0$ 6$")
def rM (m b:Syntax):MacroM Syntax:=do
 let r:=Ju (toString (<-Macro.getCurrNamespace)) m b
 if r.isMissing then Macro.throwUnsupported else return r
end
open Lean in
local macro_rules
 | `(tactic| cases $x:ident $a:inductionAlts)=>return BO x a ("Option List Nat Bool Or AV AO Res FL AI PySem.Expr PySem.Stmt".splitOn " ")
 | `(tactic| cases $x:ident)=>return Jq x
 | `(tactic| rw $r:rwRuleSeq)=>return r.raw[1].getSepArgs.toList.foldr (λr=>iL (Jp r)) (cH "try' with_reducible' rfl' tacticRfl1 S withReducible2 S tacticTry_2" [])
 | `(tactic| rintro $ps:rintroPat*)=>let l:=ps.toList.map (·.raw);if l.length < 2 && !tupP l.head! then Macro.throwUnsupported else return uC l
 | `(tactic| obtain $p:rcasesPatMed:=$e:term)=>let t:=if p.raw[0].getNumArgs == 1 then p.raw[0][0]else .missing;if t.isOfKind ``Parser.Tactic.rcasesPat.paren then let t:=t[1][0][0][0];let ps:=t[1].getSepArgs.toList;return BR e t ps (min (ps.length - 1) (ps.takeWhile λp=>p[0][0].getNumArgs == 1 && p[0][0][0][0].isIdent && p[0][0][0][0].getId != `rfl).length)else let ps:=t[1].getSepArgs.toList;if ps.length < 2 then Macro.throwUnsupported else return xy e t ps (ps.length - 1)
 | `(tactic| intros $xs*)=>if xs.isEmpty then Macro.throwUnsupported else return Jr (xs.toList.map (·.raw))
 | `(tactic| show $t:term)=>return cH "refine' (' [anonymous]. hygieneInfo1 Term.hygienicLParen2 ?' _' Term.syntheticHole2 :' 0$ null1 )' Term.typeAscription5 refine2" [t]
open Lean in
local macro_rules
 | `($m:declModifiers $b:definition)=>rM m b
 | `($m:declModifiers $b:theorem)=>rM m b
 | `($m:declModifiers $b:abbrev)=>rM m b
 | `($m:declModifiers $b:structure)=>rM m b
 | `($m:declModifiers $b:inductive)=>rM m b
@[elab_as_elim] def Wg {α:Sort _}{a b:α}{p:α->Prop}(h:a=b)(x:p b):p a:=h ▸ x
@[elab_as_elim] def Wh {α:Sort _}{a b:α}{p:α->Prop}(h:a=b)(x:p a):p b:=h ▸ x
section
variable {A B C D E F H I J K L M G:Prop}
def and2 (h:A/\B)(f:A->B->G):G:=f h.1 h.2
def and3 (h:A/\B/\C)(f:A->B->C->G):G:=and2 h.2 (f h.1)
def and4 (h:A/\B/\C/\D)(f:A->B->C->D->G):G:=and3 h.2 (f h.1)
def and5 (h:A/\B/\C/\D/\E)(f:A->B->C->D->E->G):G:=and4 h.2 (f h.1)
def and6 (h:A/\B/\C/\D/\E/\F)(f:A->B->C->D->E->F->G):G:=and5 h.2 (f h.1)
def and7 (h:A/\B/\C/\D/\E/\F/\H)(f:A->B->C->D->E->F->H->G):G:=and6 h.2 (f h.1)
def and8 (h:A/\B/\C/\D/\E/\F/\H/\I)(f:A->B->C->D->E->F->H->I->G):G:=and7 h.2 (f h.1)
def and9 (h:A/\B/\C/\D/\E/\F/\H/\I/\J)(f:A->B->C->D->E->F->H->I->J->G):G:=and8 h.2 (f h.1)
def and10 (h:A/\B/\C/\D/\E/\F/\H/\I/\J/\K)(f:A->B->C->D->E->F->H->I->J->K->G):G:=and9 h.2 (f h.1)
def and11 (h:A/\B/\C/\D/\E/\F/\H/\I/\J/\K/\L)(f:A->B->C->D->E->F->H->I->J->K->L->G):G:=and10 h.2 (f h.1)
def and12 (h:A/\B/\C/\D/\E/\F/\H/\I/\J/\K/\L/\M)(f:A->B->C->D->E->F->H->I->J->K->L->M->G):G:=and11 h.2 (f h.1)
end
section
variable {A B C D E F H I J K:Sort _}{G:Prop}
def ex1 {R:A->Prop}(h:∃a,R a)(f:∀a,R a->G):G:=h.elim f
def ex2 {R:A->B->Prop}(h:∃a b,R a b)(f:∀a b,R a b->G):G:=h.elim λa h=>ex1 h (f a)
def ex3 {R:A->B->C->Prop}(h:∃a b c,R a b c)(f:∀a b c,R a b c->G):G:=h.elim λa h=>ex2 h (f a)
def ex4 {R:A->B->C->D->Prop}(h:∃a b c d,R a b c d)(f:∀a b c d,R a b c d->G):G:=h.elim λa h=>ex3 h (f a)
def ex5 {R:A->B->C->D->E->Prop}(h:∃a b c d e,R a b c d e)(f:∀a b c d e,R a b c d e->G):G:=h.elim λa h=>ex4 h (f a)
def ex6 {R:A->B->C->D->E->F->Prop}(h:∃a b c d e f,R a b c d e f)(f:∀a b c d e f,R a b c d e f->G):G:=h.elim λa h=>ex5 h (f a)
def ex7 {R:A->B->C->D->E->F->H->Prop}(h:∃a b c d e f g,R a b c d e f g)(f:∀a b c d e f g,R a b c d e f g->G):G:=h.elim λa h=>ex6 h (f a)
def ex8 {R:A->B->C->D->E->F->H->I->Prop}(h:∃a b c d e f g i,R a b c d e f g i)(f:∀a b c d e f g i,R a b c d e f g i->G):G:=h.elim λa h=>ex7 h (f a)
def ex9 {R:A->B->C->D->E->F->H->I->J->Prop}(h:∃a b c d e f g i j,R a b c d e f g i j)(f:∀a b c d e f g i j,R a b c d e f g i j->G):G:=h.elim λa h=>ex8 h (f a)
def ex10 {R:A->B->C->D->E->F->H->I->J->K->Prop}(h:∃a b c d e f g i j k,R a b c d e f g i j k)(f:∀a b c d e f g i j k,R a b c d e f g i j k->G):G:=h.elim λa h=>ex9 h (f a)
end
universe u
abbrev iu {α:Type u}(n:cU α)(P:α->Prop):α:=@Classical.epsilon α n λa=>¬ P a
def iM {α:Type u}{n:cU α}{P:α->Prop}(h:P (iu n P))(a:α):P a:=lq λk=>@Classical.epsilon_spec α (λa=>¬ P a) ⟨a,k⟩ h
section
variable {A B C D E F H I J K L M N O Q R S T U V W X Y:Type u}{G:Prop}
variable (n:cU (A))(P:A->Prop)
abbrev pc1:=iu n λt=>P t
def pk1 (h:P (pc1 n P))(a):P a:=iM (P:=λt=>P t) h a
abbrev oc1:=pc1 n λa=>¬ P a
def ox1 (h:∃a,P a)(f:P (oc1 n P)->G):G:=lq λg=>ex1 h (pk1 n (λa=>¬ P a) λr=>g (f r))
variable (n:cU (A×B))(P:A->B->Prop)
abbrev pc2:=iu n λt=>P t.1 t.2
def pk2 (h:P (pc2 n P).1 (pc2 n P).2)(a b):P a b:=iM (P:=λt=>P t.1 t.2) h (a,b)
abbrev oc2:=pc2 n λa b=>¬ P a b
def ox2 (h:∃a b,P a b)(f:P (oc2 n P).1 (oc2 n P).2->G):G:=lq λg=>ex2 h (pk2 n (λa b=>¬ P a b) λr=>g (f r))
variable (n:cU ((A×B)×C))(P:A->B->C->Prop)
abbrev pc3:=iu n λt=>P t.1.1 t.1.2 t.2
def pk3 (h:P (pc3 n P).1.1 (pc3 n P).1.2 (pc3 n P).2)(a b c):P a b c:=iM (P:=λt=>P t.1.1 t.1.2 t.2) h ((a,b),c)
abbrev oc3:=pc3 n λa b c=>¬ P a b c
def ox3 (h:∃a b c,P a b c)(f:P (oc3 n P).1.1 (oc3 n P).1.2 (oc3 n P).2->G):G:=lq λg=>ex3 h (pk3 n (λa b c=>¬ P a b c) λr=>g (f r))
variable (n:cU ((A×B)×C×D))(P:A->B->C->D->Prop)
abbrev pc4:=iu n λt=>P t.1.1 t.1.2 t.2.1 t.2.2
def pk4 (h:P (pc4 n P).1.1 (pc4 n P).1.2 (pc4 n P).2.1 (pc4 n P).2.2)(a b c d):P a b c d:=iM (P:=λt=>P t.1.1 t.1.2 t.2.1 t.2.2) h ((a,b),(c,d))
abbrev oc4:=pc4 n λa b c d=>¬ P a b c d
def ox4 (h:∃a b c d,P a b c d)(f:P (oc4 n P).1.1 (oc4 n P).1.2 (oc4 n P).2.1 (oc4 n P).2.2->G):G:=lq λg=>ex4 h (pk4 n (λa b c d=>¬ P a b c d) λr=>g (f r))
variable (n:cU (((A×B)×C)×D×E))(P:A->B->C->D->E->Prop)
abbrev pc5:=iu n λt=>P t.1.1.1 t.1.1.2 t.1.2 t.2.1 t.2.2
def pk5 (h:P (pc5 n P).1.1.1 (pc5 n P).1.1.2 (pc5 n P).1.2 (pc5 n P).2.1 (pc5 n P).2.2)(a b c d e):P a b c d e:=iM (P:=λt=>P t.1.1.1 t.1.1.2 t.1.2 t.2.1 t.2.2) h (((a,b),c),(d,e))
abbrev oc5:=pc5 n λa b c d e=>¬ P a b c d e
def ox5 (h:∃a b c d e,P a b c d e)(f:P (oc5 n P).1.1.1 (oc5 n P).1.1.2 (oc5 n P).1.2 (oc5 n P).2.1 (oc5 n P).2.2->G):G:=lq λg=>ex5 h (pk5 n (λa b c d e=>¬ P a b c d e) λr=>g (f r))
variable (n:cU (((A×B)×C)×(D×E)×F))(P:A->B->C->D->E->F->Prop)
abbrev pc6:=iu n λt=>P t.1.1.1 t.1.1.2 t.1.2 t.2.1.1 t.2.1.2 t.2.2
def pk6 (h:P (pc6 n P).1.1.1 (pc6 n P).1.1.2 (pc6 n P).1.2 (pc6 n P).2.1.1 (pc6 n P).2.1.2 (pc6 n P).2.2)(a b c d e f):P a b c d e f:=iM (P:=λt=>P t.1.1.1 t.1.1.2 t.1.2 t.2.1.1 t.2.1.2 t.2.2) h (((a,b),c),((d,e),f))
abbrev oc6:=pc6 n λa b c d e f=>¬ P a b c d e f
def ox6 (h:∃a b c d e f,P a b c d e f)(f:P (oc6 n P).1.1.1 (oc6 n P).1.1.2 (oc6 n P).1.2 (oc6 n P).2.1.1 (oc6 n P).2.1.2 (oc6 n P).2.2->G):G:=lq λg=>ex6 h (pk6 n (λa b c d e f=>¬ P a b c d e f) λr=>g (f r))
variable (n:cU (((A×B)×C×D)×(E×F)×H))(P:A->B->C->D->E->F->H->Prop)
abbrev pc7:=iu n λt=>P t.1.1.1 t.1.1.2 t.1.2.1 t.1.2.2 t.2.1.1 t.2.1.2 t.2.2
def pk7 (h:P (pc7 n P).1.1.1 (pc7 n P).1.1.2 (pc7 n P).1.2.1 (pc7 n P).1.2.2 (pc7 n P).2.1.1 (pc7 n P).2.1.2 (pc7 n P).2.2)(a b c d e f g):P a b c d e f g:=iM (P:=λt=>P t.1.1.1 t.1.1.2 t.1.2.1 t.1.2.2 t.2.1.1 t.2.1.2 t.2.2) h (((a,b),(c,d)),((e,f),g))
abbrev oc7:=pc7 n λa b c d e f g=>¬ P a b c d e f g
def ox7 (h:∃a b c d e f g,P a b c d e f g)(f:P (oc7 n P).1.1.1 (oc7 n P).1.1.2 (oc7 n P).1.2.1 (oc7 n P).1.2.2 (oc7 n P).2.1.1 (oc7 n P).2.1.2 (oc7 n P).2.2->G):G:=lq λg=>ex7 h (pk7 n (λa b c d e f g=>¬ P a b c d e f g) λr=>g (f r))
variable (n:cU (((A×B)×C×D)×(E×F)×H×I))(P:A->B->C->D->E->F->H->I->Prop)
abbrev pc8:=iu n λt=>P t.1.1.1 t.1.1.2 t.1.2.1 t.1.2.2 t.2.1.1 t.2.1.2 t.2.2.1 t.2.2.2
def pk8 (h:P (pc8 n P).1.1.1 (pc8 n P).1.1.2 (pc8 n P).1.2.1 (pc8 n P).1.2.2 (pc8 n P).2.1.1 (pc8 n P).2.1.2 (pc8 n P).2.2.1 (pc8 n P).2.2.2)(a b c d e f g i):P a b c d e f g i:=iM (P:=λt=>P t.1.1.1 t.1.1.2 t.1.2.1 t.1.2.2 t.2.1.1 t.2.1.2 t.2.2.1 t.2.2.2) h (((a,b),(c,d)),((e,f),(g,i)))
abbrev oc8:=pc8 n λa b c d e f g i=>¬ P a b c d e f g i
def ox8 (h:∃a b c d e f g i,P a b c d e f g i)(f:P (oc8 n P).1.1.1 (oc8 n P).1.1.2 (oc8 n P).1.2.1 (oc8 n P).1.2.2 (oc8 n P).2.1.1 (oc8 n P).2.1.2 (oc8 n P).2.2.1 (oc8 n P).2.2.2->G):G:=lq λg=>ex8 h (pk8 n (λa b c d e f g i=>¬ P a b c d e f g i) λr=>g (f r))
variable (n:cU ((((A×B)×C)×D×E)×(F×H)×I×J))(P:A->B->C->D->E->F->H->I->J->Prop)
abbrev pc9:=iu n λt=>P t.1.1.1.1 t.1.1.1.2 t.1.1.2 t.1.2.1 t.1.2.2 t.2.1.1 t.2.1.2 t.2.2.1 t.2.2.2
def pk9 (h:P (pc9 n P).1.1.1.1 (pc9 n P).1.1.1.2 (pc9 n P).1.1.2 (pc9 n P).1.2.1 (pc9 n P).1.2.2 (pc9 n P).2.1.1 (pc9 n P).2.1.2 (pc9 n P).2.2.1 (pc9 n P).2.2.2)(a b c d e f g i j):P a b c d e f g i j:=iM (P:=λt=>P t.1.1.1.1 t.1.1.1.2 t.1.1.2 t.1.2.1 t.1.2.2 t.2.1.1 t.2.1.2 t.2.2.1 t.2.2.2) h ((((a,b),c),(d,e)),((f,g),(i,j)))
abbrev oc9:=pc9 n λa b c d e f g i j=>¬ P a b c d e f g i j
def ox9 (h:∃a b c d e f g i j,P a b c d e f g i j)(f:P (oc9 n P).1.1.1.1 (oc9 n P).1.1.1.2 (oc9 n P).1.1.2 (oc9 n P).1.2.1 (oc9 n P).1.2.2 (oc9 n P).2.1.1 (oc9 n P).2.1.2 (oc9 n P).2.2.1 (oc9 n P).2.2.2->G):G:=lq λg=>ex9 h (pk9 n (λa b c d e f g i j=>¬ P a b c d e f g i j) λr=>g (f r))
variable (n:cU ((((A×B)×C)×D×E)×((F×H)×I)×J×K))(P:A->B->C->D->E->F->H->I->J->K->Prop)
abbrev pc10:=iu n λt=>P t.1.1.1.1 t.1.1.1.2 t.1.1.2 t.1.2.1 t.1.2.2 t.2.1.1.1 t.2.1.1.2 t.2.1.2 t.2.2.1 t.2.2.2
def pk10 (h:P (pc10 n P).1.1.1.1 (pc10 n P).1.1.1.2 (pc10 n P).1.1.2 (pc10 n P).1.2.1 (pc10 n P).1.2.2 (pc10 n P).2.1.1.1 (pc10 n P).2.1.1.2 (pc10 n P).2.1.2 (pc10 n P).2.2.1 (pc10 n P).2.2.2)(a b c d e f g i j k):P a b c d e f g i j k:=iM (P:=λt=>P t.1.1.1.1 t.1.1.1.2 t.1.1.2 t.1.2.1 t.1.2.2 t.2.1.1.1 t.2.1.1.2 t.2.1.2 t.2.2.1 t.2.2.2) h ((((a,b),c),(d,e)),(((f,g),i),(j,k)))
abbrev oc10:=pc10 n λa b c d e f g i j k=>¬ P a b c d e f g i j k
def ox10 (h:∃a b c d e f g i j k,P a b c d e f g i j k)(f:P (oc10 n P).1.1.1.1 (oc10 n P).1.1.1.2 (oc10 n P).1.1.2 (oc10 n P).1.2.1 (oc10 n P).1.2.2 (oc10 n P).2.1.1.1 (oc10 n P).2.1.1.2 (oc10 n P).2.1.2 (oc10 n P).2.2.1 (oc10 n P).2.2.2->G):G:=lq λg=>ex10 h (pk10 n (λa b c d e f g i j k=>¬ P a b c d e f g i j k) λr=>g (f r))
variable (n:cU ((((A×B)×C×D)×(E×F)×H)×((I×J)×K)×(L×M)×N))(P:A->B->C->D->E->F->H->I->J->K->L->M->N->Prop)
abbrev pc13:=iu n λt=>P t.1.1.1.1 t.1.1.1.2 t.1.1.2.1 t.1.1.2.2 t.1.2.1.1 t.1.2.1.2 t.1.2.2 t.2.1.1.1 t.2.1.1.2 t.2.1.2 t.2.2.1.1 t.2.2.1.2 t.2.2.2
def pk13 (h:P (pc13 n P).1.1.1.1 (pc13 n P).1.1.1.2 (pc13 n P).1.1.2.1 (pc13 n P).1.1.2.2 (pc13 n P).1.2.1.1 (pc13 n P).1.2.1.2 (pc13 n P).1.2.2 (pc13 n P).2.1.1.1 (pc13 n P).2.1.1.2 (pc13 n P).2.1.2 (pc13 n P).2.2.1.1 (pc13 n P).2.2.1.2 (pc13 n P).2.2.2)(a b c d e f g i j k l m o):P a b c d e f g i j k l m o:=iM (P:=λt=>P t.1.1.1.1 t.1.1.1.2 t.1.1.2.1 t.1.1.2.2 t.1.2.1.1 t.1.2.1.2 t.1.2.2 t.2.1.1.1 t.2.1.1.2 t.2.1.2 t.2.2.1.1 t.2.2.1.2 t.2.2.2) h ((((a,b),(c,d)),((e,f),g)),(((i,j),k),((l,m),o)))
variable (n:cU ((((A×B)×C×D)×(E×F)×H×I)×((J×K)×L×M)×(N×O)×Q×R))(P:A->B->C->D->E->F->H->I->J->K->L->M->N->O->Q->R->Prop)
abbrev pc16:=iu n λt=>P t.1.1.1.1 t.1.1.1.2 t.1.1.2.1 t.1.1.2.2 t.1.2.1.1 t.1.2.1.2 t.1.2.2.1 t.1.2.2.2 t.2.1.1.1 t.2.1.1.2 t.2.1.2.1 t.2.1.2.2 t.2.2.1.1 t.2.2.1.2 t.2.2.2.1 t.2.2.2.2
def pk16 (h:P (pc16 n P).1.1.1.1 (pc16 n P).1.1.1.2 (pc16 n P).1.1.2.1 (pc16 n P).1.1.2.2 (pc16 n P).1.2.1.1 (pc16 n P).1.2.1.2 (pc16 n P).1.2.2.1 (pc16 n P).1.2.2.2 (pc16 n P).2.1.1.1 (pc16 n P).2.1.1.2 (pc16 n P).2.1.2.1 (pc16 n P).2.1.2.2 (pc16 n P).2.2.1.1 (pc16 n P).2.2.1.2 (pc16 n P).2.2.2.1 (pc16 n P).2.2.2.2)(a b c d e f g i j k l m o p q r):P a b c d e f g i j k l m o p q r:=iM (P:=λt=>P t.1.1.1.1 t.1.1.1.2 t.1.1.2.1 t.1.1.2.2 t.1.2.1.1 t.1.2.1.2 t.1.2.2.1 t.1.2.2.2 t.2.1.1.1 t.2.1.1.2 t.2.1.2.1 t.2.1.2.2 t.2.2.1.1 t.2.2.1.2 t.2.2.2.1 t.2.2.2.2) h ((((a,b),(c,d)),((e,f),(g,i))),(((j,k),(l,m)),((o,p),(q,r))))
variable (n:cU (((((A×B)×C)×D×E)×((F×H)×I)×J×K)×(((L×M)×N)×O×Q)×((R×S)×T)×U×V))(P:A->B->C->D->E->F->H->I->J->K->L->M->N->O->Q->R->S->T->U->V->Prop)
abbrev pc20:=iu n λt=>P t.1.1.1.1.1 t.1.1.1.1.2 t.1.1.1.2 t.1.1.2.1 t.1.1.2.2 t.1.2.1.1.1 t.1.2.1.1.2 t.1.2.1.2 t.1.2.2.1 t.1.2.2.2 t.2.1.1.1.1 t.2.1.1.1.2 t.2.1.1.2 t.2.1.2.1 t.2.1.2.2 t.2.2.1.1.1 t.2.2.1.1.2 t.2.2.1.2 t.2.2.2.1 t.2.2.2.2
def pk20 (h:P (pc20 n P).1.1.1.1.1 (pc20 n P).1.1.1.1.2 (pc20 n P).1.1.1.2 (pc20 n P).1.1.2.1 (pc20 n P).1.1.2.2 (pc20 n P).1.2.1.1.1 (pc20 n P).1.2.1.1.2 (pc20 n P).1.2.1.2 (pc20 n P).1.2.2.1 (pc20 n P).1.2.2.2 (pc20 n P).2.1.1.1.1 (pc20 n P).2.1.1.1.2 (pc20 n P).2.1.1.2 (pc20 n P).2.1.2.1 (pc20 n P).2.1.2.2 (pc20 n P).2.2.1.1.1 (pc20 n P).2.2.1.1.2 (pc20 n P).2.2.1.2 (pc20 n P).2.2.2.1 (pc20 n P).2.2.2.2)(a b c d e f g i j k l m o p q r s t u v):P a b c d e f g i j k l m o p q r s t u v:=iM (P:=λt=>P t.1.1.1.1.1 t.1.1.1.1.2 t.1.1.1.2 t.1.1.2.1 t.1.1.2.2 t.1.2.1.1.1 t.1.2.1.1.2 t.1.2.1.2 t.1.2.2.1 t.1.2.2.2 t.2.1.1.1.1 t.2.1.1.1.2 t.2.1.1.2 t.2.1.2.1 t.2.1.2.2 t.2.2.1.1.1 t.2.2.1.1.2 t.2.2.1.2 t.2.2.2.1 t.2.2.2.2) h (((((a,b),c),(d,e)),(((f,g),i),(j,k))),((((l,m),o),(p,q)),(((r,s),t),(u,v))))
variable (n:cU (((((A×B)×C)×(D×E)×F)×((H×I)×J)×(K×L)×M)×(((N×O)×Q)×(R×S)×T)×((U×V)×W)×X×Y))(P:A->B->C->D->E->F->H->I->J->K->L->M->N->O->Q->R->S->T->U->V->W->X->Y->Prop)
abbrev pc23:=iu n λt=>P t.1.1.1.1.1 t.1.1.1.1.2 t.1.1.1.2 t.1.1.2.1.1 t.1.1.2.1.2 t.1.1.2.2 t.1.2.1.1.1 t.1.2.1.1.2 t.1.2.1.2 t.1.2.2.1.1 t.1.2.2.1.2 t.1.2.2.2 t.2.1.1.1.1 t.2.1.1.1.2 t.2.1.1.2 t.2.1.2.1.1 t.2.1.2.1.2 t.2.1.2.2 t.2.2.1.1.1 t.2.2.1.1.2 t.2.2.1.2 t.2.2.2.1 t.2.2.2.2
def pk23 (h:P (pc23 n P).1.1.1.1.1 (pc23 n P).1.1.1.1.2 (pc23 n P).1.1.1.2 (pc23 n P).1.1.2.1.1 (pc23 n P).1.1.2.1.2 (pc23 n P).1.1.2.2 (pc23 n P).1.2.1.1.1 (pc23 n P).1.2.1.1.2 (pc23 n P).1.2.1.2 (pc23 n P).1.2.2.1.1 (pc23 n P).1.2.2.1.2 (pc23 n P).1.2.2.2 (pc23 n P).2.1.1.1.1 (pc23 n P).2.1.1.1.2 (pc23 n P).2.1.1.2 (pc23 n P).2.1.2.1.1 (pc23 n P).2.1.2.1.2 (pc23 n P).2.1.2.2 (pc23 n P).2.2.1.1.1 (pc23 n P).2.2.1.1.2 (pc23 n P).2.2.1.2 (pc23 n P).2.2.2.1 (pc23 n P).2.2.2.2)(a b c d e f g i j k l m o p q r s t u v w x y):P a b c d e f g i j k l m o p q r s t u v w x y:=iM (P:=λt=>P t.1.1.1.1.1 t.1.1.1.1.2 t.1.1.1.2 t.1.1.2.1.1 t.1.1.2.1.2 t.1.1.2.2 t.1.2.1.1.1 t.1.2.1.1.2 t.1.2.1.2 t.1.2.2.1.1 t.1.2.2.1.2 t.1.2.2.2 t.2.1.1.1.1 t.2.1.1.1.2 t.2.1.1.2 t.2.1.2.1.1 t.2.1.2.1.2 t.2.1.2.2 t.2.2.1.1.1 t.2.2.1.1.2 t.2.2.1.2 t.2.2.2.1 t.2.2.2.2) h (((((a,b),c),((d,e),f)),(((g,i),j),((k,l),m))),((((o,p),q),((r,s),t)),(((u,v),w),(x,y))))
end
open PySem
set_option genInjectivity true in
inductive AV where
 |none |bool (b:aB) |int (i:Int) |str (s:au)
 |one (a:AV) |pair (a b:AV) |dB (a b c:AV)
 |ref (i:ak) |fn (n:au) |ty (n:aI) |bi (n:aI)
 |gW (l:ah Int) |code (q:au) |cL (l:ah au)
deriving Inhabited
inductive AO where
 |list (l:ah AV) |cell (v:ax AV) |inst (d:ak) |bc (l:ah (au×AV))
 |dict (l:ah ((au ⊕ Int)×AV)) |iter (src:ax ak) (i:ak) |obj
 |lam (args:fj) (body:aH) (sc:bN) (cel:ah (au×ak))
deriving Inhabited
@[reducible] abbrev St:=ah AO
inductive Res (β:Type) where
 |ok (b:β) |err (k:aI)
structure P (β:Type) where
 run:St->(Res β->St->Prop)->Prop
 mono:∀{st:St} {p q:Res β->St->Prop},(∀r bh,p r bh->q r bh)->run st p->run st q
namespace P
abbrev pure {β:Type}(b:β):P β:=⟨λst p=>p (.ok b) st,λh x=>h _ _ x⟩
abbrev fail {β:Type}:P β:=⟨λu u=>dm,λu x=>x⟩
abbrev err {β:Type}(k:aI):P β:=⟨λst p=>p (.err k) st,λh x=>h _ _ x⟩
abbrev bind {β γ:Type}(m:P β)(f:β->P γ):P γ:=
 ⟨λst p=>m.run st λr bh=>match r with
  |.ok b=>(f b).run bh p
  |.err k=>p (.err k) bh,
   λ{st p q} h x=>m.mono (λr bh y=>by
  cases r with
  |ok b=>exact(f b).mono h y
  |err k=>exact h _ _ y) x⟩
noncomputable instance:Monad P where
 pure:=P.pure
 bind:=P.bind
abbrev get:P St:=⟨λst p=>p (.ok st) st,λh x=>h _ _ x⟩
abbrev set (bh:St):P b8:=⟨λu p=>p (.ok ()) bh,λh x=>h _ _ x⟩
abbrev perm {α:Type}(l:ah α):P (ah α):=⟨λst p=>∀l',l'.Perm l->p (.ok l') st,λh x l' hl=>h _ _ (x l' hl)⟩
abbrev uE {β γ:Type}(m:P β)(ok:β->P γ)(bad:aI->P γ):P γ:=
 ⟨λst p=>m.run st λr bh=>match r with
  |.ok b=>(ok b).run bh p
  |.err k=>(bad k).run bh p,
   λ{st p q} h x=>m.mono (λr bh y=>by
  cases r with
  |ok b=>exact(ok b).mono h y
  |err k=>exact(bad k).mono h y) x⟩
abbrev alloc (o:AO):P ak:=⟨λst p=>p (.ok st.length) (st++[o]),λh x=>h _ _ x⟩
abbrev load (i:ak):P AO:=⟨λst p=>match st[i]? with |some o=>p (.ok o) st |Option.none=>dm,λ{st p q} h x=>by
 revert x;cases st[i]? with
 |none=>exact id
 |some o=>exact h _ _⟩
abbrev store (i:ak)(o:AO):P b8:=⟨λst p=>p (.ok ()) (st.set i o),λh x=>h _ _ x⟩
abbrev guard (c:Prop)[wu c]:P b8:=if c then P.pure ()else P.fail
abbrev opt {β:Type}:ax β->P β
 |some b=>P.pure b
 |Option.none=>P.fail
section
variable {β γ:Type}{st:St}{p:Res β->St->Prop}
@[simp] def run_pure (b:β):(P.pure b).run st p=p (.ok b) st:=rfl
@[simp] def Wi (b:β):(tm b:P β).run st p=p (.ok b) st:=rfl
@[simp] def Wj:(P.fail:P β).run st p=dm:=rfl
@[simp] def Wk (k:aI):(P.err k:P β).run st p=p (.err k) st:=rfl
def run_bind (m:P γ)(f:γ->P β):(m>>=f).run st p=m.run st λr bh=>match r with
  |.ok b=>(f b).run bh p
  |.err k=>p (.err k) bh:=rfl
@[simp] def Wl {p:Res ak->St->Prop}(o:AO):(P.alloc o).run st p=p (.ok st.length) (st++[o]):=rfl
@[simp] def Wm {p:Res b8->St->Prop}(i:ak)(o:AO):(P.store i o).run st p=p (.ok ()) (st.set i o):=rfl
def run_load {p:Res AO->St->Prop}{i:ak}{o:AO}(h:st[i]? =ae o):(P.load i).run st p=p (.ok o) st:=by
 show(match st[i]? with |some o=>p (.ok o) st |Option.none=>dm)=_;rw[h]
end
end P
@[reducible] abbrev Or:=AV->ah AV->ah (au×AV)->P AV
inductive FL where
 |next |brk |cont |ret (v:AV)
inductive AI where
 |list (src:ax ak) (i:ak)
 |set (left:ah au)
 |range (cur:Int) (left:ak) (step:Int)
 |zip (a b:AI)
 |enum (n:Int) (a:AI)
 |obj (i:ak)
abbrev lst (i:ak):P (ah AV):=do
 match <-P.load i with
 |.list l=>P.pure l
 |_=>P.fail
abbrev bx:AI->P (ax (AV×AI))
 |.list bq _=>P.pure bq
 |.list (ae s) i=>do
  let l <-lst s
  match l[i]? with
  |some v=>P.pure (ae (v,.list (ae s) (i+1)))
  |Option.none=>P.pure bq
 |.set []=>P.pure bq
 |.set (v :: l)=>P.pure (ae (.str v,.set l))
 |.range _ 0 _=>P.pure bq
 |.range c (n+1) d=>P.pure (ae (.int c,.range (c+d) n d))
 |.zip a b=>do
  match <-bx a with
  |Option.none=>P.pure bq
  |some (x,a')=>
   match <-bx b with
   |Option.none=>P.pure bq
   |some (y,b')=>P.pure (ae (.pair x y,.zip a' b'))
 |.enum n a=>do
  match <-bx a with
  |Option.none=>P.pure bq
  |some (x,a')=>P.pure (ae (.pair (.int n) x,.enum (n+1) a'))
 |.obj i=>do
  match <-P.load i with
  |.iter bq _=>P.pure bq
  |.iter (ae s) k=>
   let l <-lst s
   match l[k]? with
   |some v=>P.store i (.iter (ae s) (k+1));P.pure (ae (v,.obj i))
   |Option.none=>P.store i (.iter bq 0);P.pure bq
  |_=>P.fail
abbrev c8 (f:AV->ax hZ):ah AV->ax (ah hZ)
 | []=>ae []
 |x :: l=>match f x,c8 f l with
  |some d,ae ds=>ae (d :: ds)
  |_,_=>bq
abbrev uF:AV->ax hZ
 |.none=>ae .none
 |.bool b=>ae (.bool b)
 |.int i=>ae (.int i)
 |.str s=>if cY s then ae (.str s)else bq
 |_=>bq
abbrev gd:AV->ax (ah AV)
 |.one a=>ae [a]
 |.pair a b=>ae [a,b]
 |.dB a b c=>ae [a,b,c]
 |_=>bq
abbrev refOf:AV->ax ak
 |.ref i=>ae i
 |_=>bq
abbrev listOf:AO->ax (ah AV)
 |.list l=>ae l
 |_=>bq
abbrev a8:ak->St->AV->ax hZ
 | 0,_,v=>uF v
 |n+1,st,v=>match gd v with
  |some l=>(c8 (a8 n st) l).map .tuple
  |Option.none=>match refOf v with
   |some i=>(st[i]?.bind listOf).bind λl=>(c8 (a8 n st) l).map .list
   |Option.none=>uF v
abbrev dF:AV->P Int
 |.int i=>P.pure i
 |_=>P.fail
abbrev nD:AV->P au
 |.str i=>P.pure i
 |_=>P.fail
abbrev Jv:AV->P aI
 |.ty i=>P.pure i
 |_=>P.fail
abbrev e9:AV->P ak
 |.ref i=>P.pure i
 |_=>P.fail
abbrev oO:ah AV->P AV
 | [a,b]=>P.pure (.pair a b)
 | [a,b,c]=>P.pure (.dB a b c)
 |_=>P.fail
abbrev cz (l:ah AV):P AV:=do
 P.guard (l.length<=4096)
 let i <-P.alloc (.list l)
 P.pure (.ref i)
abbrev eE:AV->P aB
 |.none=>P.pure az
 |.bool b=>P.pure b
 |.int i=>P.pure (i != 0)
 |.str s=>do P.guard (s.length<=4096);P.pure (s.length != 0)
 |.ref i=>do
  match <-P.load i with
  |.list l=>P.pure (!l.isEmpty)
  |.dict l=>P.pure (!l.isEmpty)
  |_=>P.fail
 |_=>P.fail
abbrev Jw:jW->Int->Int->P AV
 |.Add,a,b=>P.pure (.int (a+b))
 |.Sub,a,b=>P.pure (.int (a - b))
 |.Mult,a,b=>do P.guard (a.natAbs < 2 ^ 62/\b.natAbs < 2 ^ 62);P.pure (.int (a * b))
 |.FloorDiv,a,b=>do P.guard (0 < b/\b < 2 ^ 29);P.pure (.int (a.fdiv b))
 |.Mod,a,b=>do P.guard (0 < b/\b < 2 ^ 29);P.pure (.int (a.fmod b))
 |.Pow,a,b=>do P.guard (0<=b/\b<=60/\a.natAbs < 2 ^ 62);P.pure (.int (a ^ b.toNat))
 |.RShift,a,b=>do P.guard (b=1);P.pure (.int (a.fdiv 2))
 |_,_,_=>P.fail
abbrev gf (op:jW)(a b:AV):P AV:=match a with
 |.int i=>do
  let j <-dF b
  Jw op i j
 |.str x=>do
  P.guard (op= .Add)
  let y <-nD b
  P.guard (x.length+y.length<=4096);P.pure (.str (x++y))
 |.ref i=>do
  P.guard (op= .Add)
  let j <-e9 b
  cz ((<-lst i)++(<-lst j))
 |_=>P.fail
abbrev lI (a b:AV):P aB:=do
 let st <-P.get
 match a8 8 st a,a8 8 st b with
 |some x,ae y=>P.pure (bY x y)
 |_,_=>P.fail
abbrev xC (x:AV)(l:ah AV):P aB:=do
 let st <-P.get
 match a8 8 st x,c8 (a8 8 st) l with
 |some d,ae ds=>P.pure (ds.any λy=>bY y d)
 |_,_=>P.fail
abbrev gF:AV->ax (au ⊕ Int)
 |.str x=>ae (.inl x)
 |.int i=>ae (.inr i)
 |_=>bq
abbrev eF (l:ah ((au ⊕ Int)×AV))(k:au ⊕ Int):ax AV:=(l.find? λp=>p.1=k).map (·.2)
abbrev putD (l:ah ((au ⊕ Int)×AV))(k:au ⊕ Int)(v:AV):ah ((au ⊕ Int)×AV):=
 if l.any (λp=>p.1=k)then l.map (λp=>if p.1=k then (p.1,v)else p)else l++[(k,v)]
abbrev keyOk:AV->aB
 |.str _=>aj
 |.int _=>aj
 |_=>az
abbrev inSet (l:ah au):AV->aB
 |.str y=>l.contains y
 |_=>az
abbrev intOf:AV->ax Int
 |.int i=>ae i
 |_=>bq
abbrev nE:AV->ax (Int×Int)
 |.dB a b _=>(intOf a).bind λi=>(intOf b).map λj=>(i,j)
 |_=>bq
abbrev BU:ax (Int×Int)->ax (Int×Int)->P aB
 |some (a,b),ae (c,d)=>if a=c then (if b=d then P.fail else P.pure (decide (b < d)))else P.pure (decide (a < c))
 |_,_=>P.fail
abbrev xD:AV->aB
 |.none=>aj
 |_=>az
abbrev BV (a b:AV):P aB:=match a with
 |.int i=>do
  let j <-dF b
  P.pure (decide (i < j))
 |_=>BU (nE a) (nE b)
abbrev isA (a b:AV):P aB:=match b with
 |.none=>P.pure (xD a)
 |.ref j=>match refOf a with
  |some i=>P.pure (i == j)
  |Option.none=>do
   let _ <-P.opt (gd a)
   P.pure az
 |.ty n=>do
  let m <-Jv a
  P.pure (m == n)
 |_=>P.fail
abbrev BW (x b:AV):P aB:=match b with
 |.cL l=>do P.guard (keyOk x=aj);P.pure (inSet l x)
 |.ref i=>do
  match <-P.load i with
  |.list l=>xC x l
  |.dict l=>do
   let k <-P.opt (gF x)
   P.pure (eF l k).isSome
  |_=>P.fail
 |_=>P.fail
abbrev dQ (op:pD)(a b:AV):P aB:=match op with
 |.Eq=>lI a b
 |.NotEq=>do return !(<-lI a b)
 |.Lt=>BV a b
 |.Gt=>do
  let i <-dF a
  let j <-dF b
  P.pure (decide (i > j))
 |.GtE=>do
  let i <-dF a
  let j <-dF b
  P.pure (decide (i ≥ j))
 |.Is=>isA a b
 |.In=>BW a b
 |_=>P.fail
abbrev iw (t k:AV):P AV:=match refOf t with
 |some i=>do
  let o <-P.load i
  match o with
  |.list l=>do
   let j <-dF k
   P.guard (-(2 ^ 62) < j/\j < 2 ^ 62)
   P.opt (if 0<=j then l[j.toNat]? else if 0<=j+l.length then l[(j+l.length).toNat]? else bq)
  |.dict l=>do
   let k <-P.opt (gF k)
   P.opt (eF l k)
  |_=>P.fail
 |Option.none=>do
  let j <-dF k
  P.guard (0<=j/\j < 8)
  let l <-P.opt (gd t)
  P.opt l[j.toNat]?
abbrev oP:ax AV->P (ax Int)
 |Option.none=>P.pure bq
 |some v=>do
  let j <-dF v
  P.pure (ae j)
abbrev ix (d n:ak):ax Int->ak
 |Option.none=>d
 |some j=>min j.toNat n
abbrev nG:ax Int->aB
 |Option.none=>aj
 |some j=>decide (0<=j) && decide (j < 2 ^ 62)
abbrev uG (l:ah AV)(a b:ax Int):P AV:=do
 P.guard (nG a=aj/\nG b=aj)
 cz ((l.take (ix l.length l.length b)).drop (ix 0 l.length a))
abbrev kq (x:AV)(lo hi:ax AV):P AV:=do
 let a <-oP lo
 let b <-oP hi
 match x with
 |.ref i=>do
  let l <-lst i
  uG l a b
 |.gW l=>uG (l.map .int) a b
 |.str s=>do
  P.guard (s.length<=4096)
  P.pure (.str (lr s a b))
 |_=>P.fail
abbrev oQ (x k v:AV):P b8:=do
 let i <-e9 x
 let o <-P.load i
 match o with
 |.list l=>do
  let j <-dF k
  P.guard (0<=j/\j.toNat < l.length/\j < 2 ^ 62)
  P.store i (.list (l.set j.toNat v))
 |.dict l=>do
  let k <-P.opt (gF k)
  P.guard (l.length<=64)
  P.store i (.dict (putD l k v))
 |_=>P.fail
abbrev putField (l:ah (au×AV))(k:au)(v:AV):ah (au×AV):=
 if l.any (λp=>p.1 == k)then l.map (λp=>if p.1 == k then (p.1,v)else p)else l++[(k,v)]
abbrev xE:AV->aB
 |.bi _=>az
 |_=>aj
abbrev p7:ah au:=[aq "_mods",aq "_dirs",aq "_ignore"]
abbrev uH (i:ak):P (ak×ah (au×AV)):=do
 match <-P.load i with
 |.inst d=>do
  match <-P.load d with
  |.bc l=>P.pure (d,l)
  |_=>P.fail
 |_=>P.fail
abbrev mB (o:AV)(n:au):P AV:=do
 P.guard (n∈p7)
 let i <-e9 o
 let p <-uH i
 let v <-P.opt (p.2.lookup n)
 P.guard (xE v=aj)
 P.pure v
abbrev p8 (o:AV)(n:au)(v:AV):P b8:=do
 P.guard (n∈p7)
 let i <-e9 o
 let p <-uH i
 P.guard (p.2.length<=64)
 P.store p.1 (.bc (putField p.2 n v))
abbrev rN (i:ak):P AI:=do
 match <-P.load i with
 |.list _=>P.pure (.list (ae i) 0)
 |.iter _ _=>P.pure (.obj i)
 |_=>P.fail
abbrev jI:AV->P AI
 |.ref i=>rN i
 |.cL l=>do
  let l' <-P.perm l
  P.pure (.set l')
 |_=>P.fail
abbrev intsOf:ah AV->ax (ah Int)
 | []=>ae []
 |.int i :: l=>(intsOf l).map (i :: ·)
 |_ :: _=>bq
abbrev sortBy {α:Type}(lt:α->α->aB):ah α->ah α
 | []=>[]
 |x :: l=>cf lt x (sortBy lt l)
where
 cf (lt:α->α->aB) (x:α):ah α->ah α
  | []=>[x]
  |y :: l=>if lt y x then y :: cf lt x l else x :: y :: l
abbrev cX (a b:Int×Int):aB:=decide (a.1 < b.1) || (a.1 == b.1 && decide (a.2 < b.2))
abbrev rO:ah AV->ax (ah ((Int×Int)×AV))
 | []=>ae []
 |v :: l=>(nE v).bind λk=>(rO l).map ((k,v) :: ·)
abbrev uI (rev:aB)(l:ah AV):P (ah AV):=do
 let ks <-P.opt (rO l)
 P.guard ((ks.map (·.1)).Nodup/\l.length<=4)
 P.pure ((sortBy (λx y=>if rev then cX y.1 x.1 else cX x.1 y.1) ks).map (·.2))
abbrev nH (F:Or)(k:AV):ah AV->P (ah (Int×AV))
 | []=>P.pure []
 |v :: l=>do
  let i <-dF (<-F k [v] [])
  return (i,v) :: (<-nH F k l)
abbrev uJ (g:aB)(i:Int)(x:AV):ax (Int×AV)->Int×AV
 |Option.none=>(i,x)
 |some p=>if (if g then decide (p.1 < i)else decide (i < p.1))then (i,x)else p
abbrev oR (F:Or)(k d:AV)(g:aB):ak->AI->ax (Int×AV)->P AV
 | 0,_,_=>P.fail
 |n+1,it,old=>do
  match <-bx it with
  |Option.none=>P.pure (old.elim d (·.2))
  |some (x,jJ)=>do
   let r <-F k [x] []
   let i <-dF r
   oR F k d g n jJ (ae (uJ g i x old))
abbrev isCallable (x:AV):P b8:=do
 let i <-e9 x
 match <-P.load i with
 |.lam .. =>P.pure ()
 |_=>P.fail
abbrev strsOf:ah AV->ax (ah au)
 | []=>ae []
 |.str i :: l=>(strsOf l).map (i :: ·)
 |_ :: _=>bq
abbrev one:ah AV->P AV
 |x :: l=>do P.guard (l.isEmpty=aj);P.pure x
 | []=>P.fail
abbrev rP (l:ah AV):P b8:=P.guard (l.isEmpty=aj)
abbrev noKw (l:ah (au×AV)):P b8:=P.guard (l.isEmpty=aj)
abbrev p9 (n:au):ah (au×AV)->P (AV×ah (au×AV))
 |p :: l=>do P.guard (p.1=n);P.pure (p.2,l)
 | []=>P.fail
abbrev BX:AV->P b8
 |.bool aj=>P.pure ()
 |_=>P.fail
abbrev uK:ah (au×AV)->P aB
 | []=>P.pure az
 |p :: l=>do
  let q <-p9 (aq "reverse") (p :: l)
  BX q.1
  noKw q.2
  P.pure aj
inductive BI where
 |len |iter |object |sum |list |set |type |sorted |best (greatest:aB)
abbrev Jx:BI->AV
 |.len=>.bi "len" |.iter=>.bi "iter" |.object=>.ty "object" |.sum=>.bi "sum" |.list=>.ty "list" |.set=>.ty "set" |.type=>.ty "type"
 |.sorted=>.bi "sorted" |.best g=>.bi (if g then "max" else "min")
abbrev qa:AV->ax BI
 |.bi n=>if n="len" then ae .len else if n="iter" then ae .iter else if n="sum" then ae .sum else if n="sorted" then ae .sorted
  else if n="min" then ae (.best az)else if n="max" then ae (.best aj)else bq
 |.ty n=>if n="object" then ae .object else if n="list" then ae .list else if n="set" then ae .set else if n="type" then ae .type else bq
 |_=>bq
abbrev jK (F:Or)(args:ah AV)(kw:ah (au×AV)):BI->P AV
 |.len=>do
  let x <-one args
  noKw kw
  match gd x with
  |some l=>P.pure (.int l.length)
  |Option.none=>do
   let i <-e9 x
   match <-P.load i with
   |.list l=>P.pure (.int l.length)
   |.iter _ _=>P.err "TypeError"
   |_=>P.fail
 |.iter=>do
  let x <-one args
  noKw kw
  let i <-e9 x
  match <-P.load i with
  |.list _=>do let j <-P.alloc (.iter (ae i) 0);P.pure (.ref j)
  |.iter _ _=>P.pure (.ref i)
  |_=>P.fail
 |.object=>do
  rP args
  noKw kw
  let j <-P.alloc .obj
  P.pure (.ref j)
 |.sum=>do
  let x <-one args
  noKw kw
  let i <-e9 x
  let l <-lst i
  let ns <-P.opt (intsOf l)
  P.pure (.int ns.sum)
 |.list=>do
  let x <-one args
  noKw kw
  let i <-e9 x
  match <-P.load i with
  |.list l=>cz l
  |.iter s k=>match s with
   |Option.none=>cz []
   |some s=>do
    let l <-lst s
    P.guard (k<=l.length/\l.length<=4096)
    P.store i (.iter bq 0)
    cz (l.drop k)
  |_=>P.fail
 |.set=>do
  noKw kw
  if args.isEmpty then P.pure (.cL [])else do
   let x <-one args
   let i <-e9 x
   let l <-lst i
   let xs <-P.opt (strsOf l)
   P.guard (xs.Nodup/\xs.length<=3)
   P.pure (.cL xs)
 |.type=>do
  let x <-one args
  noKw kw
  match x with
  |.str _=>P.pure (.ty "str")
  |.int _=>P.pure (.ty "int")
  |_=>P.fail
 |.sorted=>do
  let x <-one args
  let q <-p9 (aq "key") kw
  let rev <-uK q.2
  let i <-e9 x
  let l <-lst i
  P.guard (l.length<=4)
  isCallable q.1
  let ks <-nH F q.1 l
  cz ((sortBy (λx y=>if rev then decide (y.1 < x.1)else decide (x.1 < y.1)) ks).map (·.2))
 |.best g=>do
  let x <-one args
  let d <-p9 (aq "default") kw
  let q <-p9 (aq "key") d.2
  noKw q.2
  let i <-e9 x
  isCallable q.1
  oR F q.1 d.1 g 65 (.obj i) bq
abbrev xF (F:Or)(f:AV)(args:ah AV)(kw:ah (au×AV)):P AV:=do
 let b <-P.opt (qa f)
 jK F args kw b
inductive km where
 |startswith |split |join |append |extend |pop |sort |names
deriving DecidableEq
abbrev rQ (m:au):ax km:=
 if m=aq "startswith" then ae .startswith else if m=aq "split" then ae .split else if m=aq "join" then ae .join
 else if m=aq "append" then ae .append else if m=aq "extend" then ae .extend else if m=aq "pop" then ae .pop
 else if m=aq "sort" then ae .sort else if m=aq "names" then ae .names else bq
abbrev lJ (o:AV)(n:km):P b8:=match o with
 |.str _=>P.guard (n= .startswith\/n= .split\/n= .join)
 |.ref i=>do
  match <-P.load i with
  |.list _=>P.guard (n= .append\/n= .extend\/n= .pop\/n= .sort)
  |.inst d=>do
   match <-P.load d with
   |.bc l=>P.guard (n= .names/\(l.lookup (aq "names")).isNone=aj)
   |_=>P.fail
  |_=>P.fail
 |_=>P.fail
abbrev fb (F:Or)(o:AV)(n:km)(args:ah AV)(kw:ah (au×AV)):P AV:=match n with
 |.startswith=>do
  let s <-nD o
  let x <-one args
  noKw kw
  let p <-nD x
  P.pure (.bool (pE s p))
 |.split=>do
  let s <-nD o
  let x <-one args
  noKw kw
  let c <-nD x
  P.guard ((c.length == 0)=az/\s.length<=4096/\(m6 s (l7 s c 0 s.length (s.length+1)) c.length).length<=4096)
  cz ((aU s c).map .str)
 |.join=>do
  let s <-nD o
  let x <-one args
  noKw kw
  let i <-e9 x
  let vs <-lst i
  let l <-P.opt (strsOf vs)
  P.guard (pF s l=aj)
  P.pure (.str (jx s l))
 |.append=>do
  let i <-e9 o
  let v <-one args
  noKw kw
  let l <-lst i
  P.guard (l.length<=4096);P.store i (.list (l++[v]));P.pure .none
 |.extend=>do
  let i <-e9 o
  let x <-one args
  noKw kw
  let j <-e9 x
  let l <-lst i
  let l' <-lst j
  P.guard (i≠j/\l.length<=4096/\l'.length<=4096)
  P.store i (.list (l++l'));P.pure .none
 |.pop=>do
  let i <-e9 o
  rP args
  noKw kw
  let l <-lst i
  let v <-P.opt l.getLast?
  P.store i (.list l.dropLast);P.pure v
 |.sort=>do
  let i <-e9 o
  rP args
  let rev <-uK kw
  let l <-lst i
  let l' <-uI rev l
  P.store i (.list l');P.pure .none
 |.names=>do
  let i <-e9 o
  noKw kw
  F (.fn (aq "_Ignore.names")) (.ref i :: args) []
abbrev qb (n:au):ax AV:=
 if n == aq "sep" then ae (.str (aq "/"))
 else match ([("len",AV.bi "len"),("reversed",.ty "reversed"),("range",.ty "range"),("iter",.bi "iter"),("object",.ty "object"),("min",.bi "min"),("max",.bi "max"),
   ("sorted",.bi "sorted"),("zip",.ty "zip"),("type",.ty "type"),("str",.ty "str"),("int",.ty "int"),("bool",.ty "bool"),("float",.ty "float"),("tuple",.ty "tuple"),("dict",.ty "dict"),("set",.ty "set"),("enumerate",.ty "enumerate"),("sum",.bi "sum"),("list",.ty "list"),("AttributeError",.ty "AttributeError"),("TypeError",.ty "TypeError")].find? λp=>n == aq p.1)with
  |some p=>ae p.2
  |Option.none=>if ["heapreplace","heapify","_heapreplace_max","_heapify_max","_siftdown","_siftup","_siftdown_max","_siftup_max","nsmallest","nlargest","_kind","_c_path","_splitroot","_normpath","normpath","_Ignore","_law_to_be_left_out","_law_ranks","_law_few","_law_says"].any λp=>n == aq p then ae (.fn n)else bq
structure RT where
 F:Or
 cel:ah (au×ak)
 loc:ah (ax AV)
abbrev mC:au:=aq "asks"
abbrev fc (sc:bN):aB:=decide (sc.kind= .function) && !sc.isGenerator && !sc.isCoroutine && (sc.names.all λp=>p.2 != .local || sc.names.lookup p.1 == ae .local) && sc.names.lookup mC != ae .cell
abbrev cM (sc:bN)(n:au):ax l8:=sc.names.lookup n
abbrev lK (sc:bN)(n:au):ax ak:=sc.names.findIdx? λp=>p.1 == n
abbrev BY (i:ak)(r:RT):P AV:=P.opt (r.loc[i]?.join)
abbrev uL (x:au)(r:RT):P AV:=do
 let c <-P.opt (r.cel.lookup x)
 match <-P.load c with
 |.cell (ae v)=>P.pure v
 |_=>P.fail
abbrev xG (i:ak)(v:AV)(r:RT):P (ah (ax AV)):=P.pure (r.loc.set i (ae v))
abbrev kr (x:au)(v:AV)(r:RT):P (ah (ax AV)):=do
 let c <-P.opt (r.cel.lookup x)
 match <-P.load c with
 |.cell _=>do P.store c (.cell (ae v));P.pure r.loc
 |_=>P.fail
abbrev DE:=RT->P AV
abbrev DT:=RT->P aB
abbrev DI:=RT->P AI
abbrev DA:=AV->RT->P (ah (ax AV))
abbrev DS:=RT->P (FL×ah (ax AV))
abbrev forA (body:DS)(put:DA):ak->AI->RT->P (FL×ah (ax AV))
 | 0,_,_=>P.fail
 |n+1,it,r=>do
  match <-bx it with
  |Option.none=>P.pure (.next,r.loc)
  |some (v,jJ)=>do
   let loc <-put v r
   let (f,lL) <-body { r with loc:=loc }
   match f with
   |.next |.cont=>forA body put n jJ { r with loc:=lL }
   |.brk=>P.pure (.next,lL)
   |.ret v=>P.pure (.ret v,lL)
abbrev iN (test:DT)(body:DS):ak->RT->P (FL×ah (ax AV))
 | 0,_=>P.fail
 |n+1,r=>do
  if <-test r then do
   let (f,lL) <-body r
   match f with
   |.next |.cont=>iN test body n { r with loc:=lL }
   |.brk=>P.pure (.next,lL)
   |.ret v=>P.pure (.ret v,lL)
  else P.pure (.next,r.loc)
abbrev cw (elt:DE)(ifs:ah DT)(put:DA):ak->AI->RT->ah AV->P (ah AV)
 | 0,_,_,_=>P.fail
 |n+1,it,r,acc=>do
  match <-bx it with
  |Option.none=>P.pure acc
  |some (v,jJ)=>do
   let loc <-put v r
   let r':={ r with loc:=loc }
   let ok <-ifs.foldlM (λb t=>if b then t r' else P.pure az) aj
   if ok then do
    P.guard (acc.length<=4096)
    let x <-elt r'
    cw elt ifs put n jJ r' (acc++[x])
   else cw elt ifs put n jJ r' acc
abbrev dG:ah DE->RT->P (ah AV)
 | [],_=>P.pure []
 |d :: ds,r=>do
  let v <-d r
  return v :: (<-dG ds r)
abbrev fW:ah (au×DE)->RT->P (ah (au×AV))
 | [],_=>P.pure []
 |(n,d) :: ds,r=>do
  let v <-d r
  return (n,v) :: (<-fW ds r)
abbrev ji:ah DA->ah AV->RT->P (ah (ax AV))
 | [],[],r=>P.pure r.loc
 |a :: as,v :: vs,r=>do
  let loc <-a v r
  ji as vs { r with loc:=loc }
 |_,_,_=>P.fail
abbrev oS:n8->ax AV
 |.none=>ae .none
 |.bool b=>ae (.bool b)
 |.int i=>ae (.int i)
 |.str s=>ae (.str s)
 |_=>bq
inductive AS where
 |val (v:AV)
 |range (cur:Int) (left:ak) (step:Int)
abbrev DR:=RT->P AS
abbrev lM (l:ah AV):P AS:=do
 let ns <-P.opt (intsOf l)
 match ns with
 | [b]=>do P.guard (-4096 < b/\b < 4096);P.pure (.range 0 b.toNat 1)
 | [a,b,c]=>do P.guard (a=0/\c= -1/\ -4096 < b/\b < 4096);P.pure (.range 0 (-b).toNat (-1))
 |_=>P.fail
abbrev qc:AS->P AI
 |.range c k d=>do P.guard (c=0/\d=1);P.pure (.range (k - 1) k (-1))
 |_=>P.fail
abbrev eP:AS->P AI
 |.val v=>do
  let i <-e9 v
  rN i
 |.range c k d=>P.pure (.range c k d)
abbrev isInt:AV->aB
 |.int _=>aj
 |_=>az
abbrev uM:aH->ax au
 |.Name n _=>ae n
 |_=>bq
abbrev constOf:aH->ax n8
 |.Constant c _ _=>ae c
 |_=>bq
abbrev BZ:aH->aB
 |.List es _=>es.isEmpty
 |_=>az
abbrev namesOf:ah aH->ax (ah au)
 | []=>ae []
 |e :: l=>(uM e).bind λn=>(namesOf l).map (n :: ·)
abbrev uN:aH->ax (ah aH)
 |.Tuple es _ _=>ae es
 |_=>bq
abbrev Jy (c:aH):ax (ah au):=match uN c with
 |some es=>namesOf es
 |Option.none=>(uM c).map λn=>[n]
abbrev takes (c:aH):ax (aI->aB):=match uN c with
 |some es=>if namesOf es=ae [aq "TypeError",aq "AttributeError"]then ae λk=>k == "TypeError" || k == "AttributeError" else bq
 |Option.none=>if uM c=ae (aq "AttributeError")then ae λk=>k == "AttributeError" else bq
abbrev B2 (sc:bN)(c:aH):aB:=((Jy c).getD []).all λn=>cM sc n == ae .globalImplicit
abbrev argName:Arg->au
 |⟨n,_,_⟩=>n
abbrev eu (r:RT)(f:AV)(args:ah AV)(kw:ah (au×AV)):P AV:=
 match f with
 |.fn _=>r.F f args kw
 |.ref i=>do match <-P.load i with
  |.lam .. =>r.F f args kw
  |_=>P.fail
 |_=>xF r.F f args kw
abbrev dg (e:aH):aB:=match e with |.Starred .. =>az |_=>aj
abbrev nJ (e:aH):aB:=match e with |.ListComp .. =>az |.SetComp .. =>az |.DictComp .. =>az |_=>aj
abbrev ku (e:aH):aB:=match e with |.Tuple .. =>aj |_=>az
abbrev fL (t:aH)(ai:AI):aB:=ku t || match ai with |.zip .. =>az |.enum .. =>az |_=>aj
abbrev iO (r:aH):aB:=match r with |.Set .. =>az |_=>aj
abbrev stuck {α β:Type}:α->P β:=λu=>P.fail
abbrev nK (sc:bN)(x:au)(r:RT):P AV:=if x == aq "__debug__" || x == aq "__classdict__" then P.fail else match cM sc x with
 |some .local=>match lK sc x with
  |some i=>BY i r
  |Option.none=>P.fail
 |some .cell |some .free=>uL x r
 |some .globalImplicit=>match qb x with
  |some v=>P.pure v
  |Option.none=>P.fail
 |_=>P.fail
abbrev nameA (sc:bN)(x:au)(v:AV)(r:RT):P (ah (ax AV)):=match cM sc x with
 |some .local=>match lK sc x with
  |some i=>xG i v r
  |Option.none=>P.fail
 |some .cell=>kr x v r
 |_=>P.fail
abbrev B3 (c:n8):DE:=match oS c with
 |some v=>λu=>P.pure v
 |Option.none=>stuck
abbrev fM (r:RT):ah (au×l8)->ah (au×ak)->ax (ah (au×ak))
 | [],acc=>ae acc
 |(x,k) :: l,acc=>if k == .free then match r.cel.lookup x with
   |some c=>fM r l ((x,c) :: acc)
   |Option.none=>bq
  else fM r l acc
abbrev ky:ah (au×l8)->ah (au×ak)->P (ah (au×ak))
 | [],acc=>P.pure acc
 |(x,k) :: l,acc=>if k == .cell then do
   let i <-P.alloc (.cell bq)
   ky l ((x,i) :: acc)
  else ky l acc
abbrev qe (sc:bN):ah (au×AV)->RT->P (ah (ax AV))
 | [],r=>P.pure r.loc
 |(x,v) :: l,r=>do
  let loc <-nameA sc x v r
  qe sc l { r with loc:=loc }
abbrev cP (F:Or)(sc:bN)(outer:ah (au×ak))(binds:ah (au×AV)):P RT:=do
 let cel <-ky sc.names outer
 let loc <-qe sc binds { F,cel,loc:=sc.names.map λu=>bq }
 P.pure { F,cel,loc }
abbrev jj:AO->aB
 |.lam .. =>aj
 |_=>az
abbrev B4:fj->aB
 |⟨_,_,_,_,[],_,[]⟩=>aj
 |_=>az
abbrev kD (d:ax DE)(r:RT):P (ax AV):=match d with
 |some d=>do return ae (<-d r)
 |Option.none=>P.pure bq
abbrev oU (f:aH->DE):m7->au×DE
 |⟨ae x,v,_⟩=>(x,f v)
 |⟨bq,_,_⟩=>(Str.empty,stuck)
abbrev kwOk:m7->aB
 |⟨ae _,_,_⟩=>aj
 |_=>az
abbrev lN (args:ah aH)(ks:ah m7):aB:=args.all dg && ks.all kwOk
abbrev xH (o:aH)(ap q:fk):aB:=(match o with |.Call .. =>az |_=>aj) && ap.endLine == q.line
mutual
noncomputable def cE (sc:bN):ak->aH->DE
 | 0,_=>stuck
 |n+1,e=>match e with
  |.Constant c _ _=>B3 c
  |.Name x _=>nK sc x
  |.BinOp l op r _=>λrt=>do
   let a <-cE sc n l rt
   let b <-cE sc n r rt
   gf op a b
  |.UnaryOp .Not x _=>λrt=>do
   let v <-cE sc n x rt
   let b <-eE v
   P.pure (.bool !b)
  |.UnaryOp .USub x _=>λrt=>do
   let v <-cE sc n x rt
   let i <-dF v
   P.pure (.int (-i))
  |.BoolOp .And [x,y] _=>λrt=>do
   let v <-cE sc n x rt
   let b <-eE v
   if b then cE sc n y rt else P.pure v
  |.BoolOp .Or [x,y] _=>λrt=>do
   let v <-cE sc n x rt
   let b <-eE v
   if b then P.pure v else cE sc n y rt
  |.IfExp t b o _=>λrt=>do
   let c <-cT sc n t rt
   if c then cE sc n b rt else cE sc n o rt
  |.Compare l [op] [r] _=>λrt=>do
   P.guard (iO r=aj)
   let a <-cE sc n l rt
   let b <-cE sc n r rt
   let c <-dQ op a b
   P.pure (.bool c)
  |.List es _=>λrt=>do
   let l <-dG (es.map (cE sc n)) rt
   cz l
  |.Tuple es _ _=>λrt=>do
   let l <-dG (es.map (cE sc n)) rt
   oO l
  |.Dict [ae (.Constant ck _ _)] [.Constant cv _ _] _=>λu=>do
   let kv <-P.opt (oS ck)
   let vv <-P.opt (oS cv)
   let k <-P.opt (gF kv)
   let i <-P.alloc (.dict [(k,vv)])
   P.pure (.ref i)
  |.Attribute (.Name x p) a _=>λrt=>do
   let v <-cE sc n (.Name x p) rt
   mB v a
  |.Subscript o i _=>match i with
   |.Slice lo hi bq _=>λrt=>do
    let v <-cE sc n o rt
    let a <-kD (lo.map (cE sc n)) rt
    let b <-kD (hi.map (cE sc n)) rt
    kq v a b
   |i=>λrt=>do
    let v <-cE sc n o rt
    let k <-cE sc n i rt
    iw v k
  |.Lambda args body aP _=>λrt=>do
   P.guard (B4 args=aj/\cM sc mC=ae .cell)
   let st <-P.get
   P.guard (st.all (λo=>!jj o)=aj)
   let cs <-P.opt (fM rt aP.names [])
   let i <-P.alloc (.lam args body aP cs)
   P.pure (.ref i)
  |.ListComp elt [⟨t,src,ifs,0⟩] aP _=>λrt=>do
   P.guard (iO src=aj)
   P.guard (fc aP=aj)
   let cs <-P.opt (fM rt aP.names [])
   let ai <-cI sc n src rt
   P.guard (fL t ai=aj)
   let r2 <-cP rt.F aP cs []
   let l <-cw (cE aP n elt) (ifs.map (cT aP n)) (cA aP n t) 128 ai r2 []
   cz l
  |.Call f args ks q=>match f with
   |.Attribute o m ap=>λrt=>do
    P.guard (lN args ks=aj/\xH o ap q=aj/\args.length+ks.length < 28)
    let mm <-P.opt (rQ m)
    let ov <-cE sc n o rt
    if isInt ov=aj/\mm= .startswith then P.err "AttributeError"
    else do
     lJ ov mm
     let vs <-dG (args.map (cE sc n)) rt
     let kv <-fW (ks.map (oU (cE sc n))) rt
     fb rt.F ov mm vs kv
   |.Name x p=>λrt=>do
    P.guard (lN args ks=aj)
    let fv <-cE sc n (.Name x p) rt
    let vs <-dG (args.map (cE sc n)) rt
    let kv <-fW (ks.map (oU (cE sc n))) rt
    eu rt fv vs kv
   |_=>stuck
  |_=>stuck
noncomputable def cT (sc:bN):ak->aH->DT
 | 0,_=>stuck
 |n+1,e=>match e with
  |.UnaryOp .Not x _=>λrt=>do
   let b <-cT sc n x rt
   P.pure !b
  |.BoolOp .And [x,y] _=>λrt=>do
   let a <-cT sc n x rt
   if a then cT sc n y rt else P.pure az
  |.BoolOp .Or [x,y] _=>λrt=>do
   let a <-cT sc n x rt
   if a then P.pure aj else cT sc n y rt
  |.BoolOp .Or [x,y,z] _=>λrt=>do
   let a <-cT sc n x rt
   if a then P.pure aj else do
    let b <-cT sc n y rt
    if b then P.pure aj else cT sc n z rt
  |.Compare l [op] [r] _=>λrt=>do
   P.guard (iO r=aj)
   let a <-cE sc n l rt
   let b <-cE sc n r rt
   dQ op a b
  |.IfExp t b o _=>λrt=>do
   let c <-cT sc n t rt
   if c then cT sc n b rt else cT sc n o rt
  |.BoolOp _ _ _=>stuck
  |.Compare _ _ _ _=>stuck
  |e=>λrt=>do
   let v <-cE sc n e rt
   eE v
noncomputable def cR (sc:bN):ak->aH->DR
 | 0,_=>stuck
 |n+1,e=>match e with
  |.Call (.Name f p) args [] q=>
   if cM sc f == ae .globalImplicit && f == aq "range" then λrt=>do
    P.guard (lN args []=aj)
    let l <-dG (args.map (cE sc n)) rt
    lM l
   else λrt=>do
    let v <-cE sc n (.Call (.Name f p) args [] q) rt
    P.pure (.val v)
  |e=>λrt=>do
   let v <-cE sc n e rt
   P.pure (.val v)
noncomputable def cI (sc:bN):ak->aH->DI
 | 0,_=>stuck
 |n+1,e=>match e with
  |.Call (.Name f p) args [] q=>
   if cM sc f == ae .globalImplicit && f == aq "enumerate" then match args with
    | [a]=>λrt=>do
     P.guard (dg a=aj)
     let x <-cR sc n a rt
     let i <-eP x
     P.pure (.enum 0 i)
    |_=>stuck
   else if cM sc f == ae .globalImplicit && f == aq "zip" then match args with
    | [a,b]=>λrt=>do
     P.guard (dg a=aj/\dg b=aj)
     let x <-cR sc n a rt
     let y <-cR sc n b rt
     let i <-eP x
     let j <-eP y
     P.pure (.zip i j)
    |_=>stuck
   else if cM sc f == ae .globalImplicit && f == aq "reversed" then match args with
    | [a]=>λrt=>do
     P.guard (dg a=aj)
     let i <-cR sc n a rt
     qc i
    |_=>stuck
   else λrt=>do
    let v <-cR sc n (.Call (.Name f p) args [] q) rt
    eP v
  |e=>λrt=>do
   let v <-cE sc n e rt
   jI v
noncomputable def cA (sc:bN):ak->aH->DA
 | 0,_=>λu=>stuck
 |n+1,e=>match e with
  |.Name x _=>nameA sc x
  |.Attribute o a _=>λv rt=>do
   let ov <-cE sc n o rt
   p8 ov a v
   P.pure rt.loc
  |.Subscript o i _=>λv rt=>do
   let ov <-cE sc n o rt
   let iv <-cE sc n i rt
   oQ ov iv v
   P.pure rt.loc
  |.Tuple es _ _=>λv rt=>do
   let l <-P.opt (gd v)
   P.guard (l.length=es.length/\es.all dg=aj)
   ji (es.map (cA sc n)) l rt
  |_=>λu=>stuck
end
abbrev Jz (sc:bN):dy->DS
 |.Pass _=>λrt=>P.pure (.next,rt.loc)
 |.Assign ts e _=>λrt=>do
  let xs <-P.opt (namesOf ts)
  let x <-P.opt xs.head?
  P.guard (xs.length=1)
  let c <-P.opt (constOf e)
  let v <-P.opt (oS c)
  let loc <-nameA sc x v rt
  P.pure (.next,loc)
 |.Return e _=>λrt=>do
  let e <-P.opt e
  P.guard (BZ e=aj)
  let v <-cz []
  P.pure (.ret v,rt.loc)
 |_=>stuck
abbrev rR (sc:bN)(l:ah dy):DS:=λrt=>do
 let s <-P.opt l.head?
 P.guard (l.length=1)
 Jz sc s rt
abbrev ew (f:dy->DS):ah dy->DS
 | []=>λrt=>P.pure (.next,rt.loc)
 |s :: l=>λrt=>do
  let x <-f s rt
  match x with
  |(.next,loc)=>ew f l { rt with loc:=loc }
  |x=>P.pure x
abbrev cS (sc:bN):ak->dy->DS
 | 0,_=>stuck
 |n+1,s=>match s with
  |.Pass _=>λrt=>P.pure (.next,rt.loc)
  |.Break _=>λrt=>P.pure (.brk,rt.loc)
  |.Continue _=>λrt=>P.pure (.cont,rt.loc)
  |.Return (ae e) _=>λrt=>do
   let v <-cE sc 40 e rt
   P.pure (.ret v,rt.loc)
  |.Expr e _=>λrt=>do
   P.guard (nJ e=aj)
   let _ <-cE sc 40 e rt
   P.pure (.next,rt.loc)
  |.Assign [t] e _=>λrt=>do
   P.guard (ku e=az/\dg t=aj)
   let v <-cE sc 40 e rt
   let loc <-cA sc 40 t v rt
   P.pure (.next,loc)
  |.AugAssign (.Name x _) op e _=>λrt=>do
   P.guard (op= .Add\/op= .Sub)
   let o <-nK sc x rt
   let i <-dF o
   let v <-cE sc 40 e rt
   let j <-dF v
   let v <-gf op (.int i) (.int j)
   let loc <-nameA sc x v rt
   P.pure (.next,loc)
  |.If t b o _=>λrt=>do
   let c <-cT sc 40 t rt
   if c then ew (cS sc n) b rt else ew (cS sc n) o rt
  |.While t b [] _=>λrt=>iN (cT sc 40 t) (ew (cS sc n) b) 64 rt
  |.For t i b [] _=>λrt=>do
   P.guard (iO i=aj)
   let it <-cI sc 40 i rt
   P.guard (fL t it=aj)
   forA (ew (cS sc n) b) (cA sc 40 t) 128 it rt
  |.Try [.Assign [.Name x _] e _] [.ExceptHandler (ae c) bq h _] o [] _=>λrt=>do
   P.guard (nJ e=aj/\ku e=az/\B2 sc c=aj)
   P.uE (cE sc 40 e rt) (λv=>do
     let loc <-nameA sc x v rt
     ew (cS sc n) o { rt with loc:=loc })
    λk=>match takes c with
     |some f=>if f k then rR sc h rt else P.fail
     |Option.none=>P.fail
  |_=>stuck
abbrev uO (n:au):ah dy->ax (fj×ah dy×bN)
 | []=>bq
 |.FunctionDef m a b _ _ _ sc _ _ _ :: l=>if m == n then ae (a,b,sc)else uO n l
 |_ :: l=>uO n l
abbrev uP (n:au):ah dy->ax (fj×ah dy×bN)
 | []=>bq
 |.ClassDef _ _ _ b _ _ _ _ _ _ _ :: l=>match uO n b with
  |some x=>ae x
  |Option.none=>uP n l
 |_ :: l=>uP n l
abbrev B5 (a:fj):aB:=a.posonlyargs.isEmpty && a.vararg.isNone && a.kwonlyargs.isEmpty && a.kwarg.isNone && decide (a.args.map argName).Nodup
abbrev fX (a:fj)(args:ah AV)(kw:ah (au×AV)):ax (ah (au×AV)):=
 let ps:=a.args.map argName
 let n:=args.length
 if B5 a && n<=ps.length && (ps.drop n) == kw.map (·.1)then ae ((ps.take n).zip args++kw)else bq
abbrev eQ:FL->P AV
 |.ret v=>P.pure v
 |.next=>P.pure .none
 |_=>P.fail
abbrev B6 (F:Or)(a:fj)(b:ah dy)(sc:bN)(args:ah AV)(kw:ah (au×AV)):P AV:=do
 let binds <-P.opt (fX a args kw)
 let rt <-cP F sc [] binds
 let x <-ew (cS sc 20) b rt
 eQ x.1
abbrev xI:ah dy:=PySem.Challenge.pw_oc0179_01.main.body
abbrev gG:au:=aq "_Ignore"
abbrev uQ:au:=aq "_Ignore.names"
abbrev nL:au:=aq "_Ignore.__init__"
abbrev jL:au:=aq "normpath"
abbrev defOf (n:au):ax (fj×ah dy×bN):=
 if n == uQ then uP (aq "names") xI else if n == nL then uP (aq "__init__") xI else uO n xI
abbrev lO (F:Or)(n:au)(args:ah AV)(kw:ah (au×AV)):P AV:=match defOf n with
 |some (a,b,sc)=>B6 F a b sc args kw
 |Option.none=>P.fail
abbrev oV (F:Or)(args:ah AV)(kw:ah (au×AV)):P AV:=match defOf jL,args,kw with
 |some (_,b,sc),[v],[]=>do
  let k <-P.alloc (.dict [])
  let rt <-cP F sc [] [(aq "args",.one v),(aq "kwargs",.ref k)]
  let x <-ew (cS sc 20) b rt
  eQ x.1
 |_,_,_=>P.fail
abbrev qf (F:Or)(args:ah AV)(kw:ah (au×AV)):P AV:=do
 let d <-P.alloc (.bc [])
 let i <-P.alloc (.inst d)
 let r <-lO F nL (.ref i :: args) kw
 match r with
 |.none=>P.pure (.ref i)
 |_=>P.fail
abbrev B7 (F:Or)(i:ak)(args:ah AV)(kw:ah (au×AV)):P AV:=do
 let o <-P.load i
 match o with
 |.lam a e sc cs=>do
  P.guard (fc sc=aj)
  let binds <-P.opt (fX a args kw)
  let rt <-cP F sc cs binds
  cE sc 40 e rt
 |_=>P.fail
abbrev B8 (F:Or):Or:=λf args kw=>match f with
 |.ref i=>B7 F i args kw
 |.fn n=>if n == gG then qf F args kw else if n == jL then oV F args kw else lO F n args kw
 |_=>P.fail
abbrev FN:ak->Or
 | 0=>λu u u=>P.fail
 |n+1=>B8 (FN n)
abbrev uR (JA:ah Int):P AV:=FN 12 (.fn (aq "law")) [.gW JA] []
def TT {a b c:ak}(h:a<=b)(k:b<=c):a<=c:=dW h k
def CH {u v w:ak}(i j k l:ak)(h:u+i<=v+j)(g:v+k<=w+l):u+(i+k)<=w+(j+l):=by
 rw[<-qN];refine dW (Ah h k) ?_;rw[Ai,Aj j,<-qN];exact Ah g j
def FI {u v:ak}(i j p q:ak)(h:u+i<=v+j)(c:l9 (j+p) (i+q)=aj):u+p<=v+q:=by
 refine Nat.le_of_add_le_add_right (b:=i) ?_;rw[Ai];refine dW (Ah h p) ?_;rw[qN,qN,Aj q];exact GB (i6 c) v
def CF {u v w:ak}(i j k l p q:ak)(h:u+i<=v+j)(g:v+k<=w+l)(c:l9 (j+l+p) (i+k+q)=aj):u+p<=w+q:=FI (i+k) (j+l) p q (CH i j k l h g) c
def XX {u:ak}{C:Prop}(i j:ak)(h:u+i<=u+j)(c:l9 i j=az):C:=absurd ((Nat.ble_eq_true_of_le (Nat.le_of_add_le_add_left h)).symm.trans c) (λe=>nomatch e)
def EL {a b:ak}(h:a=b):a<=b:=oa h
def EG {a b:ak}(h:a=b):b<=a:=oa h.symm
def NL {a b:ak}(h: ¬ a < b):b<=a:=og.mp h
def NG {a b:ak}(h: ¬ a<=b):b+1<=a:=Ak.mp h
def NV {a b:ak}(h: ¬ a=b)(k:a<=b):a+1<=b:=GC k h
def NU {a b:ak}(h: ¬ a=b)(k:b<=a):b+1<=a:=GC k λe=>h e.symm
def NE {a b:ak}(h:a+1<=b):a≠b:=jX h
def NT {a b:ak}(h:b+1<=a):a≠b:=Al h
def AN {a b:ak}(h:a<=b)(k:b<=a):a=b:=Am h k
def DN {a b:ak}(h:b<=a): ¬ a < b:=og.mpr h
def DM {a b:ak}(h:b+1<=a): ¬ a<=b:=Ak.mpr h
def ML {a b:ak}:min a b<=a:=tn a b
def MR {a b:ak}:min a b<=b:=GD a b
def Wn {a b c:ak}(h:a<=b)(k:a<=c):a<=min b c:=An.2 ⟨h,k⟩
def SB {a b:ak}:a - b<=a:=GF a b
def SU {a b:ak}:a<=a - b+b:=Nat.le_add_of_sub_le (a4 _)
def SW {a b:ak}(h:b<=a):a - b+b<=a:=oa (GG h)
def AL {a b:ak}:a<=a+b:=tq a b
def AR {a b:ak}:b<=a+b:=GH b a
def SS {a b c d:ak}(h:a<=b)(k:c<=d):a+c<=b+d:=GI h k
def ZZ {a:ak}:0<=a:=cZ a
def RR {a:ak}(p q:ak)(c:l9 p q=aj):a+p<=a+q:=GB (i6 c) a
def BB {p q:ak}(c:l9 p q=aj):p<=q:=i6 c
def LA {α}{l m:ah α}:(l++m).length<=l.length+m.length:=oa bK
def LB {α}{l m:ah α}:l.length+m.length<=(l++m).length:=oa bK.symm
def LI {α}{l:ah α}{x:α}:(l++[x]).length<=l.length+1:=oa bK
def LJ {α}{l:ah α}{x:α}:l.length+1<=(l++[x]).length:=by rw[bK];exact a4 _
def Wo {α}{l:ah α}{n:ak}:(l.take n).length<=n:=by rw[er];exact tn ..
def Wp {α}{l:ah α}{n:ak}:(l.take n).length<=l.length:=by rw[er];exact GD ..
def Wq {α}{l:ah α}{p:α->aB}:(l.filter p).length<=l.length:=pG p l
def JB {α}{l:ah α}{i:ak}{x:α}:l.length<=(l.set i x).length:=oa eM.symm
@[reducible] abbrev kB {α β:Type}(M:m4)(A:d8)(f:α->dn β)(Q:β->aD->Prop)(E:aw->aD->Prop)(a:α)(s:aD):Prop:=aA M A (f a) Q E s
def wB {α β:Type}{M:m4}{A:d8}{m:dn α}{f:α->dn β}{Q:β->aD->Prop}{E:aw->aD->Prop}{s:aD}(h:aA M A m (kB M A f Q E) E s):aA M A (m>>=f) Q E s:=bO h
def NO {p q:Prop}(h: ¬p)(k: ¬q): ¬(p\/q):=not_or.2 ⟨h,k⟩
def NA {p q:Prop}(h: ¬p): ¬(p/\q):=λk=>h k.1
def NB {p q:Prop}(h: ¬q): ¬(p/\q):=λk=>h k.2
def LN {a b:ak}(h:a<=b):a<=min a b:=An.2 ⟨a4 _,h⟩
def LO {a b:ak}(h:b<=a):b<=min a b:=An.2 ⟨h,a4 _⟩
def JE {n:ak}(m:ak)(h:m < n):(m:Int) < (n:Int):=i7.2 h
def JC {n:ak}(m:ak)(h:n < m):(n:Int) < (m:Int):=i7.2 h
def JP {n:ak}:(0:Int)<=(n:Int):=wy n
def KN {n:ak}{a:Int}(h:a < 0):a < (n:Int):=GJ h (wy n)
def nP {α β:Type u}(a:cU α)(b:cU β):cU (α×β):=a.elim λa=>b.elim λb=>⟨(a,b)⟩
def nI {α:Type u}[Inhabited α]:cU α:=⟨default⟩
def neA:cU d8:=⟨{}⟩
def neS:cU aD:=⟨{}⟩
def neW:cU gN:=⟨⟨λu u=>0,{ strHash:=λu=>0,shareClass:=λu=>0,mergeTok:=λt=>t,idOf:=λu=>0,idOfShared:=λu u=>0,followText:=λu=>az,idOfImm:=λu=>0 }⟩⟩
def neI:cU AI:=⟨.set []⟩
def neE {β:Type}:cU (RT->P β):=⟨λu=>P.fail⟩
def neB:cU DS:=neE
def neDA:cU DA:=⟨λu u=>P.fail⟩
def neP {β:Type}:cU (P β):=⟨P.fail⟩
def neM:cU m4:=neW.elim λw=>⟨aV default w⟩
def neK:cU (au ⊕ Int):=⟨.inr 0⟩
def neRT:cU RT:=⟨⟨λu u u=>P.fail,[],[]⟩⟩
def neAS:cU AS:=⟨.val .none⟩
def neR {β:Type}:cU (Res β):=⟨.err ""⟩
def nF {α β:Type}(n:cU β):cU (α->β):=n.elim λb=>⟨λu=>b⟩
open PySem.W PyProof.Rows
structure Cx where
 w:gN
 base:aG
 os:OsState
 kF:au->ax ay
 gX:ay
 bad:ah ay
 K:jw
def neX:cU Cx:=neW.elim λw=>⟨⟨w,default,default,λu=>ag,0,[],default⟩⟩
abbrev cJ:ay:=175
abbrev rS:ay:=177
abbrev Cx.ok (X:Cx)(a:ay):Prop:=a≠cJ/\a∉X.bad
@[reducible] abbrev MX (X:Cx):m4:=aV PySem.Challenge.pw_oc0179_01 X.w
abbrev rT (o:Obj)(vs:aZ aw):Prop:=o.cls= .type "tuple"/\∃n,o.data= .seq vs n
inductive kG (w:gN):ah au->ah (Int×aw)->Prop where
 |nil:kG w [] []
 |cons {x:au} {t:cK} {xs:ah au} {es:ah (Int×aw)} (r:kG w xs es):kG w (x :: xs) ((lu w x,.str x t) :: es)
abbrev B9 (w:gN)(l:ah au)(es:aZ (Int×aw))(t:gv):Prop:=
 ∃xs:ah au,xs.Perm l/\kG w xs es.toList/\t.fits es.size=aj/\es.size<=3/\(es.size≠0->t.plain=az)/\t.led= !w.params.followText "set-order"
inductive VA (T:ay->Prop):aw->Prop where
 |mk {a:ay} (e:T a):VA T (.ref a)
inductive V1 (T:aZ aw->ay->Prop)(P:aw->Prop):aw->Prop where
 |mk {a:ay} {vx:aw} (t:T #[vx] a) (hx:P vx):V1 T P (.ref a)
inductive V2 (T:aZ aw->ay->Prop)(P R:aw->Prop):aw->Prop where
 |mk {a:ay} {vx vy:aw} (t:T #[vx,vy] a) (hx:P vx) (hy:R vy):V2 T P R (.ref a)
inductive V3 (T:aZ aw->ay->Prop)(P R S:aw->Prop):aw->Prop where
 |mk {a:ay} {vx vy vz:aw} (t:T #[vx,vy,vz] a) (hx:P vx) (hy:R vy) (hz:S vz):V3 T P R S (.ref a)
inductive TupAt (X:Cx)(ρ:ah ay)(h:aG)(vs:aZ aw)(a:ay):Prop where
 |mk {o:Obj} (n1:a∉ρ) (n2:X.ok a) (e:h.get? a=ae o) (t:rT o vs):TupAt X ρ h vs a
inductive xJ (X:Cx)(ρ:ah ay)(h:aG)(l:ah Int)(a:ay):Prop where
 |mk {items:ah aw} (n1:a∉ρ) (n2:X.ok a) (e:h.IsList a items.toArray) (hl:oh items l) (hn:l.length<=4096):xJ X ρ h l a
inductive B' (X:Cx)(ρ:ah ay)(h:aG)(l:ah au)(a:ay):Prop where
 |mk {o:Obj} {es:aZ (Int×aw)} {ep:ak} {t:gv} (n1:a∉ρ) (n2:X.ok a) (e:h.get? a=ae o) (c:o.ExactSet) (d:o.data= .set es ep t) (r:B9 X.w l es t):B' X ρ h l a
inductive Ca (X:Cx)(ρ:ah ay)(h:aG)(q:au)(a:ay):Prop where
 |mk {o:Obj} {vs:aZ aw} {t:cK} (n1:a∉ρ) (n2:X.ok a) (e:h.get? a=ae o) (c:o.cls= .type "code") (d:o.data= .fields vs) (hq:vs[1]? =ae (.str q t)):Ca X ρ h q a
abbrev aF (X:Cx)(ρ:ah ay)(h:aG):AV->aw->Prop
 |.none=>λv=>v= .none
 |.bool b=>λv=>v= .bool b
 |.int i=>λv=>∃t,v= .int i t
 |.str x=>λv=>∃t,v= .str x t
 |.ty n=>λv=>v= .type n
 |.bi n=>λv=>v= .builtin n
 |.fn n=>VA λa=>X.kF n=ae a
 |.ref i=>VA λa=>ρ[i]? =ae a
 |.one x=>V1 (TupAt X ρ h) (aF X ρ h x)
 |.pair x y=>V2 (TupAt X ρ h) (aF X ρ h x) (aF X ρ h y)
 |.dB x y z=>V3 (TupAt X ρ h) (aF X ρ h x) (aF X ρ h y) (aF X ρ h z)
 |.gW l=>VA (xJ X ρ h l)
 |.cL l=>VA (B' X ρ h l)
 |.code q=>VA (Ca X ρ h q)
inductive aT (X:Cx)(ρ:ah ay)(h:aG):ah AV->ah aw->Prop where
 |nil:aT X ρ h [] []
 |cons {x:AV} {v:aw} {xs:ah AV} {vs:ah aw} (hx:aF X ρ h x v) (hs:aT X ρ h xs vs):aT X ρ h (x :: xs) (v :: vs)
abbrev KO (X:Cx)(a:ay)(o o':Obj):Prop:=o'=o\/(X.base.get? a=ag/\(∃es ep,o.data= .dict es ep)/\∃sl,o'={ o with slots:=sl })
abbrev iy (d:Data):Prop:=∃es ep,d= .dict es ep
structure Step (X:Cx)(ex ρ:ah ay)(h:aG)(eR:ah ay)(h':aG):Prop where
 there:∀a o,h.get? a=ae o->∃o',h'.get? a=ae o'
 ext:∃δ,eR=ρ++δ/\∀a∈δ,h.get? a=ag
 keep:∀a o,h.get? a=ae o->a∉ρ->a≠cJ->(a∈ex->¬ iy o.data)->∃o',h'.get? a=ae o'/\KO X a o o'
inductive Kp (o:Obj):Prop where
 |seq {xs:aZ aw} {n:ak} (d:o.data= .seq xs n)
 |set {es:aZ (Int×aw)} {ep:ak} {t:gv} (d:o.data= .set es ep t)
 |code {vs:aZ aw} (c:o.cls= .type "code") (d:o.data= .fields vs)
structure gY (X:Cx)(bad ρ eR:ah ay)(h h':aG):Prop where
 ref:∀(i:ak) (a:ay),ρ[i]? =ae a->eR[i]? =ae a
 obj:∀a o,a∉ρ->X.ok a->h.get? a=ae o->Kp o->a∉eR/\(a≠cJ/\a∉bad)/\h'.get? a=ae o
abbrev jM (X:Cx)(ρ:ah ay)(h:aG):ax AV->ax aw->Prop
 |Option.none,w=>w=bq
 |Option.some x,w=>∃v,w=Option.some v/\aF X ρ h x v
def JD {prog:m5}{w:gN}{A:d8}{E:aw->aD->Prop}{s:aD}{a:au}{b:Int}{t u:cK}{Q:aB->aD->Prop}(h:Q az s):aA (aV prog w) A (eqBool (.str a t) (.int b u)) Q E s:=by
 unfold eqBool;refine eA ?_;rw[aK (by simp)];exact bO (show aA _ _ (ja .Eq _ _) _ _ _ from EqMixed.eq_str_int (qO h))
def JF {prog:m5}{w:gN}{A:d8}{E:aw->aD->Prop}{s:aD}{a:au}{b:Int}{t u:cK}{Q:aB->aD->Prop}(h:Q az s):aA (aV prog w) A (eqBool (.int b u) (.str a t)) Q E s:=by
 unfold eqBool;refine eA ?_;rw[aK (by simp)];exact bO (show aA _ _ (ja .Eq _ _) _ _ _ from EqMixed.eq_int_str (qO h))
abbrev uS:au ⊕ Int->aw->aB
 |.inl x,v=>lx x v
 |.inr i,v=>Value.isInt i v
def mD {k:au ⊕ Int}{v:aw}(h:uS k v=aj):(∃x t,k= .inl x/\v= .str x t)\/(∃i t,k= .inr i/\v= .int i t):=by
 cases k with
 |inl x=>obtain⟨t,rfl⟩:=GK h;exact .inl ⟨x,t,rfl,rfl⟩
 |inr i=>obtain⟨t,rfl⟩:=Value.isInt_shape h;exact .inr ⟨i,t,rfl,rfl⟩
abbrev mE (X:Cx):KeyKind PySem.Challenge.pw_oc0179_01 X.w (au ⊕ Int) where
 is:=uS
 hash:=λk=>match k with |.inl x=>lu X.w x |.inr i=>hashInt i
 inj:=λv a b ha hb=>by
  rcases mD ha with ⟨x,t,rfl,rfl⟩ |⟨i,t,rfl,rfl⟩<;>rcases mD hb with ⟨y,u,rfl,e⟩ |⟨j,u,rfl,e⟩<;>cases e <;>rfl
 byValue:=λk v h=>by rcases mD h with ⟨x,t,rfl,rfl⟩ |⟨i,t,rfl,rfl⟩<;>rfl
 pyHash:=λhv h=>by
  rcases mD hv with ⟨x,t,rfl,rfl⟩ |⟨i,t,rfl,rfl⟩
  ·exact wpAny_pyHash_str h
  ·exact wpAny_pyHash_int h
 eqBool:=λhu hv h=>by
  rcases mD hu with ⟨x,t,rfl,rfl⟩ |⟨i,t,rfl,rfl⟩<;>rcases mD hv with ⟨y,u,rfl,rfl⟩ |⟨j,u,rfl,rfl⟩
  ·exact wpAny_eqBool_str (by simpa using h)
  ·exact JD (by simpa using h)
  ·exact JF (by simpa using h)
  ·refine tu ?_;rw[show(i == j)=decide ((Sum.inr i:au ⊕ Int)= .inr j) from by by_cases e:i=j <;>simp[e]];exact h
 «strs»:=λk x t v h=>by
  rcases mD h with ⟨y,u,rfl,e⟩ |⟨i,u,rfl,e⟩
  ·cases e;cases v <;>rfl
  ·cases e
inductive eS (X:Cx)(ρ:ah ay)(h:aG):ah ((au ⊕ Int)×AV)->ah ((au ⊕ Int)×aw)->Prop where
 |nil:eS X ρ h [] []
 |cons {k:au ⊕ Int} {x:AV} {v:aw} {l:ah ((au ⊕ Int)×AV)} {kvs:ah ((au ⊕ Int)×aw)} (hx:aF X ρ h x v) (hs:eS X ρ h l kvs):eS X ρ h ((k,x) :: l) ((k,v) :: kvs)
inductive fY (ρ:ah ay):ah (au×ak)->ah (au×ay)->Prop where
 |nil:fY ρ [] []
 |cons {x:au} {c:ak} {a:ay} {l:ah (au×ak)} {cl:ah (au×ay)} (e:ρ[c]? =ae a) (r:fY ρ l cl):fY ρ ((x,c) :: l) ((x,a) :: cl)
abbrev OB (X:Cx)(ρ:ah ay)(h:aG):AO->Obj->Prop
 |.list l,o=>∃(items:ah aw) (n:ak),o={ cls:=.type "list",data:=.seq items.toArray n }/\aT X ρ h l items/\l.length<=10000
 |.cell v,o=>o.cls= .type "cell"/\∃v',o.data= .cell v'/\jM X ρ h v v'
 |.inst d,o=>∃da,ρ[d]? =ae da/\o=pH X.gX da
 |.bc l,o=>o.cls= .type "dict"/\∃(es:aZ wz) (n:ak),o.data= .dict es n/\qP es/\es.size<=l.length/\∀x,jM X ρ h (l.lookup x) (jy es x)
 |.dict l,o=>∃kvs,o.IsDictOf (mE X) kvs/\eS X ρ h l kvs/\l.length<=100
 |.iter (ae s) i,o=>o.cls= .type "list_iterator"/\∃a,ρ[s]? =ae a/\o.data= .fields #[.ref a,.int i 0]
 |.iter .none _,o=>o.cls= .type "list_iterator"/\∃vs,o.data= .fields vs/\vs[0]? =ae .none
 |.obj,o=>o.cls= .type "object"/\o.data= .plain
 |.lam args body sc cel,o=>∃name qual cl pm c xK,o=wA name qual args body sc cl pm c xK/\fY ρ cel cl/\aF X ρ h (.code qual) (.ref c)
abbrev nM:aw->aB
 |.type n=>["list","cell","dict","set","list_iterator","object","function","code"].contains n
 |.ref _=>aj
 |_=>az
structure Inv (X:Cx)(ρ:ah ay)(st:St)(h:aG):Prop where
 len:ρ.length=st.length
 nodup:ρ.Nodup
 obj:∀(i:ak) (ao:AO) (a:ay),st[i]? =ae ao->ρ[i]? =ae a->∃o,h.get? a=ae o/\OB X ρ h ao o
 base:∀b o,X.base.get? b=ae o->b≠cJ->h.get? b=ae o
 new:∀a∈ρ,X.base.get? a=ag
 gg:∃o,X.base.get? cJ=ae o
 mods:∃o,X.base.get? sysModules=ae o
 tab:∃vs,h.get? cJ=ae (jY vs)/\(vs= #[]\/∃ao∈st,jj ao=aj)
 gh:∀b∈X.bad,∃o,h.get? b=ae o
abbrev gZ (o:Obj):Prop:=∃es ep,o.data= .dict es ep/\qP es
abbrev uT (X:Cx)(ρ:ah ay)(h h':aG):Prop:=∀a o,h.get? a=ae o->a∉ρ->gZ o->X.base.get? a=ag->∃o',h'.get? a=ae o'/\gZ o'
structure Go (X:Cx)(ex ρ:ah ay)(h:aG)(eR:ah ay)(h':aG):Prop where
 step:Step X ex ρ h eR h'
 fr:uT X ρ h h'
abbrev eT (k:aI)(e:ay)(h₀ h:aG):Prop:=
 h₀.get? e=ag/\nM (.type k)=az/\k≠"frame"/\∃o vs,h.get? e=ae o/\o.cls= .type k/\o.data= .fields vs/\4 < vs.size/\
  (vs[1]? =ae .none\/∃T oT ts,vs[1]? =ae (.ref T)/\h₀.get? T=ag/\T≠e/\h.get? T=ae oT/\oT.cls= .type "traceback"/\oT.data= .fields ts/\3 < ts.size)
@[reducible] abbrev sh (z:aD)(h:aG)(t:ak):aD:=⟨h,z.gens,z.drawn,t,z.os⟩
abbrev Zs (z z':aD):Prop:=z'.gens=z.gens/\z'.os=z.os
abbrev aL {α β:Type}(X:Cx)(z:aD)(ex ρ:ah ay)(h:aG)(R:ah ay->aG->β->α->Prop)(Q:α->aD->Prop)(E:aw->aD->Prop):Res β->St->Prop:=λr bh=>
 ∀z' eR h' t',Zs z z'->Inv X eR bh h'->Go X ex ρ h eR h'->match r with
  |.ok b=>∀a,R eR h' b a->Q a (sh z' h' t')
  |.err k=>∀e,eT k e h h'->E (.ref e) (sh z' h' t')
abbrev aW {α β:Type}(X:Cx)(A:d8)(ex:ah ay)(R:ah ay->aG->β->α->Prop)(ρ:ah ay)(st:St)(h:aG)(t:dn α)(m:P β):Prop:=
 ∀z tk Q E,m.run st (aL X z ex ρ h R Q E)->aA (MX X) A t Q E (sh z h tk)
abbrev SV (X:Cx)(x:AV)(v:aw):Prop:=∀ρ h,aF X ρ h x v
abbrev FnAt (h:aG)(a:ay)(d:ax (fj×ah dy×bN)):Prop:=
 ∃o fd,h.get? a=ae o/\o.data= .func fd/\d.map (λp=>(p.1,wC p.2.1,p.2.2))=ae (fd.params,fd.body,fd.scope)/\fd.scope.kind= .function/\fd.scope.isGenerator=az/\fd.scope.isCoroutine=az/\
  fd.globals=gO/\fd.closure=[]/\fd.builtins=qQ/\h.CodeRec fd.code fd.qualname/\(fd.defaults= .none\/∃T ot items n,fd.defaults= .ref T/\h.get? T=ae ot/\ot.data= .seq items n)/\(cM fd.scope mC=ae .cell->fd.code= .ref rS)
structure Cb (K:jw)(C:ay)(kF:au->ax ay):Prop where
 makes:makesIn K C=aj
 keep:keepIn K (.ref C)=aj
 init:∃fI,kF nL=ae fI/\fm K (.ref C) "__init__"=ae (ae (.ref fI))/\qR K (.ref fI)=ae (.type "function")
 names:∃fN,kF uQ=ae fN/\fm K (.ref C) (aq "names")=ae (ae (.ref fN))/\qR K (.ref fN)=ae (.type "function")
 ga:fm K (.ref C) "__getattribute__"=ae (ae (.builtin "object.__getattribute__"))
 gk:fm K (.ref C) "__getattr__"=ae ag
 sa:fm K (.ref C) "__setattr__"=ae (ae (.builtin "object.__setattr__"))
 over:Ao K C=aj
 hasDict:Ap K C=aj
 attrs:∀n∈p7,fm K (.ref C) n=ae ag/\pI K C n=ae ag
structure cn (X:Cx):Prop where
 lim:X.base.NoLimit
 lP:X.K.In X.base
 Cc:X.K.lookup cJ=ag
 fns:∀n a,X.kF n=ae a->n≠gG->∀h:aG,(∀b o,X.base.get? b=ae o->b≠cJ->h.get? b=ae o)->FnAt h a (defOf n)
 cls:X.kF gG=ae X.gX
 iP:Cb X.K X.gX X.kF
 cd:CodeHd X.base rS cJ
 bt:∀mg,X.base.Ns gO mg->X.base.BuiltinsAt mg cJ
 gl:∃mg mb,X.base.Ns gO mg/\X.base.Ns qQ mb/\∀x v,qb x=ae v->(∃v',mg x=ae v'/\SV X v v')\/(mg x=ag/\∃v',mb x=ae v'/\SV X v v')
abbrev uU:ax l8->ax l8->Prop
 |some .local,k=>k=ae .local
 |some .cell,k=>k=ae .cell
 |some .free,k=>k=ae .cell\/k=ae .free
 |some .globalImplicit,k=>k=ae .globalImplicit
 |_,_=>eN
abbrev Frs (X:Cx)(l:ah bH)(ρ:ah ay)(h:aG):Prop:=∀e∈l,e.scope.kind≠ .module/\∃L o,e.frame=ae L/\X.base.get? L=ag/\L∉ρ/\h.get? L=ae o/\gZ o
structure Ar (X:Cx)(n u:ak)(A:d8)(l:ah bH)(ρ:ah ay)(h:aG):Prop where
 handled:A.handled=ag
 depth:A.depth+2 * n<=980
 units:A.units+u<=9800
 frames:A.frames=ae l
 dR:Frs X l ρ h
structure En (X:Cx)(sc:bN)(env:bH)(cel:ah (au×ak))(loc:ah (ax AV))(ρ:ah ay)(h:aG):Prop where
 kind:env.scope.kind= .function
 glob:env.globals=gO
 blt:env.builtins=qQ
 kinds:∀x,uU (cM sc x) (env.kindOf x)
 len:loc.length=sc.names.length
 ns:∃m,h.Ns env.locals m/\∀x i v,cM sc x=ae .local->lK sc x=ae i->loc[i]? =ae (ae v)->∃v',m x=ae v'/\aF X ρ h v v'
 fZ:env.locals∉ρ
 iz:X.base.get? env.locals=ag
 cells:∀x c,cel.lookup x=ae c->∃a,ρ[c]? =ae a/\env.cells.lookup x=ae a
@[reducible] abbrev RV (X:Cx):ah ay->aG->AV->aw->Prop:=λρ h x v=>aF X ρ h x v
@[reducible] abbrev RB (X:Cx):ah ay->aG->aB->aB->Prop:=λu u x v=>x=v
structure Ctx (X:Cx)(k:ak)(sc:bN)(A:d8)(l:ah bH)(env:bH)(cel:ah (au×ak))(loc:ah (ax AV))(ρ:ah ay)(st:St)(h:aG):Prop where
 ok:cn X
 ar:Ar X k (20 * k+40) A l ρ h
 top:∃e l',l=e :: l'/\e.frame=env.frame
 inv:Inv X ρ st h
 en:En X sc env cel loc ρ h
 code:cM sc mC=ae .cell->env.code= .ref rS
abbrev HE (X:Cx)(F:Or)(k:ak)(sc:bN)(e:aH)(d:DE):Prop:=
 ∀ ⦃A:d8⦄ ⦃l:ah bH⦄ ⦃env:bH⦄ ⦃cel:ah (au×ak)⦄ ⦃loc:ah (ax AV)⦄ ⦃ρ:ah ay⦄ ⦃st:St⦄ ⦃h:aG⦄,Ctx X k sc A l env cel loc ρ st h->aW X A [] (RV X) ρ st h (eval e env) (d ⟨F,cel,loc⟩)
abbrev HT (X:Cx)(F:Or)(k:ak)(sc:bN)(e:aH)(d:DT):Prop:=
 ∀ ⦃A:d8⦄ ⦃l:ah bH⦄ ⦃env:bH⦄ ⦃cel:ah (au×ak)⦄ ⦃loc:ah (ax AV)⦄ ⦃ρ:ah ay⦄ ⦃st:St⦄ ⦃h:aG⦄,Ctx X k sc A l env cel loc ρ st h->aW X A [] (RB X) ρ st h (tw e env (eval e env)) (d ⟨F,cel,loc⟩)
@[reducible] abbrev JG (X:Cx):ah ay->aG->ah AV->ah aw->Prop:=λρ h x v=>aT X ρ h x v
@[reducible] abbrev lQ (_:Cx):ah ay->aG->aB->aw->Prop:=λu u b v=>v= .bool b
abbrev Cd (l:ah au):au ⊕ Int->aB
 |.inl x=>l.contains x
 |.inr _=>az
abbrev uV:aH->aB
 |.Slice .. =>aj
 |_=>az
abbrev rU (X:Cx)(ρ:ah ay)(h:aG):ax AV->aw->Prop
 |Option.none,v=>v= .none
 |some x,v=>aF X ρ h x v
@[reducible] abbrev RL (X:Cx)(sc:bN)(env:bH)(cel:ah (au×ak)):ah ay->aG->ah (ax AV)->b8->Prop:=λρ h loc u=>En X sc env cel loc ρ h
abbrev HA (X:Cx)(F:Or)(k:ak)(sc:bN)(e:aH)(d:DA):Prop:=
 ∀ ⦃A:d8⦄ ⦃l:ah bH⦄ ⦃env:bH⦄ ⦃cel:ah (au×ak)⦄ ⦃loc:ah (ax AV)⦄ ⦃ρ:ah ay⦄ ⦃st:St⦄ ⦃h:aG⦄,Ctx X k sc A l env cel loc ρ st h->∀{x:AV} {v:aw},aF X ρ h x v->
  aW X A [env.locals] (RL X sc env cel) ρ st h (ly e env v) (d x ⟨F,cel,loc⟩)
structure dD (S C:ah ay)(h h':aG):Prop where
 there:∀a o,h.get? a=ae o->∃o',h'.get? a=ae o'
 keep:∀a o,h.get? a=ae o->a∉C->∃sl,h'.get? a=ae { o with slots:=sl }/\(a∉S->sl=o.slots)
abbrev jN (l:ah bH):ah ay:=l.filterMap (·.frame)
abbrev mF (k:aI)(e:ay)(h₀ h:aG):Prop:=
 h₀.get? e=ag/\nM (.type k)=az/\k≠"frame"/\∃o vs,h.get? e=ae o/\o.cls= .type k/\o.data= .fields vs/\4 < vs.size/\
  ∃T oT ts,vs[1]? =ae (.ref T)/\h₀.get? T=ag/\T≠e/\h.get? T=ae oT/\oT.cls= .type "traceback"/\oT.data= .fields ts/\3 < ts.size
structure kH (X:Cx)(ex:ah ay)(l:ah bH)(st:St)(br:ah ay)(h₀:aG)(ρ:ah ay)(h h':aG):Prop where
 inv:Inv X ρ st h'
 go:Go X ex br h₀ ρ h'
 dR:Frs X l ρ h'
 vals:∀x v,aF X ρ h x v->aF X ρ h' x v
 ns:∀a m,h.Ns a m->h'.Ns a m
inductive mG (X:Cx)(ρ:ah ay)(h:aG):FL->Flow->Prop where
 |next:mG X ρ h .next .next
 |brk:mG X ρ h .brk .brk
 |cont:mG X ρ h .cont .cont
 |ret {x:AV} {v:aw} (hx:aF X ρ h x v):mG X ρ h (.ret x) (.ret v)
@[reducible] abbrev RS (X:Cx)(sc:bN)(env:bH)(cel:ah (au×ak)):ah ay->aG->FL×ah (ax AV)->Flow->Prop:=λρ h p f=>mG X ρ h p.1 f/\En X sc env cel p.2 ρ h
abbrev HS (X:Cx)(F:Or)(k:ak)(sc:bN)(s:dy)(d:DS):Prop:=
 ∀ ⦃A:d8⦄ ⦃l:ah bH⦄ ⦃env:bH⦄ ⦃cel:ah (au×ak)⦄ ⦃loc:ah (ax AV)⦄ ⦃ρ:ah ay⦄ ⦃st:St⦄ ⦃h:aG⦄,Ctx X k sc A l env cel loc ρ st h->aW X A [env.locals] (RS X sc env cel) ρ st h (exec s env) (d ⟨F,cel,loc⟩)
abbrev iQ (X:Cx)(F:Or)(k:ak)(sc:bN)(s:ah dy)(d:DS):Prop:=
 ∀ ⦃A:d8⦄ ⦃l:ah bH⦄ ⦃env:bH⦄ ⦃cel:ah (au×ak)⦄ ⦃loc:ah (ax AV)⦄ ⦃ρ:ah ay⦄ ⦃st:St⦄ ⦃h:aG⦄,Ctx X k sc A l env cel loc ρ st h->aW X A [env.locals] (RS X sc env cel) ρ st h (execs s env) (d ⟨F,cel,loc⟩)
inductive bP (X:Cx)(ρ:ah ay)(h:aG):ah ay->AI->aw->Prop where
 |list {s i:ak} {a I:ay} (e:ρ[s]? =ae a) (hi:h.IsListIter I a i) (n:I∉ρ) (b:X.base.get? I=ag):bP X ρ h [I] (.list (ae s) i) (.ref I)
 |range {I:ay} {c d:Int} {k:ak} (hi:tz h I c k d) (n:I∉ρ) (b:X.base.get? I=ag):bP X ρ h [I] (.range c k d) (.ref I)
 |obj {i:ak} {a:ay} (e:ρ[i]? =ae a):bP X ρ h [] (.obj i) (.ref a)
abbrev eG (X:Cx)(ρ:ah ay)(h:aG)(own:ah ay):Prop:=∀c∈own,c∉ρ/\X.base.get? c=ag/\(c∈X.bad\/∃o vs,h.get? c=ae o/\o.data= .fields vs/\o.cls≠ .type "code")
structure Dr (own ρ:ah ay)(h h':aG):Prop where
 there:∀a o,h.get? a=ae o->∃o',h'.get? a=ae o'
 keep:∀a o,h.get? a=ae o->a∉own->a∉ρ->h'.get? a=ae o
abbrev strOf (e:Int×aw):au:=match e.2 with |.str x _=>x |_=>Str.empty
abbrev uW (w:gN)(e:Int×aw):Prop:=∃x t,e=(lu w x,.str x t)
inductive gH (X:Cx)(ρ:ah ay)(h:aG)(a:ay)(es:aZ (Int×aw))(ep:ak)(t:gv):aw->ak->ah (Int×aw)->Prop where
 |text {i:ak} {j:ak} (hb:X.w.params.followText "set-order"=aj):gH X ρ h a es ep t (bI j) i ((tB (X.w.params.setOrder a ep) es).toList.drop i)
 |drawn {T:ay} {oT:Obj} {ps:ah ak} {i:ak} (hb:X.w.params.followText "set-order"=az) (n1:T∉ρ) (n2:X.ok T) (e:h.get? T=ae oT) (ht:rT oT (ps.map λ(p:ak)=>bI p).toArray) (hp:∀p∈ps,p < es.size):
   gH X ρ h a es ep t (.ref T) i ((ps.drop i).filterMap λp=>es[p]?)
 |one (hb:X.w.params.followText "set-order"=az) (hs:es.size<=1):gH X ρ h a es ep t (bI (0:ak)) 0 es.toList
 |done {j i:ak} (hb:X.w.params.followText "set-order"=az) (hs:es.size<=1) (hj:es.size<=m8 t.place j):gH X ρ h a es ep t (bI j) i []
abbrev qg (first:aw)(i:ak)(a:ay)(n ep:ak):Obj:={ cls:=.type "set_iterator",data:=.fields #[first,bI i,.ref a,bI n,bI ep] }
inductive dT (X:Cx)(ρ:ah ay)(h:aG):ah ay->AI->aw->Prop where
 |simple {own:ah ay} {ai:AI} {it:aw} (r:bP X ρ h own ai it):dT X ρ h own ai it
 |enum {own:ah ay} {a:AI} {e it:ay} {i:Int} {old:aw} (he:oi h e it i old) (n:e∉ρ) (b:X.base.get? e=ag) (ne:e∉own) (r:bP X ρ h own a (.ref it)):dT X ρ h (e :: own) (.enum i a) (.ref e)
 |zip {o1 o2:ah ay} {a1 a2:AI} {q TI TO:ay} {v1 v2 x y:aw} (hz:jb h q TI TO .none) (hI:jz h TI v1 v2) (hO:jz h TO x y)
   (n:q∉ρ/\TI∉ρ/\TO∉ρ) (b:X.base.get? q=ag/\X.base.get? TI=ag/\X.base.get? TO=ag) (bad:TO∈X.bad) (xM:X.ok TI) (d:TI≠TO/\q∉o1++o2/\TO∉o1++o2/\(∀c∈o1,c∉o2)/\TI∉o1++o2)
   (r1:bP X ρ h o1 a1 v1) (r2:bP X ρ h o2 a2 v2):dT X ρ h (q :: TO :: (o1++o2)) (.zip a1 a2) (.ref q)
 |set {a it:ay} {o:Obj} {es:aZ (Int×aw)} {ep:ak} {t:gv} {first:aw} {i:ak} {cur:ah (Int×aw)} (n:it∉ρ) (b:X.base.get? it=ag) (na:a∉ρ) (xN:X.ok a) (ho:h.get? a=ae o)
   (hd:o.data= .set es ep t) (hf:t.fits es.size=aj) (kI:es.size≠0->t.plain=az) (mH:t.led= !X.w.params.followText "set-order") (good:∀e∈cur,uW X.w e)
   (hi:h.get? it=ae (qg first i a es.size ep)) (hc:gH X ρ h a es ep t first i cur):dT X ρ h [it] (.set (cur.map strOf)) (.ref it)
abbrev Ce (n:aI):aB:=["enumerate","zip","dict_itemiterator","dict_reverseitemiterator","odict_iterator","itertools.zip_longest","itertools.pairwise"].contains n
abbrev Cx.more (X:Cx)(bad:ah ay):Cx:={ X with bad:=bad++X.bad }
abbrev rV (X:Cx)(z:aD)(ρ:ah ay)(h:aG)(Q E:aw->aD->Prop):Res AI->St->Prop:=λr bh=>match r with
 |.ok ai=>∀z' eR h' t' bad own it,Zs z z'->Inv (X.more bad) eR bh h'->Go X [] ρ h eR h'->dT (X.more bad) eR h' own ai it->(∀c∈own,h.get? c=ag)->(∀b∈bad,h.get? b=ag)->Q it (sh z' h' t')
 |.err k=>∀z' eR h' t',Zs z z'->Inv X eR bh h'->Go X [] ρ h eR h'->∀e,eT k e h h'->E (.ref e) (sh z' h' t')
abbrev HI (X:Cx)(F:Or)(k:ak)(sc:bN)(e:aH)(d:DI):Prop:=
 ∀ ⦃A:d8⦄ ⦃l:ah bH⦄ ⦃env:bH⦄ ⦃cel:ah (au×ak)⦄ ⦃loc:ah (ax AV)⦄ ⦃ρ:ah ay⦄ ⦃st:St⦄ ⦃h:aG⦄,Ctx X k sc A l env cel loc ρ st h->∀z tk Q E,(d ⟨F,cel,loc⟩).run st (rV X z ρ h Q E)->
  aA (MX X) A (eval e env) (λx jk=>aA (MX X) A (gb x) Q E jk) E (sh z h tk)
abbrev rW {β:Type}(p:Res β->St->Prop):Res β->St->Prop:=λr st=>match r with
 |.err _=>dm
 |.ok b=>p (.ok b) st
inductive cq (X:Cx)(ρ:ah ay)(h:aG):ah (au×AV)->ah (au×aw)->Prop where
 |nil:cq X ρ h [] []
 |cons {n:au} {x:AV} {v:aw} {xs:ah (au×AV)} {vs:ah (au×aw)} (hx:aF X ρ h x v) (hs:cq X ρ h xs vs):cq X ρ h ((n,x) :: xs) ((n,v) :: vs)
abbrev HF (X:Cx)(F:Or)(k:ak):Prop:=∀{A:d8} {l:ah bH} {ρ:ah ay} {st:St} {h:aG},cn X->Ar X k (20 * k+30) A l ρ h->Inv X ρ st h->
 ∀{fv:AV} {f:aw} {args:ah AV} {vs:ah aw} {kw:ah (au×AV)} {kvs:ah (au×aw)},aF X ρ h fv f->aT X ρ h args vs->cq X ρ h kw kvs->aW X A [] (RV X) ρ st h (call f vs kvs) (F fv args kw)
abbrev nN:m7->aH
 |⟨_,v,_⟩=>v
abbrev Flow.value:Flow->aw
 |.ret v=>v
 |_=>.none
abbrev Cf:ax (fj×ah dy×bN)->aB
 |some (a,_,sc)=>a.posonlyargs.isEmpty && a.args.isEmpty && a.kwonlyargs.isEmpty && a.vararg.map argName == ae (aq "args") && a.kwarg.map argName == ae (aq "kwargs") && fc sc
 |_=>az
inductive lR (X:Cx)(ρ:ah ay)(h:aG):AS->aw->Prop where
 |val {x:AV} {v:aw} (r:aF X ρ h x v):lR X ρ h (.val x) v
 |range {r:ay} {b c:Int} {t u v:cK} {k:ak} (n:r∉ρ) (bb:X.base.get? r=ag) (hr:wD h r 0 b c t u v) (hb: -4096 < b/\b < 4096) (hc:c=1/\k=b.toNat\/c= -1/\k=(-b).toNat):lR X ρ h (.range 0 k c) (.ref r)
abbrev HR (X:Cx)(F:Or)(k:ak)(sc:bN)(e:aH)(d:DR):Prop:=
 ∀ ⦃A:d8⦄ ⦃l:ah bH⦄ ⦃env:bH⦄ ⦃cel:ah (au×ak)⦄ ⦃loc:ah (ax AV)⦄ ⦃ρ:ah ay⦄ ⦃st:St⦄ ⦃h:aG⦄,Ctx X k sc A l env cel loc ρ st h->aW X A [] (lR X) ρ st h (eval e env) (d ⟨F,cel,loc⟩)
structure jO (L:aB)(t:gv):Prop where
 xO:t.dummies= #[]
 mask:7<=t.mask
 led:t.led=L
abbrev kJ (w:gN)(h:aG)(S:ay)(xs:ah au):Prop:=
 ∃o es ep t,h.get? S=ae o/\o.ExactSet/\o.data= .set es ep t/\(∀e∈es.toList,uW w e)/\(es.toList.map strOf).Perm xs/\t.fits es.size=aj/\jO (!w.params.followText "set-order") t/\(es.size≠0->t.plain=az)
abbrev JH (g:aB):aI:=if g then "max" else "min"
abbrev lp (g:aB):aI:=if g then "max.loop" else "min.loop"
abbrev qh:ax (aw×Int×cK)->aZ aw
 |none=>#[]
 |some p=>#[p.1,.int p.2.1 p.2.2]
abbrev rX (g:aB)(n:Int):ax (aw×Int×cK)->aB
 |none=>aj
 |some p=>if g then decide (p.2.1 < n)else decide (n < p.2.1)
abbrev upd (s:aD)(S:ay)(xs:aZ aw):aD:={ s with heap:=s.heap.update S (bQ λu=>xs) }
abbrev qi (X:Cx)(ρ:ah ay)(h:aG):ax (Int×AV)->ax (aw×Int×cK)->Prop
 |none,w=>w=ag
 |some p,w=>∃v t,w=ae (v,p.1,t)/\aF X ρ h p.2 v
abbrev mI {α:Type}(n:ak)(lt:ak->ak->aB):KasT α->ax α
 |.ret a=>ae a
 |.ask i j k=>if i < n/\j < n/\i≠j then mI n lt (k (lt i j))else ag
abbrev f3 (r:ah ak)(i j:ak):aB:=decide (r.getD i 0 < r.getD j 0)
abbrev rY (n:ak)(r:ah ak):aB:=(mI n (f3 r) (kas_sort n)).map (·.toList) == ae (sortBy (f3 r) (dz n))
abbrev ranks:ak->ah (ah ak)
 | 0=>[[]]
 |n+1=>(ranks n).flatMap λr=>[0 :: r,1 :: r,2 :: r,3 :: r]
structure nO {α:Type}(lt:α->α->aB):Prop where
 uX:∀x,lt x x=az
 trans:∀x y z,lt x y=aj->lt y z=aj->lt x z=aj
 neg:∀x y z,lt x z=aj->lt x y=aj\/lt y z=aj
abbrev iB {α:Type}(lt:α->α->aB)(l:ah α)(x:α):ak:=l.countP λy=>lt y x
abbrev gI (x y:Keyed):aB:=decide (lz x.1 < lz y.1)
abbrev fw (rev:aB)(lt:Keyed->Keyed->aB)(it:ah Keyed):ah aw:=(sortBy (λx y=>if rev then lt y x else lt x y) it).map (·.2)
inductive Cg (X:Cx)(bad:ah ay)(F:Or)(z:aD)(ρ:ah ay)(h:aG)(kk:AV)(a kS:ay)(e1:ak)(l:ah AV)(vs:ah aw)(g:ah (Int×AV)->P AV)(p:Res AV->St->Prop)(i:ak)(s':aD):Prop where
 |mk {z':aD} {eR:ah ay} {bh:St} {h':aG} {t':ak} {acc:ah (Int×AV)} {keys:ah aw} {e:ak} (es:s'=sh z' h' t') (Z:Zs z z') (I:Inv (X.more bad) eR bh h') (G:Go X [] ρ h eR h') (ha:a∉eR) (hk:kS∉eR)
  (gk:h'.get? kS=ae (bC "list" (mc keys) e)) (ga:h'.get? a=ae (bC "list" #[] e1)) (hi:oh keys (acc.map (λp:Int×AV=>p.1))) (hl:keys.length=i) (Wr:acc.map (λp:Int×AV=>p.2)=l.take i)
  (Ws:aT (X.more bad) eR h' l vs) (hr:(nH F kk (l.drop i)>>=λrs=>g (acc++rs)).run bh p):Cg X bad F z ρ h kk a kS e1 l vs g p i s'
abbrev dJ (h:aG)(v:aw):Int×Int:=match v with
 |.ref a=>match h.get? a with
  |some o=>match o.data with
   |.seq xs _=>(lz (xs.getD 0 .none),lz (xs.getD 1 .none))
   |_=>(0,0)
  |none=>(0,0)
 |_=>(0,0)
abbrev jl (h:aG)(x y:Keyed):aB:=cX (dJ h x.1) (dJ h y.1)
abbrev nQ (h:aG)(v:aw):Prop:=∃a o x t y u w n,v= .ref a/\h.get? a=ae o/\o.cls= .type "tuple"/\o.data= .seq #[.int x t,.int y u,w] n
set_option backward.match.sparseCases true in
abbrev rZ (a:ay)(b:aB):dn PySem.Fin:=do
 let items <-GL (.ref a)
 tC (.ref a) λu=>#[]
 let before <-wF a
 let held <-wG items.toList
 let JI <-wH []
 lA [held,JI] do
  if b then jZ "list.sort.reverse"
  let kind <-if items.size < 2 then pure Aq else keyKind' items
  let ((),s) <-(if items.size < 2 then pure ()else sortRuns').run (pJ kind (if b then (items.zip items).reverse else items.zip items) #[] 7 ag)
  let sorted:=(jA s).map (·.2)
  let touched:=(<-wF a) != before
  tC (.ref a) λu=>if b then sorted.reverse else sorted
  if let ae e:=qS s then jZ "list.sort.comparison-raised";throw e
  if touched then jZ "list.sort.modified";raiseError "ValueError" "list modified during sort"
  ret .none
inductive jm (X:Cx)(ρ:ah ay):AV->km->aw->ah aw->Prop where
 |startswith {s:au} {t:cK}:jm X ρ (.str s) .startswith (.builtin "str.startswith") [.str s t]
 |split {s:au} {t:cK}:jm X ρ (.str s) .split (.builtin "str.split") [.str s t]
 |join {s:au} {t:cK}:jm X ρ (.str s) .join (.builtin "str.join") [.str s t]
 |append {i:ak} {a:ay} (e:ρ[i]? =ae a):jm X ρ (.ref i) .append (.builtin "list.append") [.ref a]
 |extend {i:ak} {a:ay} (e:ρ[i]? =ae a):jm X ρ (.ref i) .extend (.builtin "list.extend") [.ref a]
 |pop {i:ak} {a:ay} (e:ρ[i]? =ae a):jm X ρ (.ref i) .pop (.builtin "list.pop") [.ref a]
 |sort {i:ak} {a:ay} (e:ρ[i]? =ae a):jm X ρ (.ref i) .sort (.builtin "list.sort") [.ref a]
 |names {i:ak} {a f:ay} (e:ρ[i]? =ae a) (ef:X.kF uQ=ae f):jm X ρ (.ref i) .names (.ref f) [.ref a]
abbrev Ci:km->aI
 |.startswith=>"startswith" |.split=>"split" |.join=>"join" |.append=>"append" |.extend=>"extend" |.pop=>"pop" |.sort=>"sort" |.names=>"names"
structure mJ (X:Cx)(F:Or)(k n:ak):Prop where
 e:∀sc e,HE X F k sc e (cE sc n e)
 t:∀sc e,HT X F k sc e (cT sc n e)
 r:∀sc e,HR X F k sc e (cR sc n e)
 i:∀sc e,HI X F k sc e (cI sc n e)
 a:∀sc e,HA X F k sc e (cA sc n e)
abbrev mK:ah (au×ay):=[(aq "heapreplace",28),(aq "heapify",35),(aq "_heapreplace_max",42),(aq "_heapify_max",49),(aq "_siftdown",56),(aq "_siftup",63),(aq "_siftdown_max",70),(aq "_siftup_max",77),
 (aq "nsmallest",83),(aq "nlargest",89),(aq "_kind",96),(aq "_c_path",103),(aq "_splitroot",110),(aq "_normpath",117),(aq "normpath",124),(aq "_Ignore.__init__",137),(aq "_Ignore.names",144),(aq "_Ignore",147),
 (aq "_law_to_be_left_out",156),(aq "_law_ranks",161),(aq "_law_few",166),(aq "_law_says",173),(aq "law",178)]
abbrev kP (n:au):ax ay:=mK.lookup n
@[reducible] abbrev X0 (K:jw)(w:gN)(jk:aD):Cx:={ w:=w,base:=jk.heap,os:=jk.os,kF:=kP,gX:=147,bad:=[],K:=K }
abbrev fnIn (K:jw)(a:ay):ax wt:=match K.lookup a with |some ⟨_,_,.func fd,_⟩=>ae fd |_=>ag
abbrev recIn (K:jw)(c:aw)(q:au):aB:=match c with
 |.ref a=>match K.lookup a with
  |some ⟨_,_,.fields vs,_⟩=>(match (vs[1]? :ax aw)with |some (.str x _)=>x == q |_=>az)
  |_=>az
 |_=>az
abbrev xP (K:jw)(v:aw):aB:=match v with
 |.none=>aj
 |.ref a=>match K.lookup a with |some ⟨_,_,.seq _ _,_⟩=>aj |_=>az
 |_=>az
abbrev r9 (K:jw)(fd:wt):aB:=fd.scope.kind == .function && !fd.scope.isGenerator && !fd.scope.isCoroutine && fd.globals == gO && fd.closure.isEmpty && fd.builtins == qQ && recIn K fd.code fd.qualname && xP K fd.defaults && (cM fd.scope mC != ae .cell || fd.code == .ref rS)
abbrev BL:ah (aI×AV):=[("len",AV.bi "len"),("reversed",.ty "reversed"),("range",.ty "range"),("iter",.bi "iter"),("object",.ty "object"),("min",.bi "min"),("max",.bi "max"),
   ("sorted",.bi "sorted"),("zip",.ty "zip"),("type",.ty "type"),("str",.ty "str"),("int",.ty "int"),("bool",.ty "bool"),("float",.ty "float"),("tuple",.ty "tuple"),("dict",.ty "dict"),("set",.ty "set"),("enumerate",.ty "enumerate"),("sum",.bi "sum"),("list",.ty "list"),("AttributeError",.ty "AttributeError"),("TypeError",.ty "TypeError")]
abbrev oW:ah aI:=["heapreplace","heapify","_heapreplace_max","_heapify_max","_siftdown","_siftup","_siftdown_max","_siftup_max","nsmallest","nlargest","_kind","_c_path","_splitroot","_normpath","normpath","_Ignore","_law_to_be_left_out","_law_ranks","_law_few","_law_says"]
abbrev iR (K:jw)(x:au):ax (ax aw):=match K.lookup gO with |some ⟨_,_,.dict es _,_⟩=>ae (jy es x) |_=>ag
abbrev uY:AV->ax aw
 |.bi n=>ae (.builtin n)
 |.ty n=>ae (.type n)
 |_=>ag
abbrev lhs (K:jw):=(((mK.filter λp=>p.1 != gG).all (λp=>(fnIn K p.2).any (r9 K))),
 ((mK.filter λp=>p.1 != gG).map (λp=>(fnIn K p.2).map (λfd=>(fd.params,fd.body,fd.scope)))),
 ((K.lookup cJ).isNone),
 (codeHdIn K 177 175),
 (makesIn K 147),
 (keepIn K (.ref 147)),
 (fm K (.ref 147) "__init__"),
 (qR K (.ref 137)),
 (fm K (.ref 147) (aq "names")),
 (qR K (.ref 144)),
 (fm K (.ref 147) "__getattribute__"),
 (fm K (.ref 147) "__getattr__"),
 (fm K (.ref 147) "__setattr__"),
 (Ao K 147),
 (Ap K 147),
 (fm K (.ref 147) (aq "_mods")),
 (pI K 147 (aq "_mods")),
 (fm K (.ref 147) (aq "_dirs")),
 (pI K 147 (aq "_dirs")),
 (fm K (.ref 147) (aq "_ignore")),
 (pI K 147 (aq "_ignore")),
 (BL.map (λp=>iR K (aq p.1))),
 (oW.map (λn=>iR K (aq n))),
 ((match iR K (aq "sep")with |some (ae (.str x _))=>x == aq "/" |_=>az)),
 (iR K (aq "law")))
abbrev rhs:=((aj),
 ((mK.filter λp=>p.1 != gG).map (λp=>(defOf p.1).map (λq=>(q.1,wC q.2.1,q.2.2)))),
 (aj),
 (aj),
 (aj),
 (aj),
 (ae (ae (.ref 137)):ax (ax aw)),
 (ae (.type "function"):ax aw),
 (ae (ae (.ref 144)):ax (ax aw)),
 (ae (.type "function"):ax aw),
 (ae (ae (.builtin "object.__getattribute__")):ax (ax aw)),
 (ae ag:ax (ax aw)),
 (ae (ae (.builtin "object.__setattr__")):ax (ax aw)),
 (aj),
 (aj),
 (ae ag:ax (ax aw)),
 (ae ag:ax (ax aw)),
 (ae ag:ax (ax aw)),
 (ae ag:ax (ax aw)),
 (ae ag:ax (ax aw)),
 (ae ag:ax (ax aw)),
 (BL.map (λu=>ae ag):ah (ax (ax aw))),
 (oW.map (λn=>ae ((kP (aq n)).map gw)):ah (ax (ax aw))),
 (aj),
 (ae (ae (.ref 178)):ax (ax aw)))
abbrev Cj:ah ay:=[2,3,15,17,18,20,21,22,24,25,27,28,29,31,32,34,35,36,38,39,41,42,43,45,46,48,49,50,52,53,55,56,57,59,60,62,63,64,66,67,69,70,71,73,74,76,77,78,79,82,83,84,85,88,89,90,92,93,95,96,97,99,100,102,103,104,106,107,109,110,111,113,114,116,117,118,120,121,123,124,132,133,136,137,138,140,141,143,144,145,146,147,148,149,152,155,156,157,160,161,162,165,166,167,169,170,172,173,174,177,178]
abbrev FK (h:aG):jw:=Cj.filterMap λa=>(h.get? a).map λo=>(a,o)
@[reducible] abbrev pw:=PySem.Challenge.pw_oc0179_01
abbrev q0:m5:=view pw [26]
abbrev uZ:ah au:=["_wall","heapreplace","heapify","_heapreplace_max","_heapify_max","_siftdown","_siftup","_siftdown_max","_siftup_max","nsmallest","nlargest","sep","_kind","_c_path","_splitroot","_normpath","normpath","_Ignore","_law_to_be_left_out","_law_ranks","_law_few","_law_says"].map aq
abbrev xQ (s:aD):=(lhs (FK s.heap),s.heap.get? 175)
variable {X Y:Cx}{h H h₀ kn:aG}{B J j own br C fK:ah ay}{I Z jH:St}{A:d8}{F:Or}{U aP:bN}{k i W n u ep:ak}{E E':aw->aD->Prop}{a D S L:ay}{w:gN}{s z dE:aD}{v it:aw}{o o':Obj}{x y:AV}{prog:m5}{V:ah aw}{pos p q:fk}{G:bH}{l le:ah bH}{K:jw}{Q:ah (au×ak)}{kvs:ah (au×aw)}{N:ah (ax AV)}{e elt r target:aH}{kw:ah (au×AV)}{T xs:ah AV}{ai:AI}{ao:AO}{d:DE}{b:Int}{M:m4}{es:ah ((au ⊕ Int)×aw)}{O:aZ aw}{m mg:au->ax aw}{fd:wt}{R:Result->aD->Prop}{ct:DT}{f:aH->DE}{op:pD}{lo:ax aH}{ci:DI}{ca:DA}{ifs:ah aH}{mm:km}{loose:ah au}
def aF.none:aF X B h .none .none:=rfl
def aF.bool (b:aB):aF X B h (.bool b) (.bool b):=rfl
def aF.int (i:Int)(t:cK):aF X B h (.int i) (.int i t):=⟨t,rfl⟩
def aF.str (x:au)(t:cK):aF X B h (.str x) (.str x t):=⟨t,rfl⟩
def aF.ty (n:aI):aF X B h (.ty n) (.type n):=rfl
def aF.bi (n:aI):aF X B h (.bi n) (.builtin n):=rfl
def aF.fn {n:au}(e:X.kF n=ae a):aF X B h (.fn n) (.ref a):=⟨e⟩
def aF.ref (e:B[i]? =ae a):aF X B h (.ref i) (.ref a):=⟨e⟩
def aF.pair {vx vy:aw}(n1:a∉B)(n2:X.ok a)(e:h.get? a=ae o)(t:rT o #[vx,vy])(hx:aF X B h x vx)(hy:aF X B h y vy):aF X B h (.pair x y) (.ref a):=⟨⟨n1,n2,e,t⟩,hx,hy⟩
def KO.refl (X:Cx)(a:ay)(o:Obj):KO X a o o:=.inl rfl
theorem KO.trans {a0 b0 c0:Obj}(x:KO X a a0 b0)(y:KO X a b0 c0):KO X a a0 c0:=by
 rcases x with rfl |⟨hb,hc,sl,rfl⟩
 ·exact y
 ·rcases y with rfl |⟨_,_,JJ,rfl⟩
  ·exact .inr ⟨hb,hc,sl,rfl⟩
  ·exact .inr ⟨hb,hc,JJ,rfl⟩
def KO.exact (x:KO X a o o')(h:∀es ep,o.data≠ .dict es ep):o'=o:=by
 rcases x with e |⟨_,⟨es,ep,hc⟩,_⟩
 ·exact e
 ·exact absurd hc (h es ep)
def KO.cls (x:KO X a o o'):o'.cls=o.cls:=by
 rcases x with rfl |⟨_,_,_,rfl⟩<;>rfl
def KO.data (x:KO X a o o'):o'.data=o.data:=by
 rcases x with rfl |⟨_,_,_,rfl⟩<;>rfl
def JK {d:Data}{xs:aZ aw}(h:d= .seq xs n): ¬ iy d:=by
 subst h;rintro⟨_,_,q⟩;cases q
def Step.refl (X:Cx)(ex B:ah ay)(h:aG):Step X ex B h B h:=⟨λu o e=>⟨o,e⟩,⟨[],(fU _).symm,λu D=>nomatch D⟩,λa o e u u u=>⟨o,e,.refl ..⟩⟩
def Step.dt {ex:ah ay}(S:Step X ex B h J H)(e:h.get? a=ae o)(hn:a∉B):a∉J:=by
 obtain⟨F,rfl,E⟩:=S.ext;intro D;rcases dX.mp D with D |D
 ·exact hn D
 ·rw[E a D]at e;cases e
def Step.trans {ex b0:ah ay}(S:Step X ex B h J H)(a0:Step X ex J H b0 kn):Step X ex B h b0 kn:=by
 refine⟨λa o e=>by obtain⟨F,E⟩:=S.there a o e;exact a0.there a F E,?_,λa o e N M O=>?_⟩
 ·obtain⟨Q,rfl,R⟩:=S.ext;obtain⟨G,rfl,I⟩:=a0.ext;refine⟨Q++G,j2 ..,λa D=>?_⟩;rcases dX.mp D with D |D
  ·exact R a D
  ·cases q:h.get? a with
   |none=>rfl
   |some o=>obtain⟨F,E⟩:=S.there a o q;rw[I a D]at E;cases E
 ·obtain⟨F,E,k⟩:=S.keep a o e N M O;obtain⟨K,L,U⟩:=a0.keep a F E (S.dt e N) M (λD=>by rw[k.data];exact O D);exact⟨K,L,k.trans U⟩
def Step.mono {ex:ah ay}{a0:ah ay}(S:Step X ex B h J H)(hs:∀a∈ex,a∈a0):Step X a0 B h J H:=
 ⟨S.there,S.ext,λa o e F E G=>S.keep a o e F E λD=>G (hs a D)⟩
def Step.drop {ex:ah ay}(S:Step X (L :: ex) B h J H)(hL:h.get? L=ag):Step X ex B h J H:=
 ⟨S.there,S.ext,λa o e F E G=>S.keep a o e F E λD=>by
  rcases bu.mp D with rfl |D
  ·rw[hL]at e;cases e
  ·exact G D⟩
def Step.iT {ex:ah ay}(S:Step X ex B h J H)(e:B[i]? =ae a):J[i]? =ae a:=by
 obtain⟨E,rfl,_⟩:=S.ext;obtain⟨D,_⟩:=cF.mp e;rw[lB D];exact e
def Step.u5 {ex:ah ay}(S:Step X ex B h J H)(e:h.get? a=ae o)(n1:a∉B)(n2:a≠cJ)(nd:∀es ep,o.data≠ .dict es ep):H.get? a=ae o:=by
 obtain⟨E,D,k⟩:=S.keep a o e n1 n2 λ_ ⟨es,ep,q⟩=>nd es ep q;rw[k.exact nd]at D;exact D
def Kp.nd (k:Kp o)(es:aZ wz)(ep:ak):o.data≠ .dict es ep:=λq=>by
 cases k with
 |seq d=>exact tD (d.symm.trans q)
 |set d=>exact tD (d.symm.trans q)
 |code _ d=>exact tD (d.symm.trans q)
def Kp.nf {ws:aZ aw}(k:Kp o)(q:o.data= .fields ws):o.cls= .type "code":=by
 cases k with
 |seq d=>exact tD (d.symm.trans q)
 |set d=>exact tD (d.symm.trans q)
 |code c _=>exact c
theorem aF.dK (S:gY X j B J h H):∀{v:aw},aF X B h x v->aF { X with bad:=j } J H x v:=by
 have G:∀{V:aZ aw} {a:ay},TupAt X B h V a->TupAt { X with bad:=j } J H V a:=λq=>by
  obtain⟨D,E,e,c,n,d⟩:=q;obtain⟨F,I,e⟩:=S.obj _ _ D E e (.seq d);exact⟨F,I,e,c,n,d⟩
 induction x with
 |ref i=>rintro _ ⟨e⟩;exact⟨S.ref _ _ e⟩
 |one x ix=>rintro _ ⟨t,K⟩;exact⟨G t,ix K⟩
 |pair x y ix L=>rintro _ ⟨t,K,M⟩;exact⟨G t,ix K,L M⟩
 |dB x y z ix L N=>rintro _ ⟨t,K,M,O⟩;exact⟨G t,ix K,L M,N O⟩
 |gW l=>
  rintro _ ⟨⟨D,E,⟨o,e,c,n,d⟩,R,Q⟩⟩;obtain⟨F,I,e⟩:=S.obj _ _ D E e (.seq d);exact⟨⟨F,I,⟨o,e,c,n,d⟩,R,Q⟩⟩
 |cL l=>
  rintro _ ⟨⟨D,E,e,c,d,r⟩⟩;obtain⟨F,I,e⟩:=S.obj _ _ D E e (.set d);exact⟨⟨F,I,e,c,d,r⟩⟩
 |code q=>
  rintro _ ⟨⟨D,E,e,c,d,r⟩⟩;obtain⟨F,I,e⟩:=S.obj _ _ D E e (.code c d);exact⟨⟨F,I,e,c,d,r⟩⟩
 |_=>exact id
def Step.dK {ex:ah ay}(S:Step X ex B h J H):gY X X.bad B J h H:=⟨λu u=>S.iT,λu u D E e k=>⟨S.dt e D,E,S.u5 e D E.1 k.nd⟩⟩
def aF.step {ex:ah ay}(S:Step X ex B h J H)(r:aF X B h x v):aF X J H x v:=r.dK S.dK
def aT.jn (f:∀{x:AV} {v:aw},aF X B h x v->aF Y J H x v)(r:aT X B h xs V):aT Y J H xs V:=by
 induction r with
 |nil=>exact .nil
 |cons E _ D=>exact .cons (f E) D
def aT.step {ex:ah ay}(S:Step X ex B h J H)(r:aT X B h xs V):aT X J H xs V:=r.jn λq=>q.step S
def aT.length (r:aT X B h xs V):V.length=xs.length:=by
 induction r with
 |nil=>rfl
 |cons _ _ D=>exact bZ Nat.succ D
def aT.get (r:aT X B h xs V):∀{i:ak} {x:AV},xs[i]? =ae x->∃v,V[i]? =ae v/\aF X B h x v:=by
 induction r with
 |nil=>exact λe=>nomatch e
 |cons E _ D=>
  intro i x e;cases i with
  |zero=>exact⟨_,rfl,dp e ▸ E⟩
  |succ i=>exact D e
def aT.append {ys:ah AV}{ws:ah aw}(r:aT X B h xs V)(q:aT X B h ys ws):aT X B h (xs++ys) (V++ws):=by
 induction r with
 |nil=>exact q
 |cons E _ D=>exact .cons E D
def aT.set (r:aT X B h xs V)(hx:aF X B h x v):∀(i:ak),aT X B h (xs.set i x) (V.set i v):=by
 induction r with
 |nil=>exact λu=>.nil
 |cons D F E=>exact λi=>tE i (.cons hx F) λi=>.cons D (E i)
def aT.take (r:aT X B h xs V):∀(n:ak),aT X B h (xs.take n) (V.take n):=by
 induction r with
 |nil=>exact λn=>tE n .nil λu=>.nil
 |cons D F E=>exact λi=>tE i .nil λi=>.cons D (E i)
def aT.drop (r:aT X B h xs V):∀(n:ak),aT X B h (xs.drop n) (V.drop n):=by
 induction r with
 |nil=>exact λn=>tE n .nil λu=>.nil
 |cons D F E=>exact λi=>tE i (.cons D F) λi=>E i
def jM.none:jM X B h .none .none:=rfl
def jM.some (hx:aF X B h x v):jM X B h (.some x) (.some v):=⟨v,rfl,hx⟩
def OB.cls (b:OB X B h ao o):nM o.cls=aj:=by
 cases ao with
 |list l=>obtain⟨_,_,rfl,_⟩:=b;rfl
 |cell v=>rw[b.1];rfl
 |inst d=>obtain⟨E,_,rfl⟩:=b;rfl
 |bc l=>rw[b.1];rfl
 |dict l=>obtain⟨D,⟨F,G,⟨c,_⟩,_⟩,_⟩:=b;rw[c];rfl
 |iter s i=>cases s with
  |none=>rw[b.1];rfl
  |some s=>rw[b.1];rfl
 |obj=>rw[b.1];rfl
 |lam _ _ _ _=>obtain⟨_,_,_,_,_,_,rfl,_⟩:=b;rfl
def jM.jn {x:ax AV}{v:ax aw}(f:∀{x:AV} {v:aw},aF X B h x v->aF Y J H x v)(r:jM X B h x v):jM Y J H x v:=by
 cases x with
 |none=>exact r
 |some x=>exact r.imp λu q=>⟨q.1,f q.2⟩
def eS.jn {l:ah ((au ⊕ Int)×AV)}(f:∀{x:AV} {v:aw},aF X B h x v->aF Y J H x v)(r:eS X B h l es):eS Y J H l es:=by
 induction r with
 |nil=>exact .nil
 |cons D _ E=>exact .cons (f D) E
def eS.length {l:ah ((au ⊕ Int)×AV)}(r:eS X B h l es):es.length=l.length:=by
 induction r with
 |nil=>rfl
 |cons _ _ D=>exact bZ Nat.succ D
def eS.get {l:ah ((au ⊕ Int)×AV)}(r:eS X B h l es)(k:au ⊕ Int):jM X B h (eF l k) (valueAt es k):=by
 unfold eF valueAt;induction r with
 |nil=>exact .none
 | @cons E _ _ _ _ D _ F=>
  rw[GN,GN];by_cases e:E=k
  ·rw[jc e];exact .some D
  ·rw[pK e];exact F
def eS.any {l:ah ((au ⊕ Int)×AV)}(r:eS X B h l es)(k:au ⊕ Int):(es.any λkv=>decide (kv.1=k))=l.any λp=>decide (p.1=k):=by
 induction r with
 |nil=>rfl
 |cons _ _ D=>rw[pN,pN,D]
def eS.map {l:ah ((au ⊕ Int)×AV)}(r:eS X B h l es)(k:au ⊕ Int)(hx:aF X B h x v):
  eS X B h (l.map λp=>if p.1=k then (p.1,x)else p) (es.map λkv=>if kv.1=k then (kv.1,v)else kv):=by
 induction r with
 |nil=>exact .nil
 | @cons F _ _ _ _ E _ D=>
  rw[gc,gc];by_cases e:F=k
  ·rw[aN e,aN e];exact .cons hx D
  ·rw[aK e,aK e];exact .cons E D
def eS.snoc {l:ah ((au ⊕ Int)×AV)}(r:eS X B h l es)(k:au ⊕ Int)(hx:aF X B h x v):eS X B h (l++[(k,x)]) (es++[(k,v)]):=by
 induction r with
 |nil=>exact .cons hx .nil
 |cons D _ E=>exact .cons D E
def eS.put {l:ah ((au ⊕ Int)×AV)}(r:eS X B h l es)(k:au ⊕ Int)(hx:aF X B h x v):eS X B h (putD l k x) (stored es k v):=by
 unfold putD stored;rw[r.any k];split
 ·exact r.map k hx
 ·exact r.snoc k hx
def fY.mono {l:ah (au×ak)}{cl:ah (au×ay)}(r:fY B l cl)(h:∀(i:ak) (a:ay),B[i]? =ae a->J[i]? =ae a):fY J l cl:=by
 induction r with
 |nil=>exact .nil
 |cons e _ D=>exact .cons (h _ _ e) D
def fY.get {l:ah (au×ak)}{cl:ah (au×ay)}{x:au}{c:ak}(r:fY B l cl):l.lookup x=ae c->∃a,B[c]? =ae a/\cl.lookup x=ae a:=by
 induction r with
 |nil=>exact λe=>nomatch e
 | @cons y _ _ _ _ e _ D=>
  rw[gx,gx];cases x == y with
  |true=>exact λh=>dp h ▸ ⟨_,e,rfl⟩
  |false=>exact D
theorem OB.dK (S:gY X j B J h H)(b:OB X B h ao o):OB { X with bad:=j } J H ao o:=by
 have f:∀{x:AV} {v:aw},aF X B h x v->aF { X with bad:=j } J H x v:=λr=>r.dK S;cases ao with
 |list l=>obtain⟨O,n,d,r,c⟩:=b;exact⟨O,n,d,r.jn f,c⟩
 |cell v=>obtain⟨c,I,d,r⟩:=b;exact⟨c,I,d,r.jn f⟩
 |inst d=>obtain⟨M,e,r⟩:=b;exact⟨M,S.ref _ _ e,r⟩
 |bc l=>obtain⟨c,N,n,d,k,z,r⟩:=b;exact⟨c,N,n,d,k,z,λx=>(r x).jn f⟩
 |dict l=>obtain⟨G,d,r,c⟩:=b;exact⟨G,d,r.jn f,c⟩
 |iter s i=>cases s with
  |none=>exact b
  |some s=>obtain⟨c,a,e,d⟩:=b;exact⟨c,a,S.ref _ _ e,d⟩
 |obj=>exact b
 |lam _ _ _ _=>obtain⟨D,E,K,L,c,F,e,r,v⟩:=b;exact⟨D,E,K,L,c,F,e,r.mono S.ref,f v⟩
def OB.step {ex:ah ay}(S:Step X ex B h J H)(b:OB X B h ao o):OB X J H ao o:=b.dK S.dK
def gZ.ko (f:gZ o)(k:KO X a o o'):gZ o':=by obtain⟨B,D,d,q⟩:=f;exact⟨B,D,k.data.trans d,q⟩
def uT.refl (X:Cx)(B:ah ay)(h:aG):uT X B h h:=λu o e u f u=>⟨o,e,f⟩
def Go.refl (X:Cx)(ex B:ah ay)(h:aG):Go X ex B h B h:=⟨.refl ..,uT.refl X B h⟩
def Go.trans {ex a0:ah ay}(x:Go X ex B h J H)(y:Go X ex J H a0 kn):Go X ex B h a0 kn:=⟨x.step.trans y.step,λa o e n f b=>by
 obtain⟨D,F,E⟩:=x.fr a o e n f b;exact y.fr a D F (x.step.dt e n) E b⟩
def Go.mono {ex a0:ah ay}(x:Go X ex B h J H)(hs:∀a∈ex,a∈a0):Go X a0 B h J H:=⟨x.step.mono hs,x.fr⟩
theorem eT.oX {k:aI}{e:ay}{a0:aG}(x:eT k e a0 h)(hs:∀a o,h₀.get? a=ae o->∃o',a0.get? a=ae o'):eT k e h₀ h:=by
 have old:∀a,a0.get? a=ag->h₀.get? a=ag:=λa q=>by
  cases K:h₀.get? a with
  |none=>rfl
  |some o=>obtain⟨o',E⟩:=hs a o K;rw[q]at E;cases E
 obtain (⟨a,b,H,D⟩):=x;obtain (⟨o,V,F,I,J,G,B⟩):=D;refine⟨old _ a,b,H,o,V,F,I,J,G,?_⟩;rcases B with B |⟨T,oT,ts,d1,d2,d3⟩
 ·exact .inl B
 ·exact .inr ⟨T,oT,ts,d1,old _ d2,d3⟩
def Zs.refl (z:aD):Zs z z:=⟨rfl,rfl⟩
def Zs.trans {z' a0:aD}(x:Zs z z')(y:Zs z' a0):Zs z a0:=⟨y.1.trans x.1,y.2.trans x.2⟩
def aL.shift {e0:aD}{ex c0:ah ay}{d0:aG}{α β:Type}{R:ah ay->aG->β->α->Prop}{b0:α->aD->Prop}(a0:Zs z e0)(S:Go X ex B h c0 d0){r:Res β}(p:aL X z ex B h R b0 E r Z):aL X e0 ex c0 d0 R b0 E r Z:=λK J H F D I G=>by
 obtain q:=p K J H F (a0.trans D) I (S.trans G);cases r with
 |ok b=>exact q
 |err k=>exact λe x=>q e (x.oX S.step.there)
def aW.then {ex:ah ay}{α c0 β b0:Type}{R:ah ay->aG->β->α->Prop}{R':ah ay->aG->b0->c0->Prop}{a0:c0->aD->Prop}{t:dn α}{m:P β}{g:β->P b0}(h1:aW X A ex R B I h t m)(hr:(m>>=g).run I (aL X z ex B h R' a0 E)){Q':α->aD->Prop}(k:∀z' J Z H t' b a,Inv X J Z H->Go X ex B h J H->R J H b a->(g b).run Z (aL X z' ex J H R' a0 E)->Q' a (sh z' H t')):aA (MX X) A t Q' E (sh z h W):=by
 refine h1 z W Q' E (m.mono (λr Z y=>?_) (show m.run I _ from hr));intro z' J H t' F D S;cases r with
 |ok b=>exact λa G=>k z' J Z H t' b a D S G ((g b).mono (λu u p=>p.shift F S) y)
 |err k=>exact λe x=>y z' J H t' F D S e x
def aW.bind {ex:ah ay}{α b0 β a0:Type}{R:ah ay->aG->β->α->Prop}{R':ah ay->aG->a0->b0->Prop}{t:dn α}{f:α->dn b0}{m:P β}{g:β->P a0}(h1:aW X A ex R B I h t m)(h2:∀J Z H b a,Inv X J Z H->Go X ex B h J H->R J H b a->aW X A ex R' J Z H (f a) (g b)):aW X A ex R' B I h (t>>=f) (m>>=g):=by
 intro z W Q E K;refine bO (h1.then K λL J Z H G b a D S F y=>?_);exact h2 J Z H b a D S F L G Q E y
def aL.here {ex:ah ay}{α β:Type}{R:ah ay->aG->β->α->Prop}{a0:α->aD->Prop}{b:β}(b0:Inv X B Z h){a:α}(p:∀z' J H t',Zs z z'->Inv X J Z H->Go X ex B h J H->∀a,R J H b a->a0 a (sh z' H t'))(r:R B h b a)(t':ak):a0 a (sh z h t'):=
 p z B h t' (.refl z) b0 (.refl ..) a r
def aW.pure {ex:ah ay}{α β:Type}{R:ah ay->aG->β->α->Prop}{a:α}{b:β}(a0:Inv X B I h)(r:R B h b a):aW X A ex R B I h (tm a) (P.pure b):=λz W Q E D=>
 aC (D z B h W (.refl z) a0 (.refl ..) a r)
def aW.fail {ex:ah ay}{α β:Type}{R:ah ay->aG->β->α->Prop}{t:dn α}:aW X A ex R B I h t (P.fail:P β):=λu u u u D=>D.elim
def Inv.xR (a0:Inv X B I h)(e:h.get? a=ae o)(hc:nM o.cls=az):a∉B:=by
 intro F;obtain⟨i,D,G⟩:=qT.mp F;have gj:i < I.length:=a0.len ▸ D;obtain⟨H,E,b⟩:=a0.obj i I[i] a (cy gj) (by rw[cy D,G]);rw[e]at E;cases E;rw[b.cls]at hc;cases hc
def Inv.xS (a0:Inv X B I h)(e:h.get? a=ae o)(hc:o.cls≠ .none):a≠cJ:=by
 rintro rfl;obtain⟨V,D,_⟩:=a0.tab;rw[e]at D;cases D;exact hc rfl
def Inv.lt (a0:Inv X B I h)(hm:a∈B):a < h.objs.size:=by
 obtain⟨i,D,E⟩:=qT.mp hm;have gj:i < I.length:=a0.len ▸ D;obtain⟨G,F,b⟩:=a0.obj i I[i] a (cy gj) (by rw[cy D,E]);exact gP F
def Inv.Ck (a0:Inv X B I h):cJ∉B:=λD=>by obtain⟨o,e⟩:=a0.gg;rw[a0.new _ D]at e;cases e
def Inv.ey (a0:Inv X B I h)(e:h.get? a=ag):X.base.get? a=ag:=by
 cases q:X.base.get? a with
 |none=>rfl
 |some o=>
  by_cases E:a=cJ
  ·obtain⟨V,D,_⟩:=a0.tab;rw[<-E,e]at D;cases D
  ·rw[a0.base a o q E]at e;cases e
def Go.push (X:Cx)(ex B:ah ay)(h:aG)(o:Obj):Go X ex B h B (h.push o):=
 ⟨⟨λa D e=>⟨D,be _ e⟩,⟨[],(fU _).symm,λu E=>nomatch E⟩,λa D e u u u=>⟨D,be _ e,.refl ..⟩⟩,
  λa D e u f u=>⟨D,be _ e,f⟩⟩
def Inv.push (a0:Inv X B I h)(o:Obj):Inv X B I (h.push o):=
 ⟨a0.len,a0.nodup,λi K a G J=>by
   obtain⟨D,H,b⟩:=a0.obj i K a G J;exact⟨D,be _ H,b.step (Go.push X [] B h o).step⟩,
  λb D e F=>be _ (a0.base b D e F),a0.new,a0.gg,a0.mods,by obtain⟨V,e,c⟩:=a0.tab;exact⟨V,be _ e,c⟩,λb E=>by obtain⟨o,e⟩:=a0.gh b E;exact⟨o,be _ e⟩⟩
def eU (h:aG):h.get? h.objs.size=ag:=by
 cases q:h.get? h.objs.size with
 |none=>rfl
 |some o=>exact absurd (gP q) (dP _)
def Go.alloc (X:Cx)(ex B:ah ay)(h:aG)(o:Obj):Go X ex B h (B++[h.objs.size]) (h.push o):=
 ⟨⟨λa D e=>⟨D,be _ e⟩,⟨[h.objs.size],rfl,λa E=>by rw[aJ.mp E];exact eU h⟩,λa D e u u u=>⟨D,be _ e,.refl ..⟩⟩,
  λa D e u f u=>⟨D,be _ e,f⟩⟩
theorem Inv.snoc {o:Obj}(a0:Inv X B I h)(S:gY X j B (B++[D]) h H)(hb:∀b∈j,b∈X.bad)(hk:∀b o,h.get? b=ae o->H.get? b=ae o)(hD:D∉B)(hB:X.base.get? D=ag)(e:H.get? D=ae o)(b:OB { X with bad:=j } (B++[D]) H ao o):Inv { X with bad:=j } (B++[D]) (I++[ao]) H:=by
 refine⟨by rw[bK,bK,a0.len];rfl,?_,λi M a F G=>?_,λJ L e N=>hk _ _ (a0.base J L e N),λa E=>?_,a0.gg,a0.mods,by obtain⟨V,e,c⟩:=a0.tab;exact⟨V,hk _ _ e,c.imp id λ⟨ao,E,q⟩=>⟨ao,gQ _ E,q⟩⟩,λb E=>(a0.gh b (hb b E)).imp λo=>hk b o⟩
 ·refine tF.mpr ⟨a0.nodup,pO.mpr ⟨pP,GO⟩,λa Q b hb e=>?_⟩;rw[aJ.mp hb]at e;exact hD (e ▸ Q)
 ·by_cases K:i < I.length
  ·rw[lB K]at F;rw[lB (by rw[a0.len];exact K)]at G;obtain⟨L,O,J⟩:=a0.obj i M a F G;exact⟨L,hk _ _ O,J.dK S⟩
  ·obtain gj:=og.mp K;rw[wI gj]at F;rw[wI (by rw[a0.len];exact gj)]at G;rw[aJ.mp (cD F),aJ.mp (cD G)];exact⟨o,e,b⟩
 ·rcases dX.mp E with E |E
  ·exact a0.new a E
  ·rw[aJ.mp E];exact hB
def Inv.alloc (a0:Inv X B I h)(b:OB X B h ao o)(hf:o.isFreed=az):Inv X (B++[h.objs.size]) (I++[ao]) (h.push o):=
 have S:=(Go.alloc X [] B h o).step
 a0.snoc S.dK (λu=>id) (λu u e=>be _ e) (λD=>dP _ (a0.lt D)) (a0.ey (eU h)) (cV _ hf) (b.step S)
def Go.change (X:Cx)(hm:a∈B)(hs:fq a h H)(he:H.get? a=ae o')(ex:ah ay):Go X ex B h B H:=by
 refine⟨⟨λb o e=>?_,⟨[],(fU _).symm,λu hm=>nomatch hm⟩,λb o e D u u=>⟨o,(hs.2 b λq=>D (q ▸ hm)).trans e,.refl ..⟩⟩,λb o e D f u=>?_⟩
 ·by_cases q:b=a
  ·subst q;exact⟨_,he⟩
  ·exact⟨o,(hs.2 b q).trans e⟩
 exact⟨o,(hs.2 b λq=>D (q ▸ hm)).trans e,f⟩
theorem Inv.change {b0:AO}(a0:Inv X B I h)(hi:I[i]? =ae ao)(ha:B[i]? =ae a)(hs:fq a h H)(he:H.get? a=ae o')(b:OB X B h b0 o')(ex:ah ay)(hq:jj ao=aj->jj b0=aj:=by intro q0;cases q0):
  Inv X B (I.set i b0) H/\Go X ex B h B H:=by
 obtain O:a∈B:=cD ha;obtain G:=Go.change X O hs he;refine⟨⟨by simp[a0.len],a0.nodup,λj W c J K=>?_,λQ L E T=>?_,a0.new,a0.gg,a0.mods,?_,λb S=>by obtain⟨o,e⟩:=a0.gh b S;exact(G ex).step.there b o e⟩,G ex⟩
 ·by_cases D:j=i
  ·subst D;rw[ha]at K;cases K;obtain l:j < I.length:=(cF.mp hi).1;rw[me l]at J;cases J;exact⟨o',he,b.step (G []).step⟩
  ·rw[jB (λq=>D q.symm)]at J;obtain⟨L,E,Y⟩:=a0.obj j W c J K;obtain M:c≠a:=λq=>by
    subst q;obtain U:=cF.mp K;obtain A:=cF.mp ha;exact D ((wJ a0.nodup).mp (U.2.trans A.2.symm))
   exact⟨L,(hs.2 c M).trans E,Y.step (G []).step⟩
 ·refine(hs.2 Q λq=>?_).trans (a0.base Q L E T);rw[q,a0.new a O]at E;cases E
 ·obtain⟨V,Z,c⟩:=a0.tab;refine⟨V,(hs.2 cJ λq=>a0.Ck (q ▸ O)).trans Z,c.imp id λ⟨k,N,q⟩=>?_⟩;obtain⟨j,D,R⟩:=qT.mp N;by_cases F:j=i
  ·subst F;rw[cy D,R]at hi;cases hi;exact⟨b0,cD (i:=j) (by rw[me D]),hq q⟩
  ·exact⟨k,cD (i:=j) (by rw[jB (λq=>F q.symm),cy D,R]),q⟩
def gm {α:Type}{a:α}{P:Prop}(e:ag=ae a):P:=nomatch e
def Inv.ns (a0:Inv X B I h)(n:X.base.Ns a m)(ha:a≠cJ):h.Ns a m:=by
 obtain⟨o,D,E,e,r⟩:=n;exact⟨o,D,E,a0.base a o e ha,r⟩
def Inv.lim (a0:Inv X B I h)(C:cn X):h.NoLimit:=by
 obtain⟨D,n,e⟩:=C.lim;exact⟨D,a0.ns n (by decide),e⟩
def Frs.step {ex:ah ay}(x:Frs X l B h)(k:Go X ex B h J H):Frs X l J H:=λe F=>by
 obtain⟨a,L,o,b,c,n,d,f⟩:=x e F;obtain⟨D,G,E⟩:=k.fr L o d n f c;exact⟨a,L,D,b,c,k.step.dt d n,G,E⟩
def Go.ns (S:Go X [] B h J H)(n:h.Ns a m)(h1:a∉B)(h2:a≠cJ):H.Ns a m:=by
 obtain⟨o,F,I,e,d,r⟩:=n;obtain⟨E,G,k⟩:=S.step.keep a o e h1 h2 λD=>nomatch D;exact⟨E,F,I,G,k.data.trans d,r⟩
def En.xS (b0:En X U G Q N B h)(a0:Inv X B I h):G.locals≠cJ:=λe=>by
 have:=b0.iz;obtain⟨o,D⟩:=a0.gg;rw[e,D]at this;cases this
def En.step (b0:En X U G Q N B h)(a0:Inv X B I h)(S:Go X [] B h J H):En X U G Q N J H:=by
 refine⟨b0.kind,b0.glob,b0.blt,b0.kinds,b0.len,?_,?_,b0.iz,λx c E=>?_⟩
 ·obtain⟨m,n,r⟩:=b0.ns;refine⟨m,S.ns n b0.fZ (b0.xS a0),λx i v E M D=>?_⟩;obtain⟨L,F,K⟩:=r x i v E M D;exact⟨L,F,K.step S.step⟩
 ·obtain⟨m,n,r⟩:=b0.ns;obtain⟨o,R,O,e,_⟩:=n;exact S.step.dt e b0.fZ
 ·obtain⟨a,D,F⟩:=b0.cells x c E;exact⟨a,S.step.iT D,F⟩
def Ar.step {ex:ah ay}(a:Ar X n u A l B h)(k:Go X ex B h J H):Ar X n u A l J H:=⟨a.handled,a.depth,a.units,a.frames,a.dR.step k⟩
def JL {x y:au}(hx:lK U x=ae i)(hy:lK U y=ae i):x=y:=by
 unfold lK at hx hy;obtain⟨E,D,_⟩:=As.mp hx;obtain⟨F,B,_⟩:=As.mp hy;rw[bU]at D B;exact D.symm.trans B
def JM (a0:Inv X B I h)(c:n8)(k:ak)(b0:fk):aW X A [] (RV X) B I h (eval (.Constant c k b0) G) (B3 c ⟨F,Q,N⟩):=by
 intro z W D E H;cases c with
 |none=>exact GP (H _ _ _ _ (.refl _) a0 (.refl ..) _ .none)
 |bool b=>exact GQ (H _ _ _ _ (.refl _) a0 (.refl ..) _ (.bool b))
 |int i=>exact GR (H _ _ _ _ (.refl _) a0 (.refl ..) _ (.int i _))
 |str x=>exact GS (H _ _ _ _ (.refl _) a0 (.refl ..) _ (.str x _))
 |float _=>exact H.elim
 |complex _ _=>exact H.elim
 |bytes _=>exact H.elim
 |ellipsis=>exact H.elim
def c9 {β γ:Type}{o:ax β}{g:β->P γ}{p:Res γ->St->Prop}(hr:(P.opt o>>=g).run I p):∃b,o=ae b/\(g b).run I p:=by
 cases o with
 |none=>exact hr.elim
 |some b=>exact⟨b,rfl,hr⟩
def u7 {β:Type}{o:ax β}{p:Res β->St->Prop}(hr:(P.opt o).run I p):∃b,o=ae b/\p (.ok b) I:=by
 cases o with
 |none=>exact hr.elim
 |some b=>exact⟨b,rfl,hr⟩
def eV {γ:Type}{g:AO->P γ}{p:Res γ->St->Prop}(hr:(P.load i>>=g).run I p):∃o,I[i]? =ae o/\(g o).run I p:=by
 rw[P.run_bind]at hr;unfold P.load at hr;dsimp only at hr;revert hr;cases I[i]? with
 |none=>exact λx=>x.elim
 |some o=>exact λx=>⟨o,rfl,x⟩
def a6 {γ:Type}{c:Prop}[wu c]{g:b8->P γ}{p:Res γ->St->Prop}(hr:(P.guard c>>=g).run I p):c/\(g ()).run I p:=by
 unfold P.guard at hr;by_cases B:c
 ·rw[aN B]at hr;exact⟨B,hr⟩
 ·rw[aK B]at hr;exact hr.elim
def jo {γ:Type}{g:Int->P γ}{p:Res γ->St->Prop}(hr:(dF x>>=g).run I p):∃i,x= .int i/\(g i).run I p:=by
 cases x with
 |int i=>exact⟨i,rfl,hr⟩
 |_=>exact hr.elim
def xT {γ:Type}{g:au->P γ}{p:Res γ->St->Prop}(hr:(nD x>>=g).run I p):∃i,x= .str i/\(g i).run I p:=by
 cases x with
 |str i=>exact⟨i,rfl,hr⟩
 |_=>exact hr.elim
def iC {γ:Type}{g:ak->P γ}{p:Res γ->St->Prop}(hr:(e9 x>>=g).run I p):∃i,x= .ref i/\(g i).run I p:=by
 cases x with
 |ref i=>exact⟨i,rfl,hr⟩
 |_=>exact hr.elim
def xU (h:refOf x=ae i):x= .ref i:=by
 cases x with
 |ref j=>exact bZ AV.ref (dp h)
 |_=>exact gm h
def Cm {i:Int}(h:intOf x=ae i):x= .int i:=by
 cases x with
 |int j=>exact bZ AV.int (dp h)
 |_=>exact gm h
def JN {c:ak}{v:ax AV}(a0:Inv X B I h)(hc:I[c]? =ae (.cell v))(ha:B[c]? =ae a):∃v',h.IsCell a v'/\jM X B h v v':=by
 obtain⟨o,e,_,v',d,r⟩:=a0.obj c _ a hc ha;exact⟨v',⟨o,e,d⟩,r⟩
def JO {x:au}{c:RT}{p:Res AV->St->Prop}(hr:(uL x c).run I p):∃i v,c.cel.lookup x=ae i/\I[i]? =ae (.cell (ae v))/\p (.ok v) I:=by
 obtain⟨i,D,hr⟩:=c9 hr;obtain⟨o,B,hr⟩:=eV hr;cases o with
 |cell v=>cases v with
  |none=>exact hr.elim
  |some v=>exact⟨i,v,D,B,hr⟩
 |_=>exact hr.elim
theorem Cn (C:cn X)(a0:Inv X B I h)(b0:En X U G Q N B h)(x:au):aW X A [] (RV X) B I h (loadName G x) (nK U x ⟨F,Q,N⟩):=by
 intros _ z W D E _ H;unfold nK at H;by_cases O:(x == aq "__debug__" || x == aq "__classdict__")=aj
 ·rw[aN O]at H;exact H.elim
 rw[aK O]at H;obtain J:=b0.kinds x;obtain Q:∀{k:Prop},(uL x ⟨F,Q,N⟩).run I (aL X z [] B h (RV X) D E)->(∀a v,G.cells.lookup x=ae a->h.IsCell a (ae v)->D v (sh z h W)->k)->k:=λH k=>by
  obtain⟨c,v,u,j,H⟩:=JO H;obtain⟨a,Z,L⟩:=b0.cells x c u;obtain⟨_,K,M,rfl,T⟩:=JN a0 j Z;exact k a M L K (H _ _ _ _ (.refl _) a0 (.refl ..) _ T)
 cases V:cM U x with
 |none=>rw[V]at H;exact H.elim
 |some k=>
  rw[V]at H J;cases k with
  | «local»=>
   dsimp only at H;cases S:lK U x with
   |none=>rw[S]at H;exact H.elim
   |some i=>
    rw[S]at H;obtain⟨v,e,H⟩:=u7 (show(P.opt (N[i]?.join)).run I _ from H);obtain⟨m,n,r⟩:=b0.ns;obtain⟨M,l,T⟩:=r x i v V S (Option.join_eq_some_iff.mp e);exact wpAny_loadName_local b0.kind J n l (H _ _ _ _ (.refl _) a0 (.refl ..) _ T)
  |cell=>exact Q H λa v L K q=>GU b0.kind J L K q
  |free=>
   refine Q H ?_;intro a;intros _ v _ L K q;rcases J with J |J
   ·exact GU b0.kind J L K q
   ·exact wpAny_loadName_free b0.kind J L K q (by rw[pQ,not_or,pR,pR]at O;exact O.2)
  |globalExplicit=>exact H.elim
  |globalImplicit=>
   dsimp only at H;cases R:qb x with
   |none=>rw[R]at H;exact H.elim
   |some v=>
    intros v _ R;rw[R]at H;obtain (⟨b,o,Y,w,r⟩):=C.gl;have q:aA (MX X) A (loadGlobal G x) D E (sh z h W):=by
     rcases r x v R with ⟨M,e,sv⟩ |⟨e0,M,e,sv⟩
     ·exact PySem.Calls.loadGlobal_global (by rw[b0.glob];exact a0.ns Y (by decide)) e (H _ _ _ _ (.refl _) a0 (.refl ..) _ (sv ..))
     ·exact PySem.Calls.loadGlobal_builtin (by rw[b0.glob];exact a0.ns Y (by decide)) e0 (by rw[b0.blt];exact a0.ns w (by decide)) e (H _ _ _ _ (.refl _) a0 (.refl ..) _ (sv ..))
    rw[loadName_read b0.kind J];exact q
def Co (C:cn X)(a0:Inv X B I h)(b0:En X U G Q N B h)(x:au)(c0:fk):aW X A [] (RV X) B I h (eval (.Name x c0) G) (nK U x ⟨F,Q,N⟩):=by
 intro z W D E H;by_cases J:(x == aq "__debug__" || x == aq "__classdict__")=aj
 ·unfold nK at H;rw[aN J]at H;exact H.elim
 ·have Cp:=J;rw[pQ,not_or,pR,pR]at Cp;exact wpAny_Name (Cn (F:=F) C a0 b0 x z W D E H) Cp.1
def Cq {a:Int}(h:a.natAbs < 2 ^ 62): -(2 ^ 64) < a/\a < 2 ^ 64:=by
 have k:(a.natAbs:Int) < 2 ^ 64:=i7.2 (wK h (by decide:2 ^ 62 < 2 ^ 64));exact⟨GJ (Au k) (Int.neg_le_of_neg_le (Int.natAbs_neg a ▸ GV)),GW GV k⟩
def JQ (h:0 < b/\b < 2 ^ 29):b.natAbs < 1073741824:=by
 obtain⟨n,rfl⟩:=Av (Int.le_of_lt h.1);exact wK (i7.1 h.2) (by decide:2 ^ 29 < 1073741824)
def Inv.not_modules (a0:Inv X B I h)(hm:a∈B):(a == sysModules)=az:=by
 rw[oj];intro e;obtain⟨o,D⟩:=a0.mods;have:=a0.new a hm;rw[e,D]at this;cases this
def ez {l:ah AV}(a0:Inv X B I h)(hi:I[i]? =ae (.list l))(ha:B[i]? =ae a):
  ∃(O:ah aw) (n:ak),IsL h a O.toArray n/\aT X B h l O/\O.length=l.length/\l.length<=10000:=by
 obtain⟨o,e,O,n,rfl,r,c⟩:=a0.obj i _ a hi ha;exact⟨O,n,e,r,r.length,c⟩
def g6 {γ:Type}{g:ah AV->P γ}{p:Res γ->St->Prop}(hr:(lst i>>=g).run I p):∃l,I[i]? =ae (.list l)/\(g l).run I p:=by
 have B:(P.load i>>=λo=>(match o with |.list l=>P.pure l |_=>P.fail)>>=g).run I p:=hr;obtain⟨o,e,B⟩:=eV B;cases o with
 |list l=>exact⟨l,e,B⟩
 |_=>exact B.elim
def JR {l:ah AV}(a0:Inv X B I h)(r:aT X B h l V):aW X A [] (RV X) B I h (wH V) (cz l):=by
 intro z W Q E D;obtain⟨F,D⟩:=a6 D;have D:aL X z [] B h (RV X) Q E (.ok (.ref I.length)) (I++[.list l]):=D;refine om ?_ (by rw[r.length];show l.length<=2 ^ 24;exact FI 0 4096 0 16777216 F rfl);refine D _ _ _ _ (.refl _) (a0.alloc (ao:=.list l) ⟨V,0,rfl,r,by exact FI 0 4096 0 10000 F rfl⟩ rfl) (Go.alloc ..) _ (.ref ?_);rw[<-a0.len];simp
def xV (a0:Inv X B I h)(o:Obj)(V:ah aw)(ho:o={ cls:=.type "tuple",data:=.seq V.toArray }):h.objs.size∉B/\X.ok h.objs.size/\(h.push o).get? h.objs.size=ae o/\rT o V.toArray:=by
 subst ho;refine⟨λF=>dP _ (a0.lt F),⟨λe=>?_,λE=>?_⟩,cV _ rfl,rfl,_,rfl⟩
 ·obtain⟨V,D,_⟩:=a0.tab;rw[<-e,eU]at D;cases D
 ·obtain⟨o,e⟩:=a0.gh _ E;rw[eU]at e;cases e
set_option tactic.hygienic true in theorem JS {l : ah AV} (a0 : Inv X B I h) (r : aT X B h l V) : aW X A [] (RV X) B I h (wG V) (oO l) := by
 intro z W Q E hr;cases r with
 |nil=>exact hr.elim
 |cons h1 r=>
  cases r with
  |nil=>exact hr.elim
  |cons h2 r=>
   cases r with
   |nil=>
    rename_i x v y w;refine m9 ?_ (by show 2<=2 ^ 24;decide);obtain⟨n1,n2,e,t⟩:=xV a0 _ [v,w] rfl;obtain S:=Go.push X [] B h { cls:=.type "tuple",data:=.seq [v,w].toArray };exact hr _ _ _ _ (.refl _) (a0.push _) S _ (.pair n1 n2 e t (h1.step S.step) (h2.step S.step))
   |cons h3 r=>
    cases r with
    |nil=>
     rename_i x v y w u w2;refine m9 ?_ (by show 3<=2 ^ 24;decide);obtain⟨n1,n2,e,t⟩:=xV a0 _ [v,w,w2] rfl;obtain S:=Go.push X [] B h { cls:=.type "tuple",data:=.seq [v,w,w2].toArray };exact hr _ _ _ _ (.refl _) (a0.push _) S _ (⟨⟨n1,n2,e,t⟩,h1.step S.step,h2.step S.step,h3.step S.step⟩)
    |cons h4 r=>exact hr.elim
theorem JT {op:jW}{w:aw}(a0:Inv X B I h)(hx:aF X B h x v)(hy:aF X B h y w):aW X A [] (RV X) B I h (binaryOp op v w) (gf op x y):=by
 intros _ z W Q E _ D;have mk:∀{i:Int},aL X z [] B h (RV X) Q E (.ok (.int i)) I->∀t J,Q (.int i t) (sh z h J):=λD t J=>D _ _ _ _ (.refl _) a0 (.refl ..) _ (.int ..);cases x with
 |int a=>
  intros a _ hx D;obtain (⟨t,rfl⟩):=hx;obtain⟨b,rfl,D⟩:=jo D;obtain (⟨u,rfl⟩):=hy;cases op with
  |Add=>exact PySem.P.add_int (mk D _ _)
  |Sub=>exact PySem.P.sub_int (mk D _ _)
  |Mult=>
   obtain⟨F,D⟩:=a6 D;exact PySem.P.mul_int (mk D _ _) (IntMulOk.of_left (intBits_le_64 (Cq F.1).1 (Cq F.1).2))
  |FloorDiv=>
   obtain⟨F,D⟩:=a6 D;exact floordiv_int (GX F.1) (mk D _ _) (.inl (GY (JQ F)))
  |Mod=>
   obtain⟨F,D⟩:=a6 D;exact mod_int' (GX F.1) (mk D _ _)
  |Pow=>
   obtain⟨F,D⟩:=a6 D;exact pow_int_small F.1 (by lia) (by exact FI 1 4611686018427387904 1 18446744073709551616 F.2.2 rfl) (mk D _ _)
  |RShift=>
   obtain⟨F,D⟩:=a6 D;subst F;exact rshift_int (by decide) (mk D _ _)
  |_=>exact D.elim
 |str a=>
  intros a _ hx D;obtain (⟨t,rfl⟩):=hx;obtain⟨q,G⟩:=a6 D;clear D;subst q;obtain⟨b,q,D⟩:=xT G;clear G;subst q;obtain (⟨u,rfl⟩):=hy;obtain⟨F,D⟩:=a6 D;exact add_str (λJ Z=>D _ _ _ _ (.refl _) a0 (.refl ..) _ (.str ..)) (by show _<=2 ^ 24;exact FI 0 4096 0 16777216 F rfl)
 |ref i=>
  intros i _ hx D;obtain⟨e⟩:=hx;obtain⟨q,G⟩:=a6 D;clear D;subst q;obtain (⟨j,q,D⟩):=iC G;clear G;subst q;obtain⟨S⟩:=hy;obtain (⟨k,R,D⟩):=g6 D;obtain (⟨O,V,D⟩):=g6 D;obtain⟨F,D⟩:=a6 D;obtain⟨K,l,N,Y,M,_⟩:=ez a0 R e;obtain⟨H,o,T,U,L,_⟩:=ez a0 V S;refine PySem.P.add_list N T ?_ (by rw[cG,cG];show _<=2 ^ 24;lia);rw[GZ];refine D _ _ _ _ (.refl _) (a0.alloc (ao:=.list (k++O)) ⟨K++H,0,rfl,Y.append U,by exact FI 0 4096 0 10000 F rfl⟩ rfl) (Go.alloc ..) _ (.ref ?_);rw[<-a0.len];simp
 |_=>exact D.elim
theorem u9 (a0:Inv X B I h)(hx:aF X B h x v):aW X A [] (RB X) B I h (truthy v) (eE x):=by
 intros _ z W Q E _ D;cases x with
 |none=>cases hx;exact truthy_none (D _ _ _ _ (.refl _) a0 (.refl ..) _ rfl)
 |bool b=>cases hx;exact qO (D _ _ _ _ (.refl _) a0 (.refl ..) _ rfl)
 |int i=>obtain⟨t,rfl⟩:=hx;exact PySem.P.truthy_int (D _ _ _ _ (.refl _) a0 (.refl ..) _ rfl)
 |str x=>
  obtain⟨t,rfl⟩:=hx;obtain⟨K,D⟩:=a6 D;refine PySem.P.truthy_str (by lia) (D _ _ _ _ (.refl _) a0 (.refl ..) _ ?_);rcases Nat.eq_zero_or_pos x.length with q |q
  ·rw[q];rfl
  ·rw[qU.mpr (by lia),qU.mpr (by lia)]
 |ref i=>
  intros i _ hx D;obtain⟨e⟩:=hx;obtain⟨o,i,D⟩:=eV D;cases o with
  |list l=>
   obtain⟨H,n,q,r,len,J⟩:=ez a0 i e;refine wpAny_truthy_list q.isList (by rw[cG];lia) (D _ _ _ _ (.refl _) a0 (.refl ..) _ ?_);cases l with
   |nil=>cases r;rfl
   |cons a b=>cases r;rfl
  |dict l=>
   obtain⟨o,G,F,d,r,c⟩:=a0.obj _ _ _ i e;refine wpAny_truthy_dict (knd:=mE X) (a0.not_modules (cD e)) (tG.mpr ⟨o,G,d⟩) (by rw[r.length];lia) (D _ _ _ _ (.refl _) a0 (.refl ..) _ ?_);cases r <;>rfl
  |_=>exact D.elim
 |_=>exact D.elim
def Ctx.step (K:Ctx X k U A l G Q N B I h)(b0:Inv X J Z H)(a0:Go X [] B h J H):Ctx X k U A l G Q N J Z H:=
 ⟨K.ok,K.ar.step a0,K.top,b0,K.en.step K.inv a0,K.code⟩
def JU {l:aH}{op:jW}{a b:DE}(ha:HE X F k U l a)(hb:HE X F k U r b):HE X F k U (.BinOp l op r pos) (λrt=>do
   let x0 <-a rt
   let y0 <-b rt
   gf op x0 y0):=by
 intro A l G Q N B I h K z W D E f;refine wpAny_BinOp ?_;refine(ha K).then f λz1 Y R m t1 x v j Z O J=>?_;refine(hb (K.step j Z)).then J λS M T h2 V y w u o L H=>?_;exact JT u (O.step o.step) L S V D E H
def JV {x:aH}{a:DE}(ha:HE X F k U x a):HE X F k U (.UnaryOp .Not x pos) (λrt=>do
   let v0 <-a rt
   let b0 <-eE v0
   P.pure (.bool !b0)):=by
 intro A l G Q N B I h K z W D E Z;refine wpAny_UnaryOp ?_;refine(ha K).then Z λf T R j u x v V m O J=>?_;refine not_value ?_;refine(u9 V O).then J λb M S h2 o y w Y G2 L H=>?_;obtain rfl:y=w:=L;exact H _ _ _ _ (.refl _) Y (.refl ..) _ (.bool _)
def JW {x:aH}{a:DE}(ha:HE X F k U x a):HE X F k U (.UnaryOp .USub x pos) (λrt=>do
   let v0 <-a rt
   let i0 <-dF v0
   P.pure (.int (-i0))):=by
 intro A l G Q N B I h K z W D E O;refine wpAny_UnaryOp ?_;refine(ha K).then O λY J R T V x v L S M H=>?_;obtain⟨i,rfl,H⟩:=jo H;obtain⟨t,rfl⟩:=M;exact PySem.P.neg_int (H _ _ _ _ (.refl _) L (.refl ..) _ (.int ..))
def JX {x y:aH}{a b:DE}(ha:HE X F k U x a)(hb:HE X F k U y b):HE X F k U (.BoolOp .And [x,y] pos) (λrt=>do
   let v0 <-a rt
   let c <-eE v0
   if c then b rt else P.pure v0):=by
 intro A l G Q N B I h K z W D E f;refine wpAny_And2 ?_;refine(ha K).then f λz1 u V m t1 x v M o L J=>?_;refine(u9 M L).then J λY T Z h2 j y w O R S H=>?_;obtain rfl:y=w:=S;cases y with
 |true=>exact hb ((K.step M o).step O R) Y j D E H
 |false=>exact H _ _ _ _ (.refl _) O (.refl ..) _ (L.step R.step)
def JY {x y:aH}{a b:DE}(ha:HE X F k U x a)(hb:HE X F k U y b):HE X F k U (.BoolOp .Or [x,y] pos) (λrt=>do
   let v0 <-a rt
   let c <-eE v0
   if c then P.pure v0 else b rt):=by
 intro A l G Q N B I h K z W D E f;refine wpAny_Or2 ?_;refine(ha K).then f λz1 u V m t1 x v M o L J=>?_;refine(u9 M L).then J λY T Z h2 j y w O R S H=>?_;obtain rfl:y=w:=S;cases y with
 |true=>exact H _ _ _ _ (.refl _) O (.refl ..) _ (L.step R.step)
 |false=>exact hb ((K.step M o).step O R) Y j D E H
def JZ {t b o:aH}{cb co:DE}(ht:HT X F k U t ct)(hb:HE X F k U b cb)(ho:HE X F k U o co):HE X F k U (.IfExp t b o pos) (λrt=>do
   let c <-ct rt
   if c then cb rt else co rt):=by
 intro A l G Q N B I h K z W D E T;refine wpAny_IfExp ?_;refine(ht K).then T λO R V Y M x v L J S H=>?_;obtain rfl:x=v:=S;cases x with
 |true=>exact hb (K.step L J) O M D E H
 |false=>exact ho (K.step L J) O M D E H
def J2 {x:aH}{a:DT}(ha:HT X F k U x a):HT X F k U (.UnaryOp .Not x pos) (λrt=>do
   let b0 <-a rt
   P.pure !b0):=by
 intro A l G Q N B I h K z W D E O;refine wpAny_isTrue_Not ?_;refine(ha K).then O λY J R T V x v L S M H=>?_;obtain rfl:x=v:=M;exact H _ _ _ _ (.refl _) L (.refl ..) _ rfl
def J3 {x y:aH}{a b:DT}(ha:HT X F k U x a)(hb:HT X F k U y b):HT X F k U (.BoolOp .And [x,y] pos) (λrt=>do
   let c <-a rt
   if c then b rt else P.pure az):=by
 intro A l G Q N B I h K z W D E R;refine Aw (G9 ?_);refine(ha K).then R λV L S Y T x v J M O H=>?_;obtain rfl:x=v:=O;cases x with
 |true=>
  refine G9 ?_;refine eB (hb (K.step J M) V T _ _ H) (λc Z q=>?_) λu u q=>q;cases c with
  |true=>exact wpAny_allTrue_And_nil q
  |false=>exact q
 |false=>exact H _ _ _ _ (.refl _) J (.refl ..) _ rfl
def J4 {x y:aH}{a b:DT}(ha:HT X F k U x a)(hb:HT X F k U y b):HT X F k U (.BoolOp .Or [x,y] pos) (λrt=>do
   let c <-a rt
   if c then P.pure aj else b rt):=by
 intro A l G Q N B I h K z W D E R;refine Aw (tH ?_);refine(ha K).then R λV L S Y T x v J M O H=>?_;obtain rfl:x=v:=O;cases x with
 |true=>exact H _ _ _ _ (.refl _) J (.refl ..) _ rfl
 |false=>
  refine tH ?_;refine eB (hb (K.step J M) V T _ _ H) (λc Z q=>?_) λu u q=>q;cases c with
  |true=>exact q
  |false=>exact Ha q
def J5 {x y w:aH}{a b c:DT}(ha:HT X F k U x a)(hb:HT X F k U y b)(hc:HT X F k U w c):HT X F k U (.BoolOp .Or [x,y,w] pos) (λrt=>do
   let u0 <-a rt
   if u0 then P.pure aj else do
    let v0 <-b rt
    if v0 then P.pure aj else c rt):=by
 intro A l G Q N B I h K z W D E o;refine Aw (tH ?_);refine(ha K).then o λz1 j T f m x v M O L J=>?_;obtain rfl:x=v:=L;cases x with
 |true=>exact J _ _ _ _ (.refl _) M (.refl ..) _ rfl
 |false=>
  refine tH ?_;refine(hb (K.step M O)).then J λZ S V h2 Y x v R u L H=>?_;obtain rfl:x=v:=L;cases x with
  |true=>exact H _ _ _ _ (.refl _) R (.refl ..) _ rfl
  |false=>
   refine tH ?_;refine eB (hc ((K.step M O).step R u) Z Y _ _ H) (λc s' q=>?_) λd d q=>q;cases c with
   |true=>exact q
   |false=>exact Ha q
def J6 {a:DE}(ha:HE X F k U e a)(he:∀G whole,tw e G whole=(do let v0 <-whole;tI e.pos;lA [v0] (truthy v0))):HT X F k U e (λrt=>do
   let v0 <-a rt
   eE v0):=by
 intro A l G Q N B I h K z W D E O;refine wpAny_isTrue_value ?_ (he _ _);refine(ha K).then O λT J R Y S x v L V M H=>?_;exact u9 L M T S D E H
def kQ {a0:ah aH}(h:dg e=aj):jC (e :: a0) G=(az,eval e G) :: jC a0 G:=by
 cases e <;>first |rfl |cases h
def xW:∀(es:ah aH) (f:aH->DE) (pos:fk),(∀e∈es,HE X F k U e (f e))->(∀e∈es,dg e=az->f e=stuck)->
  ∀{A:d8} {l:ah bH} {G:bH} {Q:ah (au×ak)} {N:ah (ax AV)} {B:ah ay} {I:St} {h:aG},Ctx X k U A l G Q N B I h->
   aW X A [] (JG X) B I h (spliced (lC pos (jC es G))) (dG (es.map f) ⟨F,Q,N⟩):=by
 intro w;induction w with
 |nil=>
  intro f pos _ _ A l G Q N B I h K;exact λz W D E H=>Ax (H _ _ _ _ (.refl _) K.inv (.refl ..) _ .nil)
 |cons e es u=>
  intro f pos Y T A l G Q N B I h K;intro z W D E H;cases S:dg e with
  |false=>
   obtain H:(f e ⟨F,Q,N⟩>>=λv=>dG (es.map f) ⟨F,Q,N⟩>>=λV=>P.pure (v :: V)).run I _:=H;rw[T e (.head _) S]at H;exact H.elim
  |true=>
  refine Ay ?_ (kQ S);refine(Y e (.head _) K).then H λz1 m b h1 t1 x v I1 G1 j M=>?_;refine(u f pos (λJ R=>Y J (.tail _ R)) (λJ R=>T J (.tail _ R)) (K.step I1 G1)).then M λz2 Z o h2 t2 xs V I2 G2 O L=>?_;exact L _ _ _ _ (.refl _) I2 (.refl ..) _ (.cons (j.step G2.step) O)
def J7 {es:ah aH}(he:∀e∈es,HE X F k U e (f e))(hp:∀e∈es,dg e=az->f e=stuck):HE X F k U (.List es pos) (λrt=>do
   let l0 <-dG (es.map f) rt
   cz l0):=by
 intro A l G Q N B I h K z W D E R;refine List_ ?_;refine(xW es f pos he hp K).then R λO L S Z T j V M Y J H=>?_;exact JR M J O T D E H
def J8 {es:ah aH}(he:∀e∈es,HE X F k U e (f e))(hp:∀e∈es,dg e=az->f e=stuck):HE X F k U (.Tuple es n pos) (λrt=>do
   let l0 <-dG (es.map f) rt
   oO l0):=by
 intro A l G Q N B I h K z W D E R;refine Tuple_ ?_;refine(xW es f pos he hp K).then R λO L S Z T j V M Y J H=>?_;exact JS M J O T D E H
def J9 {o:AO}{l:ah AV}(h:listOf o=ae l):o= .list l:=by
 cases o with
 |list _=>exact bZ AO.list (dp h)
 |_=>exact gm h
def xX {f:AV->ax hZ}{l:ah AV}(hf:∀x v d,aF X B h x v->f x=ae d->∃as,Reads h v d as/\d.canLay0=aj/\d.depth<=n)(r:aT X B h l V):
  ∀{ds:ah hZ},c8 f l=ae ds->∃as,ReadsAll h V ds as/\PyData.canLayAll0 ds=aj/\Hb ds<=n:=by
 induction r with
 |nil=>exact λe=>dp e ▸ ⟨[],.nil,rfl,cZ _⟩
 | @cons x v l _ O Q K=>
  intro D e;have e:(match f x,c8 f l with |some d,ae ds=>ae (d :: ds) |_,_=>ag)=ae D:=e;cases E:f x with
  |none=>rw[E]at e;cases e
  |some d=>
   rw[E]at e;cases F:c8 f l with
   |none=>rw[F]at e;cases e
   |some ds=>
    rw[F]at e;cases e;obtain⟨as,M,G,L⟩:=hf x _ d O E;obtain⟨N,H,J,I⟩:=K F;refine⟨as++N,.cons M H,?_,Nat.max_le.mpr ⟨L,I⟩⟩;unfold PyData.canLayAll0;rw[G,J];rfl
theorem vd {l:ah AV}(hx:aF X B h x v)(e:gd x=ae l):∃a O,v= .ref a/\IsTup h a O.toArray/\aT X B h l O:=by
 cases x with
 |one=>obtain⟨⟨_,_,D,t⟩,hx⟩:=hx;cases e;exact⟨_,_,rfl,⟨_,D,t⟩,.cons hx .nil⟩
 |pair=>obtain⟨⟨_,_,D,t⟩,hx,E⟩:=hx;cases e;exact⟨_,_,rfl,⟨_,D,t⟩,.cons hx (.cons E .nil)⟩
 |dB=>obtain⟨⟨_,_,D,t⟩,hx,E,F⟩:=hx;cases e;exact⟨_,_,rfl,⟨_,D,t⟩,.cons hx (.cons E (.cons F .nil))⟩
 |_=>exact gm e
def Cr {d:hZ}(hx:aF X B h x v)(e:uF x=ae d):∃as,Reads h v d as/\d.canLay0=aj/\d.depth<=n:=by
 cases x with
 |none=>cases hx;cases e;exact⟨[],.none,rfl,cZ _⟩
 |bool b=>cases hx;cases e;exact⟨[],.bool b,rfl,cZ _⟩
 |int i=>obtain⟨t,rfl⟩:=hx;cases e;exact⟨[],.int i t,rfl,cZ _⟩
 |str x=>
  obtain⟨t,rfl⟩:=hx;obtain⟨q,e⟩:=tJ.mp e;cases e;exact⟨[],.str x t,q,cZ _⟩
 |_=>exact gm e
theorem qj (a0:Inv X B I h)(n:ak):∀(x:AV) (v:aw) (d:hZ),aF X B h x v->a8 n I x=ae d->∃as,Reads h v d as/\d.canLay0=aj/\d.depth<=n:=by
 induction n with
 |zero=>exact λx v d D e=>Cr D e
 |succ n G=>
  intros n _ G;intro x v d D e;have e:(match gd x with |some l=>(c8 (a8 n I) l).map .tuple |none=>match refOf x with |some i=>(I[i]?.bind listOf).bind λl=>(c8 (a8 n I) l).map .list |none=>uF x)=ae d:=e;cases E:gd x with
  |some l=>
   rw[E]at e;obtain⟨N,J,rfl⟩:=j3.mp e;obtain⟨a,O,rfl,⟨o,M,Q,m,L⟩,r⟩:=vd D E;obtain⟨as,r,c,d⟩:=xX G r J;exact⟨as,.tuple M Q L r,c,Az d⟩
  |none=>
   rw[E]at e;cases H:refOf x with
   |none=>rw[H]at e;exact Cr D e
   |some i=>
    rw[H]at e;obtain q:=xU H;subst q;obtain⟨K⟩:=D;obtain⟨l,F,e⟩:=qV.mp e;obtain⟨o,R,F⟩:=qV.mp F;obtain⟨N,J,rfl⟩:=j3.mp e;obtain q:=J9 F;subst q;obtain⟨S,m,q,r,_⟩:=ez a0 R K;obtain⟨as,r,c,d⟩:=xX G r J;exact⟨_,.list q rfl rfl r,c,Az d⟩
def Cs {d1 d2:ak}(hA:A.units+u<=9800)(h1:d1<=8):A.units+min d1 d2 < cLine:=by
 have:=tn d1 d2;show _ < 9900
 lia
def Ct {v:aw}{w:aw}(hA:A.units+u<=9800)(a0:Inv X B I h)(hx:aF X B h x v)(hy:aF X B h y w):
  aW X A [] (λc c b v=>v= .bool b) B I h (ja .Eq v w) (lI x y)/\aW X A [] (λc c b v=>v= .bool !b) B I h (ja .NotEq v w) (lI x y):=by
 have H:∀{p:Res aB->St->Prop},(lI x y).run I p->∃G F,a8 8 I x=ae G/\a8 8 I y=ae F/\p (.ok (bY G F)) I:=by
  intro p D;obtain D:(match a8 8 I x,a8 8 I y with |some x,ae y=>P.pure (bY x y) |_,_=>P.fail).run I p:=D;cases L:a8 8 I x with
  |none=>rw[L]at D;exact D.elim
  |some G=>
   cases T:a8 8 I y with
   |none=>rw[L,T]at D;exact D.elim
   |some F=>rw[L,T]at D;exact⟨G,F,rfl,rfl,D⟩
 constructor
 ·intro z W Q E D;obtain⟨G,F,S,M,D⟩:=H D;obtain⟨V,R,J,O⟩:=qj a0 8 x v G hx S;obtain⟨Y,K,N,U⟩:=qj a0 8 y w F hy M;exact SeqAt.compareEq_reads R K J N (Cs hA O) (D _ _ _ _ (.refl _) a0 (.refl ..) _ rfl)
 ·intro z W Q E D;obtain⟨G,F,S,M,D⟩:=H D;obtain⟨V,R,J,O⟩:=qj a0 8 x v G hx S;obtain⟨Y,K,N,U⟩:=qj a0 8 y w F hy M;exact SeqAt.compareNe_reads R K J N (Cs hA O) (D _ _ _ _ (.refl _) a0 (.refl ..) _ rfl)
def J' {v:aw}{l:ah AV}(hA:A.units+u<=9800)(a0:Inv X B I h)(hx:aF X B h x v)(hi:I[i]? =ae (.list l))(ha:B[i]? =ae a):
  aW X A [] (λc c b v=>v= .bool b) B I h (ja .In v (.ref a)) (xC x l):=by
 intro z W Q E D;obtain D:(match a8 8 I x,c8 (a8 8 I) l with |some d,ae H=>P.pure (H.any λy=>bY y d) |_,_=>P.fail).run I _:=D;cases F:a8 8 I x with
 |none=>rw[F]at D;exact D.elim
 |some d=>
  cases G:c8 (a8 8 I) l with
  |none=>rw[F,G]at D;exact D.elim
  |some H=>
   rw[F,G]at D;obtain⟨S,M,J,R⟩:=qj a0 8 x v d hx F;obtain⟨N,m,q,r,_⟩:=ez a0 hi ha;obtain⟨T,K,L,O⟩:=xX (qj a0 8) r G;refine SeqAt.in_list_reads (.list q rfl rfl (by simpa using K)) M L J ?_ (D _ _ _ _ (.refl _) a0 (.refl ..) _ rfl);have:=tn (Hb H) d.depth;show _ < 9900
   lia
theorem Ka {b:ay}{i a0 k m:Int}{t1 t2 t3 t4:cK}{v':aw}{b0:aw->aD->Prop}(hu:A.units < cLine)(ha:IsTup s.heap a #[.int i t1,.int a0 t2,v])(hb:IsTup s.heap b #[.int k t3,.int m t4,v'])(c0:i=k->a0≠m)(h:b0 (.bool (if i=k then decide (a0 < m)else decide (i < k))) s):
  aA (aV prog w) A (ja .Lt (.ref a) (.ref b)) b0 E s:=by
 show aA _ _ (tK .Lt (.ref a) (.ref b)) b0 E s;have H:∀(P:PySem.Fin->aD->Prop) (A:d8),P (.done (.ret (.bool (if i=k then decide (a0 < m)else decide (i < k))))) s->aA (aV prog w) A (j4.«tuple.__lt__» ⟨[.ref a,.ref b],[]⟩) P E s:=by
  intros _ P A _ h;show aA _ _ (isInstance (.ref b) (.type "tuple")>>=_) _ _ s;refine wB (mh hb.typeIs isSubtype_tuple_tuple ?_);simp only[qW,jd,je];refine wB (tupleItemsOf_ ha ?_);refine wB (tupleItemsOf_ hb ?_);refine wB ?_;refine wpAny_forIn_list _ (λB r G=>r.1=ag/\G=s/\(B=[(tL i t1,tL k t3),(.int a0 t2,.int m t4),(v,v')]\/(i=k/\B=[(tL a0 t2,tL m t4),(v,v')]))) _ ?_ ?_ _ _ ⟨rfl,rfl,.inl rfl⟩
  ·rintro⟨p,q⟩ B r G ⟨hr,rfl,hc |⟨rfl,hc⟩⟩
   ·cases hc;refine wB (tu ?_);by_cases D:i=k
    ·subst D;simp only[BEq.rfl,qW,jd,je];exact aC ⟨rfl,rfl,.inr ⟨trivial,trivial⟩⟩
    ·rw[AA D];simp only[Hc,jD];rw[aK D]at h;refine wB (gR ?_);refine wB (show aA _ _ (ja .Lt (.int i t1) (.int k t3)) _ _ _ from PySem.P.lt_int ?_);exact wB (aC (aC (aC h)))
   ·cases hc;refine wB (tu ?_);obtain F:=c0 rfl;rw[AA F];simp only[Hc,jD];rw[aN rfl]at h;refine wB (gR ?_);refine wB (show aA _ _ (ja .Lt (.int a0 t2) (.int m t4)) _ _ _ from PySem.P.lt_int ?_);exact wB (aC (aC (aC h)))
  ·rintro⟨r1,r2⟩ G ⟨_,_,hc |⟨_,hc⟩⟩<;>cases hc
 refine wpAny_richCompare_same_room ha.typeIs hb.typeIs PySem.F.slot_tuple_lt ?_ hu;exact gy PySem.F.slot_tuple_lt ha.typeIs PySem.F.entry_tuple_lt (H _ _ ⟨_,rfl,by simp,h⟩) (PySem.F.args_tuple_lt_2 _ _)
def isStrOf_self (x:au)(t:cK):lx x (.str x t)=aj:=by simp[lx]
def sd {k:au ⊕ Int}(hx:aF X B h x v)(hk:gF x=ae k):(mE X).is k v=aj/\v.scannable=aj:=by
 cases x with
 |int i=>obtain⟨t,rfl⟩:=hx;cases hk;exact⟨jc rfl,rfl⟩
 |str s=>obtain⟨t,rfl⟩:=hx;cases hk;exact⟨isStrOf_self s t,rfl⟩
 |_=>exact gm hk
def kG.mem {xs:ah au}{es:ah (Int×aw)}{e:Int×aw}(r:kG X.w xs es)(he:e∈es):∃x t,x∈xs/\e=(lu X.w x,.str x t):=by
 induction r with
 |nil=>cases he
 |cons r D=>
  rcases bu.mp he with rfl |he
  ·exact⟨_,_,.head _,rfl⟩
  ·obtain⟨x,t,B,E⟩:=D he;exact⟨x,t,.tail _ B,E⟩
def kG.Kb {xs:ah au}{es:ah (Int×aw)}{x:au}(r:kG X.w xs es)(hx:x∈xs):∃t,(lu X.w x,qX x t)∈es:=by
 induction r with
 |nil=>cases hx
 |cons r B=>
  rcases bu.mp hx with rfl |hx
  ·exact⟨_,.head _⟩
  ·obtain⟨t,h⟩:=B hx;exact⟨t,.tail _ h⟩
theorem Kc {l:ah au}{es:aZ (Int×aw)}{t:gv}(e:h.get? a=ae o)(hx:o.ExactSet)(hd:o.data= .set es ep t)(r:B9 X.w l es t):
  h.SetOf (mE X) a (Cd l) es.size:=by
 obtain⟨I,H,r,G,F,_⟩:=r;refine⟨o,es,ep,t,e,hx,hd,λe D=>?_,λk=>?_,wL F (by decide),G,rfl⟩
 ·obtain⟨x,W,_,rfl⟩:=r.mem D;exact⟨⟨.inl x,isStrOf_self x W,rfl⟩,rfl⟩
 ·cases k with
  |inl y=>
   show l.contains y=aj↔_;rw[AB,<-H.mem_iff];constructor
   ·intro B;obtain⟨t,E⟩:=r.Kb B;exact⟨_,E,isStrOf_self _ t⟩
   ·rintro⟨e,D,B⟩;obtain⟨x,W,hx,rfl⟩:=r.mem D;rcases mD (show uS (.inl y) (qX x W)=aj from B)with ⟨y,t,q1,q⟩ |⟨i,t,q1,q⟩
    ·cases q;cases q1;exact hx
    ·cases q
  |inr i=>
   refine⟨λq=>AD (show az=aj from q),?_⟩;rintro⟨e,D,B⟩;obtain⟨x,W,hx,rfl⟩:=r.mem D;rcases mD (show uS (.inr i) (qX x W)=aj from B)with ⟨y,t,q1,q⟩ |⟨i,t,q1,q⟩
   ·cases q1
   ·cases q
def xY {l:ah ((au ⊕ Int)×AV)}(a0:Inv X B I h)(hi:I[i]? =ae (.dict l))(ha:B[i]? =ae a):
  ∃kvs,h.DictOf (mE X) a kvs/\eS X B h l kvs/\l.length<=100:=by
 obtain⟨o,e,kvs,d,r,c⟩:=a0.obj i _ a hi ha;exact⟨kvs,tG.mpr ⟨o,e,d⟩,r,c⟩
def Kd {a0:aw->aD->Prop}{x y:ay}{ox oy:Obj}(b0:x≠y)(hx:s.heap.get? x=ae ox)(hy:s.heap.get? y=ae oy)(c0:oy.cls≠ .type "tuple")(h:a0 (.bool az) s):
  aA M A (ja .Is (.ref x) (.ref y)) a0 E s:=by
 exact wB (PySem.SeqAt.wpAny_isSame_ref_other' b0 hx hy c0 (aC h))
def xZ {p:Int×Int}(e:nE x=ae p):∃c,x= .dB (.int p.1) (.int p.2) c:=by
 cases x with
 |dB a b c=>
  obtain⟨i,B,e⟩:=qV.mp e;obtain⟨j,D,rfl⟩:=j3.mp e;exact⟨c,by rw[Cm B,Cm D]⟩
 |_=>exact gm e
def Cu (a0:Inv X B I h)(e:B[i]? =ae a):∃o,h.get? a=ae o/\o.cls≠ .type "tuple":=by
 have D:i < I.length:=a0.len ▸ (cF.mp e).1;obtain⟨o,E,b⟩:=a0.obj i _ a (cy D) e;exact⟨o,E,λq=>AD (b.cls.symm.trans (bZ nM q))⟩
theorem Ke {w:aw}(hA:A.units+u<=9800)(a0:Inv X B I h)(hx:aF X B h x v)(hy:aF X B h y w):aW X A [] (lQ X) B I h (ja .Lt v w) (BV x y):=by
 intros _ z W Q E _ D;have J:(BU (nE x) (nE y)).run I (aL X z [] B h (lQ X) Q E)->aA (MX X) A (ja .Lt v w) Q E (sh z h W):=by
  clear D;intro D;cases G:nE x with
  |none=>rw[G]at D;exact D.elim
  |some p=>
   intros p _ G;cases F:nE y with
   |none=>rw[G,F]at D;exact D.elim
   |some q=>
    intros q _ F;rw[G,F]at D;obtain⟨_,e⟩:=xZ G;subst e;obtain⟨_,e⟩:=xZ F;subst e;obtain⟨a,b⟩:=p;obtain⟨c,d⟩:=q;obtain⟨⟨_,_,e,t⟩,⟨_,rfl⟩,⟨_,rfl⟩,_⟩:=hx;obtain⟨⟨_,_,L,K⟩,⟨_,rfl⟩,⟨_,rfl⟩,_⟩:=hy;obtain D:(if a=c then (if b=d then P.fail else P.pure (decide (b < d)))else P.pure (decide (a < c)):P aB).run I (aL X z [] B h (lQ X) Q E):=D;refine Ka (by show _ < 9900;lia) ⟨_,e,t⟩ ⟨_,L,K⟩ (λq=>?_) ?_
    ·rw[aN q]at D;intro H;rw[aN H]at D;exact D
    ·by_cases q:a=c
     ·rw[aN q]at D |-;by_cases H:b=d
      ·rw[aN H]at D;exact D.elim
      ·rw[aK H]at D;exact D _ _ _ _ (.refl _) a0 (.refl ..) _ rfl
     ·rw[aK q]at D |-;exact D _ _ _ _ (.refl _) a0 (.refl ..) _ rfl
 cases x with
 |int a=>
  obtain⟨t,rfl⟩:=hx;obtain⟨b,q,D⟩:=jo D;subst q;obtain⟨u,rfl⟩:=hy;exact PySem.P.lt_int (D _ _ _ _ (.refl _) a0 (.refl ..) _ rfl)
 |_=>exact J D
theorem Kf {l:ah AV}(hx:aF X B h x v)(e:gd x=ae l):∃a o,v= .ref a/\a∉B/\h.get? a=ae o:=by
 cases x with
 |one=>obtain⟨⟨n,_,D,_⟩,_⟩:=hx;exact⟨_,_,rfl,n,D⟩
 |pair=>obtain⟨⟨n,_,D,_⟩,_⟩:=hx;exact⟨_,_,rfl,n,D⟩
 |dB=>obtain⟨⟨n,_,D,_⟩,_⟩:=hx;exact⟨_,_,rfl,n,D⟩
 |_=>exact gm e
set_option tactic.hygienic true in theorem Kg {w : aw} (a0 : Inv X B I h) (hx : aF X B h x v) (hy : aF X B h y w) : aW X A [] (lQ X) B I h (ja .Is v w) (isA x y) := by
 intro z W Q E hr;cases y with
 |none=>
  cases hy;refine PySem.is_none ?_;have key:(v == dq)=xD x:=by
   cases x with
   |none=>cases hx;rfl
   |int i=>obtain⟨t,rfl⟩:=hx;rfl
   |str i=>obtain⟨t,rfl⟩:=hx;rfl
   |bool i=>cases hx;rfl
   |ty i=>cases hx;rfl
   |bi i=>cases hx;rfl
   |_=>cases hx;rfl
  rw[key];exact hr _ _ _ _ (.refl _) a0 (.refl ..) _ rfl
 |ref j=>
  obtain⟨e'⟩:=hy;rename_i b;obtain⟨o2,e2,nt⟩:=Cu a0 e';cases hq:refOf x with
  |some i=>
   obtain q:=xU hq;subst q;obtain⟨e⟩:=hx;rename_i a;obtain hr:aL X z [] B h (lQ X) Q E (.ok (i == j)) I:=hr;by_cases q:i=j
   ·subst q;rw[e]at e';cases e';exact wpAny_is_ref_self (hr _ _ _ _ (.refl _) a0 (.refl ..) _ (by simp))
   ·obtain Kh:a≠b:=λq'=>by
     subst q';obtain h3:=cF.mp e;obtain h4:=cF.mp e';exact q ((wJ a0.nodup).mp (h3.2.trans h4.2.symm))
    obtain⟨o1,e1,ni⟩:=Cu a0 e;exact wpAny_is_ref_other Kh e1 e2 ni (hr _ _ _ _ (.refl _) a0 (.refl ..) _ (by rw[AA q]))
  |none=>
   have hr:(P.opt (gd x)>>=λu=>P.pure az).run I (aL X z [] B h (lQ X) Q E):=by
    unfold isA at hr;rw[hq]at hr;exact hr
   obtain⟨p,ek,hr⟩:=c9 hr;obtain⟨a,o,q,n1,e⟩:=Kf hx ek;subst q;exact Kd (λq=>n1 (q ▸ cD e')) e e2 nt (hr _ _ _ _ (.refl _) a0 (.refl ..) _ rfl)
 |ty n=>
  cases hy;cases x with
  |ty m=>
   cases hx;obtain hr:aL X z [] B h (lQ X) Q E (.ok (m == n)) I:=hr;refine wpAny_is_plain rfl ?_;have e:(lD m == lD n)=(m == n):=by rw[qY];simp
   rw[e];exact hr _ _ _ _ (.refl _) a0 (.refl ..) _ rfl
  |_=>exact hr.elim
 |_=>exact hr.elim
def Ki {w:aw}(hA:A.units+u<=9800)(a0:Inv X B I h)(hx:aF X B h x v)(hy:aF X B h y w):aW X A [] (lQ X) B I h (ja .In v w) (BW x y):=by
 intro z W Q E D;cases y with
 |ref i=>
  obtain⟨e⟩:=hy;obtain⟨o,J,D⟩:=eV D;cases o with
  |list l=>exact J' hA a0 hx J e z W Q E D
  |dict l=>
   obtain⟨k,F,D⟩:=c9 D;obtain⟨G,d,r,_⟩:=xY a0 J e;refine wpAny_in_of (sd hx F).1 (a0.not_modules (cD e)) d.mapOf (D _ _ _ _ (.refl _) a0 (.refl ..) _ ?_);have:=r.get k;cases H:eF l k with
   |none=>rw[H]at this;rw[show valueAt G k=ag from this];rfl
   |some b=>rw[H]at this;obtain⟨_,e,_⟩:=this;rw[e];rfl
  |_=>exact D.elim
 |cL l=>
  obtain⟨⟨L,M,e,c,d,r⟩⟩:=hy;obtain⟨K,D⟩:=a6 D;obtain D:aL X z [] B h (lQ X) Q E (.ok (inSet l x)) I:=D;obtain⟨k,F,Kj⟩:∃k,gF x=ae k/\Cd l k=inSet l x:=by
   cases x with
   |int i=>exact⟨_,rfl,rfl⟩
   |str s=>exact⟨_,rfl,rfl⟩
   |_=>cases K
  obtain q:=sd hx F;refine wpAny_inSet_of (knd:=mE X) (s:=sh z h W) q.1 q.2 (Kc e c d r) ?_;rw[Kj];exact D _ _ _ _ (.refl _) a0 (.refl ..) _ rfl
 |_=>exact D.elim
def Cv {w:aw}(hA:A.units+u<=9800)(a0:Inv X B I h)(hx:aF X B h x v)(hy:aF X B h y w):aW X A [] (lQ X) B I h (ja op v w) (dQ op x y):=by
 have G:∀{β:Type} {g:Int->Int->P β} {p:Res β->St->Prop},(dF x>>=λi=>dF y>>=λj=>g i j).run I p->∃i j t u,v= .int i t/\w= .int j u/\(g i j).run I p:=λD=>by
  obtain⟨i,q,F⟩:=jo D;clear D;subst q;obtain⟨j,q,H⟩:=jo F;clear F;subst q;obtain⟨t,J⟩:=hx;obtain⟨u,L⟩:=hy;exact⟨i,j,t,u,J,L,H⟩
 cases op with
 |Eq=>exact(Ct hA a0 hx hy).1
 |NotEq=>
  intro z W Q E D;refine(Ct hA a0 hx hy).2.then (show(lI x y>>=λb=>P.pure !b).run I _ from D) λU K O S T b v M R N F=>?_;exact F _ _ _ _ (.refl _) M (.refl ..) _ N
 |Lt=>exact Ke hA a0 hx hy
 |Gt=>
  intro z W Q E D;obtain⟨i,j,t,u,rfl,rfl,D⟩:=G D;exact PySem.P.gt_int (D _ _ _ _ (.refl _) a0 (.refl ..) _ rfl)
 |GtE=>
  intro z W Q E D;obtain⟨i,j,t,u,rfl,rfl,D⟩:=G D;exact PySem.P.ge_int (D _ _ _ _ (.refl _) a0 (.refl ..) _ rfl)
 |Is=>exact Kg a0 hx hy
 |In=>exact Ki hA a0 hx hy
 |_=>exact λz W Q E D=>D.elim
def Cw (h:iO r=aj):behindInMarks op r=az:=by
 cases r <;>first |rfl |cases h
def Kk {l:aH}{a b:DE}(ha:HE X F k U l a)(hb:HE X F k U r b):HE X F k U (.Compare l [op] [r] pos) (λrt=>do
   P.guard (iO r=aj)
   let x0 <-a rt
   let y0 <-b rt
   let c <-dQ op x0 y0
   P.pure (.bool c)):=by
 intro A l G Q N B I h K z W D E L;obtain⟨Y,L⟩:=a6 L;refine wpAny_Compare1 ?_ (Cw Y);refine(ha K).then L λz1 j V h1 t1 x v f o T J=>?_;refine(hb (K.step f o)).then J λz2 S Z h2 t2 y w I2 G2 R H=>?_;refine(Cv K.ar.units I2 (T.step G2.step) R).then H λz3 m u h3 t3 c v I3 G3 O M=>?_;rw[show v= .bool c from O];exact M _ _ _ _ (.refl _) I3 (.refl ..) _ (.bool c)
def Kl {l:aH}{a b:DE}(ha:HE X F k U l a)(hb:HE X F k U r b):HT X F k U (.Compare l [op] [r] pos) (λrt=>do
   P.guard (iO r=aj)
   let x0 <-a rt
   let y0 <-b rt
   dQ op x0 y0):=by
 intro A l G Q N B I h K z W O E T;obtain⟨m,T⟩:=a6 T;refine wpAny_isTrue_Compare1 ?_ (Cw m);refine(ha K).then T λz1 b0 f h1 t1 x v I1 G1 o S=>?_;refine(hb (K.step I1 G1)).then S λz2 u a0 h2 t2 y w I2 G2 j R=>?_;refine Cv K.ar.units I2 (o.step G2.step) j z2 t2 _ _ ((dQ op x y).mono (λr Z p=>?_) R);intro z' J H V M L D;obtain q:=p z' J H V M L D;cases r with
 |ok c=>exact λv Y=>by rw[show v= .bool c from Y];exact qO (q c rfl)
 |err e=>exact q
def Km {l:ah AV}(e:gd x=ae l):l.length<=3:=by
 cases x <;>cases e <;>simp
def ya (h:uV e=az)(o i:aw):subscripted e az o i=operate [o,i] (getItem o i):=by
 cases e <;>first |rfl |cases h
theorem Kn {value b0:aH}{w:aw}(a0:Inv X B I h)(hs:uV b0=az)(hx:aF X B h x v)(hy:aF X B h y w):aW X A [] (RV X) B I h (AE value b0 v w) (iw x y):=by
 intros _ z W Q E _ D;unfold iw at D;cases K:refOf x with
 |none=>
  rw[K]at D;obtain (⟨j,q,D⟩):=jo D;subst q;obtain (⟨t,rfl⟩):=hy;obtain⟨R,D⟩:=a6 D;obtain (⟨l,Z,D⟩):=c9 D;obtain⟨b,F,D⟩:=u7 D;obtain⟨a,O,rfl,S,r⟩:=vd hx Z;obtain⟨M,H,G⟩:=r.get F;obtain N:j.toNat < O.length:=(cF.mp H).1;exact tM S.typeIs PySem.F.slot_tuple_getitem.lookup (getItem_tuple S (by lia) (by lia) (seqIndex_of R.1 (by rw[cG];exact(Hd R.1).1 N)) (by simpa using H) (D _ _ _ _ (.refl _) a0 (.refl ..) _ G)) (ya hs _ _)
 |some i=>
  intros i _ K;rw[K]at D;obtain q:=xU K;subst q;obtain⟨e⟩:=hx;obtain⟨o,U,D⟩:=eV D;cases o with
  |list l=>
   obtain⟨j,q,D⟩:=jo D;subst q;obtain⟨t,rfl⟩:=hy;obtain⟨R,D⟩:=a6 D;obtain⟨b,F,D⟩:=u7 D;obtain⟨V,n,q,r,len,m⟩:=ez a0 U e;refine tM q.isList.typeIs PySem.F.slot_list_getitem.lookup ?_ (ya hs _ _);by_cases L:0<=j
   ·rw[aN L]at F;obtain⟨M,H,G⟩:=r.get F;exact wpAny_getItem_list q.isList L (by lia) (by simpa using H) (D _ _ _ _ (.refl _) a0 (.refl ..) _ G)
   ·rw[aK L]at F;by_cases T:0<=j+l.length
    ·rw[aN T]at F;obtain⟨M,H,G⟩:=r.get F;have J:(V.toArray.size:Int)=l.length:=by rw[cG,len]
     exact wpAny_getItem_list_neg q.isList (by lia) (by rw[J];lia) (by lia) (by rw[J];simpa using H) (D _ _ _ _ (.refl _) a0 (.refl ..) _ G)
    ·rw[aK T]at F;exact gm F
  |dict l=>
   obtain⟨k,u,D⟩:=c9 D;obtain⟨b,F,D⟩:=u7 D;obtain⟨Y,d,r,_⟩:=xY a0 U e;obtain q:=r.get k;rw[F]at q;obtain⟨M,f,G⟩:=q;exact tM d.mapOf.typeIs PySem.F.slot_dict_getitem.lookup (wpAny_getItem_of (sd hy u).1 d.mapOf f (D _ _ _ _ (.refl _) a0 (.refl ..) _ G)) (ya hs _ _)
  |_=>exact D.elim
def Ko {o i:aH}{a b:DE}(hs:uV i=az)(ha:HE X F k U o a)(hb:HE X F k U i b):HE X F k U (.Subscript o i pos) (λrt=>do
   let v0 <-a rt
   let w0 <-b rt
   iw v0 w0):=by
 intro A l G Q N B I h K z W D E m;refine AF ?_;refine(ha K).then m λz1 Y R h1 t1 x v j Z O J=>?_;refine(hb (K.step j Z)).then J λS M T h2 V y w u f L H=>?_;exact Kn u hs (O.step f.step) L S V D E H
def Cy {o:ax AV}{γ:Type}{g:ax Int->P γ}{p:Res γ->St->Prop}(ho:rU X B h o v)(hr:(oP o>>=g).run I p):∃l:ax (Int×cK),v=oo l/\(g (l.map (·.1))).run I p:=by
 cases o with
 |none=>exact⟨ag,ho,hr⟩
 |some x=>
  obtain⟨j,q,hr⟩:=jo (g:=λj=>P.pure (ae j)>>=g) hr;subst q;obtain⟨t,q⟩:=ho;exact⟨ae (j,t),q,hr⟩
def Cz (l:ax (Int×cK)):IsPart (oo l) (l.map (·.1)):=by
 cases l with
 |none=>exact .none
 |some p=>exact .int _ _
def CA {o:ax Int}(h:nG o=aj):∀a0,o=ae a0->0<=a0:=λa0 q=>by
 subst q;exact gz (Bool.and_eq_true_iff.mp h).1
def Kq (lo hi:ax Int)(n:ak)(h0:∀a0,lo=ae a0->0<=a0)(h1:∀a0,hi=ae a0->0<=a0):
  sliceBounds lo hi ag n=(((ix 0 n lo:ak):Int),((ix n n hi:ak):Int),1):=by
 have c:∀(o:ax Int) (d:ak),(∀a0,o=ae a0->0<=a0)->(match o with
   |none=>(d:Int)
   |some i=>let i:=if i < 0 then i+n else i;if (1:Int) > 0 then max 0 (min i n)else max (-1) (min i ((n:Int) - 1)))=((ix d n o:ak):Int):=λo d h=>by
  cases o with
  |none=>rfl
  |some a0=>
   dsimp only;rw[aK (He.mpr (h a0 rfl)),aN (by decide),Int.max_eq_right (Int.le_min.mpr ⟨h a0 rfl,wy n⟩)];obtain⟨m,rfl⟩:=Av (h a0 rfl);show min (m:Int) n=((min m n:ak):Int);rcases Nat.le_total m n with c |c
   ·rw[ng c,Int.min_eq_left (Hf.2 c)]
   ·rw[tN c,Int.min_eq_right (Hf.2 c)]
 exact qZ (c lo 0 h0) (qZ (c hi n h1) rfl)
def Kr (O:ah aw)(lo hi:ax Int)(h0:∀a0,lo=ae a0->0<=a0)(h1:∀a0,hi=ae a0->0<=a0):
  slicePick O.toArray lo hi ag=((O.take (ix O.length O.length hi)).drop (ix 0 O.length lo)).toArray:=by
 unfold slicePick;rw[Kq lo hi _ h0 h1];dsimp only;rw[sliceRange_one,pick_run,List.drop_take];simp
def Ks {l:ah Int}(r:oh V l):aT X B h (l.map .int) V:=by
 induction r with
 |nil=>exact .nil
 |cons i t _ D=>exact .cons (.int i t) D
def CB {ve:aH}{ad:ay}{O:ah aw}{l:ah AV}{la lb:ax (Int×cK)}{hi:ax aH}(b0:Inv X B I h)(q:h.IsList ad O.toArray)(r:aT X B h l O)(h4:l.length<=10000):
  ∀z W a0 E,(uG l (la.map (·.1)) (lb.map (·.1))).run I (aL X z [] B h (RV X) a0 E)->aA (MX X) A (AE ve (.Slice lo hi ag p) (.ref ad) (.ref h.objs.size)) a0 E (sh z (h.push { cls:=.type "slice",data:=.fields #[oo la,oo lb,.none] }) W):=by
 intro z W a0 E D;obtain G:=Go.push X [] B h { cls:=.type "slice",data:=.fields #[oo la,oo lb,.none] };obtain⟨F,D⟩:=a6 D;obtain⟨H,D⟩:=a6 D;obtain len:=r.length;refine tM (q.push _).typeIs PySem.F.slot_list_getitem.lookup ?_ (ops:=[.ref h.objs.size,.ref ad]) rfl;refine wpAny_getItem_list_slice (q.push _) (V8 h _ _ _) (Cz la) (Cz lb) .none (by simp) ?_ (by rw[cG,len];show _<=2 ^ 24;exact FI 0 10000 0 16777216 h4 rfl);rw[Kr O _ _ (CA F.1) (CA F.2),len];refine D _ _ _ _ (.refl _) ((b0.push _).alloc (ao:=.list _) ⟨_,0,rfl,((r.take _).drop _).step G.step,by exact FI 0 4096 0 10000 H rfl⟩ rfl) (G.trans (Go.alloc ..)) _ (.ref ?_);rw[<-b0.len];simp
theorem Kt {hi:ax aH}{ve:aH}{a b:ax AV}{va vb:aw}(a0:Inv X B I h)(hx:aF X B h x v)(ha:rU X B h a va)(hb:rU X B h b vb):
  ∀z W b0 E,(kq x a b).run I (aL X z [] B h (RV X) b0 E)->aA (MX X) A (AE ve (.Slice lo hi ag p) v (.ref h.objs.size)) b0 E (sh z (h.push { cls:=.type "slice",data:=.fields #[va,vb,.none] }) W):=by
 intros _ z W b0 E _ hr;obtain (⟨la,ea,hr⟩):=Cy ha hr;obtain (⟨lb,eb,hr⟩):=Cy hb hr;subst ea eb;cases x with
 |ref i=>
  obtain⟨e⟩:=hx;obtain⟨l,gj,hr⟩:=g6 hr;obtain⟨it,n,q,r,_,hl⟩:=ez a0 gj e;exact CB a0 q.isList r hl z W b0 E hr
 |gW l=>
  obtain⟨⟨n1,n2,e,hl,hn⟩⟩:=hx;exact CB a0 e (Ks hl) (by rw[aO];exact FI 0 4096 0 10000 hn rfl) z W b0 E hr
 |str s=>
  intros s _ hx hr;obtain⟨t,rfl⟩:=hx;obtain⟨hg,hr⟩:=a6 hr;obtain G:=Go.push X [] B h { cls:=.type "slice",data:=.fields #[oo la,oo lb,.none] };obtain hr:∀t' t,b0 (.str (lr s (la.map (·.1)) (lb.map (·.1))) t') (sh z _ t):=λt' t=>hr z B _ t (.refl _) (a0.push _) G _ (.str _ _);refine tM (T:="str") (pS _ s t) PySem.F.slot_str_getitem.lookup ?_ (ops:=[.ref h.objs.size,.str s t]) rfl;refine wpAny_getItem_str_slice (l:=la) (u:=lb) (st:=ag) ⟨_,cV _ rfl,rfl,rfl⟩ rfl ?_;unfold sliceMade;obtain e:lr s (la.map (·.1)) (lb.map (·.1))=if (((ag:ax (Int×cK)).map (·.1)).getD 1 == 1 && (slicePicked s la lb ag).length == s.length)=aj then s else ⟨((slicePicked s la lb ag).filterMap (s.cps[·]?)).toArray⟩:=rfl
  rw[e]at hr;split
  ·rename_i q;rw[aN q]at hr;exact hr _ _
  ·rename_i q;rw[aK q]at hr;refine⟨?_,hr _ _⟩;show(mc _).size<=2 ^ 24;rw[cG];exact dW (dW (List.length_filterMap_le (s.cps[·]?) _) (sliceIndices_le (la.map (·.1)) (lb.map (·.1)) s.length)) (by exact FI 0 4096 0 16777216 hg rfl)
 |_=>exact hr.elim
def CC (ha:∀e,lo=ae e->HE X F k U e (f e))(K:Ctx X k U A l G Q N B I h):
  aW X A [] (rU X) B I h (evalPart lo G) (kD (lo.map f) ⟨F,Q,N⟩):=by
 intro z W D E J;cases lo with
 |none=>exact aC (J _ _ _ _ (.refl _) K.inv (.refl ..) _ rfl)
 |some e=>
  rw[evalPart_some];refine(ha e rfl K).then J λY L R T V x v M S O H=>?_;exact H _ _ _ _ (.refl _) M (.refl ..) _ O
def Ku {o:aH}{hi:ax aH}{a:DE}(ha:HE X F k U o a)(h1:∀e,lo=ae e->HE X F k U e (f e))(h2:∀e,hi=ae e->HE X F k U e (f e)):
  HE X F k U (.Subscript o (.Slice lo hi ag p) pos) (λrt=>do
    let v0 <-a rt
    let x0 <-kD (lo.map f) rt
    let y0 <-kD (hi.map f) rt
    kq v0 x0 y0):=by
 intro A l G Q N B I h K z W D E hr;refine AF ?_;refine(ha K).then hr λz1 d0 a0 c0 t1 x v j Z rx M=>?_;refine wpAny_Slice ?_;refine(CC h1 (K.step j Z)).then M λz2 H b0 O t2 y w I2 u V J=>?_;refine(CC h2 ((K.step j Z).step I2 u)).then J λb L e0 m t3 y' w' I3 Y T R=>?_;have S:rU X L m y w:=by
  cases y with
  |none=>exact V
  |some y=>exact aF.step Y.step (show aF X H O y w from V)
 rw[evalPart_none];exact aC (Kt (lo:=lo) (hi:=hi) (ve:=o) (p:=p) I3 ((rx.step u.step).step Y.step) S T b t3 D E R)
def Go.keeps (X:Cx)(B:ah ay)(hk:∀b o,h.get? b=ae o->H.get? b=ae o)(ex:ah ay):Go X ex B h B H:=
 ⟨⟨λb o e=>⟨o,hk b o e⟩,⟨[],(fU _).symm,λu D=>nomatch D⟩,λb o e u u u=>⟨o,hk b o e,.refl ..⟩⟩,λb o e u f u=>⟨o,hk b o e,f⟩⟩
def Inv.keeps (a0:Inv X B I h)(hk:∀b o,h.get? b=ae o->H.get? b=ae o):Inv X B I H:=
 ⟨a0.len,a0.nodup,λi L a G K=>by
   obtain⟨D,J,b⟩:=a0.obj i L a G K;exact⟨D,hk _ _ J,b.step (Go.keeps X B hk []).step⟩,
  λb D e F=>hk _ _ (a0.base b D e F),a0.new,a0.gg,a0.mods,by obtain⟨V,e,c⟩:=a0.tab;exact⟨V,hk _ _ e,c⟩,λb E=>by obtain⟨o,e⟩:=a0.gh b E;exact⟨o,hk _ _ e⟩⟩
def Inv.frame (a0:Inv X B I h)(hL:L∉B)(hB:X.base.get? L=ag)(hs:fq L h H)(e:h.get? L=ae o)(f:gZ o)(e':H.get? L=ae o')(f':gZ o'):
  Inv X B I H/\Go X [L] B h B H:=by
 have G:Go X [L] B h B H:=by
  refine⟨⟨λb E D=>?_,⟨[],(fU _).symm,λu U=>nomatch U⟩,λb E D Z u A=>?_⟩,λb E D Z Y u=>?_⟩
  ·by_cases q:b=L
   ·subst q;exact⟨_,e'⟩
   ·exact⟨E,(hs.2 b q).trans D⟩
  ·by_cases q:b=L
   ·subst q;rw[e]at D;cases D;obtain⟨W,T,d,_⟩:=f;exact absurd ⟨W,T,d⟩ (A (.head _))
   ·exact⟨E,(hs.2 b q).trans D,.refl ..⟩
  ·by_cases q:b=L
   ·subst q;exact⟨o',e',f'⟩
   ·exact⟨E,(hs.2 b q).trans D,Y⟩
 obtain F:cJ≠L:=λq=>by obtain⟨o,e⟩:=a0.gg;rw[q,hB]at e;cases e
 refine⟨⟨a0.len,a0.nodup,λi j a Q J=>?_,λb E D O=>?_,a0.new,a0.gg,a0.mods,?_,λb M=>by obtain⟨o,e⟩:=a0.gh b M;exact G.step.there b o e⟩,G⟩
 ·obtain⟨N,R,S⟩:=a0.obj i j a Q J;exact⟨N,(hs.2 a λq=>hL (q ▸ cD J)).trans R,S.step G.step⟩
 ·refine(hs.2 b λq=>?_).trans (a0.base b E D O);rw[q,hB]at D;cases D
 ·obtain⟨V,K,c⟩:=a0.tab;exact⟨V,(hs.2 cJ F).trans K,c⟩
def CD (n:h.Ns L m):∃o,h.get? L=ae o/\gZ o:=by
 obtain⟨o,B,D,e,d,q,_⟩:=n;exact⟨o,e,B,D,d,q⟩
def En.Kv {c0:ah (ax AV)}{ex:ah ay}(b0:En X U G Q N B h)(a0:Go X ex B h J H)(hl:c0.length=U.names.length)(hn:∃m,H.Ns G.locals m/\∀x i v,cM U x=ae .local->lK U x=ae i->c0[i]? =ae (ae v)->∃v',m x=ae v'/\aF X J H v v'):En X U G Q c0 J H:=by
 refine⟨b0.kind,b0.glob,b0.blt,b0.kinds,hl,hn,?_,b0.iz,λx c E=>?_⟩
 ·obtain⟨m,n,_⟩:=b0.ns;obtain⟨o,K,I,e,_⟩:=n;exact a0.step.dt e b0.fZ
 ·obtain⟨a,D,F⟩:=b0.cells x c E;exact⟨a,a0.step.iT D,F⟩
theorem yb (a0:Inv X B I h)(b0:En X U G Q N B h)(hx:aF X B h x v)(n:au):
  aW X A [G.locals] (RL X U G Q) B I h (q7 G n v) (nameA U n x ⟨F,Q,N⟩):=by
 intros _ z W J E _ K;unfold nameA at K;have Z:=b0.kinds n;cases M:cM U n with
 |none=>rw[M]at K;exact K.elim
 |some kd=>
  rw[M]at K Z;cases kd with
  | «local»=>
   dsimp only at K;cases L:lK U n with
   |none=>rw[L]at K;exact K.elim
   |some i=>
    intros i _ L;rw[L]at K;have K:aL X z [G.locals] B h (RL X U G Q) J E (.ok (N.set i (ae x))) I:=K;obtain (⟨m,hn,r⟩):=b0.ns;refine wpAny_storeName_local Z hn ?_ (by rw[b0.kind];rfl);intros _ H _ O u;obtain (⟨o,e,f⟩):=CD hn;obtain (⟨o',e',f'⟩):=CD O;obtain⟨V,D⟩:=a0.frame b0.fZ b0.iz u e f e' f';refine K _ _ _ _ (.refl _) V D () (b0.Kv D (by rw[eM];exact b0.len) ⟨_,O,?_⟩);intros _ y j w _ h1 S R;by_cases q:y=n
    ·subst q;rw[L]at S;cases S;have k:i < N.length:=by
      rw[b0.len];exact(As.mp L).1
     rw[me k]at R;cases R;exact⟨v,by simp,hx.step D.step⟩
    ·obtain l:i≠j:=λq'=>q (JL (q' ▸ S) L);rw[jB l]at R;obtain (⟨v',Y,r1⟩):=r y j w h1 S R;exact⟨v',by simp[q,Y],r1.step D.step⟩
  |cell=>
   dsimp only at K
   ·unfold kr at K;obtain (⟨c,Y,K⟩):=c9 K;obtain (⟨o,e2,K⟩):=eV K;cases o with
    |cell w=>
     have K:aL X z [G.locals] B h (RL X U G Q) J E (.ok N) (I.set c (.cell (ae x))):=K;obtain⟨a,b,e4⟩:=b0.cells n c Y;obtain⟨ob,T,hc,v',d,_⟩:=a0.obj c _ a e2 b;unfold storeName;rw[b0.kind,show G.kindOf n=ae .cell from Z];refine wB (wpAny_cellOf e4 ?_);unfold cellSet;refine bO (wpAny_load T ?_);rw[d];refine wpAny_update T ?_;obtain u:fq a h (h.update a λo=>{ o with data:=.cell (ae v) }):=dY ..;obtain he:(h.update a λo=>{ o with data:=.cell (ae v) }).get? a=ae { ob with data:=.cell (ae v) }:=iK _ T rfl;obtain⟨V,D⟩:=a0.change e2 b u he (b0:=.cell (ae x)) ⟨hc,_,rfl,.some hx⟩ [];exact K _ _ _ _ (.refl _) V (D.mono λg hm=>nomatch hm) () (b0.step a0 D)
    |_=>exact K.elim
  |_=>exact K.elim
def CE (K:Ctx X k U A l G Q N B I h)(hx:aF X B h x v)(n:au):
  aW X A [G.locals] (RL X U G Q) B I h (q7 G n v) (nameA U n x ⟨F,Q,N⟩):=yb K.inv K.en hx n
def qk (e:aH)(es:ah aH)(G:bH)(h:dg e=aj):pT (e :: es) G=(az,ly e G) :: pT es G:=by
 cases e <;>first |rfl |cases h
theorem Kw (f:aH->DA):∀(es:ah aH),(∀e∈es,HA X F k U e (f e))->(∀e∈es,dg e=aj)->
  ∀{A:d8} {l:ah bH} {G:bH} {Q:ah (au×ak)} {N:ah (ax AV)} {B:ah ay} {I:St} {h:aG},Ctx X k U A l G Q N B I h->∀{xs:ah AV} {V:ah aw},aT X B h xs V->
   aW X A [G.locals] (RL X U G Q) B I h (assignInOrder ((pT es G).map (·.2)) V) (ji (es.map f) xs ⟨F,Q,N⟩):=by
 intro b;induction b with
 |nil=>
  intro _ _ A l G Q N B I h K _ _ L;cases L with
  |nil=>
   exact λz W D E H=>aC (H _ _ _ _ (.refl _) K.inv (.refl ..) () K.en)
  |cons _ _=>
   exact λz W D E H=>H.elim
 |cons e es w=>
  intro Y Z A l G Q N B I h K _ _ L;cases L with
  |nil=>
   exact λz W D E H=>H.elim
  |cons hx hs=>
   intro z W D E H;rw[qk e es G (Z e (.head _))];show aA _ _ (lA _ (ly e G _)>>=λv=>assignInOrder ((pT es G).map (·.2)) _) _ _ _;refine wB (eA ?_);refine(Y e (.head _) K hx).then H λm R O u o J v I1 j N1 S=>?_;obtain K1:Ctx X k U A l G Q J R O u:=⟨K.ok,K.ar.step j,K.top,I1,N1,K.code⟩;exact w (λM T=>Y M (.tail _ T)) (λM T=>Z M (.tail _ T)) K1 (hs.step j.step) m o D E S
def Kx:∀(l:ah (aB×(aw->dn b8))),(∀p∈l,p.1=az)->l.findIdx? (·.1)=ag:=by
 intro l;induction l with
 |nil=>
  intro _;exact rfl
 |cons p l B=>
  intro h;rw[List.findIdx?_cons,h p (.head _),B λq D=>h q (.tail _ D)];rfl
def Ky:∀(es:ah aH) (G:bH),(∀e∈es,dg e=aj)->(∀p∈pT es G,p.1=az)/\(pT es G).length=es.length:=by
 intro l;induction l with
 |nil=>
  intro G _;exact⟨λu D=>(nomatch D),rfl⟩
 |cons e es H=>
  intro G h;rw[qk e es G (h e (.head _))];obtain⟨F,I⟩:=H G λq E=>h q (.tail _ E);refine⟨λp B=>?_,by simp[I]⟩;rcases bu.mp B with rfl |B
  ·rfl
  ·exact F p B
def assign_tuple {es:ah aH}{f:aH->DA}(ha:∀e∈es,HA X F k U e (f e)):HA X F k U (.Tuple es n pos) (λv rt=>do
   let l0 <-P.opt (gd v)
   P.guard (l0.length=es.length/\es.all dg=aj)
   ji (es.map f) l0 rt):=by
 intro A l G Q N B I h K x v u z W J E R;obtain⟨xs,ex,R⟩:=c9 R;obtain⟨⟨M,S⟩,R⟩:=a6 R;have S:∀e∈es,dg e=aj:=bW.mp S;obtain⟨a,O,rfl,Y,r⟩:=vd u ex;obtain⟨j,w⟩:=Ky es G S;show aA _ _ (tI pos>>=λy=>unpack (.ref a) (pT es G)) _ _ _;refine wB (jE ?_);unfold unpack;rw[Kx _ j,w];refine wB (eA ?_);have T:es.length=O.toArray.size:=by rw[cG,r.length,M]
 rw[T];refine unpackItems_tuple K.ar.handled Y λH L=>?_;have V:∀b o,h.get? b=ae o->H.get? b=ae o:=λb o e=>L b o (jX (gP e)) e;have D:=Go.keeps X B V [];obtain I':=K.inv.keeps V;refine Kw f es ha S (K.step I' D) (r.step D.step) z _ J E ((ji (es.map f) xs ⟨F,Q,N⟩).mono (λr Z p=>p.shift (.refl _) (D.mono λy m=>nomatch m)) R)
def Kz (n:au)(a0:fk):HA X F k U (.Name n a0) (nameA U n):=by
 intro A l G Q N B I h K x v J z W D E H;exact assign_Name (CE (F:=F) K J n z W D E H)
def dD.refl (S C:ah ay)(h:aG):dD S C h h:=⟨λu o q=>⟨o,q⟩,λu o q u=>⟨o.slots,q,λu=>rfl⟩⟩
def dD.trans {S:ah ay}(x:dD S C h H)(y:dD S C H kn):dD S C h kn:=⟨λa o q=>by obtain⟨J,E⟩:=x.there a o q;exact y.there a J E,λa o q F=>by
 obtain⟨K,E,r⟩:=x.keep a o q F;obtain⟨B,D,I⟩:=y.keep a _ E F;exact⟨B,D,λG=>(I G).trans (r G)⟩⟩
def dD.update {S:ah ay}(ha:a∈C)(q:h.get? a=ae o)(f:Obj->Obj)(hf:(f o).isFreed=az):dD S C h (h.update a f):=by
 obtain D:fq a h (h.update a f):=dY ..;refine⟨λb B e=>?_,λb B e E=>⟨B.slots,(D.2 b λp=>E (p ▸ ha)).trans e,λu=>rfl⟩⟩;by_cases p:b=a
 ·subst p;exact⟨_,iK f q hf⟩
 ·exact⟨B,(D.2 b p).trans e⟩
def dD.push (S C:ah ay)(h:aG)(o:Obj):dD S C h (h.push o):=⟨λu B e=>⟨B,be _ e⟩,λu B e u=>⟨B.slots,be _ e,λu=>rfl⟩⟩
def dD.slots {S:ah ay}(x:Heap.SlotsOnly S h H):dD S C h H:=⟨λa o e=>by obtain⟨B,q⟩:=x.2.2 a o e;exact⟨_,q⟩,λa o e u=>by
 obtain⟨B,q⟩:=x.2.2 a o e;refine⟨B,q,λD=>?_⟩;have:=x.2.1 a D;rw[q,e]at this;exact bZ Obj.slots (dp this)⟩
def Frs.addr (F:Frs X l B h)(ha:a∈jN l):X.base.get? a=ag/\a∉B/\∃o,h.get? a=ae o/\gZ o:=by
 obtain⟨G,E,D⟩:=List.mem_filterMap.mp ha;obtain⟨_,L,o,q,b,n,d,f⟩:=F G E;rw[D]at q;cases q;exact⟨b,n,o,d,f⟩
def Frs.fun (F:Frs X l B h):h.FunFrames X.base l:=by
 induction l with
 |nil=>trivial
 |cons G l E=>
  obtain⟨D,L,o,q,b,n,d,J,I,f,_⟩:=F G (.head _);exact⟨D,⟨L,o,q,b,d,λV p=>by rw[f]at p;cases p⟩,E λe H=>F e (.tail _ H)⟩
def dD.go {ex:ah ay}(F:dD (jN l) C h H)(R:Frs X l B h)(a0:Go X ex br h₀ B h)(hC:∀c∈C,h₀.get? c=ag):Go X ex br h₀ B H:=by
 refine⟨⟨λa o q=>?_,a0.step.ext,λa o q L K S=>?_⟩,λa o q L f b=>?_⟩
 ·obtain⟨J,I⟩:=a0.step.there a o q;exact F.there a J I
 ·obtain⟨J,I,k⟩:=a0.step.keep a o q L K S;obtain⟨M,D,r⟩:=F.keep a J I λE=>by rw[hC a E]at q;cases q
  refine⟨_,D,k.trans ?_⟩;by_cases E:a∈jN l
  ·obtain⟨b,n,T,d,f⟩:=R.addr E;rw[I]at d;cases d;exact .inr ⟨b,(by obtain⟨Q,O,d,_⟩:=f;exact⟨Q,O,d⟩),M,rfl⟩
  ·rw[r E];exact .inl rfl
 ·obtain⟨J,I,N⟩:=a0.fr a o q L f b;obtain⟨M,D,r⟩:=F.keep a J I λE=>by rw[hC a E]at q;cases q
  exact⟨_,D,N⟩
def dD.dK (F:dD (jN l) C h H)(R:Frs X l B h)(hC:∀c∈C,∀o,h.get? c=ae o->(∃V,o.data= .fields V)/\o.cls≠ .type "code"):gY X X.bad B B h H:=⟨λu u=>id,λa o E G e k=>by
 obtain⟨K,q,r⟩:=F.keep a o e λD=>by
  obtain⟨⟨L,d⟩,n⟩:=hC a D o e;exact n (k.nf d)
 rw[r λD=>by
  obtain⟨_,_,I,d,M,J,f,_⟩:=R.addr D;rw[e]at d;cases d;exact k.nd _ _ f]at q
 exact⟨E,G,q⟩⟩
def dD.step (F:dD (jN l) C h H)(R:Frs X l B h)(hC:∀c∈C,∀o,h.get? c=ae o->(∃V,o.data= .fields V)/\o.cls≠ .type "code")(r:aF X B h x v):aF X B H x v:=r.dK (F.dK R hC)
def dD.inv (F:dD (jN l) C h H)(a0:Inv X B I h)(R:Frs X l B h)(hC:∀c∈C,∀o,h.get? c=ae o->(∃V,o.data= .fields V)/\o.cls≠ .type "code")(b0:∀c∈C,c∉B)(hB:∀c∈C,X.base.get? c=ag):Inv X B I H:=by
 refine⟨a0.len,a0.nodup,λi S a Q K=>?_,λb o q O=>?_,a0.new,a0.gg,a0.mods,?_,λb N=>by obtain⟨o,e⟩:=a0.gh b N;exact F.there b o e⟩
 ·obtain⟨o,q,b⟩:=a0.obj i S a Q K;obtain M:a∈B:=cD K;obtain⟨L,D,r⟩:=F.keep a o q λE=>b0 a E M;rw[r λG=>(R.addr G).2.1 M]at D;exact⟨o,D,b.dK (F.dK R hC)⟩
 ·obtain e:=a0.base b o q O;obtain⟨L,D,r⟩:=F.keep b o e λE=>by rw[hB b E]at q;cases q
  rw[r λG=>by rw[(R.addr G).1]at q;cases q]at D;exact D
 ·obtain⟨V,e,c⟩:=a0.tab;obtain⟨T,J⟩:=a0.gg;obtain⟨L,D,r⟩:=F.keep cJ _ e λE=>by rw[hB _ E]at J;cases J
  rw[r λG=>by rw[(R.addr G).1]at J;cases J]at D;exact⟨V,D,c⟩
def dD.dR (F:dD (jN l) C h H)(R:Frs X l B h)(hC:∀c∈C,∀o,h.get? c=ae o->(∃V,o.data= .fields V)/\o.cls≠ .type "code"):Frs X l B H:=λG J=>by
 obtain⟨D,L,o,q,b,n,d,f⟩:=R G J;obtain⟨M,I,r⟩:=F.keep L o d λE=>by
  obtain⟨⟨V,p⟩,_⟩:=hC L E o d;obtain⟨N,K,f,_⟩:=f;rw[p]at f;cases f
 exact⟨D,L,_,q,b,n,I,f⟩
def CG {l':ah bH}{e0:bH}{e:ay}{t:ak}{oe:Obj}{V:aZ aw}{head:aw}{f0:aB}{c0:b8->aD->Prop}(g0:A.frames=ae (e0 :: l'))(h0:e0.frame=G.frame)(hf:G.frame=ae L)(R:Frs X (e0 :: l') B h)(he:h.get? e=ae oe)(hd:oe.data= .fields V)(i0:1 < V.size)(hQ:∀H d0 oT ts,dD (jN (e0 :: l')) [e] h H->h.get? d0=ag->H.get? e=ae (oe.mapFields (·.setIfInBounds 1 (.ref d0)))->H.get? d0=ae oT->oT.cls= .type "traceback"->oT.data= .fields ts->3 < ts.size->c0 () (sh z H t)):
  aA (MX X) A (do let a0 <-frameOf G;let pl <-entryPlaceOf L f0;let b0 <-EntryCells.newEntry head a0 .none (bI L) .none pl;oq (.ref e) 1 b0) c0 E (sh z h t):=by
 obtain O:e∉jN (e0 :: l'):=λj=>by
  obtain⟨_,_,o,Y,l,k,f,_⟩:=R.addr j;rw[he]at Y;cases Y;rw[hd]at f;cases f
 refine wB ?_;unfold PySem.frameOf;refine bO (wpAny_frameEnvs g0 ?_);have W:((e0 :: l').dropWhile λx=>x.frame != G.frame)=e0 :: l':=by simp[List.dropWhile,h0]
 rw[W];unfold frameObject;refine bO (bO (wpAny_readyFrames_fun R.fun λD F=>aC ?_));rw[h0,hf];refine aC ?_;refine wB (wpAny_entryPlaceOf λpl U=>?_);unfold EntryCells.newEntry newFields;refine wB (q8 ?_ (U.sizeOk5 _ _ _ _ _));obtain K:D.get? e=ae oe:=(F.2.1 e O).trans he;obtain I:=be (h:=D) { cls:=.type "traceback",dict:=ag,data:=.fields ([head,.ref L,.none,bI L,.none]++(if pl.isEmpty then Hg 6 dq else pl)).toArray } K;refine tO I hd i0 ?_;obtain S:D.objs.size≠e:=Al (gP K);obtain J:=nh hd (·.setIfInBounds 1 (gw D.objs.size));obtain M:=iK (tP (·.setIfInBounds 1 (gw D.objs.size))) I (ou J);obtain N:=(AG (D.push { cls:=.type "traceback",dict:=ag,data:=.fields ([head,.ref L,.none,bI L,.none]++(if pl.isEmpty then Hg 6 dq else pl)).toArray })
  (tP (·.setIfInBounds 1 (gw D.objs.size))) (AH S)).trans (cV D rfl)
 refine hQ _ D.objs.size _ _ (((dD.slots F).trans (dD.push _ _ _ _)).trans (dD.update (.head _) I _ (ou J))) ?_ M N rfl rfl ?_
 ·cases q:h.get? D.objs.size with
  |none=>rfl
  |some o=>obtain⟨u,Z⟩:=F.2.2 _ o q;exact absurd (gP Z) (dP _)
 ·simp only[cG,bK,ft,q9];exact FI 5 0 4 0 AL rfl
def mF.exc {e:ay}{k:aI}(x:mF k e h₀ h):eT k e h₀ h:=by
 obtain⟨a,b,c,o,V,B,H,D,G,T,E,F,r⟩:=x;exact⟨a,b,c,o,V,B,H,D,G,.inr ⟨T,E,F,r⟩⟩
def vf {ex:ah ay}(F:dD (jN l) C h H)(b0:Inv X B I h)(R:Frs X l B h)(c0:Inv X br jH h₀)(a0:Go X ex br h₀ B h)(hC:∀c∈C,∀o,h.get? c=ae o->(∃V,o.data= .fields V)/\o.cls≠ .type "code")(d0:∀c∈C,c∉B)(h0:∀c∈C,h₀.get? c=ag):
  kH X ex l I br h₀ B h H:=
 ⟨F.inv b0 R hC d0 λc D=>c0.ey (h0 c D),F.go R a0 h0,F.dR R hC,λu u r=>F.step R hC r,λa m n=>by
  obtain⟨o,K,E,q,d,r⟩:=n;obtain⟨L,J,_⟩:=F.keep a o q λD=>by
   obtain⟨⟨V,p⟩,_⟩:=hC a D o q;rw[p]at d;cases d
  exact⟨_,K,E,J,d,r⟩⟩
def kH.refl {ex:ah ay}(b0:Inv X B I h)(R:Frs X l B h)(a0:Go X ex br h₀ B h):kH X ex l I br h₀ B h h:=⟨b0,a0,R,λu u r=>r,λu u n=>n⟩
def kH.trans {ex:ah ay}(x:kH X ex l I br h₀ B h H)(y:kH X ex l I br h₀ B H kn):kH X ex l I br h₀ B h kn:=⟨y.inv,y.go,y.dR,λa b r=>y.vals a b (x.vals a b r),λa m n=>y.ns a m (x.ns a m n)⟩
def kH.en {ex:ah ay}(x:kH X ex l I br h₀ B h H)(a0:En X U G Q N B h):En X U G Q N B H:=
 ⟨a0.kind,a0.glob,a0.blt,a0.kinds,a0.len,by
  obtain⟨m,n,r⟩:=a0.ns;exact⟨m,x.ns _ _ n,λy i v J K D=>by obtain⟨F,L,E⟩:=r y i v J K D;exact⟨F,L,x.vals _ _ E⟩⟩,a0.fZ,a0.iz,a0.cells⟩
theorem vg {l':ah bH}{e0:bH}{e:ay}{ex:ah ay}{k:aI}{t:ak}{c0:b8->aD->Prop}(f0:A.frames=ae (e0 :: l'))(h0:e0.frame=G.frame)(hf:G.frame=ae L)(b0:Inv X B I h)(R:Frs X (e0 :: l') B h)(d0:Inv X br jH h₀)(a0:Go X ex br h₀ B h)(x:eT k e h₀ h)(hQ:∀H,kH X ex (e0 :: l') I br h₀ B h H->mF k e h₀ H->c0 () (sh z H t)):aA (MX X) A (noteFrame (.ref e) G) c0 E (sh z h t):=by
 obtain⟨Y,l,f,oe,V,O,K,N,J,hx⟩:=x;have M:e∉B:=b0.xR O (by rw[K];exact l);have S:oe.cls≠ .type "code":=λq=>by rw[K.symm.trans q]at l;cases l
 unfold noteFrame;simp only[hf];rcases hx with h1 |⟨T,oT,Z,h1,CI,CJ,hT,se,nR,yc⟩
 ·refine bO (e8 O N h1 ?_);rw[aK (by decide)];refine CG f0 h0 hf R O N (by exact FI 5 0 2 0 J rfl) λH T oT Z F W e1 e2 c2 d2 s2=>hQ H ?_ ?_
  ·refine vf F b0 R d0 a0 (λc K o q=>?_) (λc K=>?_) λc K=>?_ <;>cases aJ.mp K
   ·rw[O]at q;cases q;exact⟨⟨V,N⟩,S⟩
   ·exact M
   ·exact Y
  ·refine⟨Y,l,f,_,_,e1,(tQ _ _).trans K,nh N (·.setIfInBounds 1 (gw T)),by simpa using J,T,oT,Z,by simp[show 1 < V.size from by exact FI 5 0 2 0 J rfl],?_,λq=>?_,e2,c2,d2,s2⟩
   ·cases q:h₀.get? T with
    |none=>rfl
    |some o=>obtain⟨o',u⟩:=a0.step.there T o q;rw[W]at u;cases u
   ·rw[q,O]at W;cases W
 ·refine bO (e8 O N h1 ?_);rw[aN (show(gw T != dq)=aj from by simp)];have w:T∉B:=b0.xR hT (by rw[se];rfl);obtain⟨y,hy⟩:∃y,Z[3]? =ae y:=⟨Z[3],wM yc⟩;refine bO (e8 hT nR hy ?_);by_cases hq:(y == bI L)=aj
  ·rw[aN hq];exact aC (hQ h (.refl b0 R a0) ⟨Y,l,f,oe,V,O,K,N,J,T,oT,Z,h1,CI,CJ,hT,se,nR,yc⟩)
  ·rw[aK hq];refine bO (tO hT nR yc ?_);have F1:dD (jN (e0 :: l')) [e,T] h (h.update T (tP (·.setIfInBounds 3 dq))):=dD.update (by simp) hT _ (ou (nh nR _));have hC:∀c∈[e,T],∀o,h.get? c=ae o->(∃V,o.data= .fields V)/\o.cls≠ .type "code":=λc D o q=>by
    rcases bu.mp D with rfl |D
    ·rw[O]at q;cases q;exact⟨⟨V,N⟩,S⟩
    ·cases aJ.mp D;rw[hT]at q;cases q;exact⟨⟨Z,nR⟩,by rw[se];decide⟩
   have j0:∀c∈[e,T],c∉B:=λc D=>by
    rcases bu.mp D with rfl |D
    ·exact M
    ·cases aJ.mp D;exact w
   have i0:∀c∈[e,T],h₀.get? c=ag:=λc D=>by
    rcases bu.mp D with rfl |D
    ·exact Y
    ·cases aJ.mp D;exact CI
   have j:=vf F1 b0 R d0 a0 hC j0 i0;have U:(h.update T (tP (·.setIfInBounds 3 dq))).get? e=ae oe:=(AG _ _ CJ).trans O;refine CG f0 h0 hf j.dR U N (by exact FI 5 0 2 0 J rfl) λH b g0 m F W e1 e2 c2 d2 s2=>hQ H ?_ ?_
   ·refine j.trans (vf F j.inv j.dR d0 j.go (λc K o q=>?_) (λc K=>?_) λc K=>?_)<;>cases aJ.mp K
    ·rw[U]at q;cases q;exact⟨⟨V,N⟩,S⟩
    ·exact M
    ·exact Y
   ·refine⟨Y,l,f,_,_,e1,(tQ _ _).trans K,nh N (·.setIfInBounds 1 (gw b)),by simpa using J,b,g0,m,by simp[show 1 < V.size from by exact FI 5 0 2 0 J rfl],?_,λq=>?_,e2,c2,d2,s2⟩
    ·cases q:h₀.get? b with
     |none=>rfl
     |some o=>obtain⟨o',u⟩:=j.go.step.there b o q;rw[W]at u;cases u
    ·rw[q,U]at W;cases W
theorem sf {e:ay}{ex:ah ay}{k:aI}{t:ak}{f:ax ay}{c0:b8->aD->Prop}(b0:Inv X B I h)(R:Frs X l B h)(d0:Inv X br jH h₀)(a0:Go X ex br h₀ B h)(x:mF k e h₀ h)(hQ:∀H,kH X ex l I br h₀ B h H->mF k e h₀ H->c0 () (sh z H t)):aA (MX X) A (setFlight (.ref e) f) c0 E (sh z h t):=by
 obtain⟨w,x2,u,S⟩:=x;obtain (⟨oe,V,j,J,Y,W,U⟩):=S;obtain (⟨T,oT,b,Z,M,K,O,D,F,L⟩):=U;obtain N:T∉B:=b0.xR O (by rw[D];rfl);unfold setFlight;refine bO (e8 j Y Z ?_);rw[aN (show(gw T != dq)=aj from by simp)];refine tO O F L ?_;obtain oY:=nh F (·.setIfInBounds 3 (f.elim dq λf=>bI f));obtain m:dD (jN l) [T] h (h.update T (tP (·.setIfInBounds 3 (f.elim dq λf=>bI f)))):=dD.update (.head _) O _ (ou oY);refine hQ _ (vf m b0 R d0 a0 (λc J o q=>?_) (λc J=>?_) λc J=>?_) ⟨w,x2,u,oe,V,(AG _ _ K).trans j,J,Y,W,T,_,_,Z,M,K,iK _ O (ou oY),(tQ _ _).trans D,oY,by simpa using L⟩
 ·cases aJ.mp J;rw[O]at q;cases q;exact⟨⟨b,F⟩,by rw[D];decide⟩
 ·cases aJ.mp J;exact N
 ·cases aJ.mp J;exact M
def Go.nil (a0:Go X [] B h J H)(ex:ah ay):Go X ex B h J H:=a0.mono λu D=>nomatch D
def aW.value {ex:ah ay}{α c0 β b0:Type}{R:ah ay->aG->β->α->Prop}{R':ah ay->aG->b0->c0->Prop}{a0:c0->aD->Prop}{t:dn α}{m:P β}{g:β->P b0}(h1:aW X A [] R B I h t m)(hr:(m>>=g).run I (aL X z ex B h R' a0 E)){Q':α->aD->Prop}(k:∀z' J Z H t' b a,Inv X J Z H->Go X [] B h J H->R J H b a->(g b).run Z (aL X z' ex J H R' a0 E)->Q' a (sh z' H t')):aA (MX X) A t Q' E (sh z h W):=by
 refine h1 z W Q' E (m.mono (λr Z y=>?_) (show m.run I _ from hr));intro z' J H t' F D S;cases r with
 |ok b=>exact λa G=>k z' J Z H t' b a D S G ((g b).mono (λu u p=>p.shift F (S.nil _)) y)
 |err k=>exact λe x=>y z' J H t' F D (S.nil _) e x
def aW.KA {ex:ah ay}{α c0 β b0:Type}{R:ah ay->aG->β->α->Prop}{R':ah ay->aG->b0->c0->Prop}{a0:c0->aD->Prop}{t:dn α}{m:P β}{g:β->P b0}(h1:aW X A [] R B I h t m)(hr:(m>>=g).run I (aL X z ex B h R' a0 E)){Q':α->aD->Prop}(hE:∀{kx:aI} {Z:St},aL X z ex B h R' a0 E (.err kx) Z->aL X z ex B h R' a0 E' (.err kx) Z)(k:∀z' J Z H t' b a,Zs z z'->Inv X J Z H->Go X [] B h J H->R J H b a->(g b).run Z (aL X z' ex J H R' a0 E)->Q' a (sh z' H t')):aA (MX X) A t Q' E' (sh z h W):=by
 refine h1 z W Q' E' (m.mono (λr Z y=>?_) (show m.run I _ from hr));intro z' J H t' F D S;cases r with
 |ok b=>exact λa G=>k z' J Z H t' b a F D S G ((g b).mono (λu u p=>p.shift F (S.nil _)) y)
 |err k=>exact λe x=>hE y z' J H t' F D (S.nil _) e x
def aW.KC {ex:ah ay}{α c0 β b0:Type}{R:ah ay->aG->β->α->Prop}{R':ah ay->aG->b0->c0->Prop}{a0:c0->aD->Prop}{t:dn α}{m:P β}{g:β->P b0}(h1:aW X A ex R B I h t m)(hr:(m>>=g).run I (aL X z ex B h R' a0 E)){Q':α->aD->Prop}(hE:∀{kx:aI} {Z:St},aL X z ex B h R' a0 E (.err kx) Z->aL X z ex B h R' a0 E' (.err kx) Z)(k:∀z' J Z H t' b a,Zs z z'->Inv X J Z H->Go X ex B h J H->R J H b a->(g b).run Z (aL X z' ex J H R' a0 E)->Q' a (sh z' H t')):aA (MX X) A t Q' E' (sh z h W):=by
 refine h1 z W Q' E' (m.mono (λr Z y=>?_) (show m.run I _ from hr));intro z' J H t' F D S;cases r with
 |ok b=>exact λa G=>k z' J Z H t' b a F D S G ((g b).mono (λu u p=>p.shift F S) y)
 |err k=>exact λe x=>hE y z' J H t' F D S e x
def Ctx.next {d0:ah (ax AV)}{ex:ah ay}(K:Ctx X k U A l G Q N B I h)(b0:Inv X J Z H)(a0:Go X ex B h J H)(c0:En X U G Q d0 J H):Ctx X k U A l G Q d0 J Z H:=⟨K.ok,K.ar.step a0,K.top,b0,c0,K.code⟩
def aL.vh {ex:ah ay}{s':St}{β α:Type}{R:ah ay->aG->β->α->Prop}{a0:α->aD->Prop}(K:Ctx X k U A l G Q N B I h){r:Res β}(p:aL X z ex B h R a0 E r s'):
  aL X z ex B h R a0 (nj (MX X) A G λe s'=>cameBackBy (MX X) A G E e s') r s':=by
 intro j J H S Z F D;obtain q:=p j J H S Z F D;cases r with
 |ok b=>exact q
 |err kx=>
  intro e x;obtain⟨o,l',rfl,M⟩:=K.top;obtain⟨L,hL⟩:∃L,G.frame=ae L:=by
   obtain⟨_,L,_,q,_⟩:=K.ar.dR o (.head _);exact⟨L,M ▸ q⟩
  obtain R':=K.ar.dR.step D;refine vg (jH:=I) K.ar.frames M hL F R' K.inv D x λh1 O W=>?_;show aA (MX X) A (jf (.ref e) 1>>=λv=>_) _ _ _;obtain⟨a1,a2,a3,oe,V,u,b2,w,b4,T,oT,ts,f,_⟩:=id W;refine bO (e8 u w f ?_);rw[aK (by simp)];refine sf (jH:=I) O.inv O.dR K.inv O.go W λm Y x2=>?_;exact p j J m S Z Y.inv Y.go e x2.exc
def KD (a0:fk):HS X F k U (.Pass a0) (λrt=>P.pure (.next,rt.loc)):=λA l G Q N B I h K z W D E H=>wpAny_Pass (H _ _ _ _ (.refl _) K.inv (.refl ..) _ ⟨.next,K.en⟩)
def KE (a0:fk):HS X F k U (.Break a0) (λrt=>P.pure (.brk,rt.loc)):=λA l G Q N B I h K z W D E H=>wpAny_Break (H _ _ _ _ (.refl _) K.inv (.refl ..) _ ⟨.brk,K.en⟩)
def KG (a0:fk):HS X F k U (.Continue a0) (λrt=>P.pure (.cont,rt.loc)):=λA l G Q N B I h K z W D E H=>wpAny_Continue (H _ _ _ _ (.refl _) K.inv (.refl ..) _ ⟨.cont,K.en⟩)
def KH (ha:HE X F k U e d):HS X F k U (.Return (ae e) pos) (λrt=>do
   let v0 <-d rt
   P.pure (.ret v0,rt.loc)):=by
 intro A l G Q N B I h K z W D E R;refine Hh ?_;refine(ha K).value R λY J S T V x v M L O H=>?_;exact H _ _ _ _ (.refl _) M (.refl ..) _ ⟨.ret O,K.en.step K.inv L⟩
def KI:iQ X F k U [] (λrt=>P.pure (.next,rt.loc)):=λA l G Q N B I h K z W D E H=>rg (H _ _ _ _ (.refl _) K.inv (.refl ..) _ ⟨.next,K.en⟩)
def CK (f:dy->DS):∀(ss:ah dy),(∀s∈ss,HS X F k U s (f s))->iQ X F k U ss (ew f ss):=by
 intro l;induction l with
 |nil=>
  intro _;exact KI
 |cons s ss R=>
  intro M;intro A l G Q N B I h K z W D E u;refine tR ?_;refine(M s (.head _) K).then u λV Z S h1 T p fl L j Y H=>?_;obtain⟨f1,O⟩:=p;obtain⟨b,J⟩:=Y;cases b with
  |next=>exact R (λo w=>M o (.tail _ w)) (K.next L j J) V T D E H
  |brk=>exact H _ _ _ _ (.refl _) L (.refl ..) _ ⟨.brk,J⟩
  |cont=>exact H _ _ _ _ (.refl _) L (.refl ..) _ ⟨.cont,J⟩
  |ret m=>exact H _ _ _ _ (.refl _) L (.refl ..) _ ⟨.ret m,J⟩
def KL {t:aH}{b o:ah dy}{cb co:DS}(ht:HT X F k U t ct)(hb:iQ X F k U b cb)(ho:iQ X F k U o co):HS X F k U (.If t b o pos) (λrt=>do
   let c <-ct rt
   if c then cb rt else co rt):=by
 intro A l G Q N B I h K z W D E T;refine wpAny_If ?_;refine(ht K).value T λO R V Y M x v L J S H=>?_;obtain rfl:x=v:=S;obtain CL:=J.nil [G.locals];cases x with
 |true=>exact hb (K.step L J) O M D E H
 |false=>exact ho (K.step L J) O M D E H
theorem KP {t:aH}{b:ah dy}{cb:DS}(ht:HT X F k U t ct)(hb:iQ X F k U b cb)(n:ak):HS X F k U (.While t b [] pos) (λrt=>iN ct cb n rt):=by
 intros _ A l G Q N B I h _ K _ z W D E _ L;refine wpAny_While ?_;refine codeAny_whileLoop (λn s=>∃z B I h t N,s=sh z h t/\Ctx X k U A l G Q N B I h/\(iN ct cb n ⟨F,Q,N⟩).run I (aL X z [G.locals] B h (RS X U G Q) D E)) ?_ n ⟨z,B,I,h,W,N,rfl,K,L⟩;intros _ n s _ Y;obtain (⟨z,B,I,h,W,N,rfl,K,L⟩):=Y;cases n with
 |zero=>exact L.elim
 |succ n=>
  intros n _ L;have L:(ct ⟨F,Q,N⟩>>=λc=>if c=aj then (cb ⟨F,Q,N⟩>>=λp=>match p.1 with
    |.next |.cont=>iN ct cb n ⟨F,Q,p.2⟩
    |.brk=>P.pure (.next,p.2)
    |.ret v=>P.pure (.ret v,p.2))else P.pure (.next,N)).run I (aL X z [G.locals] B h (RS X U G Q) D E):=L
  refine(ht K).KA L (λp=>p.vh K) λz1 a0 m h1 t1 x v Z1 u G1 f S=>?_;obtain rfl:x=v:=f;obtain R:=K.step u G1;cases x with
  |true=>
   refine(hb R).KC S (λp=>p.vh R) λj M O o Z p fl Z2 V w rp H=>?_;obtain⟨f1,J⟩:=p;obtain⟨rf,T⟩:=rp;cases rf with
   |next=>exact⟨n,jF n,j,M,O,o,Z,J,rfl,R.next V w T,H⟩
   |cont=>exact⟨n,jF n,j,M,O,o,Z,J,rfl,R.next V w T,H⟩
   |brk=>exact H _ _ _ _ (.refl _) V (.refl ..) _ ⟨.next,T⟩
   |ret hx=>exact H _ _ _ _ (.refl _) V (.refl ..) _ ⟨.ret hx,T⟩
  |false=>exact rg (S _ _ _ _ (.refl _) u (.refl ..) _ ⟨.next,R.en⟩)
def yd (h:nJ e=aj)(t:aH)(a0:ak)(G:bH):ow e (ae t) a0 G=pure az:=by
 cases e <;>first |rfl |cases h
def KQ (h:nJ e=aj)(a0:ak)(G:bH):ow e ag a0 G=pure az:=by
 cases e <;>first |rfl |cases h
def vi (h:ku e=az)(t:aH)(G:bH):swappedStores [t] e G=pure ag:=by
 cases t with
 |Tuple=>cases e <;>first |rfl |cases h
 |List=>cases e <;>first |rfl |cases h
 |_=>rfl
def dropped {a0:Flow->aD->Prop}(h:a0 .next s):aA (aV prog w) A (dropValue e pos v) a0 E s:=by
 exact wpAny_dropValue h
def KR (ha:HE X F k U e d):HS X F k U (.Expr e pos) (λrt=>do
   P.guard (nJ e=aj)
   let _ <-d rt
   P.pure (.next,rt.loc)):=by
 intro A l G Q N B I h K z W D E J;obtain⟨T,J⟩:=a6 J;have M:interactive G=az:=by unfold interactive;rw[K.en.kind];rfl
 rw[exec_Expr G e pos M (KQ T _ _)];refine wB (jE (wB ?_));refine(ha K).value J λj L S V Z x v R O Y H=>?_;exact dropped (H _ _ _ _ (.refl _) R (.refl ..) _ ⟨.next,K.en.step K.inv O⟩)
def KS {t:aH}{a:DA}(hc:nJ e=aj)(hd:HE X F k U e d)(ha:HA X F k U t a):HS X F k U (.Assign [t] e pos) (λrt=>do
   P.guard (ku e=az/\dg t=aj)
   let v0 <-d rt
   let a0 <-a v0 rt
   P.pure (.next,a0)):=by
 intro A l G Q N B I h K z W D E L;obtain⟨⟨V,Y⟩,L⟩:=a6 L;rw[wN];refine wB (jE ?_);show aA _ _ (ow e (ae t) pos.line G>>=_) _ _ _;rw[yd hc];refine bO (aC ?_);rw[aK (by simp)];refine wB ?_;refine(hd K).value L λz1 j T o f x v w u R J=>?_;rw[vi V];refine wB (aC ?_);rw[qk t [] G Y];show aA _ _ (ly t G v>>=λy=>pure Flow.next) _ _ _;refine wB ?_;refine(ha (K.step w u) R).then J λz2 O Z h2 m M y b G2 S H=>?_;exact aC (H _ _ _ _ (.refl _) b (.refl ..) _ ⟨.next,S⟩)
theorem KU {x:au}{np:fk}{op:jW}(hd:HE X F k U e d):HS X F k U (.AugAssign (.Name x np) op e pos) (λrt=>do
   P.guard (op= .Add\/op= .Sub)
   let o0 <-nK U x rt
   let i0 <-dF o0
   let v0 <-d rt
   let a0 <-dF v0
   let v0 <-gf op (.int i0) (.int a0)
   let b0 <-nameA U x v0 rt
   P.pure (.next,b0)):=by
 intros _ A l G Q N B I h _ K _ z W D E _ M;obtain⟨T,M⟩:=a6 M;refine wpAny_AugAssign_Name ?_;refine(Cn (F:=F) K.ok K.inv K.en x).value M λz1 d0 c0 h1 t1 y v u Z f J=>?_;obtain⟨i,rfl,J⟩:=jo J;refine(hd (K.step u Z)).value J λY R S b t2 y w I2 G2 O H=>?_;obtain⟨a0,rfl,H⟩:=jo H;have K2:=(K.step u Z).step I2 G2;obtain⟨ta,rfl⟩:=f;obtain⟨tb,rfl⟩:=O;have L:∀(n:Int) (t:cK) (W:ak),(nameA U x (.int n) ⟨F,Q,N⟩>>=λN=>P.pure (FL.next,N)).run S (aL X Y [G.locals] R b (RS X U G Q) D E)->
   aA (MX X) A (q7 G x (.int n t)) (λa=>D .next) E (sh Y b W):=by
  intro n t W M;refine(CE (F:=F) K2 (.int n t) x).then M λz3 f0 e0 h3 t3 o a I3 G3 m V=>?_;exact V _ _ _ _ (.refl _) I3 (.refl ..) _ ⟨.next,m⟩
 rcases T with rfl |rfl
 ·exact PySem.P.iadd_int (L _ _ _ H)
 ·exact PySem.P.isub_int (L _ _ _ H)
def Go.field {ex:ah ay}{c:ay}{V:aZ aw}(a0:Go X ex B h J H)(e:h.get? c=ae o)(d:o.data= .fields V)(n:c∉B)(ht:c≠cJ)(hx:c∉ex):H.get? c=ae o:=by
 obtain⟨F,D,k⟩:=a0.step.keep c o e n ht λE=>absurd E hx;rw[k.exact λK I q=>by rw[d]at q;cases q]at D;exact D
def Go.seq {ex:ah ay}{c:ay}{V:aZ aw}{m:ak}(a0:Go X ex B h J H)(e:h.get? c=ae o)(d:o.data= .seq V m)(n:c∉B)(ht:c≠cJ):H.get? c=ae o:=by
 obtain⟨E,D,k⟩:=a0.step.keep c o e n ht λu=>JK d;rw[k.exact λI F q=>by rw[d]at q;cases q]at D;exact D
def Inv.g7 {c:ay}(a0:Inv X B I h)(b:X.base.get? c=ag):c≠cJ:=λq=>by obtain⟨o,e⟩:=a0.gg;rw[<-q,b]at e;cases e
def bP.step {ex:ah ay}(r:bP X B h own ai it)(b0:Inv X B I h)(a0:Go X ex B h J H)(hx:∀c∈own,c∉ex):bP X J H own ai it:=by
 cases r with
 |list e D n b=>
  obtain⟨o,E,c,d⟩:=D;exact .list (a0.step.iT e) ⟨o,a0.field E d n (b0.g7 b) (hx _ (.head _)),c,d⟩ (a0.step.dt E n) b
 |range D n b=>exact .range (a0.field D rfl n (b0.g7 b) (hx _ (.head _))) (a0.step.dt D n) b
 |obj e=>exact .obj (a0.step.iT e)
def ye {it l:ay}{O:_}{x:aw}{a0:ax aw->aD->Prop}(ho:s.heap.get? it=ae o)(hc:o.cls= .type "list_iterator")(hd:o.data= .fields #[.ref l,.int i 0])(hl:s.heap.IsList l O)(hx:O[i]? =ae x)(hQ:∀H o',H.get? it=ae o'->o'.cls= .type "list_iterator"->o'.data= .fields #[.ref l,.int (i+1:ak) 0]->fq it s.heap H->a0 (ae x) { s with heap:=H }):
  aA (aV prog w) A (oz (.ref it) (aq "__next__")) a0 E s:=by
 obtain B:s.heap.IsListIter it l i:=⟨o,ho,hc,hd⟩;obtain⟨I,F,_,G,D⟩:=hl;refine nk (name:=aq "__next__") B.typeIs j5
  (gy j5 B.typeIs AJ ?_ (AK _))
 show aA _ _ (jf (.ref it) 0>>=_) _ _ s;refine wB (e8 ho hd (x:=.ref l) rfl ?_);show aA _ _ (if (gw l == dq)=aj then _ else _) _ _ s;rw[aK (show ¬ ((gw l == dq)=aj) from jg)];show aA _ _ (jf (.ref it) 1>>=_) _ _ s;refine wB (e8 ho hd (x:=.int i 0) rfl ?_);show aA _ _ (rh (.ref l)>>=_) _ _ s;refine bO (j6 F D ?_);simp only[eD,hx];refine bO (tO ho hd (by simp) (aC ⟨x,rfl,hQ _ _ (iK _ ho (ou (nh hd _))) ((tQ ..).trans hc) ?_ (dY ..)⟩));rw[nh hd];simp[bI]
def vj {α:Type}{a0:α->aD->Prop}(hh:A.handled=ag)(hE:∀H e,(∀b o,s.heap.get? b=ae o->H.get? b=ae o)->s.heap.get? e=ag->(∃o,H.get? e=ae o/\o.cls= .type "StopIteration")->E (.ref e) { s with heap:=H }):
  aA (aV prog w) A (wO (.type "StopIteration") []>>=λe=>(AM e:dn α)) a0 E s:=by
 refine wB ?_;simp only[wO,wG];refine wB (q8 ?_ (by size_fits));refine wB (m:=Hi _ _) (nq (a:=dq) (by first |rfl |(simp only[Hi];rfl)) ?_);refine q8 ?_ (by size_fits);unfold raiseNew;refine wB (wpAny_handled ?_);rw[hh];refine wB (aC (tS ?_));refine hE _ _ (λb o e=>be _ (be _ e)) ?_ ⟨_,cV _ rfl,rfl⟩;cases q:s.heap.get? _ with
 |none=>rfl
 |some o=>exact absurd (gP (be _ q)) (dP _)
def yf {o:Obj}{it l:ay}{O:_}{a0:ax aw->aD->Prop}(hh:A.handled=ag)(ho:s.heap.get? it=ae o)(hc:o.cls= .type "list_iterator")(hd:o.data= .fields #[.ref l,.int i 0])(hl:s.heap.IsList l O)(hx:O[i]? =ag)(hE:∀h₁ H e o',h₁.get? it=ae o'->o'.cls= .type "list_iterator"->o'.data= .fields #[.none,.int i 0]->fq it s.heap h₁->(∀b o,h₁.get? b=ae o->H.get? b=ae o)->h₁.get? e=ag->(∃o,H.get? e=ae o/\o.cls= .type "StopIteration")->E (.ref e) { s with heap:=H }):
  aA (aV prog w) A (oz (.ref it) (aq "__next__")) a0 E s:=by
 obtain B:s.heap.IsListIter it l i:=⟨o,ho,hc,hd⟩;obtain⟨I,F,_,G,D⟩:=hl;refine nk (name:=aq "__next__") B.typeIs j5
  (gy j5 B.typeIs AJ ?_ (AK _))
 show aA _ _ (jf (.ref it) 0>>=_) _ _ s;refine wB (e8 ho hd (x:=.ref l) rfl ?_);show aA _ _ (if (gw l == dq)=aj then _ else _) _ _ s;rw[aK (show ¬ ((gw l == dq)=aj) from jg)];show aA _ _ (jf (.ref it) 1>>=_) _ _ s;refine wB (e8 ho hd (x:=.int i 0) rfl ?_);show aA _ _ (rh (.ref l)>>=_) _ _ s;refine bO (j6 F D ?_);simp only[eD,hx];refine bO (gR (bO (tO ho hd (by simp) ?_)));exact vj (show A.in1.handled=ag from hh) λH e a b c=>hE _ H e _ (iK _ ho (ou (nh hd _))) ((tQ ..).trans hc) (by rw[nh hd];simp) (dY ..) a b c
def CM {o:Obj}{it:ay}{a0:ax aw->aD->Prop}{V:aZ aw}(hh:A.handled=ag)(ho:s.heap.get? it=ae o)(hc:o.cls= .type "list_iterator")(hd:o.data= .fields V)(h0:V[0]? =ae .none)(hE:∀H e,(∀b o,s.heap.get? b=ae o->H.get? b=ae o)->s.heap.get? e=ag->(∃o,H.get? e=ae o/\o.cls= .type "StopIteration")->E (.ref e) { s with heap:=H }):
  aA (aV prog w) A (oz (.ref it) (aq "__next__")) a0 E s:=by
 have B:s.TypeIs (.ref it) "list_iterator":=⟨_,ho,hc⟩;refine nk (name:=aq "__next__") B j5
  (gy j5 B AJ ?_ (AK _))
 show aA _ _ (jf (.ref it) 0>>=_) _ _ s;refine wB (e8 ho hd (x:=.none) h0 ?_);show aA _ _ (if (dq == dq)=aj then _ else _) _ _ s;rw[aN (by rfl)];refine wB (gR ?_);exact wB (vj (show A.in1.handled=ag from hh) hE)
def KV {it:ay}{x b0 step:Int}{a0:ax aw->aD->Prop}(c0:tz s.heap it x b0 step)(d0:0 < b0)(hQ:∀H,tz H it (x+step) (b0 - 1) step->fq it s.heap H->a0 (ae (.int x s.toks)) { s with heap:=H,toks:=s.toks+1 }):
  aA (aV prog w) A (oz (.ref it) (aq "__next__")) a0 E s:=by
 obtain B:s.TypeIs (.ref it) "range_iterator":=⟨_,c0,rfl⟩;refine nk (name:=aq "__next__") B F.slot_range_iterator_next
  (nr F.slot_range_iterator_next B F.entry_range_iterator_next (F.args_range_iterator_next_1 _) (AutoRange.range_iterator___next___range_iterator_1 it x b0 step (by lia)) ⟨c0,?_⟩)
 exact hQ _ (iK _ (iK _ c0 rfl) rfl) ((dY ..).trans (dY ..))
def KW {it:ay}{x b0 step:Int}{a0:ax aw->aD->Prop}(hh:A.handled=ag)(c0:tz s.heap it x b0 step)(d0:b0<=0)(hE:∀H e,(∀b o,s.heap.get? b=ae o->H.get? b=ae o)->s.heap.get? e=ag->(∃o,H.get? e=ae o/\o.cls= .type "StopIteration")->E (.ref e) { s with heap:=H }):
  aA (aV prog w) A (oz (.ref it) (aq "__next__")) a0 E s:=by
 obtain B:s.TypeIs (.ref it) "range_iterator":=⟨_,c0,rfl⟩;refine nk (name:=aq "__next__") B F.slot_range_iterator_next
  (gy F.slot_range_iterator_next B F.entry_range_iterator_next ?_ (F.args_range_iterator_next_1 _))
 show aA _ _ (jf (.ref it) 0>>=_) _ _ s;refine wB (e8 c0 rfl (x:=bI x) rfl ?_);show aA _ _ (jf (.ref it) 1>>=_) _ _ s;refine wB (e8 c0 rfl (x:=bI b0) rfl ?_);show aA _ _ (jf (.ref it) 2>>=_) _ _ s;refine wB (e8 c0 rfl (x:=bI step) rfl ?_);show aA _ _ (if b0<=0 then _ else _) _ _ s;rw[aN d0];refine wB (gR ?_);exact wB (vj (show A.in1.handled=ag from hh) hE)
def Dr.refl (a0 B:ah ay)(h:aG):Dr a0 B h h:=⟨λu o e=>⟨o,e⟩,λu u e u u=>e⟩
def Dr.trans (x:Dr own B h H)(y:Dr own B H kn):Dr own B h kn:=⟨λa o e=>by obtain⟨F,G⟩:=x.there a o e;exact y.there a F G,λa o e D E=>y.keep a o (x.keep a o e D E) D E⟩
def Dr.mono {a0:ah ay}(x:Dr own B h H)(hs:∀a∈own,a∈a0):Dr a0 B h H:=⟨x.there,λa o e E F=>x.keep a o e (λD=>E (hs a D)) F⟩
def Dr.keeps (a0 B:ah ay)(hk:∀b o,h.get? b=ae o->H.get? b=ae o):Dr a0 B h H:=⟨λa o e=>⟨o,hk a o e⟩,λa o e u u=>hk a o e⟩
def Dr.same {c:ay}(hc:c∈own)(hs:fq c h H)(e':H.get? c=ae o'):Dr own B h H:=⟨λa o e=>by
 by_cases q:a=c
 ·subst q;exact⟨_,e'⟩
 ·exact⟨o,(hs.2 a q).trans e⟩,λa o e D u=>(hs.2 a λq=>D (q ▸ hc)).trans e⟩
def eG.kp (a0:eG X B h own)(ok:X.ok a)(e:h.get? a=ae o)(k:Kp o):a∉own:=λD=>by
 obtain⟨_,_,r⟩:=a0 a D;rcases r with r |⟨o',ws,e',d',n⟩
 ·exact ok.2 r
 ·rw[e]at e';cases e';exact n (k.nf d')
def Dr.dK (D:Dr own B h H)(a0:eG X B h own):gY X X.bad B B h H:=⟨λu u=>id,λu u E F e k=>⟨E,F,D.keep _ _ e (a0.kp F e k) E⟩⟩
def aF.dr (D:Dr own B h H)(a0:eG X B h own)(r:aF X B h x v):aF X B H x v:=r.dK (D.dK a0)
def Inv.dr (b0:Inv X B I h)(a0:eG X B h own)(D:Dr own [] h H):Inv X B I H:=by
 have F:∀a o,a∉own->h.get? a=ae o->H.get? a=ae o:=λa o n e=>D.keep a o e n (by simp);obtain D':Dr own B h H:=⟨D.there,λa o e n u=>F a o n e⟩;refine⟨b0.len,b0.nodup,λi T a Q L=>?_,λb K G N=>?_,b0.new,b0.gg,b0.mods,?_,λb E=>?_⟩
 ·obtain⟨J,R,S⟩:=b0.obj i T a Q L;exact⟨J,F a J (λE=>(a0 a E).1 (cD L)) R,S.dK (D'.dK a0)⟩
 ·exact F b K (λE=>by rw[(a0 b E).2.1]at G;cases G) (b0.base b K G N)
 ·obtain⟨V,M,c⟩:=b0.tab;obtain⟨o,e⟩:=b0.gg;exact⟨V,F _ _ (λE=>by rw[(a0 _ E).2.1]at e;cases e) M,c⟩
 ·obtain⟨o,e⟩:=b0.gh b E;exact D.there b o e
def Go.dr {ex:ah ay}(a0:Go X ex br h₀ B h)(D:Dr own B h H)(ho:∀c∈own,h₀.get? c=ag):Go X ex br h₀ B H:=by
 have K:∀a o,h₀.get? a=ae o->a∉own:=λa o e J=>by rw[ho a J]at e;cases e
 refine⟨⟨λa o e=>?_,a0.step.ext,λa o e F L J=>?_⟩,λa o e F f b=>?_⟩
 ·obtain⟨E,I⟩:=a0.step.there a o e;exact D.there a E I
 ·obtain⟨E,I,k⟩:=a0.step.keep a o e F L J;exact⟨E,D.keep a E I (K a o e) (a0.step.dt e F),k⟩
 ·obtain⟨E,I,M⟩:=a0.fr a o e F f b;exact⟨E,D.keep a E I (K a o e) (a0.step.dt e F),M⟩
def En.dr (b0:En X U G Q N B h)(D:Dr own B h H)(a0:eG X B h own)(hL:G.locals∉own):En X U G Q N B H:=by
 refine⟨b0.kind,b0.glob,b0.blt,b0.kinds,b0.len,?_,b0.fZ,b0.iz,b0.cells⟩;obtain⟨m,n,r⟩:=b0.ns;obtain⟨o,L,K,e,q⟩:=n;refine⟨m,⟨o,L,K,D.keep _ _ e hL b0.fZ,q⟩,λx i v M J E=>?_⟩;obtain⟨I,R,F⟩:=r x i v M J E;exact⟨I,R,F.dr D a0⟩
def bP.gn (r:bP X B h own ai it):eG X B h own:=by
 cases r with
 |list e E n b=>obtain⟨o,G,c,d⟩:=E;intro F D;rw[aJ.mp D];exact⟨n,b,.inr ⟨o,_,G,d,by rw[c];decide⟩⟩
 |range E n b=>intro F D;rw[aJ.mp D];exact⟨n,b,.inr ⟨_,_,E,rfl,by simp⟩⟩
 |obj e=>exact λu D=>nomatch D
def bP.dr {a0:ah ay}(r:bP X B h own ai it)(D:Dr a0 B h H)(hn:∀c∈own,c∉a0):bP X B H own ai it:=by
 cases r with
 |list e E n b=>obtain⟨o,F,c,d⟩:=E;exact .list e ⟨o,D.keep _ _ F (hn _ (.head _)) n,c,d⟩ n b
 |range E n b=>exact .range (D.keep _ _ E (hn _ (.head _)) n) n b
 |obj e=>exact .obj e
set_option tactic.hygienic true in theorem draw {b0 : ax aw → aD → Prop} (r : bP X B h own ai it) (a0 : Inv X B I h) (hh : A.handled = ag) (hr : (bx ai).run I fun res Z => match res with
   |.ok (ae (x0,mL))=>∀H t' v,Inv X B Z H->Dr own B h H->bP X B H own mL it->aF X B H x0 v->b0 (ae v) (sh z H t')
   |.ok .none=>∀H e,Inv X B Z H->Dr own B h H->eG X B H own->h.get? e=ag->(∃o,H.get? e=ae o/\o.cls= .type "StopIteration")->E (.ref e) (sh z H W)
   |.err _=>dm):
  aA (MX X) A (oz it (aq "__next__")) b0 E (sh z h W):=by
 cases r with
 |list e hi n b=>
  rename_i s i a it;obtain⟨l,e1,hr⟩:=g6 hr;obtain⟨O,m,hl,rl,len,_⟩:=ez a0 e1 e;obtain⟨o,eo,c,d⟩:=id hi;obtain D:eG X B h [it]:=(bP.list e hi n b).gn;cases q:l[i]? with
  |none=>
   rw[q]at hr;refine yf (s:=sh z h W) hh eo c d ⟨_,hl,rfl,m,rfl⟩ (by simp only[Hj];rw[nu]at q |-;exact TT (EL len) q) λh₁ H e' o' x1 x2 x3 x4 x5 x6 x7=>?_;obtain D1:Dr [it] [] h h₁:=Dr.same (.head _) x4 x1;obtain D2:Dr [it] [] h H:=D1.trans (Dr.keeps _ _ x5);refine hr H e' (a0.dr D D2) ⟨D2.there,λa o e h1 u=>D2.keep a o e h1 (by simp)⟩ ?_ ?_ x7
   ·intro c' hc;rw[aJ.mp hc];exact⟨n,b,.inr ⟨_,_,x5 _ _ x1,x3,by rw[x2];decide⟩⟩
   ·cases q:h.get? e' with
    |none=>rfl
    |some o=>obtain⟨o2,q2⟩:=D1.there _ _ q;rw[x6]at q2;cases q2
  |some x=>
   rw[q]at hr;obtain⟨v,ev,rv⟩:=rl.get q;refine ye (s:=sh z h W) eo c d ⟨_,hl,rfl,m,rfl⟩ (x:=v) (by simpa using ev) λH o' x1 x2 x3 x4=>?_;obtain D1:Dr [it] [] h H:=Dr.same (.head _) x4 x1;obtain D2:Dr [it] B h H:=⟨D1.there,λa o e h1 u=>D1.keep a o e h1 (by simp)⟩;exact hr H W v (a0.dr D D1) D2 (.list e ⟨o',x1,x2,x3⟩ n b) (rv.dr D2 D)
 |range hi n b=>
  rename_i it c d k;obtain D:eG X B h [it]:=(bP.range hi n b).gn;cases k with
  |zero=>
   refine KW (s:=sh z h W) hh hi (by simp) λH e' x5 x6 x7=>?_;obtain D2:Dr [it] [] h H:=Dr.keeps _ _ x5;exact hr H e' (a0.dr D D2) (Dr.keeps _ _ x5) (λc' hc=>by rw[aJ.mp hc];exact⟨n,b,.inr ⟨_,_,x5 _ _ hi,rfl,by simp⟩⟩) x6 x7
  |succ k=>
   refine KV (s:=sh z h W) hi (by lia) λH x1 x4=>?_;obtain D1:Dr [it] [] h H:=Dr.same (.head _) x4 x1;obtain D2:Dr [it] B h H:=⟨D1.there,λa o e h1 u=>D1.keep a o e h1 (by simp)⟩;rw[show((k+1:ak):Int) - 1=(k:Int) by lia]at x1;exact hr H (W+1) _ (a0.dr D D1) D2 (.range x1 n b) (.int ..)
 |obj e=>
  rename_i i a;obtain⟨ao,e1,hr⟩:=eV hr;obtain⟨o,eo,bo⟩:=a0.obj i ao a e1 e;obtain ma:a∈B:=cD e;cases ao with
  |iter s k=>
   cases s with
   |none=>
    obtain⟨c,V,d,d0⟩:=bo;refine CM (s:=sh z h W) hh eo c d d0 λH e' x5 x6 x7=>?_;exact hr H e' (a0.keeps x5) (Dr.keeps _ _ x5) (λu hc=>nomatch hc) x6 x7
   |some s=>
    obtain⟨c,la,es,d⟩:=bo;obtain⟨l,e2,hr⟩:=g6 hr;obtain⟨O,m,hl,rl,len,_⟩:=ez a0 e2 es;cases q:l[k]? with
    |none=>
     rw[q]at hr;refine yf (s:=sh z h W) hh eo c d ⟨_,hl,rfl,m,rfl⟩ (by simp only[Hj];rw[nu]at q |-;exact TT (EL len) q) λh₁ H e' o' x1 x2 x3 x4 x5 x6 x7=>?_;obtain⟨I1,G1⟩:=a0.change (b0:=.iter .none 0) e1 e x4 x1 ⟨x2,_,x3,rfl⟩ [];refine hr H e' (I1.keeps x5) ⟨λb ob eb=>?_,λb ob eb u hb=>?_⟩ (λu hc=>nomatch hc) ?_ x7
     ·obtain⟨o2,q2⟩:=G1.step.there b ob eb;exact⟨o2,x5 _ _ q2⟩
     ·exact x5 _ _ ((x4.2 b λq=>hb (q ▸ ma)).trans eb)
     ·cases q:h.get? e' with
      |none=>rfl
      |some o=>obtain⟨o2,q2⟩:=G1.step.there _ _ q;rw[x6]at q2;cases q2
    |some x=>
     rw[q]at hr;obtain⟨v,ev,rv⟩:=rl.get q;refine ye (s:=sh z h W) eo c d ⟨_,hl,rfl,m,rfl⟩ (x:=v) (by simpa using ev) λH o' x1 x2 x3 x4=>?_;obtain⟨I1,G1⟩:=a0.change (b0:=.iter (ae s) (k+1)) e1 e x4 x1 ⟨x2,la,es,x3⟩ [];exact hr H W v I1 ⟨G1.step.there,λb ob eb u hb=>(x4.2 b λq=>hb (q ▸ ma)).trans eb⟩ (.obj e) (rv.step G1.step)
  |_=>exact hr.elim
def CN:Manifest.owners.lookup (GA ['r','o','t','a','r','e','t','i','_','t','e','s'].reverse)=ae Manifest.sig_set_iterator:=by kernel_rfl
def vk:Slot "set_iterator" "__next__" "set_iterator.__next__":=
 .of (owner:="set_iterator") (n:="__next__") (by rw[rj,rm];kernel_rfl) (by decide +kernel) (by decide +kernel) (by decide +kernel)
  (by first |exact .inl (by decide +kernel) |exact .inr (by decide +kernel)) (by rw[rn];kernel_rfl)
def KY:AP table "set_iterator.__next__"=ae j4.«set_iterator.__next__»:=entryFor_of_tree (by kernel_rfl)
def KZ (a:aw):pU "set_iterator.__next__" ⟨[a],[]⟩:=by
 unfold argsOk;rw[signature?_of (id:="set_iterator.__next__") (n:=['_','_','t','x','e','n','_','_']) (o:=['r','o','t','a','r','e','t','i','_','t','e','s']) (by kernel_rfl) CN];kernel_rfl
def K4:AP table "set.__iter__"=ae j4.«frozenset.__iter__»:=
 Hk (id':="frozenset.__iter__") (by rw[wQ];kernel_rfl) rfl (by rw[PySem.W.Fast.canonicalY_eq];kernel_rfl) (by rw[wQ];kernel_rfl)
def yg {α:Type}:∀{l:ah α} {i:ak} (h:i < l.length),(l[i] :: l.eraseIdx i).Perm l
 |x :: l,0,_=>.refl _
 |x :: l,i+1,h=>by
  obtain B:=yg (l:=l) (i:=i) (by simpa using h);rw[List.getElem_cons_succ,List.eraseIdx_cons_succ];exact(List.Perm.swap x _ _).trans (.cons x B)
def K9 {α:Type}(next:ak->ak):∀(b0 k:ak) (a0:ah α) (c0:aZ α),a0.length<=b0->(AQ next b0 k a0 c0).toList.Perm (c0.toList++a0):=by
 intro n;induction n with
 |zero=>
  intro k a0 c0 h;have:a0=[]:=Hl (Hm.mp h);subst this;show c0.toList.Perm _;rw[fU]
 |succ b0 D=>
  intro k a0 c0 h;rw[show AQ next (b0+1) k a0 c0=(match a0[next k % a0.length]? with |some x=>AQ next b0 (k+1) (a0.eraseIdx (next k % a0.length)) (c0.push x) |none=>c0) from rfl];cases a0 with
  |nil=>simp
  |cons x l=>
   obtain B:next k % (x :: l).length < (x :: l).length:=Hn _ (by simp)
   rw[cy B];dsimp only;have E:((x :: l).eraseIdx (next k % (x :: l).length)).length<=b0:=by rw[Ho B];simp at h |-;exact h
   refine(D (k+1) _ _ E).trans ?_;rw[Hq,j2];refine List.Perm.append_left _ ?_;exact yg B
def La {α:Type}(next:ak->ak)(xs:aZ α):(tB next xs).toList.Perm xs.toList:=by
 unfold pickOrder
 simpa using K9 next xs.size 0 xs.toList #[] (by simp)
def Lb {b0:Source}{a0:ak->aD->Prop}(hn:n≠0)(h:∀i,i < n->∀d,a0 i { s with drawn:=d }):aA (aV prog w) A (choose b0 n) a0 E s:=λD p B =>by
 show Sem.wp _ _ (.choose b0 n .pure) _ _ _ _;rw[Sem.wp_choose];exact⟨hn,h _ (Hn _ (Nat.pos_of_ne_zero hn)) _⟩
def Lc {α:Type}:∀(n:ak) (xs:ah α) {a0:ah α->aD->Prop} {s:aD},xs.length=n->(∀ys d,ys.Perm xs->a0 ys { s with drawn:=d })->aA (aV prog w) A (drawOrder n xs) a0 E s:=by
 intro I;induction I with
 |zero=>
  intro xs a0 s h B;have:xs=[]:=Hl h;subst this;exact aC (B [] s.drawn .nil)
 |succ n H=>
  intro F;cases F with
  |nil=>
   intro a0 s h B;cases h
  |cons x l=>
   intro a0 s h B;show aA _ _ (choose .order (x :: l).length>>=_) _ _ _;refine bO (Lb (by simp) λi D d=>?_);rw[cy D];dsimp only;refine wB (H _ (by rw[Ho D];simp at h |-;exact AN ((EL h)) ((EG h))) λys G J=>aC (B _ G ?_));exact(wR _ J).trans (yg D)
def kG.Ld {xs:ah au}{es:ah (Int×aw)}(r:kG w xs es):xs=es.map strOf/\∀e∈es,uW w e:=by
 induction r with
 |nil=>exact⟨rfl,λu h=>nomatch h⟩
 |cons r D=>
  refine⟨by rw[gc,<-D.1];rfl,λe B=>?_⟩;rcases bu.mp B with rfl |B
  ·exact⟨_,_,rfl⟩
  ·exact D.2 e B
def gH.go {es:aZ (Int×aw)}{t:gv}{b0:aw}{c0:ah (Int×aw)}(c:gH X B h a es ep t b0 i c0)(f:∀a0,a0∉B->a0∉J\/h.get? a0=ag)(g:∀a0 oT V,a0∉B->X.ok a0->h.get? a0=ae oT->rT oT V->H.get? a0=ae oT):gH X J H a es ep t b0 i c0:=by
 cases c with
 |text D=>exact .text D
 |drawn D F I e G K=>exact .drawn D ((f _ F).elim id λq=>by rw[q]at e;cases e) I (g _ _ _ F I e G) G K
 |one D E=>exact .one D E
 |done D E L=>exact .done D E L
def Le (a0:ak):m8 #[] a0=0:=by simp[m8,AU]
def Lf (p:ak):m8 #[p] 0=0:=by simp[m8,AU]
def Lg (p:ak):m8 #[p] (p+1)=1:=by simp[m8,AU]
set_option backward.match.sparseCases true in def CO {es : aZ (Int × aw)} {t : gv} {a0 : ak} {QQ : ax (aw × ak) → aD → Prop} (ho : h.get? a = ae o) (hd : o.data = .set es ep t) (hf : t.fits es.size = aj) (b0 : t.led = !X.w.params.followText "set-order") (hb : X.w.params.followText "set-order" = az) (hs : es.size ≤ 1) (q : QQ (match es[m8 t.place a0]?, t.place[m8 t.place a0]? with
   |some (_,x0),ae a0=>ae (x0,a0+1)
   |_,_=>ag) (sh z h W)):aA (MX X) A (wU a a0 i ep) QQ E (sh z h W):=by
 unfold setNext;refine wB (rq (s:=sh z h W) ho hd hf ?_);dsimp only;unfold setsByText;refine wB (wB (pV (aC ?_)));show aA _ _ (if X.w.params.followText "set-order"=aj then _ else _) _ _ _;rw[aK (by rw[hb];exact jg)];show aA _ _ (if (!t.plain && decide (es.size > 1))=aj then _ else _) _ _ _;rw (config:={}) [aK (by rw[cW,fu];exact λq=>absurd hs (Ak.mpr q.2))];show aA _ _ ((if (!t.led && !es.isEmpty)=aj then _ else _)>>=_) _ _ _;rw[aK (by rw[b0,hb];exact jg)];exact wB (aC (aC q))
set_option tactic.hygienic true in theorem Lh {o : Obj} {it : ay} {es : aZ (Int × aw)} {t : gv} {first : aw} {cur : ah (Int × aw)} {a0 : ax aw → aD → Prop} (hh : A.handled = ag) (hi : h.get? it = ae (qg first i a es.size ep)) (ho : h.get? a = ae o) (hd : o.data = .set es ep t) (hf : t.fits es.size = aj) (kI : es.size ≠ 0 → t.plain = az) (mH : t.led = !X.w.params.followText "set-order") (hc : gH X B h a es ep t first i cur) (yh : it ≠ a) (hQ : ∀ e rest, cur = e :: rest → ∀ H first', H.get? it = ae (qg first' (i + 1) a es.size ep) → fq it h H → gH X B h a es ep t first' (i + 1) rest → a0 (ae e.2) (sh z H W)) (hE : cur = [] → ∀ h₁ H e V, h₁.get? it = ae { cls := .type "set_iterator", data := .fields V } → fq it h h₁ → (∀ b o, h₁.get? b = ae o → H.get? b = ae o) → h₁.get? e = ag → (∃ o, H.get? e = ae o ∧ o.cls = .type "StopIteration") → E (.ref e) (sh z H W)) :
  aA (MX X) A (oz (.ref it) (aq "__next__")) a0 E (sh z h W):=by
 have hT:(sh z h W).TypeIs (.ref it) "set_iterator":=⟨_,hi,rfl⟩;refine nk (name:=aq "__next__") hT vk
  (gy vk hT KY ?_ (KZ _))
 show aA _ _ (fieldsOf (.ref it)>>=_) _ _ _;refine wB (wpAny_fieldsOf hi rfl ?_);show aA _ _ (setEntries a>>=_) _ _ _;refine wB (Hr (s:=sh z h W) ho hd hf ?_);show aA _ _ (if ((es.size:Int) != (es.size:Int))=aj then _ else _) _ _ _;rw[aK (by simp)];have vl:∀{A:d8},A.handled=ag->cur=[]->∀(V:aZ aw) (h0:aG),h0.get? it=ae { cls:=.type "set_iterator",data:=.fields V }->fq it h h0->5<=V.size->
   aA (MX X) A (oq (.ref it) 2 .none>>=λu=>wO (.type "StopIteration") []>>=λe=>(AM e:dn PySem.Fin)) (λfin s'=>∃r,fin= .done (.ret r)/\a0 (ae r) s') E (sh z h0 W):=by
  intro A hh Li V h0 e0 Lj kT;refine wB (gT (s:=sh z h0 W) e0 (by exact FI 5 0 3 0 kT rfl) λh₁ e1 mM=>?_);exact vj hh λH e x1 x2 x3=>hE Li h₁ H e _ e1 (Lj.trans mM) x1 x2 x3
 cases hc with
 |text hb=>
  rename_i j;show aA _ _ (wU a ((j:Int).toNat) ((i:Int).toNat) ((ep:Int).toNat)>>=_) _ _ _;simp only[eD];refine wB ?_;unfold setNext;refine wB (rq (s:=sh z h W) ho hd hf ?_);dsimp only;unfold setsByText;refine wB (wB (pV (aC ?_)));show aA _ _ (if X.w.params.followText "set-order"=aj then _ else _) _ _ _;rw[aN hb];rw[aK (by simp)];unfold setWalk;refine wB (wB (rq (s:=sh z h W) ho hd hf ?_));dsimp only;unfold setsByText;refine wB (wB (pV (aC ?_)));show aA _ _ (if X.w.params.followText "set-order"=aj then _ else _) _ _ _;rw[aN hb];refine wB (pV (aC (aC ?_)));show aA (MX X) A.in1 (match Hs (λ(e:Int×aw)=>(e.2,j)) (tB (X.w.params.setOrder a ep) es)[i]? with
   |some (x,next)=>oq (.ref it) 0 (bI ((next:ak):Int))>>=λu=>oq (.ref it) 1 (bI ((i:Int)+1))>>=λu=>ret x
   |none=>oq (.ref it) 2 .none>>=λu=>wO (.type "StopIteration") []>>=λe=>(AM e:dn PySem.Fin)) _ _ _
  cases hq:(tB (X.w.params.setOrder a ep) es)[i]? with
  |none=>
   dsimp only[Option.map_none];refine vl (show A.in1.handled=ag from hh) ?_ _ h hi (.refl ..) (by simp);rw[pW];rw[Ht]at hq
   simpa using hq
  |some e=>
   dsimp only[tT];refine wB (gT (s:=sh z h W) hi (by simp) λh₁ e1 mM=>?_);refine wB (gT (s:=sh z h₁ W) e1 (by simp) λyi e2 yj=>?_);refine aC ⟨_,rfl,hQ e ((tB (X.w.params.setOrder a ep) es).toList.drop (i+1)) ?_ yi (bI j) e2 (mM.trans yj) (.text hb)⟩;obtain⟨ql,he⟩:=Array.getElem?_eq_some_iff.mp hq;rw[oA (by simpa using ql)];simp[he]
 |drawn hb n1 n2 e ht hp=>
  rename_i T oT ps;obtain⟨se,nT,nR⟩:=ht;refine bO (j6 (s:=sh z h W) e nR ?_);dsimp only;simp only[eD];cases hq:ps[i]? with
  |none=>
   have:(ps.map λ(p:ak)=>bI p).toArray[i]? =ag:=by simp;rw[nu]at hq;exact hq
   rw[this];dsimp only;refine wB (gT (s:=sh z h W) hi (by simp) λh₁ e1 mM=>?_);refine vl (show A.in1.handled=ag from hh) ?_ _ h₁ e1 mM (by simp);rw[nu]at hq;rw[pW.mpr hq];rfl
  |some p=>
   have:(ps.map λ(p:ak)=>bI p).toArray[i]? =ae (bI p):=by simp[hq]
   rw[this];have ql:p < es.size:=hp p (cD hq);show aA _ _ (setNextDrawn a ((p:Int).toNat) ((ep:Int).toNat)>>=_) _ _ _;simp only[eD];refine wB ?_;unfold setNextDrawn;refine bO (rq (s:=sh z h W) ho hd hf ?_);dsimp only;rw[aK (by simp)];rw[wM ql];refine aC ?_;refine wB (gT (s:=sh z h W) hi (by simp) λh₁ e1 mM=>?_);refine aC ⟨_,rfl,hQ es[p] ((ps.drop (i+1)).filterMap λp=>es[p]?) ?_ h₁ (.ref T) e1 mM (.drawn hb n1 n2 e ⟨se,nT,nR⟩ hp)⟩;obtain⟨yk,he⟩:=cF.mp hq;rw[oA yk,he,AW,wM ql]
 |one hb hs=>
  show aA _ _ (wU a (((0:ak):Int).toNat) (((0:ak):Int).toNat) ((ep:Int).toNat)>>=_) _ _ _;simp only[eD];refine wB (CO ho hd hf mH hb hs ?_);have yl:t.place.size=es.size:=by simp only[SetTable.fits,cW,bU]at hf;exact hf.1
  obtain⟨el⟩:=es;obtain⟨pl,CP⟩:∃pl:ah ak,t.place=pl.toArray:=⟨t.place.toList,by simp⟩;rw[CP]at yl |-;cases el with
  |nil=>
   rw[nv.mp (show pl.length=0 from yl),Le];exact vl (show A.in1.handled=ag from hh) rfl _ h hi (.refl ..) (by simp)
  |cons e l=>
   obtain hl:l=[]:=nv.mp (Hm.mp (Hu hs));subst hl;obtain⟨p,Lk⟩:=Hv.mp (show pl.length=1 from yl);subst Lk;rw[Lf];show aA _ _ (oq (.ref it) 0 (bI ((p+1:ak):Int))>>=_) _ _ _;refine wB (gT (s:=sh z h W) hi (by simp) λh₁ e1 mM=>?_);refine wB (gT (s:=sh z h₁ W) e1 (by simp) λyi e2 yj=>?_);refine aC ⟨_,rfl,hQ e [] rfl yi (bI ((p+1:ak):Int)) e2 (mM.trans yj) (.done hb (by simp) ?_)⟩;rw[CP,Lg];simp
 |done hb hs hj=>
  rename_i j;show aA _ _ (wU a ((j:Int).toNat) ((i:Int).toNat) ((ep:Int).toNat)>>=_) _ _ _;simp only[eD];refine wB (CO ho hd hf mH hb hs ?_);rw[Ht.mpr hj];exact vl (show A.in1.handled=ag from hh) rfl _ h hi (.refl ..) (by simp)
def range_items (es:aZ (Int×aw)):((dz es.size).filterMap λp=>es[p]?)=es.toList:=by
 obtain⟨l⟩:=es;show((dz l.length).filterMap λp=>l.toArray[p]?)=l;have:∀n,n<=l.length->((dz n).filterMap λp=>l.toArray[p]?)=l.take n:=by
  intro n;induction n with
  |zero=>intro _;rfl
  |succ n E=>
   intro D;have B:n < l.length:=D;rw[wV,List.filterMap_append,E (by exact FI 1 0 0 0 D rfl),AX];simp[cy B]
 rw[this l.length (a4 _),j7]
theorem Ll {o:Obj}{es:aZ (Int×aw)}{t:gv}{b0:aw->aD->Prop}(ho:h.get? a=ae o)(hx:o.ExactSet)(hd:o.data= .set es ep t)(hf:t.fits es.size=aj)(h3:es.size<=3)(f0:es.size≠0->t.plain=az)(g0:∀c0,h.get? c0=ag->c0∉B/\X.ok c0)(hQ:∀H a0 d d0 e0,(∀b o,h.get? b=ae o->H.get? b=ae o)->h.get? a0=ag->H.get? a0=ae (qg d0 0 a es.size ep)->gH X B H a es ep t d0 0 e0->e0.Perm es.toList->b0 (.ref a0) (sh { z with drawn:=d } H W)):
  aA (MX X) A (gb (.ref a)) b0 E (sh z h W):=by
 obtain V:(sh z h W).TypeIs (.ref a) "set":=⟨o,ho,hx.1⟩;refine oB V F.slot_set_iter (gy F.slot_set_iter V K4 ?_ (F.args_set_iter_1 _));unfold Builtin.«frozenset.__iter__» V9 slotArgs;simp only[tU,qW,jd,↓AY,bind_assoc,q9,AZ];unfold Builtin.Frozenset.addrOf V';refine wB (aC ?_);try dsimp only
 refine wB (aC ?_);refine wB (wB (Hr (s:=sh z h W) ho hd hf (aC ?_)));refine wB ?_;unfold setDrawn;refine wB (rq (s:=sh z h W) ho hd hf ?_);dsimp only;unfold setsByText;refine wB (wB (pV (aC (aC ?_))));have tail:∀(d0:aw) (G:aG) (d:Drawn),(∀b o,h.get? b=ae o->G.get? b=ae o)->(∃e0,e0.Perm es.toList/\∀H K,H=G.push K->gH X B H a es ep t d0 0 e0)->
   aA (MX X) A.in1 (setEpoch a>>=λe=>newFields "set_iterator" [d0,bI (0:ak),.ref a,bI es.size,bI e]>>=λv=>ret v)
    (λR Y=>∃r,R= .done (.ret r)/\(∃T' r',Y.TypeIs r T'/\tW (.type T') "__next__"=pure (ae r')/\b0 r Y)) E (sh { z with drawn:=d } G W):=by
  intro d0 G d U D
  obtain⟨e0,L,D⟩:=D;refine wB (wpAny_setEpoch_of (s:=sh { z with drawn:=d } G W) (U _ _ ho) hd hf ?_);unfold newFields;refine wB (q8 ?_ (by size_fits));refine aC ⟨_,rfl,"set_iterator",_,⟨_,cV _ rfl,rfl⟩,vk.lookup,?_⟩;refine hQ _ G.objs.size d d0 e0 (λb o e=>be _ (U _ _ e)) ?_ (cV _ rfl) (D _ _ rfl) L
  cases q:h.get? G.objs.size with
  |none=>rfl
  |some o=>exact absurd (gP (U _ _ q)) (dP _)
 show aA (MX X) A.in1 (if (!X.w.params.followText "set-order" && (!t.plain && decide (es.size > 1)))=aj then _ else _) _ _ _;by_cases J:X.w.params.followText "set-order"=aj
 ·rw[aK (by rw[J];simp)];refine wB (aC ?_);refine tail (bI (0:ak)) h z.drawn (λu u e=>e) ⟨_,La (X.w.params.setOrder a ep) es,λH K u=>?_⟩;have:=gH.text (X:=X) (ρ:=B) (h:=H) (a:=a) (es:=es) (ep:=ep) (t:=t) (i:=0) (j:=0) J
  simpa using this
 ·rw[pR]at J;by_cases S:es.size > 1
  ·rw[aN (by rw[J,f0 (by lia)];simp[S])];refine wB (Lc es.size (dz es.size) (by simp) λN d L=>?_);obtain O:∀p∈N,p < es.size:=λp k=>nx.mp (L.mem_iff.mp k);have M:N.length=es.size:=by rw[L.length_eq,wW]
   refine wB (m9 ?_ (by rw[aO,M];show _<=2 ^ 24;exact FI 0 3 0 16777216 h3 rfl));refine tail _ _ d (λb o e=>be _ e) ⟨N.filterMap λp=>es[p]?,?_,λH K q=>?_⟩
   ·have:=L.filterMap λp=>es[p]?
    rwa [range_items]at this
   ·subst q;obtain⟨j,Z⟩:=g0 h.objs.size (eU h);have:=gH.drawn (X:=X) (ρ:=B) (h:=(h.push { cls:=.type "tuple",data:=.seq (N.map λ(p:ak)=>bI p).toArray }).push K) (a:=a) (es:=es) (ep:=ep) (t:=t) (i:=0) (ps:=N) J j Z (be _ (cV _ rfl)) ⟨rfl,_,rfl⟩ O
    simpa using this
  ·rw[aK (by simp[S])];refine wB (aC ?_);exact tail (bI (0:ak)) h z.drawn (λu u e=>e) ⟨_,.refl _,λH K u=>.one J (by exact(NL S))⟩
def dT.step {ex:ah ay}(r:dT X B h own ai it)(b0:Inv X B I h)(a0:Go X ex B h J H)(hx:∀c∈own,c∉ex):dT X J H own ai it:=by
 cases r with
 |simple r=>exact .simple (r.step b0 a0 hx)
 |enum Y n b A r=>exact .enum (a0.field Y rfl n (b0.g7 b) (hx _ (.head _))) (a0.step.dt Y n) b A (r.step b0 a0 λc D=>hx c (.tail _ D))
 |zip S Q U n b j M d w l=>
  exact .zip (a0.field S rfl n.1 (b0.g7 b.1) (hx _ (.head _))) (a0.seq Q rfl n.2.1 (b0.g7 b.2.1)) (a0.seq U rfl n.2.2 (b0.g7 b.2.2)) ⟨a0.step.dt S n.1,a0.step.dt Q n.2.1,a0.step.dt U n.2.2⟩ b j M d
   (w.step b0 a0 λc D=>hx c (.tail _ (.tail _ (gQ _ D)))) (l.step b0 a0 λc D=>hx c (.tail _ (.tail _ (ia _ D))))
 |set n b N E W R k L K F O D=>
  exact .set (a0.step.dt O n) b (a0.step.dt W N) E (a0.step.u5 W N E.1 (Kp.set R).nd) R k L K F (a0.field O rfl n (b0.g7 b) (hx _ (.head _)))
   (D.go (λT f=>by
    cases q:h.get? T with
    |none=>exact .inr rfl
    |some o=>exact .inl (a0.step.dt q f)) λT m V u z e Z=>a0.step.u5 e u z.1 (Kp.seq Z.2.choose_spec).nd)
theorem dT.gn (r:dT X B h own ai it):eG X B h own:=by
 cases r with
 |simple r=>exact r.gn
 |enum N n b T r=>
  intro c D;rcases bu.mp D with rfl |D
  ·exact⟨n,b,.inr ⟨_,_,N,rfl,by simp⟩⟩
  ·exact r.gn c D
 |zip J Q R n b j G d M L=>
  intro c D;rcases bu.mp D with rfl |D
  ·exact⟨n.1,b.1,.inr ⟨_,_,J,rfl,by simp⟩⟩
  rcases bu.mp D with rfl |D
  ·exact⟨n.2.2,b.2.2,.inl j⟩
  rcases dX.mp D with D |D
  ·exact M.gn c D
  ·exact L.gn c D
 |set n b O K U S V H E F I D=>intro c D;rw[aJ.mp D];exact⟨n,b,.inr ⟨_,_,I,rfl,by simp[qg]⟩⟩
def dT.dr {b0:ah ay}(r:dT X B h own ai it)(D:Dr b0 B h H)(a0:eG X B h b0)(hn:∀c∈own,c∉b0):dT X B H own ai it:=by
 cases r with
 |simple r=>exact .simple (r.dr D hn)
 |enum z n b U r=>exact .enum (D.keep _ _ z (hn _ (.head _)) n) n b U (r.dr D λc E=>hn c (.tail _ E))
 |zip Y M Z n b j I d l A=>
  exact .zip (D.keep _ _ Y (hn _ (.head _)) n.1) (D.keep _ _ M (a0.kp I M (.seq rfl)) n.2.1) (D.keep _ _ Z (hn _ (.tail _ (.head _))) n.2.2) n b j I d
   (l.dr D λc E=>hn c (.tail _ (.tail _ (gQ _ E)))) (A.dr D λc E=>hn c (.tail _ (.tail _ (ia _ E))))
 |set n b L F Q N W K J G R E=>
  exact .set n b L F (D.keep _ _ Q (a0.kp F Q (.set N)) L) N W K J G (D.keep _ _ R (hn _ (.head _)) n)
   (E.go (λT w=>.inl w) λT o V k u e S=>D.keep _ _ e (by obtain⟨_,m,d⟩:=S;exact a0.kp u e (.seq d)) k)
def Inv.fresh {b0:ay}(a0:Inv X B I h)(hf:h.get? b0=ag):b0∉B/\X.ok b0:=by
 refine⟨λG=>?_,λe=>?_,λF=>?_⟩
 ·obtain⟨i,E,H⟩:=qT.mp G;have gj:i < I.length:=a0.len ▸ E;obtain⟨J,D,b⟩:=a0.obj i I[i] b0 (cy gj) (by rw[cy E,H]);rw[hf]at D;cases D
 ·obtain⟨V,D,_⟩:=a0.tab;rw[<-e,hf]at D;cases D
 ·obtain⟨o,D⟩:=a0.gh b0 F;rw[hf]at D;cases D
def ym {b0:aw->aD->Prop}(r:bP X B h own ai it)(a0:Inv X B I h)(hh:A.handled=ag)(hr:(bx ai).run I λc0 Z=>match c0 with
   |.ok (ae (x0,mL))=>∀H t' v,Inv X B Z H->Dr own B h H->bP X B H own mL it->aF X B H x0 v->b0 v (sh z H t')
   |.ok .none=>∀H e,Inv X B Z H->Dr own B h H->eG X B H own->h.get? e=ag->(∃o,H.get? e=ae o/\o.cls= .type "StopIteration")->E (.ref e) (sh z H W)
   |.err _=>dm):
  aA (MX X) A (A2 it) b0 E (sh z h W):=by
 unfold Builtin.SmallTypes.nextOf;refine wB (draw (I:=I) r a0 hh ((bx ai).mono (λc0 Z y=>?_) hr));cases c0 with
 |err k=>exact y
 |ok p=>cases p with
  |none=>exact y
  |some p=>exact λH t' v a b c d=>aC (y H t' v a b c d)
def Dr.widen (D:Dr own [] h H):Dr own B h H:=⟨D.there,λa o e n u=>D.keep a o e n (by simp)⟩
theorem Lm {e it:ay}{a:AI}{i:Int}{old:aw}{r0:ah aH}{c:ak}{b0:aD->Prop}{S:aw->aD->Prop}(he:oi h e it i old)(n:e∉B)(b:X.base.get? e=ag)(ne:e∉own)(r:bP X B h own a (.ref it))(a0:Inv X B I h)(hh:A.handled=ag)(hr:(bx (.enum i a)).run I λl0 Z=>match l0 with
   |.ok (ae (x0,h0))=>∀H t' v,Inv X B Z H->Dr (e :: own) B h H->dT X B H (e :: own) h0 (.ref e)->aF X B H x0 v->S v (sh z H t')
   |.ok .none=>∀H t',Inv X B Z H->Dr (e :: own) B h H->b0 (sh z H t')
   |.err _=>dm):
  aA (MX X) A (ib (.ref e)) (λr e0=>match r with
   |none=>b0 e0
   |some v=>aA (MX X) A (ru (.Tuple r0 c pos) (.ref e) v) (λg p0=>S v p0) E' e0) E (sh z h W):=by
 obtain hT:(sh z h W).TypeIs (.ref e) "enumerate":=⟨_,he,rfl⟩;unfold pyNext;refine wB (ny (nk (name:=aq "__next__") hT F.slot_enumerate_next
  (gy F.slot_enumerate_next hT F.entry_enumerate_next ?_ (F.args_enumerate_next_1 _))))
 show aA _ _ (jf (.ref e) 2>>=_) _ _ _;refine wB (e8 he rfl (x:=.ref it) rfl ?_);refine wB (ym (I:=I) r a0 (show A.in1.handled=ag from hh) ((bx a).mono ?_ (show(bx a).run I _ from hr)));intros _ l0 Z _ y;cases l0 with
 |err k=>exact y
 |ok p=>cases p with
  |none=>
   intro H x I' D O ex hx;obtain⟨o,eo,co⟩:=hx;refine wB (mh (T:="StopIteration") (b:=aj) ⟨o,eo,co⟩ oD ?_);exact aC (y H W I' (D.mono λd hm=>.tail _ hm))
  |some p=>
   obtain⟨x,h0⟩:=p;intros x h0 _ y;intros _ L J v _ d0 m o0 rv;obtain K:oi L e it i old:=m.keep _ _ he ne n;show aA _ _ (jf (.ref e) 3>>=_) _ _ _;refine wB (e8 K rfl (x:=bI i) rfl ?_);show aA _ _ (jf (.ref e) 4>>=_) _ _ _;refine wB (e8 K rfl (x:=.none) rfl ?_);show aA _ _ (mkInt i>>=_) _ _ _;refine wB (wpAny_mkInt ?_);show aA _ _ (oq (.ref e) 3 (bI (i+1))>>=_) _ _ (sh z L (J+1));refine wB (gT K (by simp) ?_);intros _ u _ T g0
   replace T:oi u e it (i+1) old:=T
   show aA _ _ (oq (.ref e) 4 .none>>=_) _ _ (sh z u (J+1));refine wB (gT T (by simp) ?_);intros _ G _ Q j0
   replace Q:oi G e it (i+1) old:=Q
   show aA _ _ (wG [.int i J,v]>>=_) _ _ (sh z G (J+1));refine wB (m9 ?_);obtain U:oi (G.push { cls:=.type "tuple",data:=.seq #[.int i J,v] }) e it (i+1) old:=be _ Q;show aA _ _ (Hw (.ref e)>>=_) _ _ (sh z (G.push { cls:=.type "tuple",data:=.seq #[.int i J,v] }) (J+1));refine wB ?_;unfold Builtin.SmallTypes.ownedTupleIsFree;refine wB (e8 U rfl (x:=.none) rfl (aC ?_));simp only[jD];refine wB (gR ?_);refine wB (e8 U rfl (x:=old) rfl ?_);refine wB (gT U (by simp) ?_);intros _ w _ M k0
   replace M:oi w e it (i+1) v:=M
   show aA _ _ (Hx (.ref e) (.ref G.objs.size)>>=_) _ _ (sh z w (J+1));refine wB ?_;unfold Builtin.SmallTypes.ownedTupleHandOut;refine wB (gT M (by simp) λu0 j f0=>?_);refine gT j (by simp) λn0 R m0=>?_
   replace R:IsEnumOut n0 e it (i+1) v G.objs.size:=R
   refine wB (ic (aC ⟨_,rfl,aC ?_⟩));refine wpAny_letOwnedTupleGo_enum R λY l i0=>?_;obtain c0:Dr [e] [] L G:=(Dr.same (.head _) g0 T).trans (Dr.same (.head _) j0 Q);obtain Dp:Dr [e] [] G (G.push { cls:=.type "tuple",data:=.seq #[.int i J,v] }):=Dr.keeps _ _ λb o e=>be _ e;obtain f:Dr [e] [] (G.push { cls:=.type "tuple",data:=.seq #[.int i J,v] }) Y:=
    (((Dr.same (.head _) k0 M).trans (Dr.same (.head _) f0 j)).trans (Dr.same (.head _) m0 R)).trans (Dr.same (.head _) i0 l)
   obtain V:Dr [e] [] L Y:=(c0.trans Dp).trans f;obtain O:eG X B L [e]:=λc hc=>by rw[aJ.mp hc];exact⟨n,b,.inr ⟨_,_,K,rfl,by simp⟩⟩
   have hT:L.get? G.objs.size=ag:=by
    cases q:L.get? G.objs.size with
    |none=>rfl
    |some o=>obtain⟨o',q'⟩:=c0.there _ _ q;exact absurd (gP q') (dP _)
   obtain⟨f1,f2⟩:=d0.fresh hT;obtain s0:G.objs.size∉[e]:=λhm=>by rw[aJ.mp hm,K]at hT;cases hT
   refine y Y (J+1) (.ref G.objs.size) (d0.dr O V) ((m.mono λd hm=>.tail _ hm).trans (V.widen.mono λc hc=>by rw[aJ.mp hc];exact .head _))
    (.enum l n b ne (o0.dr V.widen λc hc hm=>ne (aJ.mp hm ▸ hc))) ?_
   exact .pair f1 f2 (f.keep _ _ (cV _ rfl) s0 (by simp)) ⟨rfl,_,rfl⟩ (.int ..) (rv.dr V.widen O)
theorem Lp {o1 o2:ah ay}{a1 a2:AI}{q TI TO:ay}{v1 v2 x0 y0:aw}{j1:ah aH}{c:ak}{b0:aD->Prop}{S:aw->aD->Prop}(hz:jb h q TI TO .none)(hI:jz h TI v1 v2)(hO:jz h TO x0 y0)(n:q∉B/\TI∉B/\TO∉B)(b:X.base.get? q=ag/\X.base.get? TI=ag/\X.base.get? TO=ag)(j:TO∈X.bad)(s1:X.ok TI)(d:TI≠TO/\q∉o1++o2/\TO∉o1++o2/\(∀c∈o1,c∉o2)/\TI∉o1++o2)(r1:bP X B h o1 a1 v1)(r2:bP X B h o2 a2 v2)(a0:Inv X B I h)(hh:A.handled=ag)(hr:(bx (.zip a1 a2)).run I λu0 Z=>match u0 with
   |.ok (ae (Lq,mL))=>∀H t' v,Inv X B Z H->Dr (q :: TO :: (o1++o2)) B h H->dT X B H (q :: TO :: (o1++o2)) mL (.ref q)->aF X B H Lq v->S v (sh z H t')
   |.ok .none=>∀H t',Inv X B Z H->Dr (q :: TO :: (o1++o2)) B h H->b0 (sh z H t')
   |.err _=>dm):
  aA (MX X) A (ib (.ref q)) (λr B0=>match r with
   |none=>b0 B0
   |some v=>aA (MX X) A (ru (.Tuple j1 c pos) (.ref q) v) (λt h1=>S v h1) E' B0) E (sh z h W):=by
 obtain⟨n1,n2,n3⟩:=n;obtain⟨b1,b2,b3⟩:=b;have d':=d;obtain⟨d1,d2,d3,d4,d5⟩:=d;have t1:TI∉o1:=λG=>d5 (gQ _ G);have w1:TI∉o2:=λG=>d5 (ia _ G);have H0:q∉o1:=λG=>d2 (gQ _ G);have E0:q∉o2:=λG=>d2 (ia _ G);have T0:TO∉o1:=λG=>d3 (gQ _ G);have l1:TO∉o2:=λG=>d3 (ia _ G);have z0:q≠TO:=λe=>by rw[jb,e,hO]at hz;simp at hz
 have u1:TI≠q:=λe=>by rw[jz,e,hz]at hI;simp at hI
 have ml:∀a∈o1,a∈q :: TO :: (o1++o2):=λa G=>.tail _ (.tail _ (gQ _ G));have mr:∀a∈o2,a∈q :: TO :: (o1++o2):=λa G=>.tail _ (.tail _ (ia _ G));have mz:∀a∈[q],a∈q :: TO :: (o1++o2):=λa G=>by rw[aJ.mp G];exact .head _
 have mO:∀a∈[TO],a∈q :: TO :: (o1++o2):=λa G=>by rw[aJ.mp G];exact .tail _ (.head _)
 have h0:∀{g:aG} {f0:aw},jb g q TI TO f0->eG X B g [q]:=λe c hc=>by rw[aJ.mp hc];exact⟨n1,b1,.inr ⟨_,_,e,rfl,by simp⟩⟩
 have g0:∀{g:aG},eG X B g [TO]:=λ{g} c hc=>by rw[aJ.mp hc];exact⟨n3,b3,.inl j⟩
 have p1:∀c∈o1,c∉[q]:=λc hc G=>H0 (aJ.mp G ▸ hc);have S0:∀c∈o2,c∉[q]:=λc hc G=>E0 (aJ.mp G ▸ hc);have c1:∀c∈o1,c∉[TO]:=λc hc G=>T0 (aJ.mp G ▸ hc);have Y0:∀c∈o2,c∉[TO]:=λc hc G=>l1 (aJ.mp G ▸ hc);have hT:(sh z h W).TypeIs (.ref q) "zip":=⟨_,hz,rfl⟩;unfold pyNext;refine wB (ny (nk (name:=aq "__next__") hT F.slot_zip_next
  (gy F.slot_zip_next hT F.entry_zip_next ?_ (F.args_zip_next_1 _))))
 show aA _ _ (jf (.ref q) 2>>=_) _ _ _;refine wB (e8 hz rfl (x:=.bool az) rfl ?_);show aA _ _ (jf (.ref q) 3>>=_) _ _ _;refine wB (e8 hz rfl (x:=.ref TI) rfl ?_);refine wB (j6 hI rfl ?_);show aA _ _ (Hw (.ref q)>>=_) _ _ _;refine wB ?_;unfold Builtin.SmallTypes.ownedTupleIsFree;refine wB (e8 hz rfl (x:=.none) rfl (aC ?_));simp only[jD];refine wB (gR ?_);refine wB (e8 hz rfl (x:=.ref TO) rfl ?_);refine wB (gT hz (by simp) ?_);intros _ i0 _ L r0
 replace L:jb i0 q TI TO .ellipsis:=L
 have m:Dr [q] [] h i0:=Dr.same (.head _) r0 L;have m1:Inv X B I i0:=a0.dr (h0 hz) m;refine wB ?_;simp only[List.zipIdx_cons,List.zipIdx_nil,pX,mn];refine wB (wB (wpAny_onRaise ?_));show aA _ _ (A2 v1>>=_) _ _ (sh z i0 W);refine wB (ym (I:=I) (r1.dr m.widen p1) m1 (show A.in1.handled=ag from hh) ((bx a1).mono ?_ (show(bx a1).run I _ from hr)));intros _ u0 Z _ y;cases u0 with
 |err k=>exact y
 |ok p=>cases p with
  |none=>
   intros _ f e _ s0 U A1 ex hx;have n0:jb f q TI TO .ellipsis:=U.keep _ _ L H0 n1;refine gT (s:=sh z f W) n0 (by simp) ?_;intros _ K _ R l;have Q:Dr [q] [] f K:=Dr.same (.head _) l R;obtain (⟨o,eo,co⟩):=hx;have O0:e≠q:=λq'=>by rw[q']at ex;rw[jb,ex]at L;cases L
   refine wB (mh (T:="StopIteration") (b:=aj) ⟨o,(l.2 e O0).trans eo,co⟩ oD ?_);refine aC (y K W (s0.dr (h0 n0) Q) ((m.widen.mono mz).trans ((U.mono ml).trans (Q.widen.mono mz))))
  |some p=>
   obtain⟨x,U0⟩:=p;intros x U0 _ y;intros _ f v0 v _ s0 U M0 rv;have l0:jz f TO x0 y0:=U.keep _ _ ((r0.2 TO z0.symm).trans hO) T0 n3;refine aC ?_;refine wB (j6 l0 rfl ?_);refine wB (Hy l0 ?_);intros _ K _ e0 l
   replace e0:jz K TO v y0:=e0
   have Q:Dr [TO] [] f K:=Dr.same (.head _) l e0;have i1:Inv X B Z K:=s0.dr g0 Q;refine wB (ic (aC ?_));refine wB (wB (wpAny_onRaise ?_));show aA _ _ (A2 v2>>=_) _ _ (sh z K v0);have p0:bP X B K o2 a2 v2:=((r2.dr m.widen S0).dr U λc hc G=>d4 c G hc).dr Q.widen Y0;have R:jb K q TI TO .ellipsis:=(l.2 q z0).trans (U.keep _ _ L H0 n1);have W0:Dr (q :: TO :: (o1++o2)) B h K:=(m.widen.mono mz).trans ((U.mono ml).trans (Q.widen.mono mO));refine wB (ym (I:=Z) p0 i1 (show A.in1.handled=ag from hh) ((bx a2).mono ?_ (show(bx a2).run Z _ from y)));intros _ u0 Z0 _ y;cases u0 with
   |err k=>exact y
   |ok p=>cases p with
    |none=>
     intros _ c0 e _ w0 M z1 ex hx;have j0:jb c0 q TI TO .ellipsis:=M.keep _ _ R E0 n1;refine gT (s:=sh z c0 v0) j0 (by simp) ?_;intros _ D _ u w;have J:Dr [q] [] c0 D:=Dr.same (.head _) w u;obtain (⟨o,eo,co⟩):=hx;have O0:e≠q:=λq'=>by rw[q']at ex;rw[jb,ex]at R;cases R
     refine wB (mh (T:="StopIteration") (b:=aj) ⟨o,(w.2 e O0).trans eo,co⟩ oD ?_);exact aC (y D v0 (w0.dr (h0 j0) J) (W0.trans ((M.mono mr).trans (J.widen.mono mz))))
    |some p=>
     obtain⟨x',V0⟩:=p;intros x' V0 _ y;intros _ c0 C0 v' _ w0 M I0 q1;have o0:jz c0 TO v y0:=M.keep _ _ e0 l1 n3;refine aC ?_;refine wB (j6 o0 rfl ?_);refine wB (Hy o0 ?_);intros _ D _ V w
     replace V:jz D TO v v':=V
     have J:Dr [TO] [] c0 D:=Dr.same (.head _) w V;have A0:Inv X B Z0 D:=w0.dr g0 J;have u:jb D q TI TO .ellipsis:=(w.2 q z0).trans (M.keep _ _ R E0 n1);refine wB (ic (aC (aC ?_)));refine wB (j6 V rfl ?_);refine wB (m9 ?_);show aA _ _ (Hx (.ref q) (.ref D.objs.size)>>=_) _ _ (sh z (D.push { cls:=.type "tuple",data:=.seq #[v,v'] }) C0);refine wB ?_;unfold Builtin.SmallTypes.ownedTupleHandOut;have G0:jb (D.push { cls:=.type "tuple",data:=.seq #[v,v'] }) q TI TO .ellipsis:=be _ u;refine wB (gT G0 (by simp) ?_);intros _ y1 _ m0 Q0;refine gT m0 (by simp) λe1 d0 K0=>?_
     replace d0:jb e1 q TI TO (bI D.objs.size):=d0
     refine aC ⟨_,rfl,aC ?_⟩;refine wpAny_letOwnedTupleGo_zip d0 λY k0 J0=>?_;have Dp:Dr [q] [] D (D.push { cls:=.type "tuple",data:=.seq #[v,v'] }):=Dr.keeps _ _ λb o e=>be _ e;have Dq:Dr [q] [] (D.push { cls:=.type "tuple",data:=.seq #[v,v'] }) Y:=((Dr.same (.head _) Q0 m0).trans (Dr.same (.head _) K0 d0)).trans (Dr.same (.head _) J0 k0);have T:Dr [q] [] D Y:=Dp.trans Dq;have O:=h0 u;obtain⟨f1,f2⟩:=A0.fresh (eU D);have x1:D.objs.size∉[q]:=λG=>by have:=eU D;rw[aJ.mp G,u]at this;cases this
     have B1:∀c∈o1,c∉o2:=d4;have P0:bP X B Y o1 U0 v1:=((((M0.dr Q.widen c1).dr M d4).dr J.widen c1).dr T.widen p1);have F0:bP X B Y o2 V0 v2:=(I0.dr J.widen Y0).dr T.widen S0;have g1:TI∉[q]:=λG=>u1 (aJ.mp G);have R0:TI∉[TO]:=λG=>d1 (aJ.mp G);have N0:jz Y TI v1 v2:=T.keep _ _ (J.keep _ _ (M.keep _ _ (Q.keep _ _ (U.keep _ _ (m.keep _ _ hI g1 (by simp)) t1 n2) R0 (by simp)) w1 n2) R0 (by simp)) g1 (by simp);have L0:jz Y TO v v':=T.keep _ _ V (λG=>z0 (aJ.mp G).symm) (by simp);refine y Y C0 (.ref D.objs.size) (A0.dr O T) (W0.trans ((M.mono mr).trans ((J.widen.mono mO).trans (T.widen.mono mz))))
      (.zip k0 N0 L0 ⟨n1,n2,n3⟩ ⟨b1,b2,b3⟩ j s1 d' P0 F0) ?_
     exact .pair f1 f2 (Dq.keep _ _ (cV _ rfl) x1 (by simp)) ⟨rfl,_,rfl⟩
      (((((rv.dr Q.widen g0).dr M p0.gn).dr J.widen g0)).dr T.widen O) ((q1.dr J.widen g0).dr T.widen O)
set_option backward.match.sparseCases true in set_option tactic.hygienic true in theorem vm {r : ay} {a0 : b8 → aD → Prop} (e : s.heap.get? r = ae o) (hc : ∀ n, o.cls = .type n → Ce n = az) (hQ : a0 () s) :
  aA (MX X) A (ru target (.ref r) v) a0 E s:=by
 have B:aA (MX X) A (do
   let (.ref r,.ref a):=((gw r,v):aw×aw) |(return:dn b8)
   let o <-load r
   match o.cls,o.data with
   |.type n,.fields V=>
    if ["enumerate","zip","dict_itemiterator","dict_reverseitemiterator","odict_iterator","itertools.zip_longest","itertools.pairwise"].contains n && V[0]? == ae (bI a)then
     jZ "for.unpacks-the-owned-tuple"
     updateField r 0 .none
   |_,_=>pure ()) a0 E s:=by
  cases v with
  |ref a=>
   refine bO (wpAny_load e ?_);obtain⟨D,F,d,G⟩:=o;cases D with
   |type n=>
    cases d with
    |fields V=>
     show aA _ _ (if (["enumerate","zip","dict_itemiterator","dict_reverseitemiterator","odict_iterator","itertools.zip_longest","itertools.pairwise"].contains n && V[0]? == ae (bI a))=aj then _ else _) _ _ _;rw[aK (by rw[show(["enumerate","zip","dict_itemiterator","dict_reverseitemiterator","odict_iterator","itertools.zip_longest","itertools.pairwise"].contains n)=az from hc n rfl];simp)];exact aC hQ
    |_=>exact aC hQ
   |_=>exact aC hQ
  |_=>exact aC hQ
 cases target with
 |Tuple=>exact B
 |List=>exact B
 |_=>exact aC hQ
def Lr {n:aI}(hv:nM v=aj)(e:v= .type n):Ce n=az:=by
 subst e;unfold nM at hv;simp only[List.contains_eq_mem,bu,pP,tX,fu]at hv;rcases hv with rfl |rfl |rfl |rfl |rfl |rfl |rfl |rfl <;>rfl
set_option tactic.hygienic true in def bP.go {b0 : b8 → aD → Prop} (r : bP X B h own ai it) (a0 : Inv X B I h) (hQ : b0 () (sh z h W)) : aA (MX X) A (ru target it v) b0 E (sh z h W) := by
 cases r with
 |list e hi n b=>obtain⟨o,eo,c,d⟩:=hi;exact vm (s:=sh z h W) eo (λn e=>by rw[c]at e;cases e;rfl) hQ
 |range hi n b=>exact vm (s:=sh z h W) hi (λn e=>by cases e;rfl) hQ
 |obj e=>
  rename_i i a;obtain⟨hi,_⟩:=cF.mp e;have gj:i < I.length:=a0.len ▸ hi;obtain⟨o,eo,b⟩:=a0.obj i I[i] a (cy gj) e;exact vm (s:=sh z h W) eo (λn e=>Lr b.cls e) hQ
set_option tactic.hygienic true in theorem CQ {b0 : aD → Prop} {S : aw → aD → Prop} (r : dT X B h own ai it) (a0 : Inv X B I h) (hh : A.handled = ag) (ht : fL target ai = aj) (hr : (bx ai).run I fun res Z => match res with
   |.ok (ae (x0,mL))=>∀H t' v,Inv X B Z H->Dr own B h H->dT X B H own mL it->fL target mL=aj->aF X B H x0 v->S v (sh z H t')
   |.ok .none=>∀H t',Inv X B Z H->Dr own B h H->b0 (sh z H t')
   |.err _=>dm):
  aA (MX X) A (ib it) (λr jk=>match r with
   |none=>b0 jk
   |some v=>aA (MX X) A (ru target it v) (λg Ls=>S v Ls) E' jk) E (sh z h W):=by
 cases r with
 |simple r=>
  unfold pyNext;refine wB (ny (draw (I:=I) r a0 hh ((bx ai).mono (λres Z y=>?_) hr)));cases res with
  |err k=>exact y
  |ok p=>cases p with
   |none=>
    intro H e I' D O ex hx;obtain⟨o,eo,co⟩:=hx;refine wB (mh (T:="StopIteration") (b:=aj) ⟨o,eo,co⟩ oD ?_);exact aC (y H W I' D)
   |some p=>
    obtain⟨x,mL⟩:=p;intro H t' v I' D r' rv;refine aC (r'.go I' (y H t' v I' D (.simple r') ?_ rv));cases r' <;>exact ry _
 |enum he n b ne r=>
  have yn:ku target=aj:=(A3 _).symm.trans ht;cases target with
  |Tuple elts c pos=>
   refine Lm (I:=I) he n b ne r a0 hh ((bx _).mono (λres Z y=>?_) hr);cases res with
   |err k=>exact y
   |ok p=>cases p with
    |none=>exact y
    |some p=>exact λH t' v i1 i2 i3 i4=>y H t' v i1 i2 i3 rfl i4
  |_=>cases yn
 |set n b na xN ho hd hf kI mH good hi hc=>
  rename_i a it o es ep t first i cur
  have O:eG X B h [it]:=λc hc=>by rw[aJ.mp hc];exact⟨n,b,.inr ⟨_,_,hi,rfl,by simp[qg]⟩⟩
  have yh:it≠a:=λq=>by rw[q,ho]at hi;cases hi;cases hd
  unfold pyNext;refine wB (ny (Lh hh hi ho hd hf kI mH hc yh (λe rest q H first' e1 hs c1=>?_) λq h₁ H e V e1 hs x1 x2 x3=>?_))
  ·subst q;obtain⟨x,tx,rfl⟩:=good e (.head _);have D1:Dr [it] [] h H:=Dr.same (.head _) hs e1;obtain I':=a0.dr O D1;have hr:∀H t' v,Inv X B I H->Dr [it] B h H->dT X B H [it] (.set (rest.map strOf)) (.ref it)->fL target (.set (rest.map strOf))=aj->aF X B H (.str x) v->S v (sh z H t'):=hr;refine aC (vm (s:=sh z H W) e1 (λn e=>by cases e;rfl) (hr H W _ I' D1.widen (.set n b na xN (D1.keep _ _ ho (λhm=>yh (aJ.mp hm).symm) (by simp)) hd hf kI mH (λe he=>good e (.tail _ he)) e1
    (c1.go (λT hT=>.inl hT) λT oT V n1 n2 e ht=>D1.keep _ _ e (by obtain⟨_,m,d⟩:=ht;exact O.kp n2 e (.seq d)) (by simp))) ?_ (.str ..)))
   exact ry _
  ·subst q;obtain⟨o',eo,co⟩:=x3;obtain D1:Dr [it] [] h h₁:=Dr.same (.head _) hs e1;have D2:Dr [it] [] h H:=D1.trans (Dr.keeps _ _ x1);have hr:∀H t',Inv X B I H->Dr [it] B h H->b0 (sh z H t'):=hr;refine wB (mh (T:="StopIteration") (b:=aj) ⟨o',eo,co⟩ oD ?_);exact aC (hr H W (a0.dr O D2) D2.widen)
 |zip hz hI hO n b j xM d r1 r2=>
  have yn:ku target=aj:=(A3 _).symm.trans ht;cases target with
  |Tuple elts c pos=>
   refine Lp (I:=I) hz hI hO n b j xM d r1 r2 a0 hh ((bx _).mono (λres Z y=>?_) hr);cases res with
   |err k=>exact y
   |ok p=>cases p with
    |none=>exact y
    |some p=>exact λH t' v i1 i2 i3 i4=>y H t' v i1 i2 i3 rfl i4
  |_=>cases yn
def Cx.ok.less (x:(X.more j).ok a):X.ok a:=⟨x.1,λB=>x.2 (ia _ B)⟩
def Cx.ok.more (x:X.ok a)(e:h.get? a=ae o)(hb:∀b∈j,h.get? b=ag):(X.more j).ok a:=⟨x.1,λB=>by
 rcases dX.mp B with B |B
 ·rw[hb a B]at e;cases e
 ·exact x.2 B⟩
def gY.less:gY (X.more j) X.bad B B h h:=⟨λu u=>id,λu u D E e u=>⟨D,E.less,e⟩⟩
def gY.more (hb:∀b∈j,h.get? b=ag):gY X (j++X.bad) B B h h:=⟨λu u=>id,λu u D E e u=>⟨D,E.more e hb,e⟩⟩
def aF.less (r:aF (X.more j) B h x v):aF X B h x v:=aF.dK (X:=X.more j) (j:=X.bad) gY.less r
def aF.more (hb:∀b∈j,h.get? b=bq)(r:aF X B h x v):aF (X.more j) B h x v:=r.dK (gY.more hb)
def OB.less (b:OB (X.more j) B h ao o):OB X B h ao o:=OB.dK (X:=X.more j) (j:=X.bad) gY.less b
def OB.more (hb:∀b∈j,h.get? b=ag)(b:OB X B h ao o):OB (X.more j) B h ao o:=b.dK (gY.more hb)
def Inv.less (a0:Inv (X.more j) B I h):Inv X B I h:=
 ⟨a0.len,a0.nodup,λi G a E F=>by obtain⟨o,e,b⟩:=a0.obj i G a E F;exact⟨o,e,b.less⟩,a0.base,a0.new,a0.gg,a0.mods,a0.tab,λb D=>a0.gh b (ia _ D)⟩
def Inv.more (a0:Inv X B I h)(hk:∀a o,h.get? a=ae o->H.get? a=ae o)(hb:∀b∈j,h.get? b=ag/\∃o,H.get? b=ae o):Inv (X.more j) B I H:=by
 refine⟨a0.len,a0.nodup,λi J a F G=>?_,λb o e E=>hk _ _ (a0.base b o e E),a0.new,a0.gg,a0.mods,?_,λb D=>?_⟩
 ·obtain⟨o,e,b⟩:=a0.obj i J a F G;exact⟨o,hk _ _ e,(b.more (j:=j) λb D=>(hb b D).1).step (Go.keeps (X.more j) B hk []).step⟩
 ·obtain⟨V,e,c⟩:=a0.tab;exact⟨V,hk _ _ e,c⟩
 ·rcases dX.mp D with D |D
  ·exact(hb b D).2
  ·obtain⟨o,e⟩:=a0.gh b D;exact⟨o,hk _ _ e⟩
def KO.conv (hB:Y.base=X.base)(k:KO X a o o'):KO Y a o o':=by unfold KO at k |-;rw[hB];exact k
def Go.conv {ex:ah ay}(hB:Y.base=X.base)(a0:Go X ex B h J H):Go Y ex B h J H:=
 ⟨⟨a0.step.there,a0.step.ext,λa o e D F K=>by obtain⟨I,E,k⟩:=a0.step.keep a o e D F K;exact⟨I,E,k.conv hB⟩⟩,λa o e D f b=>a0.fr a o e D f (hB ▸ b)⟩
def Go.less {ex:ah ay}(a0:Go (X.more j) ex B h J H):Go X ex B h J H:=Go.conv (X:=X.more j) (Y:=X) rfl a0
def Go.more {ex:ah ay}(a0:Go X ex B h J H):Go (X.more j) ex B h J H:=Go.conv (X:=X) (Y:=X.more j) rfl a0
def En.less (a0:En (X.more j) U G Q N B h):En X U G Q N B h:=by
 refine⟨a0.kind,a0.glob,a0.blt,a0.kinds,a0.len,?_,a0.fZ,a0.iz,a0.cells⟩;obtain⟨m,n,r⟩:=a0.ns;refine⟨m,n,λx i v H I D=>?_⟩;obtain⟨F,J,E⟩:=r x i v H I D;exact⟨F,J,E.less⟩
def En.more (a0:En X U G Q N B h)(hb:∀b∈j,h.get? b=ag):En (X.more j) U G Q N B h:=by
 refine⟨a0.kind,a0.glob,a0.blt,a0.kinds,a0.len,?_,a0.fZ,a0.iz,a0.cells⟩;obtain⟨m,n,r⟩:=a0.ns;refine⟨m,n,λx i v H I D=>?_⟩;obtain⟨F,J,E⟩:=r x i v H I D;exact⟨F,J,E.more hb⟩
def mG.less {f:FL}{g:Flow}(r:mG (X.more j) B h f g):mG X B h f g:=by
 cases r with
 |next=>exact .next
 |brk=>exact .brk
 |cont=>exact .cont
 |ret D=>exact .ret D.less
def Ar.more (a:Ar X n u A l B h):Ar (X.more j) n u A l B h:=⟨a.handled,a.depth,a.units,a.frames,a.dR⟩
def cn.more (C:cn X):cn (X.more j):=by
 obtain⟨lim,F,J,L,I,D,N,H,G,O,K,M,r⟩:=C;have f:∀{x:AV} {v:aw},SV X x v->SV (X.more j) x v:=λ{x v} s B h=>by
  obtain E:∀a,(({}:aG).get? a)=ag:=λa=>by simp[Heap.get?]
  exact(s B {}).dK ⟨λu u=>id,λa o u u e u=>gm ((E a).symm.trans e)⟩
 refine⟨lim,F,J,L,I,D,N,H,G,O,K,M,λx v e=>?_⟩;rcases r x v e with ⟨v',e',s⟩ |⟨e0,v',e',s⟩
 ·exact .inl ⟨v',e',f s⟩
 ·exact .inr ⟨e0,v',e',f s⟩
def CR (hn:iO e=aj)(G:bH)(x:aw):foldedSetIterable e G x=pure x:=by
 unfold foldedSetIterable;cases e <;>first |rfl |(cases hn)
def aW.CS {ex:ah ay}{α e0 β d0:Type}{R:ah ay->aG->β->α->Prop}{R':ah ay->aG->d0->e0->Prop}{a0:e0->aD->Prop}{t:dn α}{m:P β}{g:β->P d0}(h1:aW (X.more j) A ex R B I h t m)(c0:Zs dE z)(b0:Go X ex br h₀ B h)(hr:(m>>=g).run I (aL X dE ex br h₀ R' a0 E)){Q':α->aD->Prop}(hE:∀{kx:aI} {Z:St},aL X dE ex br h₀ R' a0 E (.err kx) Z->aL X dE ex br h₀ R' a0 E' (.err kx) Z)(k:∀z' J Z H t' b a,Zs dE z'->Inv (X.more j) J Z H->Go X ex B h J H->Go X ex br h₀ J H->R J H b a->(g b).run Z (aL X dE ex br h₀ R' a0 E)->Q' a (sh z' H t')):aA (MX X) A t Q' E' (sh z h W):=by
 refine h1 z W Q' E' (m.mono (λr Z y=>?_) (show m.run I _ from hr));intro z' J H t' F D S;obtain S':Go X ex B h J H:=Go.less S;cases r with
 |ok b=>exact λa G=>k z' J Z H t' b a (c0.trans F) D S' (b0.trans S') G y
 |err k=>exact λe x=>hE y z' J H t' (c0.trans F) D.less (b0.trans S') e (x.oX b0.step.there)
def CT {γ:Type}{g:ah AV->P γ}{p:Res γ->St->Prop}(hr:(lst i>>=g).run I p)(hg:∀l,(g l).run I p->(g l).run I (rW p)):(lst i>>=g).run I (rW p):=by
 obtain⟨l,e,hr⟩:=g6 hr;have:=hg l hr;show(P.load i>>=λo=>(match o with |.list l=>P.pure l |_=>P.fail)>>=g).run I (rW p);rw[P.run_bind,P.run_load e];exact this
def yo:∀(ai:AI) {I:St} {p:Res (ax (AV×AI))->St->Prop},(bx ai).run I p->(bx ai).run I (rW p):=by
 intro ai;induction ai with
 |list J i=>
  intro I p B;cases J with
  |none=>exact B
  |some s=>
   exact CT B λl D=>by
    cases q:l[i]? with
    |none=>simp only[q]at D |-;exact D
    |some v=>simp only[q]at D |-;exact D
 |set G=>
  intro I p B;cases G with
  |nil=>exact B
  |cons=>exact B
 |range c n s=>
  intro I p B;cases n with
  |zero=>exact B
  |succ=>exact B
 |zip a b E F=>
  intros a b _ E F;intros _ I p _ B;obtain H:=E (show(bx a).run I _ from B);refine(bx a).mono ?_ H;intros _ r Z _ y;cases r with
  |err k=>exact y.elim
  |ok r=>cases r with
   |none=>exact y
   |some x=>
    intros x _ y;obtain L:=F (show(bx b).run Z _ from y);refine(bx b).mono (λr Z y=>?_) L;cases r with
    |err k=>exact y.elim
    |ok r=>cases r with
     |none=>exact y
     |some x=>exact y
 |enum n a K=>
  intros n a _ K;intros _ I p _ B;obtain H:=K (show(bx a).run I _ from B);refine(bx a).mono (λr Z y=>?_) H;cases r with
  |err k=>exact y.elim
  |ok r=>cases r with
   |none=>exact y
   |some x=>exact y
 |obj i=>
  intro I p B;obtain⟨o,e,B⟩:=eV B;show(P.load i>>=_).run I (rW p);rw[P.run_bind,P.run_load e];cases o with
  |iter s k=>cases s with
   |none=>exact B
   |some s=>
    refine CT B λl D=>?_;cases q:l[k]? with
    |none=>rw[q]at D;exact D
    |some v=>rw[q]at D;exact D
  |_=>exact B.elim
theorem Lu {t i:aH}{b:ah dy}{cb:DS}(hi:HI X F k U i ci)(ht:∀j,HA (X.more j) F k U t ca)(hb:∀j,iQ (X.more j) F k U b cb)(n:ak):HS X F k U (.For t i b [] pos) (λrt=>do
   P.guard (iO i=aj)
   let n0 <-ci rt
   P.guard (fL t n0=aj)
   forA cb ca n n0 rt):=by
 intros _ A l G Q N T I V _ K _ Y W R E _ hr;obtain⟨hm,hr⟩:=a6 hr;refine wpAny_For ?_ (CR hm G);refine hi K Y W _ E ((ci ⟨F,Q,N⟩).mono ?_ (show(ci ⟨F,Q,N⟩).run I _ from hr));intros _ h0 Z _ y;cases h0 with
 |err kx=>exact λz' J H t' O M L e x=>y z' J H t' O M (L.nil _) e x
 |ok u=>
  intros u _ y;intros _ z1 k0 h1 t1 j d0 it _ Z1 I1 G1 r1 ho o0;obtain⟨e0,v0⟩:=a6 (show(P.guard (fL t u=aj)>>=λd=>forA cb ca n u ⟨F,Q,N⟩).run Z (aL X Y [G.locals] T V (RS X U G Q) R E) from y);have l0:∃o,V.get? G.locals=ae o:=by obtain⟨m,⟨o,es,ep,e,_⟩,_⟩:=K.en.ns;exact⟨o,e⟩
  have g0:G.locals∉d0:=λhm=>by obtain⟨o,e⟩:=l0;rw[ho _ hm]at e;cases e
  have N1:En (X.more j) U G Q N k0 h1:=by
   have S:=K.en.more (j:=j) o0;refine⟨S.kind,S.glob,S.blt,S.kinds,S.len,?_,?_,S.iz,λx c e1=>?_⟩
   ·obtain⟨m,n,r⟩:=S.ns;refine⟨m,G1.ns n S.fZ (K.en.xS K.inv),λx i v e1 e2 e3=>?_⟩;obtain⟨v',e4,r4⟩:=r x i v e1 e2 e3;exact⟨v',e4,r4.step (Go.more G1).step⟩
   ·obtain⟨o,e⟩:=l0;exact G1.step.dt e S.fZ
   ·obtain⟨a,e3,e4⟩:=S.cells x c e1;exact⟨a,G1.step.iT e3,e4⟩
  refine codeAny_forLoop_any (λn s=>∃z B I h t2 N u,s=sh z h t2/\Zs Y z/\Inv (X.more j) B I h/\Go X [G.locals] T V B h/\En (X.more j) U G Q N B h/\dT (X.more j) B h d0 u it/\fL t u=aj/\
   (forA cb ca n u ⟨F,Q,N⟩).run I (aL X Y [G.locals] T V (RS X U G Q) R E)) ?_ n ⟨z1,k0,Z,h1,t1,N,u,rfl,Z1,I1,G1.nil _,N1,r1,e0,v0⟩
  intros _ n s _ r0;obtain (⟨z,B,I,h,t2,N,u,rfl,O,M,L,S,r,e0,hr⟩):=r0;cases n with
  |zero=>exact hr.elim
  |succ n=>
   intros n _ hr;refine CQ (X:=X.more j) (target:=t) (I:=I) (z:=z) (W:=t2) r M K.ar.handled e0 ((bx u).mono ?_ (yo u (show(bx u).run I _ from hr)));intros _ h0 Z _ y;cases h0 with
   |err k=>exact y
   |ok p=>cases p with
    |none=>
     intro H t' I' D;refine rg ?_;exact y z B H t' O I'.less (L.dr D ho) .next ⟨.next,(S.dr D r.gn g0).less⟩
    |some p=>
     obtain⟨x,f0⟩:=p;intros x f0 _ y;intro H t' v I' D r' b0 rv;have G':=L.dr D ho;obtain N':=S.dr D r.gn g0;obtain K':Ctx (X.more j) k U A l G Q N B Z H:=⟨K.ok.more,(K.ar.step G').more,K.top,I',N',K.code⟩;refine(ht j K' rv).CS O G' y (λp=>p.vh K) λz2 p0 s0 h2 t2 j0 d Z2 I2 G2 i0 N2 u0=>?_;obtain K2:Ctx (X.more j) k U A l G Q j0 p0 s0 h2:=⟨K.ok.more,(K.ar.step i0).more,K.top,I2,N2,K.code⟩;have hx:∀c∈d0,c∉[G.locals]:=λc hc hm=>g0 (aJ.mp hm ▸ hc);obtain r2:=r'.step I' (Go.more G2) hx;refine(hb j K2).CS Z2 i0 u0 (λp=>p.vh K) λz3 w m0 h3 t3 p fl Z3 I3 G3 f rp a0=>?_;obtain⟨f1,c0⟩:=p;obtain⟨rf,N3⟩:=rp;have r3:=r2.step I2 (Go.more G3) hx;cases rf with
     |next=>exact⟨n,jF n,z3,w,m0,h3,t3,c0,f0,rfl,Z3,I3,f,N3,r3,b0,a0⟩
     |cont=>exact⟨n,jF n,z3,w,m0,h3,t3,c0,f0,rfl,Z3,I3,f,N3,r3,b0,a0⟩
     |brk=>exact a0 z3 w h3 t3 Z3 I3.less f _ ⟨.next,N3.less⟩
     |ret hx=>exact a0 z3 w h3 t3 Z3 I3.less f _ ⟨.ret hx.less,N3.less⟩
def Lv {γ:Type}{g:AI->P γ}{p:Res γ->St->Prop}(hr:(rN i>>=g).run I p):(∃l,I[i]? =ae (.list l)/\(g (.list (ae i) 0)).run I p)\/∃s k,I[i]? =ae (.iter s k)/\(g (.obj i)).run I p:=by
 obtain⟨B,e,hr⟩:=eV (i:=i) (g:=λo=>(match o with
  |.list _=>P.pure (AI.list (ae i) 0)
  |.iter _ _=>P.pure (AI.obj i)
  |_=>P.fail:P AI)>>=g) hr
 cases B with
 |list l=>exact .inl ⟨l,e,hr⟩
 |iter s k=>exact .inr ⟨s,k,e,hr⟩
 |_=>exact hr.elim
def vn {s:ax ak}(a0:Inv X B I h)(e:I[i]? =ae (.iter s k))(ea:B[i]? =ae a):(sh z h W).TypeIs (.ref a) "list_iterator":=by
 obtain⟨o,E,D⟩:=a0.obj i _ a e ea;cases s with
 |none=>exact⟨o,E,D.1⟩
 |some s=>exact⟨o,E,D.1⟩
def CU {Q':aw->aD->Prop}{γ:Type}{g:AI->P γ}{p:Res γ->St->Prop}(a0:Inv X B I h)(e:B[i]? =ae a)(hr:(rN i>>=g).run I p)(k:∀H own ai it,(∀b o,h.get? b=ae o->H.get? b=ae o)->bP X B H own ai it->(∀c∈own,h.get? c=ag)->(g ai).run I p->Q' it (sh z H W)):aA (MX X) A (gb (.ref a)) Q' E (sh z h W):=by
 rcases Lv hr with ⟨l,e1,hr⟩ |⟨s,kk,e1,hr⟩
 ·obtain⟨O,n,J,K,len,_⟩:=ez a0 e1 e;refine A4 (s:=sh z h W) ⟨_,J,rfl,n,rfl⟩ ?_;refine k _ [h.objs.size] _ _ (λb o e=>be _ e) (.list e ⟨_,cV _ rfl,rfl,rfl⟩ (λG=>dP _ (a0.lt G)) (a0.ey (eU h))) (λc D=>?_) hr;rw[aJ.mp D];exact eU h
 ·obtain F:=vn (z:=z) (W:=W) a0 e1 e;refine oB F j8 (gy j8 F rz ?_ (rA _));exact aC ⟨_,rfl,"list_iterator",_,F,j5.lookup,k h [] _ _ (λu u e=>e) (.obj e) (λu D=>nomatch D) hr⟩
def P.CV {β:Type}{m:P β}{p:Res β->St->Prop}(h:m.run I p):(m>>=P.pure).run I p:=by
 refine m.mono (λr Z y=>?_) h;cases r <;>exact y
set_option tactic.hygienic true in def Lw {b0 : aw → aD → Prop} (a0 : Inv X B I h) (hx : aF X B h x v) (hr : (jI x).run I (rV X z B h b0 E)) : aA (MX X) A (gb v) b0 E (sh z h W) := by
 cases x with
 |ref i=>
  obtain⟨e⟩:=hx;exact CU a0 e (P.CV hr) λH own ai it hk r ho hr=>hr z B H W [] own it (.refl _) (a0.keeps hk) (Go.keeps X B hk []) (.simple r) ho (λu hb=>nomatch hb)
 |cL l=>
  obtain⟨⟨n1,n2,e,c,d,r⟩⟩:=hx;rename_i a o es ep t;obtain⟨xs,hp,r,hf,h3,kI,mH⟩:=r;obtain⟨rfl,good⟩:=r.Ld;refine Ll (X:=X) (B:=B) e c d hf h3 kI (λT hT=>a0.fresh hT) λH it dr first cur hk hn hi hc hq=>?_
  have hr:∀l',l'.Perm l->rV X z B h b0 E (.ok (.set l')) I:=hr;obtain I':=a0.keeps hk;refine hr (cur.map strOf) ((hq.map strOf).trans hp) _ B H W [] [it] (.ref it) ⟨rfl,rfl⟩ I' (Go.keeps X B hk []) ?_ (λc hc=>by rw[aJ.mp hc];exact hn) (λu hb=>nomatch hb);exact .set (a0.fresh hn).1 (a0.ey hn) n1 n2 (hk _ _ e) d hf kI mH (λe he=>good e (hq.mem_iff.mp he)) hi hc
 |_=>exact hr.elim
def Lx (ha:HE X F k U e d):HI X F k U e (λrt=>do
   let v0 <-d rt
   jI v0):=by
 intro A l G Q N B I h K z W O E hr;refine ha K z W _ E ((d ⟨F,Q,N⟩).mono (λb Z y=>?_) (show(d ⟨F,Q,N⟩).run I _ from hr));intro z' J H t' M L D;cases b with
 |err kx=>exact λe x=>y z' J H t' M L D e x
 |ok x=>
  intro v rx;refine Lw L rx ((jI x).mono (λr a0 p=>?_) y);cases r with
  |ok ai=>exact λY R m u j V it T w f r2 ho hb=>p Y R m u j V it (M.trans T) w (D.trans f) r2 (λc hc=>by
    cases q:h.get? c with
    |none=>rfl
    |some o=>obtain⟨o',S⟩:=D.step.there c o q;rw[ho c hc]at S;cases S) (λc hc=>by
    cases q:h.get? c with
    |none=>rfl
    |some o=>obtain⟨o',S⟩:=D.step.there c o q;rw[hb c hc]at S;cases S)
  |err kx=>exact λY R m u T w f e x=>p Y R m u (M.trans T) w (D.trans f) e (x.oX D.step.there)
def cq.step {ex:ah ay}(S:Step X ex B h J H):∀{xs:ah (au×AV)} {V:ah (au×aw)},cq X B h xs V->cq X J H xs V:=by
 intro xs V r;induction r with
 |nil=>exact .nil
 |cons E _ D=>exact .cons (E.step S) D
def cq.names:∀{xs:ah (au×AV)} {V:ah (au×aw)},cq X B h xs V->V.map (·.1)=xs.map (·.1):=by
 intro xs V r;induction r with
 |nil=>rfl
 |cons E _ D=>rw[gc,gc,D]
def Ar.in1 {u':ak}(a:Ar X k u A l B h)(hu:u'+1<=u):Ar X k u' A.in1 l B h:=
 ⟨a.handled,a.depth,by have:=a.units;show A.units+1+u'<=9800;lia,a.frames,a.dR⟩
def Ar.less {k' u':ak}(a:Ar X k u A l B h)(hk:k'<=k)(hu:u'<=u):Ar X k' u' A l B h:=
 ⟨a.handled,by have:=a.depth;lia,by have:=a.units;lia,a.frames,a.dR⟩
def CW:∀(ks:ah m7) (g:aH->DE) (pos:fk),(∀w∈ks,HE X F k U (nN w) (g (nN w)))->ks.all kwOk=aj->
  ∀{A:d8} {l:ah bH} {G:bH} {Q:ah (au×ak)} {N:ah (ax AV)} {B:ah ay} {I:St} {h:aG},Ctx X k U A l G Q N B I h->
   aW X A [] (λB h kv V=>cq X B h kv (((mo pos (mq ks G)).filterMap (·.1)).zip V)) B I h (evalAll ((mo pos (mq ks G)).map (·.2))) (fW (ks.map (oU g)) ⟨F,Q,N⟩):=by
 intro ks;induction ks with
 |nil=>
  intro g pos _ _ A l G Q N B I h K z W D E L;exact aC (L _ _ _ _ (.refl _) K.inv (.refl ..) _ .nil)
 |cons kd ks T=>
  obtain⟨nm,v,p⟩:=kd;intro g pos R O A l G Q N B I h K z W D E L;cases nm with
  |none=>exact absurd (show az=aj from O) jg
  |some n=>
   have Ly:ks.all kwOk=aj:=O;refine wpAny_evalAll_cons ?_;refine wB ?_;refine(R _ (.head _) K).then L λz1 u Z h1 t1 x v o b Y J=>?_;refine wB (jE (aC ?_));refine(T g pos (λw hm=>R w (.tail _ hm)) Ly (K.step o b)).then J λz2 S j h2 t2 xs V f m M H=>?_;exact H _ _ _ _ (.refl _) f (.refl ..) _ (.cons (Y.step m.step) M)
def yp:∀(ks:ah m7) (pos:fk) (G:bH),ks.all kwOk=aj->(mo pos (mq ks G)).all (·.1.isSome)=aj/\(mo pos (mq ks G)).any (·.1.isNone)=az
 | [],_,_,_=>⟨rfl,rfl⟩
 |⟨ag,v,p⟩ :: ks,pos,G,ho=>absurd (show az=aj from ho) jg
 |⟨ae n,v,p⟩ :: ks,pos,G,ho=>by
  obtain⟨a,b⟩:=yp ks pos G ho;obtain e:mo pos (mq (⟨ae n,v,p⟩ :: ks) G)=(ae n,eval v G>>=λv=>tI pos>>=λu=>pure v) :: mo pos (mq ks G):=rfl;rw[e,A5,pN,a,b];exact⟨rfl,rfl⟩
def plain_any:∀(T:ah aH) (pos:fk) (G:bH),T.all dg=aj->(lC pos (jC T G)).any (·.1)=az:=by
 intro l;induction l with
 |nil=>
  intro _ _ _;exact rfl
 |cons e T D=>
  intro pos G B;rw[A5,cW]at B;rw[kQ B.1];show(az || (lC pos (jC T G)).any (·.1))=az;rw[D pos G B.2];rfl
def yq {f:aw}{e0:ah aw}{Pk:aG->Prop}{T:ah aH}{ks:ah m7}{g:aH->DE}{b0:aw->aD->Prop}{β:Type}{R':ah ay->aG->β->aw->Prop}{a0:ah AV->ah (au×AV)->P β}(K:Ctx X k U A l G Q N B I h)(ha:∀e∈T,HE X F k U e (g e))(hw:∀w∈ks,HE X F k U (nN w) (g (nN w)))(d0:lN T ks=aj)(hk:∀H,Pk H->∃kp,(kp=tY\/kp=pY\/kp=tZ)/\oE (MX X) H (oF f) kp)(hr:(dG (T.map g) ⟨F,Q,N⟩>>=λV=>fW (ks.map (oU g)) ⟨F,Q,N⟩>>=λkv=>a0 V kv).run I (aL X z [] B h R' b0 E))(cont:∀z' J Z H t' V vals kv c0,Inv X J Z H->Go X [] B h J H->aT X J H V vals->cq X J H kv c0->(a0 V kv).run Z (aL X z' [] J H R' b0 E)->Pk H/\aA (MX X) A (call f (e0++vals) c0) b0 E (sh z' H t')):
  aA (MX X) A (callWith pos f e0 (lC pos (jC T G)) (mo pos (mq ks G))) b0 E (sh z h W):=by
 unfold lN at d0;rw[cW]at d0;obtain⟨w1,w2⟩:=yp ks pos G d0.2;refine wX (P:=Pk) (by rw[plain_any T pos G d0.1,w2];rfl) hk ?_;have S:aA (MX X) A (spliced (lC pos (jC T G))) (λV R=>aA (MX X) A (evalAll ((mo pos (mq ks G)).map (·.2)))
   (λkv D=>Pk D.heap/\aA (MX X) A (call f (e0++V) (((mo pos (mq ks G)).filterMap (·.1)).zip kv)) b0 E D) E R) E (sh z h W):=by
  obtain hp:∀e∈T,dg e=aj:=bW.mp d0.1;refine(xW T g pos ha (λe hm hf=>by rw[hp e hm]at hf;cases hf) K).then hr λz1 i0 h0 h1 t1 xs V I1 G1 f0 o=>?_;refine(CW ks g pos hw d0.2 (K.step I1 G1)).then o λu L M m j kv c0 b Y rk O=>?_;exact cont u L M m j xs V kv _ b (G1.trans Y) (f0.step Y.step) rk O
 cases T with
 |nil=>
  refine evalArgs_kw2_nil w1 ?_;refine(CW ks g pos hw d0.2 K).then (show(fW (ks.map (oU g)) ⟨F,Q,N⟩>>=λkv=>a0 [] kv).run I _ from hr) λu L M m j kv c0 b Y rk O=>?_;exact cont u L M m j [] [] kv _ b Y .nil rk O
 |cons e g0=>
  have he:dg e=aj:=by have:=d0.1;rw[A5,cW]at this;exact this.1
  exact evalArgs_kw2 w1 S (kQ he)
def fY.step {ex:ah ay}{l:ah (au×ak)}{cl:ah (au×ay)}(S:Step X ex B h J H)(r:fY B l cl):fY J l cl:=r.mono λu u=>S.iT
def Lz (f:au×l8->ah (au×ay)->dn (t9 (ah (au×ay))))(hf:∀name kind c0,f (name,kind) c0=if kind == .cell then (do let a0 <-alloc { cls:=.type "cell",data:=.cell ag };pure (.yield ((name,a0) :: c0)))else pure (.yield c0)):
  ∀(names:ah (au×l8)) (e0:ah (au×ak)) (d0:ah (au×ay)) {B:ah ay} {I:St} {h:aG} {z:aD} {W:ak} {b0:ah (au×ay)->aD->Prop},Inv X B I h->fY B e0 d0->
   (ky names e0).run I (λr Z=>match r with
    |.ok LC=>∀J H c0,Inv X J Z H->Go X [] B h J H->fY J LC c0->(∀b o,h.get? b=ae o->H.get? b=ae o)->b0 c0 (sh z H W)
    |.err _=>eN)->aA (MX X) A (forIn names d0 f) b0 E (sh z h W):=by
 intro l;induction l with
 |nil=>
  intro e0 d0 B I h z W b0 D K F;rw[mn];exact aC (F B h d0 D (.refl ..) K λu u e=>e)
 |cons L r O=>
  obtain⟨n,U⟩:=L;intro e0 d0 B I h z W b0 D K F;rw[pX,hf];unfold ky at F;by_cases R:(U == oG)=aj
  ·rw[aN R]at F |-;refine wB (wB (ua (aC ?_)));obtain G:=Go.alloc X [] B h { cls:=.type "cell",data:=.cell ag };obtain I':=D.alloc (ao:=.cell ag) (o:={ cls:=.type "cell",data:=.cell ag }) ⟨rfl,ag,rfl,.none⟩ rfl;refine O ((n,I.length) :: e0) _ I' (.cons (by rw[<-D.len];simp) (K.step G.step)) (P.mono _ (λr Z y=>?_) (show(ky r ((n,I.length) :: e0)).run (I++[.cell ag]) _ from F));cases r with
   |err k=>trivial
   |ok Q=>exact λJ H c0 S T N M=>y J H c0 S (G.trans T) N λb o e=>M b o (be _ e)
  ·rw[aK R]at F |-;exact wB (aC (O e0 d0 D K F))
def CX (f:au×aw->PUnit->dn (t9 PUnit))(hf:∀n v u,f (n,v) u=(do q7 G n v;pure (.yield ⟨⟩))):
  ∀(binds:ah (au×AV)) (vb:ah (au×aw)) (N:ah (ax AV)) {B:ah ay} {I:St} {h:aG},Inv X B I h->En X U G Q N B h->cq X B h binds vb->
   aW X A [G.locals] (λB h N c=>En X U G Q N B h) B I h (forIn vb A6 f) (qe U binds ⟨F,Q,N⟩)
 |_,_,N,B,I,h,H,J,.nil=>λz W D E M=>by rw[mn];exact aC (M _ _ _ _ (.refl _) H (.refl ..) _ J)
 |_,_,N,B,I,h,H,J,.cons (n:=n) (x:=x) (v:=v) hx hs=>λz W D E M=>by
  rw[pX,hf];refine wB (wB ?_);refine(yb (F:=F) H J hx n).then M λZ R V j Y K w T S O L=>?_;refine aC ?_;exact CX f hf _ _ K T O (hs.step S.step) Z Y D E L
theorem vo {b0:bN}{e0:ay}{i0:ah (au×ay)}{f0:ah (au×ak)}{g0:ah (au×AV)}{vb:ah (au×aw)}{k0:au}{j0:ax ay}{code:aw}{c0:ax bH}{d0:ay}(hk:b0.kind= .function)(hg:e0=gO)(hb:(match c0 with |some o0=>o0.builtins |none=>d0)=qQ)(a0:Inv X B I h)(rb:cq X B h g0 vb)(rc:fY B f0 i0):
  aW X A [] (λJ H rt G=>rt.F=F/\En X b0 G rt.cel rt.loc J H/\h.get? G.locals=ag/\∃h0,G=newEnv b0 G.locals e0 h0 k0 j0 code c0 d0) B I h
   (newFunctionEnv b0 e0 i0 vb k0 j0 code c0 d0) (cP F b0 f0 g0):=by
 intro z W L E hr;obtain hr:(ky b0.names f0>>=λQ=>qe b0 g0 ⟨F,Q,b0.names.map λa=>ag⟩>>=λN=>P.pure (⟨F,Q,N⟩:RT)).run I _:=hr;unfold newFunctionEnv;refine wB (ua ?_);generalize U:({ cls:=.type (if c0.isSome=aj then "dict" else "frame"),data:=.dict #[] }:Obj)=fo;have w:=Go.push X [] B h fo;obtain I0:=a0.push fo;have eL:(h.push fo).get? h.objs.size=ae fo:=cV _ (by subst U;rfl);obtain j:h.objs.size∉B:=λhm=>dP _ (a0.lt hm);refine wB (Lz _ (λs0 l h0=>by cases l0:l == oG <;>simp[l0]) b0.names f0 i0 I0 (rc.step w.step) ((ky b0.names f0).mono (λr Z y=>?_) (show(ky b0.names f0).run I _ from hr)));cases r with
 |err k=>trivial
 |ok Q=>
  intro V m h0 I1 b n0 p0;obtain f:m.get? h.objs.size=ae fo:=p0 _ _ eL;obtain S:h.objs.size∉V:=b.step.dt eL j;have O:∀G:bH,G=newEnv b0 h.objs.size e0 h0 k0 j0 code c0 d0->aA (MX X) A (forIn vb A6 (λ(x:au×aw) (_:PUnit)=>do q7 G x.1 x.2;pure (nz A6))>>=λa=>pure G) L E (sh z m W):=by
   intro G M;have K:En X b0 G Q (b0.names.map λa=>ag) V m:=by
    obtain r0:∀x,G.kindOf x=cM b0 x:=λx=>by subst M;cases c0 <;>rfl
    refine⟨by subst M;cases c0 <;>exact hk,by subst M;cases c0 <;>exact hg,by subst M;cases c0 <;>exact hb,λx=>?_,by simp,⟨λa=>ag,?_,λx i v a a Y=>?_⟩,by subst M;cases c0 <;>exact S,by subst M;cases c0 <;>exact a0.ey (eU h),λx c e=>?_⟩
    ·rw[r0];unfold uU;cases cM b0 x with
     |none=>trivial
     |some kd=>cases kd <;>simp
    ·have u:G.locals=h.objs.size:=by subst M;cases c0 <;>rfl
     rw[u];exact⟨fo,#[],_,f,by subst U;rfl,λe M=>by simp at M,λx=>by simp[jy,wY]⟩
    ·rw[dA]at Y;cases q:b0.names[i]? with
     |none=>rw[q]at Y;cases Y
     |some y=>rw[q]at Y;cases Y
    ·have m0:G.cells=h0:=by subst M;cases c0 <;>rfl
     rw[m0];exact n0.get e
   have u:G.locals=h.objs.size:=by subst M;cases c0 <;>rfl
   refine wB ?_;refine CX (X:=X) (F:=F) _ (λa a a=>rfl) g0 vb _ I1 K (rb.step (w.trans b).step) z W _ E ((qe b0 g0 _).mono (λr u0 y2=>?_) (show(qe b0 g0 ⟨F,Q,b0.names.map λa=>ag⟩).run Z _ from y));intro z2 R h2 t2 Z2 I2 G2;have T:Go X [] B h R h2:=by
    have D:=((w.trans b).nil [G.locals]).trans G2;exact⟨D.step.drop (by rw[u];exact eU h),D.fr⟩
   cases r with
   |err k=>exact λe x=>y2 z2 R h2 t2 Z2 I2 T e (x.oX (w.trans b).step.there)
   |ok N=>
    intro _ N2;refine aC (y2 z2 R h2 t2 Z2 I2 T G ⟨rfl,N2,by rw[u];exact eU h,h0,?_⟩);rw[u];exact M
  cases c0 with
  |none=>exact O _ rfl
  |some o=>exact O _ rfl
def lookup_isSome_iff:∀(l:ah (au×aw)) (n:au),(l.lookup n).isSome=aj↔n∈l.map (·.1):=by
 intro l;induction l with
 |nil=>
  intro n;simp
 |cons B l E=>
  obtain⟨k,v⟩:=B;intro n;rw[gx,gc,bu];cases D:n == k with
  |true=>simp[bU.mp D]
  |false=>rw[E n];simp[oj.mp D]
def LD {names:ah au}{f:au×aw->(ah (au×aw)×ah (au×aw))->dn (t9 (ah (au×aw)×ah (au×aw)))}(hf:∀(x:au×aw) (u:ah (au×aw)×ah (au×aw)),names.contains x.1=aj->(u.1.lookup x.1).isSome=az->f x u=pure (.yield (u.1++[(x.1,x.2)],u.2))):
  ∀(kvs slots ex:ah (au×aw)) {a0:(ah (au×aw)×ah (au×aw))->aD->Prop},(∀x∈kvs,x.1∈names)->((slots++kvs).map (·.1)).Nodup->a0 (slots++kvs,ex) s->aA M A (forIn kvs (slots,ex) f) a0 E s:=by
 intro l;induction l with
 |nil=>
  intro slots ex a0 _ _ h;rw[mn];simp at h;exact aC h
 |cons B r F=>
  obtain⟨n,v⟩:=B;intro slots ex a0 D nd h;rw[pX,hf (n,v) (slots,ex) (by simpa using D (n,v) (.head _)) ?_]
  ·refine wB (aC ?_);exact F (slots++[(n,v)]) ex (λx H=>D x (.tail _ H)) (by simpa using nd) (by simpa using h)
  ·rw[<-pR,lookup_isSome_iff];intro G;rw[dH,tF]at nd;exact nd.2.2 n G n (by simp) rfl
def LF {α:Type}{f:au×aw->α->dn (t9 α)}{u:α}:∀(l:ah (au×aw)) {a0:α->aD->Prop},(∀x∈l,f x u=pure (.yield u))->a0 u s->aA M A (forIn l u f) a0 E s:=by
 intro l;induction l with
 |nil=>
  intro a0 _ h;rw[mn];exact aC h
 |cons x l D=>
  intro a0 B h;rw[pX,B x (.head _)];exact wB (aC (D (λy F=>B y (.tail _ F)) h))
def LG:∀(S:ah (au×aw)),(S.map (·.1)).Nodup->∀(a0:ah (au×aw)),(∀x∈S,a0.lookup x.1=ae x.2)->((S.map (·.1)).filterMap λn=>(a0.lookup n).map λx=>(n,x))=S:=by
 intro l;induction l with
 |nil=>
  intro _ _ _;exact rfl
 |cons B S D=>
  obtain⟨n,v⟩:=B;intro nd a0 h;rw[gc,AW,h (n,v) (.head _)];simp only[tT];rw[D (pO.mp nd).2 a0 λx E=>h x (.tail _ E)]
def LH:∀(S:ah (au×aw)),(S.map (·.1)).Nodup->∀x∈S,S.lookup x.1=ae x.2:=by
 intro S;induction S with
 |nil=>intro _ x B;cases B
 |cons p S E=>
  obtain⟨n,v⟩:=p;intro nd x B;rw[gc,pO]at nd;rw[gx];rcases bu.mp B with rfl |B
  ·simp
  ·have D:(x.1 == n)=az:=by
    rw[oj];intro q;apply nd.1;show n∈_;rw[<-q];exact Hz (f:=(·.1)) B
   rw[D];exact E nd.2 x B
def LK {α β:Type}:∀(l:ah α) (m:ah β),l.zip m=(l.take m.length).zip m:=by
 intro B;induction B with
 |nil=>
  intro m;simp
 |cons a l E=>
  intro D;cases D with
  |nil=>
   simp
  |cons b m=>
   simp[E m]
theorem LL {c0:ah aw}{a0:ah (au×aw)->aD->Prop}(h1:fd.params.posonlyargs=[])(h2:fd.params.vararg=ag)(h3:fd.params.kwonlyargs=[])(h4:fd.params.kwarg=ag)(nd:(fd.params.args.map (·.arg)).Nodup)(hn:c0.length<=(fd.params.args.map (·.arg)).length)(hk:(fd.params.args.map (·.arg)).drop c0.length=kvs.map (·.1))(hd:fd.defaults= .none\/∃b0 ot O n,fd.defaults= .ref b0/\s.heap.get? b0=ae ot/\ot.data= .seq O n)(hq:a0 (((fd.params.args.map (·.arg)).take c0.length).zip c0++kvs) s):aA M A (wZ fd ⟨c0,kvs⟩) a0 E s:=by
 unfold bindArgs;simp only[h1,h2,h3,h4,ub,mu];generalize W:fd.params.args.map (·.arg)=ns at nd hn hk hq |-;have B:((ns.take c0.length).zip c0++kvs).map (·.1)=ns:=by
  rw[dH,<-hk];have:((ns.take c0.length).zip c0).map (·.1)=ns.take c0.length:=by
   rw[<-List.unzip_fst,List.unzip_zip_left];rw[er];exact ML
  rw[this,HB]
 rw[LK ns c0];generalize S:(ns.take c0.length).zip c0=S0 at B hq |-;refine wB (LD (names:=ns) (λx u R U=>?_) kvs S0 [] (λx K=>?_) (by rw[B];exact nd) ?_)
 ·rw[aN (by rw[R];rfl),aK (by rw[U];simp)]
 ·have:x.1∈kvs.map (·.1):=Hz K;rw[<-hk]at this;exact w6 this
 have F:∀n∈ns,((S0++kvs).lookup n).isNone=az:=λn G=>by
  rw[<-B,<-lookup_isSome_iff]at G;cases q:(S0++kvs).lookup n with
  |none=>rw[q]at G;cases G
  |some v=>rfl
 have I:∀(dl:ah aw),aA M A (forIn ((ns.drop (ns.length - dl.length)).zip dl) (S0++kvs) λx u=>if (rB x.1 u).isNone=aj then pure (nz (u++[(x.1,x.2)]))else pure (nz u))
   (λu L=>u=S0++kvs/\L=s) E s:=λdl=>by
  refine LF _ (λx K=>?_) ⟨rfl,rfl⟩;rw[aK];rw[F x.1 (w6 (rC K).1)];simp
 have H:a0 (List.filterMap (λn=>Hs (λx=>(n,x)) (rB n (S0++kvs))) (ns++[])) s:=by
  rw[fU];have:=LG (S0++kvs) (by rw[B];exact nd) (S0++kvs) (LH _ (by rw[B];exact nd));rw[B]at this;rw[this];exact hq
 have seq:∀{J:ax (aZ aw)->aD->Prop},(∀o,J o s)->aA M A (rh fd.defaults) J E s:=λ{J} D=>by
  rcases hd with hd |⟨b0,ot,O,n,hd,ho,yr⟩
  ·rw[hd];exact aC (D _)
  ·rw[hd];exact j6 ho yr (D _)
 refine bO (seq λo=>?_);rw[aK (by rw[cW,fu];lia)];rw[aK (by
  rw[w7];intro q;rw[List.isEmpty_eq_false_iff_exists_mem]at q;obtain⟨n,G⟩:=q;obtain⟨V,N⟩:=A7.mp G;rw[F n (HC V)]at N;cases N)]
 refine bO (eB (I _) (λu L q=>?_) λw w q=>q);obtain⟨rfl,rfl⟩:=q;rw[mn];refine bO (aC ?_);rw[aK (by simp)];exact aC H
def Go.CY {ex:ah ay}(b0:Go X fK br h₀ B h)(a0:Go X ex B h J H)(hx:∀a∈ex,h₀.get? a=ag\/a∈fK):Go X fK br h₀ J H:=by
 have F:=(b0.mono (a0:=ex++fK) λu E=>ia _ E).trans (a0.mono (a0:=ex++fK) λu E=>gQ _ E);refine⟨⟨F.step.there,F.step.ext,λa o e K I E=>F.step.keep a o e K I λD=>?_⟩,F.fr⟩;rcases dX.mp D with D |D
 ·rcases hx a D with q |q
  ·rw[q]at e;cases e
  ·exact E q
 ·exact E D
def aW.inner {ex:ah ay}{α e0 β d0:Type}{R:ah ay->aG->β->α->Prop}{R':ah ay->aG->d0->e0->Prop}{a0:e0->aD->Prop}{t:dn α}{m:P β}{g:β->P d0}(h1:aW X A ex R B I h t m)(c0:Zs dE z)(b0:Go X fK br h₀ B h)(hx:∀a∈ex,h₀.get? a=ag\/a∈fK)(hr:(m>>=g).run I (aL X dE fK br h₀ R' a0 E)){Q':α->aD->Prop}(hE:∀{kx:aI} {Z:St},aL X dE fK br h₀ R' a0 E (.err kx) Z->∀z' J H t',Zs dE z'->Inv X J Z H->Go X fK br h₀ J H->Go X ex B h J H->∀e,eT kx e h₀ H->E' (.ref e) (sh z' H t'))(k:∀z' J Z H t' b a,Zs dE z'->Inv X J Z H->Go X ex B h J H->Go X fK br h₀ J H->R J H b a->(g b).run Z (aL X dE fK br h₀ R' a0 E)->Q' a (sh z' H t')):aA (MX X) A t Q' E' (sh z h W):=by
 refine h1 z W Q' E' (m.mono (λr Z y=>?_) (show m.run I _ from hr));intro z' J H t' F D S;obtain S':=b0.CY S hx;cases r with
 |ok b=>exact λa G=>k z' J Z H t' b a (c0.trans F) D S S' G y
 |err k=>exact λe x=>hE y z' J H t' (c0.trans F) D S' S e (x.oX b0.step.there)
def aL.same {ex:ah ay}{kx:aI}{b0 c0:Type}{R':ah ay->aG->c0->b0->Prop}{a0:b0->aD->Prop}(y:aL X dE fK br h₀ R' a0 E (.err kx) Z):∀z' J H t',Zs dE z'->Inv X J Z H->Go X fK br h₀ J H->Go X ex B h J H->∀e,eT kx e h₀ H->E (.ref e) (sh z' H t'):=λz' J H t' D I G u e x=>y z' J H t' D I G e x
def LQ {z':aD}{f:FL}{fl:Flow}{c0:aw->aD->Prop}(r:mG X B h f fl)(hr:(eQ f).run I (aL X dE fK br h₀ (RV X) c0 E))(a0:Zs dE z')(d0:Inv X B I h)(b0:Go X fK br h₀ B h)(t:ak):c0 (Flow.value fl) (sh z' h t):=by
 cases r with
 |next=>exact hr _ _ _ _ a0 d0 b0 _ .none
 |brk=>exact hr.elim
 |cont=>exact hr.elim
 |ret D=>exact hr _ _ _ _ a0 d0 b0 _ D
def yt {ex:ah ay}{kx:aI}{e:ay}{t:ak}{b0:b8->aD->Prop}(e0:A.frames=ae (G :: l))(hf:G.frame=ae L)(c0:Inv X B I h)(R:Frs X (G :: l) B h)(d0:Inv X br jH h₀)(a0:Go X ex br h₀ B h)(x:eT kx e h₀ h)(hQ:∀H,Inv X B I H->Go X ex br h₀ B H->eT kx e h₀ H->b0 () (sh z H t)):aA (MX X) A (leaving G (.ref e)) b0 E (sh z h t):=by
 unfold leaving;refine wB (vg e0 rfl hf c0 R d0 a0 x λN D M=>?_);exact sf D.inv D.dR d0 D.go M λJ F K=>hQ J F.inv F.go K.exc
theorem yu {binds:ah (au×AV)}(ra:aT X B h T V)(rk:cq X B h kw kvs)(hb:fX fd.params T kw=ae binds)(hd:fd.defaults= .none\/∃b0 ot O n,fd.defaults= .ref b0/\h.get? b0=ae ot/\ot.data= .seq O n):
  ∃vb,cq X B h binds vb/\∀{M:m4} {A:d8} {z:aD} {t:ak} {E:aw->aD->Prop} {a0:ah (au×aw)->aD->Prop},a0 vb (sh z h t)->aA M A (wZ fd ⟨V,kvs⟩) a0 E (sh z h t):=by
 unfold fX B5 at hb;dsimp only at hb;split at hb
 ·rename_i hc;simp only[cW,uc,w8,fu,bU]at hc;obtain⟨⟨⟨⟨⟨⟨c1,c2⟩,c3⟩,c4⟩,c5⟩,c6⟩,c7⟩:=hc;have e0:fd.params.args.map argName=fd.params.args.map (·.arg):=HD λa u=>by cases a;rfl
  rw[e0]at c5 c6 c7 hb;cases hb;refine⟨((fd.params.args.map (·.arg)).take V.length).zip V++kvs,?_,λhQ=>LL c1 c2 c3 c4 c5 (by rw[ra.length];exact c6) (by rw[ra.length,rk.names];exact c7) hd hQ⟩;rw[ra.length];generalize (fd.params.args.map (·.arg)).take T.length=ns;clear c7 c6 c5 e0;induction ra generalizing ns with
  |nil=>simpa using rk
  |cons hx hs ih=>cases ns with
   |nil=>simpa using rk
   |cons n ns=>exact .cons hx (ih ns)
 ·cases hb
def Ar.deeper (a:Ar X (k+1) u A l B h)(he:Frs X [G] B h)(u':ak)(hu:u'+3<=u):Ar X k u' (A.deeper G) (G :: l) B h:=
 ⟨a.handled,by have:=a.depth;show A.depth+1+2 * k<=980;lia,by have:=a.units;show A.units+3+u'<=9800;lia,by show A.frames.map (G :: ·)=_;rw[a.frames];rfl,λe D=>by
  rcases bu.mp D with rfl |D
  ·exact he _ (.head _)
  ·exact a.dR e D⟩
theorem CZ {g0:ah dy}{d:DS}{f0:ah (au×AV)}{vb:ah (au×aw)}{d0:aG}{e0:St}{c0:ah ay}{i0:aD}{k0:ak}{b0:aw->aD->Prop}(C:cn X)(ar:Ar X (k+1) (20 * k+44) A l B h)(a0:Inv X B I h)(ho:h.get? a=ae o)(hd:o.data= .func fd)(r0:fd.body= .stmts g0)(s0:fd.scope=U)(hk:U.kind= .function)(hg:U.isGenerator=az)(n0:U.isCoroutine=az)(u0:fd.globals=gO)(o0:fd.closure=[])(v0:fd.builtins=qQ)(x0:h.CodeRec fd.code fd.qualname)(p0:cM U mC=ae .cell->fd.code= .ref rS)(l0:Inv X c0 e0 d0)(h0:Go X [] B h c0 d0)(rb:cq X c0 d0 f0 vb)(hb:iQ X F k U g0 d)(m0:Zs z i0)(j0:∀{A':d8} {E':aw->aD->Prop} {Q':ah (au×aw)->aD->Prop},Q' vb (sh i0 d0 k0)->aA (MX X) A' (wZ fd ⟨V,kvs⟩) Q' E' (sh z h W))(hr:(cP F U [] f0>>=λrt=>d rt>>=λx=>eQ x.1).run e0 (aL X z [] B h (RV X) b0 E)):aA (MX X) A (call (.ref a) V kvs) b0 E (sh z h W):=by
 subst s0;refine ud (HG (by have:=ar.depth;show A.depth < 1000;lia) ho hd n0 hg r0 x0 ?_);refine j0 ?_;rw[o0];refine(vo (F:=F) (c0:=ag) hk u0 v0 l0 rb .nil).inner m0 h0 (λv S=>nomatch S) hr (λy=>y.same) ?_;intros _ z2 O u h2 t2 rt G _ Z2 I2 G2 L re R;obtain⟨hF,K,y0,Y,he⟩:=re;refine⟨I2.lim C,codeAny_func ?_⟩;obtain⟨F',Q,N⟩:=rt;intros F' Q N _ R hF K;cases hF;have T:h.get? G.locals=ag:=by
  cases q:h.get? G.locals with
  |none=>rfl
  |some o=>obtain⟨o',q'⟩:=h0.step.there _ _ q;rw[y0]at q';cases q'
 have M:G.frame=ae G.locals:=by rw[he];rfl
 have j:G.scope.kind≠ .module:=by rw[K.kind];decide
 obtain Fe:Frs X [G] O h2:=λe S=>by
  rw[aJ.mp S];obtain (⟨m,⟨o,es,ep,e1,e2,e3,_⟩,_⟩):=K.ns;exact⟨j,G.locals,o,M,K.iz,K.fZ,e1,es,ep,e2,e3⟩
 have D:=(ar.step L).deeper Fe (20 * k+40) (by exact gU _);obtain K2:Ctx X k fd.scope (A.deeper G) (G :: l) G Q N O u h2:=⟨C,D,⟨G,l,rfl,rfl⟩,I2,K,λq=>by rw[he];exact p0 q⟩;refine(hb K2).inner Z2 L (λb S=>by rw[aJ.mp S];exact .inl T) R (λy z' J H t' Z I' G' f e x=>?_) λz3 z0 A0 h3 t3 p fl Z3 I3 G3 w rp w0=>?_
 ·refine yt D.frames M I' (D.dR.step f) a0 G' x λh4 I4 G4 x4=>?_;exact y z' J h4 t' Z I4 G4 e x4
 ·have:=LQ rp.1 w0 Z3 I3 w t3;cases fl <;>exact this
def LR {pa:fj}{b0:ah dy}(C:cn X)(ar:Ar X (k+1) (20 * k+44) A l B h)(a0:Inv X B I h)(hf:FnAt h a (ae (pa,b0,U)))(ra:aT X B h T V)(rk:cq X B h kw kvs)(hb:iQ X F k U b0 (ew (cS U 20) b0)):
  aW X A [] (RV X) B I h (call (.ref a) V kvs) (B6 F pa b0 U T kw):=by
 intro z W Q E N;obtain⟨o,fd,w,j,Y,Z,f,L,R,S,H,K,O,G⟩:=hf;simp only[tT,A8,w9]at Y;obtain⟨rfl,M,rfl⟩:=Y;obtain⟨J,u,N⟩:=c9 N;obtain⟨m,b,D⟩:=yu ra rk u O;exact CZ C ar a0 w j M.symm rfl Z f L R S H K G a0 (.refl ..) b hb (.refl z) D N
def C2 (h:fc U=aj):U.kind= .function/\U.isGenerator=az/\U.isCoroutine=az/\∀x∈U.names,x.2= .local->U.names.lookup x.1=ae .local:=by
 unfold fc at h;simp only[cW,w7,fu,bW,pQ,qU,bU]at h;obtain⟨⟨⟨⟨D,H⟩,E⟩,F⟩,_⟩:=h;exact⟨D,H,E,λx B G=>(F x B).resolve_left λq=>q G⟩
def yv (h:fc U=aj)(q:cM U mC=ae .cell):dm:=by
 unfold fc at h;rw[cW]at h;obtain B:=h.2;rw[show U.names.lookup mC=ae .cell from q]at B;exact absurd B (by decide)
def LU {pa:fj}{cs:ah (au×ak)}(a0:Inv X B I h)(hi:I[i]? =ae (.lam pa e U cs))(ha:B[i]? =ae a):
  ∃c0 b0 cl pm c d0,h.get? a=ae (wA c0 b0 pa e U cl pm c d0)/\fY B cs cl/\h.CodeRec (.ref c) b0:=by
 obtain⟨o,E,c0,b0,cl,pm,c,d0,rfl,D,G⟩:=a0.obj i _ a hi ha;refine⟨c0,b0,cl,pm,c,d0,E,D,?_⟩;obtain⟨⟨H,J,e,c,d,F⟩⟩:=G;exact⟨_,_,_,_,rfl,e,d,F⟩
theorem LV (C:cn X)(ar:Ar X (k+1) (20 * k+44) A l B h)(a0:Inv X B I h)(hi:B[i]? =ae a)(ra:aT X B h T V)(rk:cq X B h kw kvs)(hb:∀U e,HE X F k U e (cE U 40 e)):
  aW X A [] (RV X) B I h (call (.ref a) V kvs) (B7 F i T kw):=by
 intros _ z W K E _ L;obtain (⟨ao,Y,L⟩):=eV L;cases ao with
 |lam pa e U cs=>
  intros pa e U cs _ Y L;obtain⟨f,L⟩:=a6 L;obtain⟨hk,hg,e0,_⟩:=C2 f;obtain (⟨g0,eb,L⟩):=c9 L;obtain (⟨j,d0,cl,pm,c,h0,ho,rc,m0⟩):=LU a0 Y hi;obtain⟨vb,rb,M⟩:=yu (fd:=kla_fn j d0 pa e U cl pm (.ref c) h0) ra rk eb (.inl rfl);refine ud (kla_callFunE (by have:=ar.depth;show A.depth < 1000;lia) ho rfl e0 hg rfl m0 ?_);refine M ?_;refine(vo (F:=F) (c0:=ag) hk rfl rfl a0 rb rc).inner (.refl _) (.refl ..) (λd hm=>nomatch hm) L (λy=>y.same) ?_;intros _ z2 b b0 h2 t2 rt G _ Z2 I2 G2 u re c0;obtain⟨hF,S,o0,i0,he⟩:=re;refine⟨I2.lim C,kla_codeExpr ?_⟩;obtain⟨F',Q,N⟩:=rt;intros F' Q N _ c0 hF S
  replace hF:F'=F:=hF
  subst F';have w:G.frame=ae G.locals:=by rw[he];rfl
  have j0:G.scope.kind≠ .module:=by rw[S.kind];decide
  obtain Fe:Frs X [G] b h2:=λe hm=>by
   rw[aJ.mp hm];obtain (⟨m,⟨o,es,ep,e1,e2,e3,_⟩,_⟩):=S.ns;exact⟨j0,G.locals,o,w,S.iz,S.fZ,e1,es,ep,e2,e3⟩
  have O:=(ar.step u).deeper Fe (20 * k+40) (by exact gU _);obtain K2:Ctx X k U (A.deeper G) (G :: l) G Q N b b0 h2:=⟨C,O,⟨G,l,rfl,rfl⟩,I2,S,λq=>(yv f q).elim⟩;have R:(cE U 40 e ⟨F,Q,N⟩>>=P.pure).run b0 (aL X z [] B h (RV X) K E):=by
   rw[P.run_bind];refine(cE U 40 e ⟨F,Q,N⟩).mono (λr Z y=>?_) c0;cases r <;>exact y
  refine(hb U e K2).inner Z2 u (λd hm=>nomatch hm) R (λy z' J H t' D I' G' l0 e x=>?_) λz3 f0 n0 h3 t3 x v Z3 I3 G3 k0 rx R=>?_
  ·refine yt O.frames w I' (O.dR.step l0) a0 G' x λh4 I4 G4 x4=>?_;exact y z' J h4 t' D I4 G4 e x4
  ·exact R z3 f0 h3 t3 Z3 I3 k0 v rx
 |_=>exact L.elim
def Inv.lP (a0:Inv X B I h)(C:cn X):X.K.In h:=λa o e=>a0.base a o (C.lP a o e) λq=>by rw[q,C.Cc]at e;cases e
def C3 (C:ay)(a0:ah aw)(kw:ah (au×aw)):(oH "type.__call__" ⟨.ref C :: a0,kw⟩).weight=1:=by rfl
def LW (C:ay)(a0:ah aw)(kw:ah (au×aw)):(oH "type.__call__" ⟨.ref C :: a0,kw⟩).cUnits=1:=by rfl
def LX (C:ay)(a0:ah aw)(kw:ah (au×aw)):(oH "type.__call__" ⟨.ref C :: a0,kw⟩).envs=[]:=by rfl
def Ar.make (a:Ar X (k+1) u A l B h)(C:ay)(a0:ah aw)(kw:ah (au×aw))(he:Frs X [G] B h)(u':ak)(hu:u'+4<=u):
  Ar X k u' ((A.under (.builtin "type.__call__" ⟨.ref C :: a0,kw⟩)).deeper G) (G :: l) B h:=by
 refine⟨a.handled,?_,?_,?_,λe D=>?_⟩
 ·have:=a.depth;show A.depth+(oH "type.__call__" ⟨.ref C :: a0,kw⟩).weight+1+2 * k<=980;rw[C3];lia
 ·have:=a.units;show A.units+(oH "type.__call__" ⟨.ref C :: a0,kw⟩).cUnits+3+u'<=9800;rw[LW];lia
 ·show(pushEnvs (oH "type.__call__" ⟨.ref C :: a0,kw⟩).envs A.frames).map (G :: ·)=_;rw[LX,a.frames];rfl
 ·rcases bu.mp D with rfl |D
  ·exact he _ (.head _)
  ·exact a.dR e D
def LY {b0:ah ay}{c0:aG}(a0:En X U G Q N b0 c0)(d0:G.frame=ae G.locals):Frs X [G] b0 c0:=λe E=>by
 rw[aJ.mp E];obtain⟨m,⟨o,H,I,D,F,B,_⟩,_⟩:=a0.ns;exact⟨by rw[a0.kind];decide,G.locals,o,d0,a0.iz,a0.fZ,D,H,I,F,B⟩
def P.g8 {β γ δ:Type}(m:P β)(f:β->P γ)(g:γ->P δ){p:Res δ->St->Prop}:((m>>=f)>>=g).run I p=(m>>=λb=>f b>>=g).run I p:=by
 show m.run I _=m.run I _
 congr 1
 try (funext r Z;cases r <;>rfl)
theorem LZ (C:cn X)(ar:Ar X (k+1) (20 * k+44) A l B h)(a0:Inv X B I h)(ra:aT X B h T V)(rk:cq X B h kw kvs)(hb:∀U ss,iQ X F k U ss (ew (cS U 20) ss)):
  aW X A [] (RV X) B I h (call (.ref X.gX) V kvs) (qf F T kw):=by
 intros _ z W D E _ K;have hK:=a0.lP C;obtain (⟨fI,i0,f,j⟩):=C.iP.init;have K:(lO F nL (.ref (I.length+1) :: T) kw>>=λr=>match r with |.none=>P.pure (AV.ref (I.length+1)) |_=>P.fail).run ((I++[.bc []])++[.inst I.length]) (aL X z [] B h (RV X) D E):=by
  have e:(I++[AO.bc []]).length=I.length+1:=by simp
  have qm:=K;unfold qf at qm;rw[<-e];exact qm
 refine ud (make_core (makes_of hK C.iP.makes) (looks_findIn hK f) (λself=>bind_fn hK self j) (.inl rfl) ?_);obtain b1:OB X B h (.bc []) j9:=⟨rfl,#[],_,rfl,λe he=>by simp at he,cZ _,λx=>by simp[jy,wY];exact .none⟩;obtain I1:=a0.alloc b1 rfl;obtain G1:=Go.alloc X [] B h j9;obtain b2:OB X (B++[h.objs.size]) (h.push j9) (.inst I.length) (pH X.gX h.objs.size):=⟨h.objs.size,by rw[<-a0.len];simp,rfl⟩;have I2:=I1.alloc b2 rfl;obtain G2:=Go.alloc X [] (B++[h.objs.size]) (h.push j9) (pH X.gX h.objs.size);have L:=G1.trans G2;obtain y0:(h.push j9).objs.size=h.objs.size+1:=j' ..;rw[y0]at I2 L;have hx:((B++[h.objs.size])++[h.objs.size+1])[I.length+1]? =ae (h.objs.size+1):=by rw[<-a0.len];simp
 obtain m:aF X ((B++[h.objs.size])++[h.objs.size+1]) ((h.push j9).push (pH X.gX h.objs.size)) (.ref (I.length+1)) (.ref (h.objs.size+1)):=.ref hx;obtain x0:aT X ((B++[h.objs.size])++[h.objs.size+1]) ((h.push j9).push (pH X.gX h.objs.size)) (.ref (I.length+1) :: T) (.ref (h.objs.size+1) :: V):=.cons m (ra.step L.step);obtain g0:=rk.step L.step;generalize E0:(h.push j9).push (pH X.gX h.objs.size)=h2 at *;generalize A0:(B++[h.objs.size])++[h.objs.size+1]=C4 at *;generalize B0:(I++[AO.bc []])++[AO.inst I.length]=bF at *;have hf:=C.fns nL fI i0 (by decide) h2 I2.base;unfold lO at K;cases R:defOf nL with
 |none=>rw[R]at K;exact K.elim
 |some d=>
  obtain⟨pa,S,U⟩:=d;rw[R]at K hf;obtain⟨o,fd,ho,hd,hs,hk,hg,h0,p0,j0,s0,z0,n0,k0⟩:=hf;simp only[tT,A8,w9]at hs;obtain⟨rfl,m0,rfl⟩:=hs;have K:((P.opt (fX fd.params (.ref (I.length+1) :: T) kw)>>=λO=>cP F fd.scope [] O>>=λrt=>ew (cS fd.scope 20) S rt>>=λx=>eQ x.1)>>=λr=>match r with |.none=>P.pure (AV.ref (I.length+1)) |_=>P.fail).run bF (aL X z [] B h (RV X) D E):=K;rw[P.g8]at K;obtain⟨O,eb,K⟩:=c9 K;rw[P.g8]at K;obtain⟨vb,rb,Y⟩:=yu x0 g0 eb n0;refine HG (by
   have:=ar.depth;show A.depth+(oH "type.__call__" ⟨.ref X.gX :: V,kvs⟩).weight < 1000;rw[C3];lia) ho hd h0 hg m0.symm z0 ?_
  refine Y ?_;rw[j0];refine(vo (F:=F) (c0:=ag) hk p0 s0 I2 rb .nil).inner (.refl z) L (λv hm=>nomatch hm) K (λy=>y.same) λz3 l0 v0 h3 t3 rt G Z3 I3 G3 e0 re f0=>?_;obtain⟨hF,N3,u0,r0,he⟩:=re;refine⟨I3.lim C,codeAny_func ?_⟩;obtain⟨F',Q,N⟩:=rt
  replace hF:F'=F:=hF
  subst F';have b0:G.frame=ae G.locals:=by rw[he];rfl
  have u:=(ar.step e0).make X.gX V kvs (LY N3 b0) (20 * k+40) (by exact a4 _);obtain K3:Ctx X k fd.scope ((A.under (.builtin "type.__call__" ⟨.ref X.gX :: V,kvs⟩)).deeper G) (G :: l) G Q N l0 v0 h3:=⟨C,u,⟨G,l,rfl,rfl⟩,I3,N3,λq=>by rw[he];exact k0 q⟩;have o0:h.get? G.locals=ag:=by
   cases q:h.get? G.locals with
   |none=>rfl
   |some o=>obtain⟨o',q'⟩:=L.step.there _ _ q;rw[u0]at q';cases q'
  rw[P.g8]at f0;refine(hb fd.scope S K3).inner Z3 e0 (λb hm=>by rw[aJ.mp hm];exact .inl o0) f0 (λy z' J H t' Z I' G' w0 e x=>?_) λz4 w F0 h4 t4 p fl Z4 I4 G4 c0 rp M=>?_
  ·refine yt u.frames b0 I' (u.dR.step w0) a0 G' x λh4 I4 G4 x4=>?_;exact y z' J h4 t' Z I4 G4 e x4
  ·have d0:w[I.length+1]? =ae (h.objs.size+1):=G4.step.iT (G3.step.iT hx);obtain⟨f1,C0⟩:=p;obtain⟨rf,_⟩:=rp;cases rf with
   |next=>exact⟨rfl,M z4 w h4 t4 Z4 I4 c0 _ (.ref d0)⟩
   |brk=>exact M.elim
   |cont=>exact M.elim
   | @ret x _ hv=>cases x with
    |none=>cases hv;exact⟨rfl,M z4 w h4 t4 Z4 I4 c0 _ (.ref d0)⟩
    |_=>exact M.elim
def L2:Cf (defOf jL)=aj:=by decide +kernel
theorem L4 {va ka:Arg}{a0:ah (au×aw)->aD->Prop}(h1:fd.params.posonlyargs=[])(h2:fd.params.args=[])(h3:fd.params.kwonlyargs=[])(h4:fd.params.vararg=ae va)(h5:fd.params.kwarg=ae ka)(hd:fd.defaults= .none\/∃b0 ot O n,fd.defaults= .ref b0/\s.heap.get? b0=ae ot/\ot.data= .seq O n)(hq:a0 [(va.arg,.ref s.heap.objs.size),(ka.arg,.ref (s.heap.objs.size+1))] { s with heap:=(s.heap.push { cls:=.type "tuple",data:=.seq #[v] }).push j9 }):aA M A (wZ fd ⟨[v],[]⟩) a0 E s:=by
 unfold bindArgs;simp only[h1,h2,h3,h4,h5,ub,mu,mn];refine wB (aC ?_);have seq:∀{F:ax (aZ aw)->aD->Prop},(∀o,F o s)->aA M A (rh fd.defaults) F E s:=λ{F} B=>by
  rcases hd with hd |⟨b0,ot,O,n,hd,ho,yr⟩
  ·rw[hd];exact aC (B _)
  ·rw[hd];exact j6 ho yr (B _)
 refine wB (seq λo=>?_);simp only[q9,ft,Option.isNone_some,xb,jd,je,Nat.zero_sub,A9,HH,tU,qW,List.drop_nil,List.zip_nil_left,mn,mv];refine wB (aC (wB (aC ?_)));simp only[tU,qW,jd,je,HJ,mu];refine bO (m9 ?_ (by show 1<=2 ^ 24;decide));rw[aK (by simp)];refine wB (ua ?_);refine wB (aC (aC ?_));have D:(s.heap.push { cls:=.type "tuple",data:=.seq #[v] }).objs.size=s.heap.objs.size+1:=j' ..;simp only[rD,mu,D];exact hq
def C5:Obj.IsDictOf (mE X) j9 []:=⟨#[],_,⟨rfl,rfl,rfl⟩,rfl,λe B=>by simp at B,.nil,.nil⟩
set_option tactic.hygienic true in theorem L5 (C : cn X) (ar : Ar X (k + 1) (20 * k + 44) A l B h) (a0 : Inv X B I h) (hf : FnAt h a (defOf jL)) (ra : aT X B h T V) (rk : cq X B h kw kvs) (hb : ∀ U ss, iQ X F k U ss (ew (cS U 20) ss)) :
  aW X A [] (RV X) B I h (call (.ref a) V kvs) (oV F T kw):=by
 intros _ z W Q E _ hr;unfold oV at hr;have vp:=L2;cases vq:defOf jL with
 |none=>rw[vq]at hr;exact hr.elim
 |some d=>
  obtain⟨pa,body,U⟩:=d;rw[vq]at hr hf vp;obtain⟨o,fd,ho,hd,hs,hk,hg,L6,L7,L8,L9,yw,Ma,Mb⟩:=hf;simp only[tT,A8,w9]at hs;obtain⟨rfl,nS,rfl⟩:=hs;cases ra with
  |nil=>exact hr.elim
  |cons hx hs=>
   cases hs with
   |cons _ _=>cases rk <;>exact hr.elim
   |nil=>
    cases rk with
    |cons _ _=>exact hr.elim
    |nil=>
     rename_i x v;unfold Cf at vp;simp only[cW,uc,bU,j3]at vp;obtain⟨⟨⟨⟨⟨s1,s2⟩,s3⟩,va,s4,C6⟩,ka,s5,C7⟩,s6⟩:=vp;have hr:(cP F fd.scope [] [(aq "args",.one x),(aq "kwargs",.ref I.length)]>>=λrt=>ew (cS fd.scope 20) body rt>>=λx=>eQ x.1).run (I++[.dict []]) (aL X z [] B h (RV X) Q E):=hr;have ea:∀a:Arg,argName a=a.arg:=λa=>by cases a;rfl
     rw[ea]at C6 C7;have G1:=Go.push X [] B h { cls:=.type "tuple",data:=.seq #[v] };have I1:=a0.push { cls:=.type "tuple",data:=.seq #[v] };obtain⟨n1,n2,e1,t1⟩:=xV a0 _ [v] rfl;have G2:=Go.alloc X [] B (h.push { cls:=.type "tuple",data:=.seq #[v] }) j9;have I2:=I1.alloc (ao:=.dict []) (o:=j9) ⟨[],C5,.nil,by simp⟩ rfl;have kT:(h.push { cls:=.type "tuple",data:=.seq #[v] }).objs.size=h.objs.size+1:=j' ..;rw[kT]at G2 I2;have Mc:aF X B (h.push { cls:=.type "tuple",data:=.seq #[v] }) (.one x) (.ref h.objs.size):=⟨⟨n1,n2,e1,t1⟩,hx.step G1.step⟩;have rd:(B++[h.objs.size+1])[I.length]? =ae (h.objs.size+1):=by rw[<-a0.len];simp
     refine CZ C ar a0 ho hd nS.symm rfl hk hg L6 L7 L8 L9 yw Mb I2 (G1.trans G2) (f0:=[(aq "args",.one x),(aq "kwargs",.ref I.length)])
      (vb:=[(va.arg,.ref h.objs.size),(ka.arg,.ref (h.objs.size+1))]) ?_ (hb _ _) (.refl z) (λ{A' E' Q'} Md=>L4 (s:=sh z h W) s1 s2 s3 s4 s5 Ma Md) hr
     rw[C6,C7];exact .cons (Mc.step G2.step) (.cons (.ref rd) .nil)
def Me (X:Cx)(k:ak):HF X (FN 0) k:=λu u u u u u u u u u u u u u u u B=>B.elim
set_option tactic.hygienic true in def Mf (hE : ∀ U e, HE X F k U e (cE U 40 e)) (hS : ∀ U ss, iQ X F k U ss (ew (cS U 20) ss)) : HF X (B8 F) (k + 1) := by
 intro A l B I h C ar D fv f T V kw kvs rf ra rk;have qn:Ar X (k+1) (20 * k+44) A l B h:=ar.less (a4 _) (by lia);cases fv with
 |ref i=>obtain⟨e⟩:=rf;exact LV C qn D e ra rk hE
 |fn n=>
  obtain⟨e⟩:=rf;rename_i a;show aW X A [] (RV X) B I h _ (if n == gG then qf F T kw else if n == jL then oV F T kw else lO F n T kw);by_cases h1:(n == gG)=aj
  ·rw[aN h1];rw[bU.mp h1,C.cls]at e;cases e;exact LZ C qn D ra rk hS
  ·rw[aK h1];have hf:=C.fns n a e (λq=>h1 (bU.mpr q)) h D.base;by_cases h2:(n == jL)=aj
   ·rw[aN h2];rw[bU.mp h2]at hf;exact L5 C qn D hf ra rk hS
   ·rw[aK h2];unfold lO;cases vq:defOf n with
    |none=>exact aW.fail
    |some d=>
     obtain⟨pa,body,U⟩:=d;rw[vq]at hf;exact LR C qn D hf ra rk (hS _ _)
 |_=>exact aW.fail
def Mg {es:aZ wz}{b0:au}{a0:b8->aD->Prop}(ho:s.heap.get? a=ae o)(hd:o.data= .dict es ep)(hk:qP es)(hQ:∀H o' mN yx,H.get? a=ae o'->o'.cls=o.cls->o'.data= .dict mN yx->qP mN->(mN.size=es.size\/(jy es b0=ag/\mN.size=es.size+1))->(∀x,jy mN x=if x=b0 then ae v else jy es x)->fq a s.heap H->
   a0 () { s with heap:=H,toks:=s.toks+1 }):aA M A (nsSet a b0 v) a0 E s:=λG p u=>by
 simp only[nsSet,strHash,Sem.wp_bind',Sem.wp_cmd_ask,Sem.wp_pure',Sem.wp_cmd_mkText];rw[Sem.wp_loadPart_of M G _ p { s with toks:=s.toks+1 } (o:=o) _ ho];have D:es.any (·.refKey)=az:=by
  rw[Array.any_eq_false'];intro e F;obtain⟨n,t,h⟩:=hk e F;simp[HK,h]
 simp only[hd,aRefKeyMayBeTheName_eq,aRefKeyMayBeTheNameByArray,D,xb,jd,je,Sem.wp_cmd_updatePart];refine⟨by rw[ho];rfl,?_⟩;obtain⟨c,d,I,J⟩:=o;subst hd;cases B:es.findIdx? (·.key.isStr b0)with
 |some i=>
  refine hQ _ _ _ ep (iK _ ho (by simp only[rE,rF,B];rfl)) (by simp only[rE,rF,B]) (by simp only[rE,rF,B];rfl) (hk.modify _ _) (.inl (by simp)) (λx=>?_) (dY ..);exact findBy_modify (λn v=>v.isStr n) Value.isStr_inj es b0 x v i B
 |none=>
  refine hQ _ _ _ (ep+1) (iK _ ho (by simp only[rE,rF,B];rfl)) (by simp only[rE,rF,B]) (by simp only[rE,rF,B];rfl) (hk.push _ _ _ _) (.inr ⟨?_,by simp⟩) (λx=>?_) (dY ..)
  ·unfold nsFind wY;rw[Ba,Array.find?_eq_none];rw[Array.findIdx?_eq_none_iff]at B;intro e F;have:=B e F
   simpa using this
  ·exact findBy_push (λn v=>v.isStr n) es b0 x _ _ v (λy=>by
    show(b0 == y)=decide (y=b0);by_cases h:y=b0
    ·subst h;simp
    ·have: ¬ b0=y:=λe=>h e.symm;simp[h,this]) B
theorem yy {d:ak}{l:ah (au×AV)}(a0:Inv X B I h)(hi:I[i]? =ae (.inst d))(hd:I[d]? =ae (.bc l))(ha:B[i]? =ae a):
  ∃da od es n,B[d]? =ae da/\InstAt h a (pH X.gX da) X.gX (ae od)/\h.get? da=ae od/\od.cls= .type "dict"/\od.data= .dict es n/\qP es/\es.size<=l.length/\∀x,jM X B h (l.lookup x) (jy es x):=by
 obtain⟨o,G,da,D,rfl⟩:=a0.obj i _ a hi ha;obtain⟨od,E,c,es,n,F,k,z,r⟩:=a0.obj d _ da hd D;exact⟨da,od,es,n,D,⟨G,rfl,rfl,E⟩,E,c,F,k,z,r⟩
def C8 {od:Obj}{es:aZ wz}(hd:od.data= .dict es n)(hk:qP es)(a0:au):lookIn a0 od=ae (jy es a0):=by
 unfold lookIn jy wY;rw[hd];dsimp only;have B:es.toList.any (·.refKey)=az:=by
  rw[HL];intro e D;obtain⟨n,t,h⟩:=hk e (by simpa using D);simp[HK,h]
 rw[B];have e:es.find? (λe=>e.key.isStr a0)=es.toList.find? (λe=>e.key.isStr a0):=by cases es;simp
 rw[e];cases es.toList.find? (λe=>e.key.isStr a0)<;>rfl
def C9 {γ:Type}{g:ak×ah (au×AV)->P γ}{p:Res γ->St->Prop}(hr:(uH i>>=g).run I p):∃d l,I[i]? =ae (.inst d)/\I[d]? =ae (.bc l)/\(g (d,l)).run I p:=by
 obtain⟨E,D,hr⟩:=eV (g:=λo=>(match o with
  |.inst d=>do
   match <-P.load d with
   |.bc l=>P.pure (d,l)
   |_=>P.fail
  |_=>P.fail)>>=g) hr
 cases E with
 |inst d=>
  obtain⟨ad,B,hr⟩:=eV (g:=λo=>(match o with
   |.bc l=>P.pure (d,l)
   |_=>P.fail)>>=g) hr
  cases ad with
  |bc l=>exact⟨d,l,D,B,hr⟩
  |_=>exact hr.elim
 |_=>exact hr.elim
def Mh (hx:aF X B h x v)(hh:xE x=aj):handedIn v=aj:=by
 cases x with
 |none=>cases hx;rfl
 |bool b=>cases hx;rfl
 |int i=>obtain⟨t,rfl⟩:=hx;rfl
 |str i=>obtain⟨t,rfl⟩:=hx;rfl
 |ty n=>cases hx;rfl
 |bi n=>cases hh
 |_=>cases hx;rfl
theorem Mi (C:cn X)(a0:Inv X B I h)(hx:aF X B h x v)(n:au):aW X A [] (RV X) B I h (getAttr v n aj) (mB x n):=by
 intros _ z W Q E _ D;obtain⟨O,D⟩:=a6 D;obtain (⟨i,q,D⟩):=iC D;subst q;obtain⟨e⟩:=hx;obtain (⟨d,l,R,L,D⟩):=C9 D;obtain (⟨w,H,D⟩):=c9 D;obtain⟨M,D⟩:=a6 D;obtain⟨Y,U,V,m,_,J,T,c,K,G,_,r⟩:=yy a0 R L e;have q:=r n;rw[H]at q;obtain⟨S,N,F⟩:=q;exact get_value (s:=sh z h W) (a0.lP C) J C.iP.ga (findObj_own C.iP.hasDict (C.iP.attrs n O).1 rfl (by rw[C8 K G,N])) (Mh F M) (D _ _ _ _ (.refl _) a0 (.refl ..) _ F)
theorem Mj (l:ah (au×AV))(k:au)(v:AV):∀x,(putField l k v).lookup x=if x=k then ae v else l.lookup x:=by
 intro x;have h1:∀l:ah (au×AV),(l.map λp=>if p.1 == k then (p.1,v)else p).lookup x=(l.lookup x).map λw=>if x=k then v else w:=by
  intro l;induction l with
  |nil=>rfl
  |cons p l ih=>
   obtain⟨y,w⟩:=p;have e:(if (y == k)=aj then (y,v)else (y,w))=(y,if y=k then v else w):=by
    by_cases hy:y=k
    ·subst hy;simp
    ·simp[hy]
   simp only[gc];rw[e,gx,gx];cases hb:x == y with
   |true=>rw[bU.mp hb];rfl
   |false=>exact ih
 have h2:∀l:ah (au×AV),(l.lookup k).isSome=l.any λp=>p.1 == k:=by
  intro l;induction l with
  |nil=>rfl
  |cons p l ih=>
   obtain⟨y,w⟩:=p;rw[gx,pN];cases hb:k == y with
   |true=>simp[bU.mp hb]
   |false=>rw[ih,show(y == k)=az from by rw[oj]at hb |-;exact λq=>hb q.symm];rfl
 have h3:∀l:ah (au×AV),(l.lookup k).isSome=az->(l++[(k,v)]).lookup x=if x=k then ae v else l.lookup x:=by
  intro l;induction l with
  |nil=>
   intro _;simp only[mu,gx,List.lookup_nil];cases hb:x == k with
   |true=>simp[bU.mp hb]
   |false=>simp[oj.mp hb]
  |cons p l ih=>
   obtain⟨y,w⟩:=p;intro hn;rw[gx]at hn;rw[rD,gx,gx];cases hb:k == y with
   |true=>rw[hb]at hn;cases hn
   |false=>
    rw[hb]at hn;cases hx:x == y with
    |true=>
     obtain vt:=bU.mp hx;subst vt;have: ¬ x=k:=λq=>by rw[q]at hb;simp at hb
     simp[this]
    |false=>exact ih hn
 unfold putField;split
 ·rename_i ha;rw[h1];rw[<-h2]at ha;by_cases hx:x=k
  ·subst hx;cases q:l.lookup x with
   |none=>rw[q]at ha;cases ha
   |some w=>simp
  ·cases q:l.lookup x <;>simp[hx]
 ·rename_i ha;rw[<-h2,pR]at ha;exact h3 l ha
def Mk (l:ah (au×AV))(k:au)(v:AV):l.length<=(putField l k v).length/\(l.lookup k=ag->(putField l k v).length=l.length+1):=by
 unfold putField;split
 ·rename_i ha;refine⟨by simp,λhn=>?_⟩;exfalso
  induction l with
  |nil=>cases ha
  |cons p l ih=>
   obtain⟨y,w⟩:=p;rw[gx]at hn;rw[pN]at ha;cases hb:k == y with
   |true=>rw[hb]at hn;cases hn
   |false=>
    rw[hb]at hn;rw[show(y == k)=az from by rw[oj]at hb |-;exact λq=>hb q.symm]at ha;exact ih ha hn
 ·exact⟨by simp,λu=>by simp⟩
theorem Ml {u:aw}(C:cn X)(a0:Inv X B I h)(hx:aF X B h x v)(hy:aF X B h y u)(n:au):aW X A [] (λg g g g=>eN) B I h (setAttr v n u) (p8 x n y):=by
 intros _ z W Q E _ F;obtain⟨f,F⟩:=a6 F;obtain (⟨i,q,F⟩):=iC F;subst q;obtain⟨e⟩:=hx;obtain (⟨d,l,e1,U,F⟩):=C9 F;obtain⟨D,F⟩:=a6 F;obtain D:l.length<=64:=D;obtain⟨da,od,es,m,N,L,ed,c,dd,hk,K,r⟩:=yy a0 e1 U e;obtain F:aL X z [] B h (λb b b b=>eN) Q E (.ok ()) (I.set d (.bc (putField l n y))):=F;refine set_plain (s:=sh z h W) (a0.lP C) L C.iP.sa ?_;refine osa_open (s:=sh z h (W+1)) (a0.lP C) L C.iP.over (C.iP.attrs n f).2 λb=>?_;obtain⟨cd,hc,M⟩:=any_some C.iP.hasDict;refine wB (aC (wB (wB (wpAny_loadPart L.at_ (bO ((looks_clsIn (a0.lP C) hc).here ?_))))));rw[M];refine aC (a:=ae da) (bO (aC (bO ?_)));refine Mg (s:=sh z h (W+1)) ed dd hk λH o' R T Y k V f4 Z f6 f7=>?_;refine wB (wpAny_lookBehind Y (by rw[V];exact pastItsLine_dict (by rw[fH];exact(Z).elim (λO=>TT (EL O) (CF 0 0 0 64 0 16777217 K D rfl)) (λO=>CF 0 1 0 64 0 16777217 (CH 0 1 0 0 (EL O.2) K) D rfl))) ?_);obtain S:jy es n=ag->l.lookup n=ag:=λq=>by
  have:=r n;rw[q]at this;cases j:l.lookup n with
  |none=>rfl
  |some w=>rw[j]at this;obtain⟨_,q,_⟩:=this;exact gm q
 obtain⟨I',G⟩:=a0.change (b0:=.bc (putField l n y)) U N f7 Y (by
  refine⟨k.trans c,R,T,V,f4,?_,λw=>?_⟩
  ·obtain⟨o,p2⟩:=Mk l n y;rcases Z with q |⟨q,q'⟩
   ·exact TT (EL q) (TT K o)
   ·have:=p2 (S q);exact CF 0 1 1 0 0 0 (CH 0 1 0 0 (EL q') K) (EG this) rfl
  ·rw[Mj,f6];by_cases J:w=n
   ·rw[aN J,aN J];exact .some hy
   ·rw[aK J,aK J];exact r w) []
 exact aC (F _ _ _ _ (.refl _) I' G () trivial)
def Mm {x a:au}(hd:HE X F k U (.Name x p) d):HE X F k U (.Attribute (.Name x p) a pos) (λrt=>do
   let v0 <-d rt
   mB v0 a):=by
 intro A l G Q N B I h K z W D E O;refine Attribute_name ?_;refine(hd K).then O λT J R Y S y v L V M H=>?_;exact Mi K.ok L M a T S D E H
def Mn {o:aH}{a:au}(hd:HE X F k U o d):HA X F k U (.Attribute o a pos) (λv rt=>do
   let ov <-d rt
   p8 ov a v
   P.pure rt.loc):=by
 intro A l G Q N B I h K x v u z W D E j;show aA _ _ (lA [v] (eval o G)>>=_) _ _ _;refine wB (eA ?_);refine(hd K).value j λz1 Y T w b y ov M L R J=>?_;refine wB (jE (wB (eA ?_)));refine(Ml K.ok M R (u.step L.step) a).value J λm S V h2 f c c O Z c H=>?_;refine wpAny_release ?_;exact H _ _ _ _ (.refl _) O (.refl ..) () ((K.step M L).step O Z).en
theorem Mo {l:ay}{k:Int}{t:cK}{a0:b8->aD->Prop}(hl:IsL s.heap l O n)(h0:0<=k)(b0:k < 2 ^ 63)(hn:k < O.size)(hQ:∀H n',IsL H l (O.setIfInBounds k.toNat v) n'->fq l s.heap H->a0 () { s with heap:=H }):
  aA (aV prog w) A (setItem (.ref l) (.int k t) v) a0 E s:=by
 obtain qo:=hl.isList;unfold setItem;try with_reducible refine eA ?_
 first |refine wB (aC ?_) |skip
 refine wB (wpAny_sequenceKey qo.typeIs (by decide) ?_);refine wB (nk (name:=aq "__setitem__") qo.typeIs HM
  (gy HM qo.typeIs entry_list_setitem ?_ (args_list_setitem _ _ _)))
 show aA _ _ (Wa (.int k t)>>=_) _ _ s;refine wB (wpAny_listSubscript_int (fitsIndex_of h0 b0) ?_);clear b0;obtain (⟨j,rfl⟩):=Av h0;have B:j < O.size:=by lia
 obtain qp:O[j]? =ae O[j]:=wM B;show aA _ _ ((seqItemAt l j>>=λr=>pure (r.map (j,·)))>>=_) _ _ s;refine wB (wB (wpAny_seqItemAt hl rfl (aC ?_)));rw[qp];show aA _ _ (setSeqItemAt l j v>>=_) _ _ s;refine wB (wpAny_setSeqItemAt hl rfl ?_);first
  |exact wB (aC (aC ⟨.none,rfl,aC (hQ _ _ (hl.update (·.setIfInBounds j v)) (dY ..))⟩))
  |exact aC ⟨.none,rfl,aC (hQ _ _ (hl.update (·.setIfInBounds j v)) (dY ..))⟩
def Mp (l:ah ((au ⊕ Int)×AV))(k:au ⊕ Int)(v:AV):(putD l k v).length<=l.length+1:=by
 unfold putD;split <;>simp
theorem Mq {u:AV}{w t:aw}(a0:Inv X B I h)(hx:aF X B h x v)(hy:aF X B h y w)(hu:aF X B h u t):aW X A [] (λg g g g=>eN) B I h (setItem v w t) (oQ x y u):=by
 intros _ z W Q E _ D;obtain (⟨i,q,D⟩):=iC D;subst q;obtain⟨e⟩:=hx;obtain⟨Y,L,D⟩:=eV D;cases Y with
 |list l=>
  obtain⟨j,q,D⟩:=jo D;subst q;obtain⟨_,rfl⟩:=hy;obtain⟨F,D⟩:=a6 D;obtain D:aL X z [] B h (λa a a a=>eN) Q E (.ok ()) (I.set i (.list (l.set j.toNat u))):=D;obtain⟨O,n,o,b,len,K⟩:=ez a0 L e;refine Mo (s:=sh z h W) o F.1 (by lia) (by rw[cG,len];exact(Hd F.1).1 F.2.1) λH T J S=>?_;rw[List.setIfInBounds_toArray]at J;obtain⟨N,G⟩:=a0.change (b0:=.list (l.set j.toNat u)) L e S J ⟨_,T,rfl,b.set hu j.toNat,by rw[eM];exact K⟩ [];exact D _ _ _ _ (.refl _) N G () trivial
 |dict l=>
  obtain⟨k,Z,D⟩:=c9 D;obtain⟨F,D⟩:=a6 D;obtain D:aL X z [] B h (λa a a a=>eN) Q E (.ok ()) (I.set i (.dict (putD l k u))):=D;obtain⟨V,d,r,c⟩:=xY a0 L e;refine wpAny_setItem_pairs (knd:=mE X) (s:=sh z h W) (sd hy Z).1 d (λH U S=>?_) (by rw[r.length,fH];exact FI 0 64 0 16777216 F rfl);obtain⟨f,R,M⟩:=tG.mp U;obtain⟨N,G⟩:=a0.change (b0:=.dict (putD l k u)) L e S R ⟨_,M,r.put k hu,by have:=Mp l k u;exact CF 0 1 0 64 0 100 this F rfl⟩ [];exact D _ _ _ _ (.refl _) N G () trivial
 |_=>exact D.elim
def Mr {o i:aH}{b:DE}(hd:HE X F k U o d)(hb:HE X F k U i b):HA X F k U (.Subscript o i pos) (λv rt=>do
   let ov <-d rt
   let iv <-b rt
   oQ ov iv v
   P.pure rt.loc):=by
 intro A l G Q N B I h K x v hx z W D E hr;show aA _ _ (lA [v] (eval o G)>>=_) _ _ _;refine wB (eA ?_);refine(hd K).value hr λz1 f u h1 t1 y ov I1 S Y J=>?_;refine wB (eA ?_);obtain R:=K.step I1 S;refine(hb R).value J λz2 j w h2 t2 y2 iv T L O H=>?_;refine wB (jE (wB (eA ?_)));refine(Mq T (Y.step L.step) O ((hx.step S.step).step L.step)).value H λz3 a0 m h3 t3 a a V Z a M=>?_;refine wpAny_release ?_;exact M _ _ _ _ (.refl _) V (.refl ..) () ((R.step T L).step V Z).en
def yz {c:n8}{a0:aw->aD->Prop}(hc:oS c=ae y)(kk:ak)(b0:fk)(hq:∀v t',SV X y v->a0 v (sh z h t')):aA (MX X) A (eval (.Constant c kk b0) G) a0 E (sh z h W):=by
 cases c with
 |none=>cases hc;exact GP (hq _ _ λu u=>.none)
 |bool b=>cases hc;exact GQ (hq _ _ λu u=>.bool b)
 |int i=>cases hc;exact GR (hq _ _ λu u=>.int i _)
 |str x=>cases hc;exact GS (hq _ _ λu u=>.str x _)
 |_=>exact gm hc
theorem Ms {ck cv:n8}{k1 k2:ak}{p1 p2:fk}:HE X F k U (.Dict [ae (.Constant ck k1 p1)] [.Constant cv k2 p2] pos) (λc=>do
   let kv <-P.opt (oS ck)
   let vv <-P.opt (oS cv)
   let k <-P.opt (gF kv)
   let i0 <-P.alloc (.dict [(k,vv)])
   P.pure (.ref i0)):=by
 intros _ A l G Q N B I h _ K _ z W D E _ J;obtain (⟨kv,u,J⟩):=c9 J;obtain (⟨vv,j,J⟩):=c9 J;obtain (⟨M,Y,J⟩):=c9 J;have J:aL X z [] B h (RV X) D E (.ok (.ref I.length)) (I++[.dict [(M,vv)]]):=J;refine wpAny_Dict_pairs (knd:=mE X) (pairs:=[(eval (.Constant ck k1 p1) G,do let x <-eval (.Constant cv k2 p2) G;tI pos;pure x)]) rfl (by simp) (by simp) ?_;refine evalPairs_cons ?_;refine yz (X:=X) (h:=h.push { cls:=.type "dict",data:=.dict #[] }) u k1 p1 λV t1 m=>?_;refine wB (yz (X:=X) (h:=h.push { cls:=.type "dict",data:=.dict #[] }) j k2 p2 λL t2 w=>wB (jE (aC ?_)));refine evalPairs_nil ⟨[(M,L)],⟨(sd (m B h) Y).1,rfl,trivial⟩,tG.mpr ⟨_,cV _ rfl,C5⟩,λH Z hs=>?_⟩;obtain⟨o',T,O⟩:=tG.mp Z;have oZ:∀b o,h.get? b=ae o->H.get? b=ae o:=λb o e=>(hs.2 b (jX (gP e))).trans (be _ e);have R:h.get? h.objs.size=ag:=eU h;have S:Step X [] B h (B++[h.objs.size]) H:=⟨λa o e=>⟨o,oZ a o e⟩,⟨[h.objs.size],rfl,λa hm=>by rw[aJ.mp hm];exact R⟩,λa o e v v v=>⟨o,oZ a o e,.refl ..⟩⟩;refine J z (B++[h.objs.size]) H _ (.refl _) (K.inv.snoc S.dK (λv=>id) oZ (K.inv.fresh R).1 (K.inv.ey R) T ⟨_,O,.cons (w _ _) .nil,i6 rfl⟩) ⟨S,λa o e v f v=>⟨o,oZ a o e,f⟩⟩ _ (.ref ?_);rw[<-K.inv.len];simp
set_option tactic.hygienic true in def Mt {β : Type} {a : β} {a0 : β → aD → Prop} (h : ∀ a, a0 a s) : aA M A (pure a) a0 E s := aC (h a)
def Mu (v:aw):MeetsIn prog w (j4.«enumerate.__new__» ⟨[.type "enumerate",v],[]⟩) (λA R s=>aA (aV prog w) A.in1 (gb v) (λit s'=>R (.ok (.ret (.ref s'.heap.objs.size)))
  { s' with heap:=s'.heap.push { cls:=.type "enumerate",data:=.fields #[.none,.bool az,it,bI 0,.none,.none] } }) (λe s'=>R (.error e) s') s):=
 .of_wp λA R s h=>by
  have B:=sub_enumerate;obtain⟨E,g,d,W,os⟩:=s;have step:∀{Q':aw->aD->Prop},(∀it s',R (.ok (.ret (.ref s'.heap.objs.size))) { s' with heap:=s'.heap.push { cls:=.type "enumerate",data:=.fields #[.none,.bool az,it,bI 0,.none,.none] } }->Q' it s')->
   aA (aV prog w) A.in1 (gb v) Q' (λe s'=>R (.error e) s') ⟨E,g,d,W,os⟩:=λD=>eB h D λu u q=>q
  wp_walk
  refine wpAny_stack_any λI=>Mt λc=>?_;cases c
  ·wp_walk using step
   intro it s' q
   wp_walk
   exact⟨_,rfl,q⟩
  ·wp_walk using step
   intro it s' q
   wp_walk
   exact⟨_,rfl,q⟩
def Mv (v1 v2:aw):MeetsIn prog w (j4.«zip.__new__» ⟨[.type "zip",v1,v2],[]⟩) (λA R s=>aA (aV prog w) A.in1 (gb v1) (λi1 s1=>aA (aV prog w) A.in1 (gb v2) (λi2 s2=>
   R (.ok (.ret (.ref (s2.heap.objs.size+2)))) { s2 with heap:=((s2.heap.push { cls:=.type "tuple",data:=.seq #[i1,i2] }).push { cls:=.type "tuple",data:=.seq #[.none,.none] }).push { cls:=.type "zip",data:=.fields #[.none,.bool az,.bool az,.ref s2.heap.objs.size,.ref (s2.heap.objs.size+1)] } }) (λe s'=>R (.error e) s') s1) (λe s'=>R (.error e) s') s):=
 .of_wp λA R s h=>by
  have F:=sub_zip;obtain⟨B,g,d,W,os⟩:=s;have step:∀{Q':aw->aD->Prop},(∀i1 s1,aA (aV prog w) A.in1 (gb v2) (λi2 s2=>
   R (.ok (.ret (.ref (s2.heap.objs.size+2)))) { s2 with heap:=((s2.heap.push { cls:=.type "tuple",data:=.seq #[i1,i2] }).push { cls:=.type "tuple",data:=.seq #[.none,.none] }).push { cls:=.type "zip",data:=.fields #[.none,.bool az,.bool az,.ref s2.heap.objs.size,.ref (s2.heap.objs.size+1)] } }) (λe s'=>R (.error e) s') s1->Q' i1 s1)->
   aA (aV prog w) A.in1 (gb v1) Q' (λe s'=>R (.error e) s') ⟨B,g,d,W,os⟩:=λD=>eB h D λu u q=>q
  wp_walk using step
  intro i1 s1 q;obtain⟨B,g,d,W,os⟩:=s1;have step:∀{Q':aw->aD->Prop},(∀i2 s2,R (.ok (.ret (.ref (s2.heap.objs.size+2)))) { s2 with heap:=((s2.heap.push { cls:=.type "tuple",data:=.seq #[i1,i2] }).push { cls:=.type "tuple",data:=.seq #[.none,.none] }).push { cls:=.type "zip",data:=.fields #[.none,.bool az,.bool az,.ref s2.heap.objs.size,.ref (s2.heap.objs.size+1)] } }->Q' i2 s2)->
   aA (aV prog w) A.in1 (gb v2) Q' (λe s'=>R (.error e) s') ⟨B,g,d,W,os⟩:=λD=>eB q D λu u q=>q
  wp_walk using step
  intro i2 s2 q;obtain⟨B,g,d,W,os⟩:=s2
  wp_walk
  refine⟨_,rfl,?_⟩;have E:((B.push { cls:=.type "tuple",data:=.seq #[i1,i2] })).objs.size=B.objs.size+1:=j' ..;have G:((B.push { cls:=.type "tuple",data:=.seq #[i1,i2] }).push { cls:=.type "tuple",data:=.seq #[.none,.none] }).objs.size=B.objs.size+2:=by rw[j',E]
  dsimp only at q;rw[<-G,<-E]at q;exact q
def Mw {a0:aw->aD->Prop}(h:aA (aV prog w) A.in1.in1 (gb v) (λit s'=>a0 (.ref s'.heap.objs.size) { s' with heap:=s'.heap.push { cls:=.type "enumerate",data:=.fields #[.none,.bool az,it,bI 0,.none,.none] } }) E s):
  aA (aV prog w) A (call (.type "enumerate") [v]) a0 E s:=
 HN F.called_enumerate (by decide) (F.typeCall_enumerate_1 _) (F.newCall_enumerate_1 _) (λobj=>F.args_object_init_2 obj _) F.entry_enumerate_new (Mu v)
  (eB h (λit s' q=>⟨⟨_,cV _ rfl,rfl⟩,q⟩) λu u q=>q)
def Mx {v1 v2:aw}{a0:aw->aD->Prop}(h:aA (aV prog w) A.in1.in1 (gb v1) (λi1 s1=>aA (aV prog w) A.in1.in1 (gb v2) (λi2 s2=>
   a0 (.ref (s2.heap.objs.size+2)) { s2 with heap:=((s2.heap.push { cls:=.type "tuple",data:=.seq #[i1,i2] }).push { cls:=.type "tuple",data:=.seq #[.none,.none] }).push { cls:=.type "zip",data:=.fields #[.none,.bool az,.bool az,.ref s2.heap.objs.size,.ref (s2.heap.objs.size+1)] } }) E s1) E s):
  aA (aV prog w) A (call (.type "zip") [v1,v2]) a0 E s:=
 HN F.called_zip (by decide) (F.typeCall_zip_2 _ _) (F.newCall_zip_2 _ _) (λobj=>F.args_object_init_3 obj _ _) F.entry_zip_new (Mv v1 v2)
  (eB h (λi1 s1 q=>eB q (λi2 s2 q=>⟨by
   have:=cV ((s2.heap.push { cls:=.type "tuple",data:=.seq #[i1,i2] }).push { cls:=.type "tuple",data:=.seq #[.none,.none] }) (o:={ cls:=.type "zip",data:=.fields #[.none,.bool az,.bool az,.ref s2.heap.objs.size,.ref (s2.heap.objs.size+1)] }) rfl;rw[j',j']at this;exact⟨_,this,rfl⟩,q⟩) λu u q=>q) λu u q=>q)
theorem My {r:ay}{a c:Int}{t u v:cK}{a0:aw->aD->Prop}(hr:wD s.heap r a b c t u v)(hs:(fJ a && fJ b && fJ c && fJ (-c) && fJ (a - c) && fJ (kb a b c))=aj)(h:a0 (.ref s.heap.objs.size) { s with heap:=s.heap.push { cls:=.type "range_iterator",data:=.fields #[bI (a+(kb a b c - 1) * c),bI (kb a b c),bI (-c)] } }):
  aA (aV prog w) A (call (.builtin "range.__reversed__") [.ref r]) a0 E s:=by
 have B:s.TypeIs (.ref r) "range":=⟨_,hr,rfl⟩;refine gy F.slot_range_reversed B F.entry_range_reversed ?_ (F.args_range_reversed_1 _);obtain⟨D,g,d,W,os⟩:=s;unfold Builtin.«range.__reversed__» Wb
 wp_walk using AutoSeq1.wpAny_loadPart' hr
 simp only[hs,qW,jd,je,jD]
 wp_walk
 exact⟨_,rfl,h⟩
theorem Mz {r:ay}{a c:Int}{t u v:cK}{a0:aw->aD->Prop}(hr:wD s.heap r a b c t u v)(hs:(fJ a && fJ b && fJ c && fJ (-c) && fJ (a - c) && fJ (kb a b c))=aj)(h:a0 (.ref s.heap.objs.size) { s with heap:=s.heap.push { cls:=.type "range_iterator",data:=.fields #[bI (a+(kb a b c - 1) * c),bI (kb a b c),bI (-c)] } }):
  kc (aV prog w) A (.call (.builtin "reversed.__new__") ⟨[.type "reversed",.ref r],[]⟩) (rG a0 E) s:=by
 have B:s.TypeIs (.ref r) "range":=⟨_,hr,rfl⟩;refine ue ?_;show aA _ A.in1 (do uf "reversed.__new__" ⟨[.type "reversed",.ref r],[]⟩;again (.builtin "reversed.__new__" ⟨[.type "reversed",.ref r],[]⟩)) _ _ s;refine wB (nq (F.newCall_reversed_1 _) (aC ⟨oJ F.plain_reversed_new _,ke F.entry_reversed_new ?_⟩));rw[mw F.plain_reversed_new _];unfold Builtin.«reversed.__new__»;refine wB (nq (newClass_reversed _) ?_);try dsimp only
 refine wB (nq (a:=()) (by first |rfl |kernel_rfl) ?_);refine wB (nq (a:=()) (by first |rfl |kernel_rfl) ?_);try dsimp only
 refine wB (rH B F.slot_range_reversed.lookup ?_);try dsimp only
 refine wB (nq (F.slot_range_reversed.bind _) ?_);try dsimp only
 first
 |rw[aK (show ¬ ((ug "range.__reversed__" == dq)=aj) from jg)]
 |(show aA _ _ (if (ug "range.__reversed__" == dq)=aj then _ else _) _ _ _;rw[aK (show ¬ ((ug "range.__reversed__" == dq)=aj) from jg)])
 refine wB (gR ?_);refine wB (m:=runValue (.call (.builtin "range.__reversed__") ⟨[.ref r],[]⟩)) (show aA _ _ (call (.builtin "range.__reversed__") [.ref r]) _ _ _ from My hr hs ?_);first
 |exact aC h
 |exact wB (aC (aC h))
def MA:lE (.type "range_iterator") (.type "reversed")=pure az:=by rw[rn];kernel_rfl
def MB {r:ay}{a c:Int}{t u v:cK}{a0:aw->aD->Prop}(hr:wD s.heap r a b c t u v)(hs:(fJ a && fJ b && fJ c && fJ (-c) && fJ (a - c) && fJ (kb a b c))=aj)(h:a0 (.ref s.heap.objs.size) { s with heap:=s.heap.push { cls:=.type "range_iterator",data:=.fields #[bI (a+(kb a b c - 1) * c),bI (kb a b c),bI (-c)] } }):
  aA (aV prog w) A (call (.type "reversed") [.ref r]) a0 E s:=by
 refine callType_other (U:="range_iterator") (Q₁:=λobj B=>obj= .ref s.heap.objs.size/\B={ s with heap:=s.heap.push { cls:=.type "range_iterator",data:=.fields #[bI (a+(kb a b c - 1) * c),bI (kb a b c),bI (-c)] } }) (by decide +kernel) F.create_reversed ⟨_,_,F.mro_reversed⟩ F.made_reversed MA (F.typeCall_reversed_1 _) (Mz hr hs ⟨rfl,rfl⟩) ?_;rintro obj B ⟨rfl,rfl⟩;exact⟨⟨_,cV _ rfl,rfl⟩,h⟩
def yA {c:Int}(hb: -4096 < b/\b < 4096)(hc:c=1/\k=b.toNat\/c= -1/\k=(-b).toNat):kb 0 b c=k:=by
 unfold Builtin.Range.rangeSize;rcases hc with ⟨rfl,rfl⟩ |⟨rfl,rfl⟩
 ·simp only[show(1:Int) > 0 by decide,jD,HO];split <;>lia
 ·simp only[show ¬ ((-1:Int) > 0) by decide,je];simp only[HP,HO];split <;>lia
def fits_of {i:Int}(h: -(2 ^ 63)<=i/\i < 2 ^ 63):fJ i=aj:=by
 unfold Builtin.Range.rangeFitsLong;rw[cW,fu,fu];exact h
def MC {c:Int}(hb: -4096 < b/\b < 4096)(hc:c=1/\k=b.toNat\/c= -1/\k=(-b).toNat):Wc 0 b c=aj:=by
 unfold Builtin.Range.small;rw[yA hb hc];have D:(k:Int)<=4096:=by rcases hc with ⟨rfl,rfl⟩ |⟨rfl,rfl⟩<;>lia
 have B:(if c > 0 then fJ (b+(c - 1))else fJ (b+(c+1)))=aj:=by
  split <;>exact fits_of (by rcases hc with ⟨rfl,rfl⟩ |⟨rfl,rfl⟩<;>lia)
 rw[fits_of (i:=0) (by lia),fits_of (i:=b) (by lia),fits_of (i:=c) (by rcases hc with ⟨rfl,rfl⟩ |⟨rfl,rfl⟩<;>lia),fits_of (i:=(k:Int)) (by lia),B,ry];rfl
def lR.step {ex:ah ay}{a:AS}(r:lR X B h a v)(b0:Inv X B I h)(a0:Go X ex B h J H):lR X J H a v:=by
 cases r with
 |val r=>exact .val (r.step a0.step)
 |range n E D K F=>exact .range (a0.step.dt D n) E (a0.step.u5 D n (b0.g7 E) (λu u q=>nomatch q)) K F
def MD (hd:HE X F k U e d):HR X F k U e (λrt=>do
   let v0 <-d rt
   P.pure (.val v0)):=by
 intro A l G Q N B I h K z W D E O;exact(hd K).then O λY J R T V x v L S M H=>H _ _ _ _ (.refl _) L (.refl ..) _ (.val M)
def vu {f:au}{v:AV}{a0:aw->aD->Prop}(K:Ctx X k U A l G Q N B I h)(hk:cM U f=ae .globalImplicit)(hg:qb f=ae v)(hn:(f == aq "__debug__" || f == aq "__classdict__")=az)(hQ:∀val z' J H t',Zs z z'->Inv X J I H->Go X [] B h J H->aF X J H v val->a0 val (sh z' H t')):aA (MX X) A (eval (.Name f p) G) a0 E (sh z h W):=by
 refine Co (F:=λu u u=>P.fail) K.ok K.inv K.en f p z W a0 E ?_;unfold nK;rw[aK (by rw[hn];simp),hk];dsimp only;rw[hg];exact λz' J H t' Z F D val r=>hQ val z' J H t' Z F D r
def sg (M:m4)(h:aG)(n:aI):oE M h (oF (.type n)) pY:=Bb rfl
def Dc (M:m4)(h:aG)(n:aI):oE M h (oF (.builtin n)) pY:=Bb rfl
def vw {l:ah AV}:∀{ns:ah Int},intsOf l=ae ns->l=ns.map .int:=by
 induction l with
 |nil=>exact λe=>dp e ▸ rfl
 |cons x l D=>cases x with
  |int i=>
   intro ns e;obtain⟨E,B,rfl⟩:=j3.mp e;rw[D B];rfl
  |_=>exact λe=>gm e
def ME {l:ah AV}{p:Res AS->St->Prop}(h:(lM l).run I p):
  (∃b,l=[.int b]/\(-4096 < b/\b < 4096)/\p (.ok (.range 0 b.toNat 1)) I)\/(∃b,l=[.int 0,.int b,.int (-1)]/\(-4096 < b/\b < 4096)/\p (.ok (.range 0 (-b).toNat (-1))) I):=by
 obtain⟨ns,e,h⟩:=c9 h;rw[vw e];cases ns with
 |nil=>exact h.elim
 |cons b r=>cases r with
  |nil=>obtain⟨g,h⟩:=a6 h;exact .inl ⟨_,rfl,g,h⟩
  |cons c r=>cases r with
   |nil=>exact h.elim
   |cons d r=>cases r with
    |nil=>obtain⟨g,H⟩:=a6 h;obtain⟨rfl,rfl,g⟩:=g;exact .inr ⟨_,rfl,g,H⟩
    |cons _ _=>exact h.elim
theorem src_range {T:ah aH}{g:aH->DE}(hk:cM U (aq "range")=ae .globalImplicit)(ha:∀e∈T,HE X F k U e (g e)):HR X F k U (.Call (.Name (aq "range") p) T [] q) (λrt=>do
   P.guard (lN T []=aj)
   let l0 <-dG (T.map g) rt
   lM l0):=by
 intros _ A l G Q N B I h _ K _ z W D E _ hr;obtain⟨f,hr⟩:=a6 hr;refine uh ?_;refine vu (v:=.ty "range") K hk (by kernel_rfl) (by decide +kernel) ?_;intros _ val z1 f0 h1 t1 _ Z1 I1 G1 rv;cases rv
 ·obtain K1:=K.step I1 G1;refine yq (R':=lR X) (a0:=λV kv=>match kv with | []=>lM V |_=>P.fail) (Pk:=λw=>eN) (e0:=[]) K1 ha (λw hw=>nomatch hw) f (λH w=>⟨_,.inr (.inl rfl),sg _ _ _⟩) ?_ ?_
  ·refine P.mono _ (λr Z y=>y.shift Z1 G1) (show(dG (T.map g) ⟨F,Q,N⟩>>=λV=>fW [] ⟨F,Q,N⟩>>=λkv=>match kv with | []=>lM V |_=>P.fail).run I (aL X z [] B h (lR X) D E) from ?_);exact hr
  ·intros _ j b0 c0 O t2 V e0 kv m _ I2 G2 R rk J;refine⟨trivial,?_⟩;have Y:∀(b c:Int) (t u v:cK) (kk:ak) (S:ak),-4096 < b/\b < 4096->(c=1/\kk=b.toNat\/c= -1/\kk=(-b).toNat)->aL X j [] b0 O (lR X) D E (.ok (.range 0 kk c)) c0->
     D (.ref O.objs.size) (sh j (O.push { cls:=.type "range",data:=.fields #[.int 0 t,.int b u,.int c v] }) S):=by
    intro b c t u v kk S o hc hp;refine hp _ _ _ _ (.refl _) (I2.push _) (Go.push ..) _ (.range (λhm=>dP _ (I2.lt hm)) (I2.ey (eU O)) (cV _ rfl) o hc)
   cases rk with
   |cons _ _=>exact J.elim
   |nil=>
   rcases ME J with ⟨b,rfl,hg,J⟩ |⟨b,rfl,o,J⟩
   ·cases R with |cons L M=>
    cases M;obtain⟨tb,rfl⟩:=L;exact call_range_1 (s:=sh j O t2) (Y b 1 _ _ _ _ _ hg (.inl ⟨rfl,rfl⟩) J)
   ·cases R with |cons L M=>
    cases M with |cons a0 M=>
    cases M with |cons d0 M=>
    cases M;obtain⟨ta,rfl⟩:=L;obtain⟨tb,rfl⟩:=a0;obtain⟨tc,rfl⟩:=d0;exact call_range_3 (s:=sh j O t2) (by decide) (Y b (-1) _ _ _ _ _ o (.inr ⟨rfl,rfl⟩) J) (.inl (GY (by lia)))
def aW.si {a0:aw->aD->Prop}{α β:Type}{R:ah ay->aG->β->α->Prop}{t:dn α}{m:P β}{g:β->P AI}(h1:aW X A [] R B I h t m)(c0:Zs dE z)(b0:Go X [] br h₀ B h)(hr:(m>>=g).run I (rV X dE br h₀ a0 E)){Q':α->aD->Prop}(k:∀z' J Z H t' b a,Zs dE z'->Inv X J Z H->Go X [] B h J H->Go X [] br h₀ J H->R J H b a->(g b).run Z (rV X dE br h₀ a0 E)->Q' a (sh z' H t')):aA (MX X) A t Q' E (sh z h W):=by
 refine h1 z W Q' E (m.mono (λr Z y=>?_) (show m.run I _ from hr));intro z' J H t' F D S;obtain S':=b0.trans S;cases r with
 |ok b=>exact λa G=>k z' J Z H t' b a (c0.trans F) D S S' G y
 |err k=>exact λe x=>y z' J H t' (c0.trans F) D S' e (x.oX b0.step.there)
def bP.ref (r:bP X B h own ai it):∃a,it= .ref a:=by cases r <;>exact⟨_,rfl⟩
def bP.conv (hB:Y.base=X.base)(r:bP X B h own ai it):bP Y B h own ai it:=by
 cases r with
 |list e D n b=>exact .list e D n (hB ▸ b)
 |range D n b=>exact .range D n (hB ▸ b)
 |obj e=>exact .obj e
def bP.ext (r:bP X B h own ai it)(hk:∀b o,h.get? b=ae o->H.get? b=ae o):bP X B H own ai it:=by
 cases r with
 |list e D n b=>obtain⟨o,E,c,d⟩:=D;exact .list e ⟨o,hk _ _ E,c,d⟩ n b
 |range D n b=>exact .range (hk _ _ D) n b
 |obj e=>exact .obj e
def bP.there (r:bP X B h own ai it):∀c∈own,∃o,h.get? c=ae o:=by
 cases r with
 |list e E n b=>intro c D;rw[aJ.mp D];obtain⟨o,F,_⟩:=E;exact⟨o,F⟩
 |range E n b=>intro c D;rw[aJ.mp D];exact⟨_,E⟩
 |obj e=>exact λu D=>nomatch D
def vA {as:AS}{g:AI->P AI}{p:Res AI->St->Prop}{Q':aw->aD->Prop}(r:lR X B h as v)(a0:Inv X B I h)(hr:(eP as>>=g).run I p)(k:∀H own ai it,(∀b o,h.get? b=ae o->H.get? b=ae o)->bP X B H own ai it->(∀c∈own,h.get? c=ag)->(g ai).run I p->Q' it (sh z H W)):aA (MX X) A (gb v) Q' E (sh z h W):=by
 cases r with
 |range n L F G D=>
  refine wpAny_pyIter_range (s:=sh z h W) F (MC G D) ?_;rw[yA G D];refine k _ [h.objs.size] _ _ (λb o e=>be _ e) (.range (cV _ rfl) (λJ=>dP _ (a0.lt J)) (a0.ey (eU h))) (λc D=>?_) hr;rw[aJ.mp D];exact eU h
 |val K=>
  obtain⟨i,q,hr⟩:=iC (g:=λi=>rN i>>=g) hr;subst q;obtain⟨e⟩:=K;exact CU a0 e hr k
def Go.fresh {c:ay}(a0:Go X [] br h₀ B h)(hc:h.get? c=ag):h₀.get? c=ag:=by
 cases q:h₀.get? c with
 |none=>rfl
 |some o=>obtain⟨E,D⟩:=a0.step.there c o q;rw[hc]at D;cases D
def MF {a:aH}{d:DR}(hk:cM U (aq "enumerate")=ae .globalImplicit)(ha:HR X F k U a d):HI X F k U (.Call (.Name (aq "enumerate") p) [a] [] q) (λrt=>do
   P.guard (dg a=aj)
   let x0 <-d rt
   let i0 <-eP x0
   P.pure (.enum 0 i0)):=by
 intro A l G Q N B I h K z W D E u;obtain⟨R,u⟩:=a6 u;refine uh ?_;refine vu (v:=.ty "enumerate") K hk (by kernel_rfl) (by decide +kernel) λval z1 b0 h1 t1 Z1 I1 G1 rv=>?_;cases rv
 ·obtain K1:=K.step I1 G1;refine wX (P:=λx=>eN) (by rw[kQ R];rfl) (λH x=>⟨_,.inr (.inl rfl),sg _ _ _⟩) ?_;show aA _ _ (Bc _ aj (lC q (jC [a] G)) []) _ _ _;rw[kQ R];refine Bd (xc ?_);refine(ha K1).si Z1 G1 u λz2 T c0 j t2 as v Z2 V G2 J ra w=>?_;refine Be ⟨trivial,?_⟩;show aA _ _ (call (.type "enumerate") [v]) _ _ _;refine Mw ?_;refine vA ra V w λM Y ai it S f ho a0=>?_;obtain⟨Z,rfl⟩:=f.ref;obtain O:∀b o,j.get? b=ae o->(M.push { cls:=.type "enumerate",data:=.fields #[.none,.bool az,.ref Z,bI 0,.none,.none] }).get? b=ae o:=λb o e=>be _ (S _ _ e);have L:j.get? M.objs.size=ag:=by
   cases q:j.get? M.objs.size with
   |none=>rfl
   |some o=>exact absurd (gP (S _ _ q)) (dP _)
  obtain he:oi (M.push { cls:=.type "enumerate",data:=.fields #[.none,.bool az,.ref Z,bI 0,.none,.none] }) M.objs.size Z 0 .none:=cV _ rfl;refine HQ (s:=sh z2 _ t2) he ?_;obtain⟨f1,f2⟩:=V.fresh L;refine a0 z2 T _ t2 [] (M.objs.size :: Y) (.ref M.objs.size) Z2 (V.keeps O) (J.trans (Go.keeps X T O [])) (.enum he f1 (V.ey L) (λhm=>?_) (f.ext λb o e=>be _ e)) (λc m=>?_) (λx hb=>nomatch hb)
  ·obtain⟨o,e⟩:=f.there _ hm;rw[eU]at e;cases e
  ·rcases bu.mp m with rfl |m
   ·exact J.fresh L
   ·exact J.fresh (ho c m)
set_option tactic.hygienic true in def MG {a : aH} {d : DR} (hk : cM U (aq "reversed") = ae .globalImplicit) (ha : HR X F k U a d) : HI X F k U (.Call (.Name (aq "reversed") p) [a] [] q) (fun rt => do
   P.guard (dg a=aj)
   let x0 <-d rt
   qc x0):=by
 intro A l G Q N B I h K z W D E hr;obtain⟨kI,hr⟩:=a6 hr;refine uh ?_;refine vu (v:=.ty "reversed") K hk (by kernel_rfl) (by decide +kernel) λval z1 Wt h1 t1 Z1 I1 G1 rv=>?_;cases rv
 ·obtain K1:=K.step I1 G1;refine wX (P:=λw=>eN) (by rw[kQ kI];rfl) (λH w=>⟨_,.inr (.inl rfl),sg _ _ _⟩) ?_;show aA _ _ (Bc _ aj (lC q (jC [a] G)) []) _ _ _;rw[kQ kI];refine Bd (xc ?_);refine(ha K1).si Z1 G1 hr λz2 C4 bF h2 t2 as v Z2 I2 G2 Dd ra De=>?_;refine Be ⟨trivial,?_⟩;show aA _ _ (call (.type "reversed") [v]) _ _ _;cases ra with
  |val _=>exact De.elim
  |range n bb MH hb hc=>
   rename_i r b c t u v kk;obtain⟨hg,MI⟩:=a6 De;obtain⟨_,rfl⟩:=hg;have Df:(kk:Int)<=4096:=by rcases hc with ⟨_,rfl⟩ |⟨q,_⟩<;>lia
   obtain kT:=yA hb hc;refine MB (s:=sh z2 h2 t2) MH (by
    rw[kT,fits_of (i:=0) (by lia),fits_of (i:=b) (by lia),fits_of (i:=1) (by lia),fits_of (i:=-1) (by lia),fits_of (i:=0 - 1) (by lia),fits_of (i:=(kk:Int)) (by lia)];rfl) ?_
   rw[kT,show(0:Int)+((kk:Int) - 1) * 1=(kk:Int) - 1 by lia];obtain hi:tz (h2.push { cls:=.type "range_iterator",data:=.fields #[bI ((kk:Int) - 1),bI kk,bI (-1)] }) h2.objs.size ((kk:Int) - 1) kk (-1):=cV _ rfl;refine HU (s:=sh z2 _ t2) hi ?_;obtain hn:h2.get? h2.objs.size=ag:=eU h2;refine MI z2 C4 _ t2 [] [h2.objs.size] _ Z2 (I2.push _) (Dd.trans (Go.push ..)) (.simple (.range hi (I2.fresh hn).1 (I2.ey hn))) (λc hc=>?_) (λw hb=>nomatch hb);rw[aJ.mp hc];exact Dd.fresh hn
def MJ {d:DR}(ha:HR X F k U e d):HI X F k U e (λrt=>do
   let v0 <-d rt
   eP v0):=by
 intro A l G Q N B I h K z W D E f;refine(ha K).si (.refl _) (.refl ..) f λw L j h2 u as v Y S G2 H b O=>?_;refine vA b S (P.CV O) λZ M ai V J o m R=>?_;exact R w L Z u [] M V Y (S.keeps J) (H.trans (Go.keeps X L J [])) (.simple o) (λc hc=>H.fresh (m c hc)) (λx T=>nomatch T)
theorem MK {a b:aH}{d e:DR}(hk:cM U (aq "zip")=ae .globalImplicit)(ha:HR X F k U a d)(hb:HR X F k U b e):HI X F k U (.Call (.Name (aq "zip") p) [a,b] [] q) (λrt=>do
   P.guard (dg a=aj/\dg b=aj)
   let x0 <-d rt
   let y0 <-e rt
   let i0 <-eP x0
   let a0 <-eP y0
   P.pure (.zip i0 a0)):=by
 intros _ A l G Q N B I h _ K _ z W D E _ hr;obtain⟨⟨e0,f⟩,hr⟩:=a6 hr;refine uh ?_;refine vu (v:=.ty "zip") K hk (by kernel_rfl) (by decide +kernel) ?_;intros _ val z1 r0 h1 t1 _ Z1 I1 G1 rv;cases rv
 ·obtain K1:=K.step I1 G1;refine wX (P:=λx=>eN) (by rw[kQ e0,kQ f];rfl) (λH x=>⟨_,.inr (.inl rfl),sg _ _ _⟩) ?_;show aA _ _ (Bc _ aj (lC q (jC [a,b] G)) []) _ _ _;rw[kQ e0,kQ f];refine Bd (xc ?_);refine(ha K1).si Z1 G1 hr ?_;intros _ z2 s0 u0 h2 t2 as v1 _ Z2 I2 G2 g0 ra n0;refine xc ?_;refine(hb (K1.step I2 G2)).si Z2 g0 n0 ?_;intros _ z3 M m0 h3 t3 bs v2 _ Z3 I3 G3 u rb o0;refine Be ⟨trivial,?_⟩;show aA _ _ (call (.type "zip") [v1,v2]) _ _ _;obtain p0:=ra.step I2 G3;refine Mx ?_;refine vA p0 I3 o0 ?_;intros _ h4 o1 a1 i1 _ S r1 l0 j0;obtain I4:=I3.keeps S;obtain k0:=rb.step I3 (Go.keeps X M S []);refine vA k0 I4 j0 ?_;intros _ L o2 a2 i2 _ T r2 c0 h0;have Z:=I4.keeps T;generalize w:({ cls:=.type "tuple",data:=.seq #[i1,i2] }:Obj)=T1;generalize m:({ cls:=.type "tuple",data:=.seq #[.none,.none] }:Obj)=T2;generalize b0:({ cls:=.type "zip",data:=.fields #[.none,.bool az,.bool az,.ref L.objs.size,.ref (L.objs.size+1)] }:Obj)=T3;obtain s1:(L.push T1).objs.size=L.objs.size+1:=j' ..;have s2:((L.push T1).push T2).objs.size=L.objs.size+2:=by rw[j',s1]
  obtain g1:(((L.push T1).push T2).push T3).get? L.objs.size=ae T1:=be _ (be _ (cV _ (by rw[<-w];rfl)));have g2:(((L.push T1).push T2).push T3).get? (L.objs.size+1)=ae T2:=by
   have:=be T3 (cV (L.push T1) (o:=T2) (by rw[<-m];rfl))
   rwa [s1]at this
  have g3:(((L.push T1).push T2).push T3).get? (L.objs.size+2)=ae T3:=by
   have:=cV ((L.push T1).push T2) (o:=T3) (by rw[<-b0];rfl)
   rwa [s2]at this
  have V:∀b o,L.get? b=ae o->(((L.push T1).push T2).push T3).get? b=ae o:=λb o e=>be _ (be _ (be _ e));have J:∀n,L.get? (L.objs.size+n)=ag:=λn=>by
   cases q:L.get? (L.objs.size+n)with
   |none=>rfl
   |some o=>exact absurd (gP q) (og.mpr (tq _ _))
  have hz:jb (((L.push T1).push T2).push T3) (L.objs.size+2) L.objs.size (L.objs.size+1) .none:=by rw[<-b0]at g3 |-;exact g3
  have hI:jz (((L.push T1).push T2).push T3) L.objs.size i1 i2:=by rw[<-w]at g1 |-;exact g1
  have hO:jz (((L.push T1).push T2).push T3) (L.objs.size+1) .none .none:=by rw[<-m]at g2 |-;exact g2
  refine HV (s:=sh z3 _ t3) hz ?_;obtain old:∀c∈o1,∃o,L.get? c=ae o:=λc O=>by obtain⟨o,e⟩:=r1.there c O;exact⟨o,T _ _ e⟩
  obtain d0:∀c∈o2,∃o,L.get? c=ae o:=r2.there;have Y:∀n,L.objs.size+n∉o1++o2:=λn R=>by
   rcases dX.mp R with R |R
   ·obtain⟨o,e⟩:=old _ R;rw[J]at e;cases e
   ·obtain⟨o,e⟩:=d0 _ R;rw[J]at e;cases e
  have f0:=Z.fresh (J 0);obtain f1:=Z.fresh (J 1);obtain f2:=Z.fresh (J 2);obtain IX:Inv (X.more [L.objs.size+1]) M m0 (((L.push T1).push T2).push T3):=Z.more V (λb hb=>by rw[aJ.mp hb];exact⟨J 1,_,g2⟩);have G5:Go X [] B h M L:=(u.trans (Go.keeps X M S [])).trans (Go.keeps X M T []);obtain G6:Go X [] B h M (((L.push T1).push T2).push T3):=G5.trans (Go.keeps X M V []);refine h0 z3 M _ t3 [L.objs.size+1] ((L.objs.size+2) :: (L.objs.size+1) :: (o1++o2)) (.ref (L.objs.size+2)) Z3 IX G6
   (.zip hz hI hO ⟨f2.1,f0.1,f1.1⟩ ⟨Z.ey (J 2),Z.ey (J 0),Z.ey (J 1)⟩ (gQ _ (.head _)) ⟨f0.2.1,λR=>by
     rcases dX.mp R with R |R
     ·exact absurd (aJ.mp R) (jX (jF _))
     ·exact f0.2.2 R⟩ ⟨jX (jF _),Y 2,Y 1,λc O R=>?_,Y 0⟩
    (bP.conv (X:=X) (Y:=X.more [L.objs.size+1]) rfl ((r1.ext T).ext V)) (bP.conv (X:=X) (Y:=X.more [L.objs.size+1]) rfl (r2.ext V))) (λc O=>?_) (λb hb=>by rw[aJ.mp hb];exact G5.fresh (J 1))
  ·obtain⟨o,e⟩:=r1.there c O;rw[c0 c R]at e;cases e
  ·rcases bu.mp O with rfl |O
   ·exact G5.fresh (J 2)
   rcases bu.mp O with rfl |O
   ·exact G5.fresh (J 1)
   rcases dX.mp O with O |O
   ·exact u.fresh (l0 c O)
   ·exact(u.trans (Go.keeps X M S [])).fresh (c0 c O)
theorem gH.more {es:aZ (Int×aw)}{t:gv}{a0:aw}{b0:ah (Int×aw)}(hb:∀b∈j,h.get? b=ag)(c:gH X B h a es ep t a0 i b0):gH (X.more j) B h a es ep t a0 i b0:=by
 cases c with
 |text hb=>exact .text hb
 |drawn E F H e G I=>exact .drawn E F (H.more e hb) e G I
 |one hb D=>exact .one hb D
 |done hb D J=>exact .done hb D J
theorem dT.more (hb:∀b∈j,h.get? b=ag)(r:dT X B h own ai it):dT (X.more j) B h own ai it:=by
 cases r with
 |simple r=>exact .simple (bP.conv (X:=X) (Y:=X.more j) rfl r)
 |enum W n b S r=>exact .enum W n b S (bP.conv (X:=X) (Y:=X.more j) rfl r)
 |zip M I N n b R F d U O=>exact .zip M I N n b (ia _ R) (F.more I hb) d (bP.conv (X:=X) (Y:=X.more j) rfl U) (bP.conv (X:=X) (Y:=X.more j) rfl O)
 |set n b K H J Q V G D E L T=>exact .set n b K (H.more J hb) J Q V G D E L (T.more hb)
def Dg {C:ay}(hs:fq C h H)(e:h.get? C=ae o)(f:gZ o):gY X X.bad B B h H:=⟨λu u=>id,λa J E F D k=>⟨E,F,by
 refine(hs.2 a λq=>?_).trans D;subst q;rw[e]at D;cases D;obtain⟨G,I,d,_⟩:=f;exact k.nd G I d⟩⟩
def aF.sameBut {C:ay}(hs:fq C h H)(e:h.get? C=ae o)(f:gZ o)(r:aF X B h x v):aF X B H x v:=r.dK (Dg hs e f)
def Inv.sameBut {C:ay}(a0:Inv X B I h)(hs:fq C h H)(e:h.get? C=ae o)(f:gZ o)(hC:C∉B)(hB:X.base.get? C=ag)(hb:C∉X.bad):Inv X B I H:=by
 refine⟨a0.len,a0.nodup,λi Q a L E=>?_,λb M D K=>?_,a0.new,a0.gg,a0.mods,?_,λb F=>?_⟩
 ·obtain⟨J,N,O⟩:=a0.obj i Q a L E;exact⟨J,(hs.2 a λq=>hC (q ▸ cD E)).trans N,O.dK (Dg hs e f)⟩
 ·exact(hs.2 b λq=>by rw[q,hB]at D;cases D).trans (a0.base b M D K)
 ·obtain⟨V,G,c⟩:=a0.tab;exact⟨V,(hs.2 _ λq=>a0.g7 hB q.symm).trans G,c⟩
 ·obtain⟨o,e⟩:=a0.gh b F;exact⟨o,(hs.2 b λq=>hb (q ▸ F)).trans e⟩
def Go.sameBut {ex:ah ay}{C:ay}(a0:Go X ex br h₀ B h)(hs:fq C h H)(hC:h₀.get? C=ag):Go X ex br h₀ B H:=by
 have F:∀a o,h₀.get? a=ae o->a≠C:=λa o e q=>by rw[q,hC]at e;cases e
 refine⟨⟨λa o e=>?_,a0.step.ext,λa o e I J L=>?_⟩,λa o e I f b=>?_⟩
 ·obtain⟨D,E⟩:=a0.step.there a o e;exact⟨D,(hs.2 a (F a o e)).trans E⟩
 ·obtain⟨D,E,k⟩:=a0.step.keep a o e I J L;exact⟨D,(hs.2 a (F a o e)).trans E,k⟩
 ·obtain⟨D,E,K⟩:=a0.fr a o e I f b;exact⟨D,(hs.2 a (F a o e)).trans E,K⟩
def Dh (e:B[i]? =ae a):(B++[D])[i]? =ae a:=by rw[lB (cF.mp e).1];exact e
def yB (hD:D∈j):gY (X.more j) X.bad B (B++[D]) h h:=⟨λu u=>Dh,λa o G F e u=>⟨λE=>by
 rcases dX.mp E with E |E
 ·exact G E
 ·rw[aJ.mp E]at F;exact F.2 (gQ _ hD),F.less,e⟩⟩
def aF.adopt (hD:D∈j)(r:aF (X.more j) B h x v):aF X (B++[D]) h x v:=aF.dK (X:=X.more j) (j:=X.bad) (yB hD) r
def OB.adopt (hD:D∈j)(b:OB (X.more j) B h ao o):OB X (B++[D]) h ao o:=OB.dK (X:=X.more j) (j:=X.bad) (yB hD) b
def Inv.adopt (hD:D∈j)(a0:Inv (X.more j) B I h)(e:h.get? D=ae o)(b:OB (X.more j) B h ao o)(hn:D∉B)(hB:X.base.get? D=ag):Inv X (B++[D]) (I++[ao]) h:=
 a0.snoc (yB hD) (λu E=>ia _ E) (λu u e=>e) hn hB e (b.adopt hD)
def Go.adopt {ex:ah ay}(a0:Go X ex br h₀ B h)(hD:h₀.get? D=ag):Go X ex br h₀ (B++[D]) h:=by
 obtain⟨H,rfl,F⟩:=a0.step.ext;refine⟨⟨a0.step.there,⟨H++[D],j2 ..,λa E=>?_⟩,a0.step.keep⟩,a0.fr⟩;rcases dX.mp E with E |E
 ·exact F a E
 ·rw[aJ.mp E];exact hD
def MM (b0:En X U G Q N B h):∀(names:ah (au×l8)) (d0 cs:ah (au×ak)) (c0:ah (au×ay)) (f:au×l8->ah (au×ay)->dn (t9 (ah (au×ay)))),
  (∀n kd c,f (n,kd) c=if kd == .free then (do let a0 <-xd G n;pure (.yield ((n,a0) :: c)))else pure (.yield c))->fY B d0 c0->fM ⟨F,Q,N⟩ names d0=ae cs->∃cl,fY B cs cl/\forIn names c0 f=pure cl:=by
 intro l;induction l with
 |nil=>
  intro d0 cs c0 f E D e;cases e;exact⟨c0,D,by rw[mn]⟩
 |cons H r M=>
  obtain⟨n,kd⟩:=H;intro d0 cs c0 f E D e;have e:(if (kd == kf)=aj then (match Q.lookup n with |some c=>fM ⟨F,Q,N⟩ r ((n,c) :: d0) |none=>ag)else fM ⟨F,Q,N⟩ r d0)=ae cs:=e;rw[pX,E];by_cases L:(kd == kf)=aj
  ·rw[aN L]at e |-;cases K:Q.lookup n with
   |none=>rw[K]at e;cases e
   |some c=>
    rw[K]at e;obtain⟨a,R,O⟩:=b0.cells n c K;obtain⟨cl,I,J⟩:=M ((n,c) :: d0) cs ((n,a) :: c0) f E (.cons R D) e;refine⟨cl,I,?_⟩;rw[show xd G n=pure a from by unfold cellOf;rw[O]]
    simpa using J
  ·rw[aK L]at e |-;obtain⟨cl,I,J⟩:=M d0 cs c0 f E D e;exact⟨cl,I,by simpa using J⟩
def Di {cs:ah (au×ak)}(a0:En X U G Q N B h)(e:fM ⟨F,Q,N⟩ aP.names []=ae cs):∃cl,fY B cs cl/\closureFor aP G=pure cl:=by
 obtain⟨cl,E,I⟩:=MM a0 (F:=F) aP.names [] cs [] (λx c=>match x with |(n,D)=>if D == .free then (do let a <-xd G n;pure (.yield ((n,a) :: c)))else pure (.yield c)) (λn D c=>rfl) .nil e;refine⟨cl,E,?_⟩;unfold closureFor;obtain H:(forIn aP.names ([]:ah (au×ay)) λx r=>match x with |(n,D)=>if (D == kf)=aj then do let a <-xd G n;pure (nz ((n,a) :: r))else pure (nz r))=pure cl:=I;simp only[bind_pure];exact H
theorem MN (G:bH)(x:au):(relabel aP G).names.lookup x=(aP.names.lookup x).map λk=>if (k == kf && G.scope.kind == .function && G.kindOf x == ae .cell)=aj then .cell else k:=by
 show(aP.names.map λ(n,k)=>if (k == kf && G.scope.kind == .function && G.kindOf n == ae .cell)=aj then (n,oG)else (n,k)).lookup x=_;induction aP.names with
 |nil=>rfl
 |cons p r D=>
  obtain⟨n,k⟩:=p;simp only[gc];have e:(if (k == kf && G.scope.kind == .function && G.kindOf n == ae .cell)=aj then (n,oG)else (n,k))=(n,if (k == kf && G.scope.kind == .function && G.kindOf n == ae .cell)=aj then oG else k):=by split <;>rfl
  rw[e,gx,gx];cases B:x == n with
  |true=>rw[bU.mp B];rfl
  |false=>exact D
def En.relabel {b0:bH}(a0:En X aP b0 Q N B h)(hs:b0.scope=aP):En X aP { b0 with scope:=PySem.relabel aP G } Q N B h:=by
 refine⟨?_,a0.glob,a0.blt,λx=>?_,a0.len,a0.ns,a0.fZ,a0.iz,a0.cells⟩
 ·have:=a0.kind;rw[hs]at this;exact this
 ·show uU (cM aP x) ((PySem.relabel aP G).names.lookup x);rw[MN];unfold cM;cases aP.names.lookup x with
  |none=>trivial
  |some D=>
   cases D with
   |free=>
    show uU (ae .free) (ae (if (kf == kf && G.scope.kind == HW && G.kindOf x == ae oG)=aj then oG else kf));generalize (kf == kf && G.scope.kind == HW && G.kindOf x == ae oG)=c;cases c
    ·exact .inr rfl
    ·exact .inl rfl
   |_=>first |rfl |trivial
theorem MO {s:aD}{f0:aH}{c0:bN}{i0:aw}(a0:ak->aD->Prop)(turn:∀n s,a0 n s->aA (aV prog w) A (ib it) (λr b0=>match r with
   |none=>R (.ok .next) b0
   |some v0=>aA (aV prog w) A (ru target it v0) (λg b0=>aA (aV prog w) A (ly target G v0) (λg e0=>
     aA (aV prog w) A (forIn ifs aj λc r=>if r=aj then do let ok <-tw c G (eval c G);pure (nz ok)else pure (nz r)) (λok d0=>
      if ok=aj then aA (aV prog w) A (eval elt G) (λx h0=>
       aA (aV prog w) A (call (.builtin "list.append") [i0,x]) (λg g0=>∃m,m < n/\a0 m g0) (nj (aV prog w) A G λe s'=>R (.error e) s') h0) (nj (aV prog w) A G λe s'=>R (.error e) s') d0
      else ∃m,m < n/\a0 m d0) (nj (aV prog w) A G λe s'=>R (.error e) s') e0) (nj (aV prog w) A G λe s'=>R (.error e) s') b0) (nj (aV prog w) A G λe s'=>R (.error e) s') b0) (nj (aV prog w) A G λe s'=>R (.error e) s') s)(n:ak)(h:a0 n s):kc (aV prog w) A (.compLoop (.ListComp elt [⟨target,f0,ifs,0⟩] c0 pos) 0 it i0 G) R s:=by
 refine codeAny_loop rfl a0 (λn s K=>?_) n h;show aA _ A ((compTurn (.ListComp elt [⟨target,f0,ifs,0⟩] c0 pos) 0 it i0 G).onRaise (λx=>do noteFrame x G;theTreesLotGoes x)) _ _ s;refine wpAny_noted ?_;rw[compTurn_list];refine wB (jE (wB (eB (turn n s K) (λr b0 B=>?_) λu u H=>H)));cases r with
 |none=>exact aC B
 |some v=>
  refine wB (eB B (λu b0 B=>?_) λu u H=>H);refine wB (eB B (λu e0 E=>wB (eB E (λok d0 D=>?_) λu u H=>H)) λu u H=>H);cases ok with
  |false=>exact aC ⟨rfl,D⟩
  |true=>
   exact wB (wB (eB D (λx h0 J=>wB (eB J (λu g0 F=>aC (aC ⟨rfl,F⟩)) λu u H=>H)) λu u H=>H))
def Dj {l:ay}{x:aw}{a0:aw->aD->Prop}(hl:IsL s.heap l O n)(b0:O.size<=Bf)(hQ:∀H n',IsL H l (O.push x) n'->fq l s.heap H->a0 .none { s with heap:=H }):
  aA (aV prog w) A (call (.builtin "list.append") [.ref l,x]) a0 E s:=
 nr F.slot_list_append ⟨_,hl,rfl⟩ F.entry_list_append (F.args_list_append_2 _ _) (PySem.list_append l O n x b0) ⟨hl,hQ _ _ (hl.update (·.push x)) (dY ..)⟩
def MP (ct:aH->DT):∀(ifs:ah aH),(∀c∈ifs,HT X F k U c (ct c))->∀(b:aB) {A:d8} {l:ah bH} {G:bH} {Q:ah (au×ak)} {N:ah (ax AV)} {B:ah ay} {I:St} {h:aG},Ctx X k U A l G Q N B I h->
  aW X A [] (RB X) B I h (forIn ifs b λc r=>if r=aj then do let ok <-tw c G (eval c G);pure (nz ok)else pure (nz r)) ((ifs.map ct).foldlM (λb t=>if b then t ⟨F,Q,N⟩else P.pure az) b):=by
 intro T;induction T with
 |nil=>
  intro _ b A l G Q N B I h K;intro z W D E H;rw[mn];exact aC (H _ _ _ _ (.refl _) K.inv (.refl ..) _ rfl)
 |cons c ifs R=>
  intro L b A l G Q N B I h K;intro z W D E H;rw[pX];have H:((if b=aj then ct c ⟨F,Q,N⟩else P.pure az)>>=λb=>(ifs.map ct).foldlM (λb t=>if b then t ⟨F,Q,N⟩else P.pure az) b).run I (aL X z [] B h (RB X) D E):=H;cases b with
  |false=>
   rw[aK (by simp)]at H |-;refine wB (aC ?_);exact R (λM O=>L M (.tail _ O)) az K z W D E H
  |true=>
   rw[aN rfl]at H |-;refine wB (wB ?_);refine(L c (.head _) K).then H λZ j V o Y x v w u S J=>?_;obtain rfl:x=v:=S;refine aC ?_;exact R (λM O=>L M (.tail _ O)) x (K.step w u) Z Y D E J
def MQ {f0:bH}{z':aD}{t':ak}{ex:ah ay}{d0:aw->aD->Prop}{i0:ax (aw->dn b8)}{k0:aw}{kx:aI}{e:ay}{β α:Type}{R':ah ay->aG->β->α->Prop}{Qf:α->aD->Prop}(K:Ctx X k U A l G Q N B I h)(h0:f0.frame=G.frame)(hC:h.get? f0.locals=ag)(g0:f0.locals∉J)(j0:f0.locals∉X.bad)(p:aL X z ex B h R' Qf E (.err kx) Z)(c0:Zs z z')(b0:Inv X J Z H)(a0:Go X [] B h J H)(hn:H.Ns f0.locals m)(x:eT kx e h H):nj (MX X) A f0 (λe s'=>xf (MX X) A E i0 d0 k0 f0.locals (.error e) s') (.ref e) (sh z' H t'):=by
 obtain⟨e0,l',rfl,O⟩:=K.top;obtain⟨L,hL⟩:∃L,G.frame=ae L:=by
  obtain⟨_,L,_,q,_⟩:=K.ar.dR e0 (.head _);exact⟨L,O ▸ q⟩
 refine vg (jH:=I) K.ar.frames (O.trans h0.symm) (h0.trans hL) b0 (K.ar.dR.step a0) K.inv a0 x λS R x1=>?_;have l0:∃m,(sh z' S t').heap.Ns f0.locals m/\∀F,fq f0.locals (sh z' S t').heap F->∀D:bH,D.locals=f0.locals->aA (MX X) A (PySem.passOn "comprehension.variables-let-go" (.ref e) D:dn aw) (λv v=>dm) E { sh z' S t' with heap:=F }:=by
  refine⟨m,R.ns _ _ hn,λF j D v=>?_⟩;obtain⟨oC,u,f,eC,dC,kC,_⟩:=R.ns _ _ hn;have fC:gZ oC:=⟨u,f,dC,kC⟩;have hB:X.base.get? f0.locals=ag:=K.inv.ey hC;have I2:Inv X J Z F:=R.inv.sameBut j eC fC g0 hB j0;have G2:Go X [] B h J F:=R.go.sameBut j hC;have b:∀{a:ay} {Y:Obj} {V:aZ aw},S.get? a=ae Y->Y.data= .fields V->F.get? a=ae Y:=λ{a Y V} w da=>by
   refine(j.2 a λq=>?_).trans w;rw[q,eC]at w;cases w;rw[dC]at da;cases da
  have F2:Frs X (e0 :: l') J F:=λen M=>by
   obtain⟨q1,L,o,q2,q3,q4,q5,q6⟩:=R.dR en M;refine⟨q1,L,o,q2,q3,q4,(j.2 L λq=>?_).trans q5,q6⟩;obtain⟨_,L',o',r2,_,_,r5,_⟩:=K.ar.dR en M;rw[q2]at r2;cases r2;rw[q,hC]at r5;cases r5
  obtain⟨a1,a2,a3,oe,V,b1,b2,W,b4,T,oT,ts,c1,c2,c3,c4,c5,c6,c7⟩:=id x1;have x2:mF kx e h F:=⟨a1,a2,a3,oe,V,b b1 W,b2,W,b4,T,oT,ts,c1,c2,c3,b c4 c6,c5,c6,c7⟩;unfold PySem.passOn;refine bO (e8 (b b1 W) W c1 ?_);rw[aK (by simp)];refine bO (sf (z:=z') (t:=t') (jH:=I) I2 F2 K.inv G2 x2 λh3 W3 x3=>?_);exact tS (p z' J h3 t' c0 W3.inv (W3.go.nil _) e x3.exc)
 cases i0 <;>exact l0
def aW.qr {ex:ah ay}{α e0 β d0:Type}{R:ah ay->aG->β->α->Prop}{R':ah ay->aG->d0->e0->Prop}{a0:e0->aD->Prop}{t:dn α}{m:P β}{g:β->P d0}(h1:aW (X.more j) A ex R B I h t m)(c0:Zs dE z)(b0:Go X [] br h₀ B h)(hx:∀a∈ex,h₀.get? a=ag)(hr:(m>>=g).run I (aL X dE fK br h₀ R' a0 E)){Q':α->aD->Prop}(hE:∀{kx:aI} {Z:St},aL X dE fK br h₀ R' a0 E (.err kx) Z->∀z' J H t',Zs dE z'->Inv (X.more j) J Z H->Go X [] br h₀ J H->Go X ex B h J H->∀e,eT kx e h₀ H->E' (.ref e) (sh z' H t'))(k:∀z' J Z H t' b a,Zs dE z'->Inv (X.more j) J Z H->Go X ex B h J H->Go X [] br h₀ J H->R J H b a->(g b).run Z (aL X dE fK br h₀ R' a0 E)->Q' a (sh z' H t')):aA (MX X) A t Q' E' (sh z h W):=by
 refine h1 z W Q' E' (m.mono (λr Z y=>?_) (show m.run I _ from hr));intro z' J H t' F D S;obtain G:Go X ex B h J H:=Go.less S;obtain S':=b0.CY G λa L=>.inl (hx a L);cases r with
 |ok b=>exact λa K=>k z' J Z H t' b a (c0.trans F) D G S' K y
 |err k=>exact λe x=>hE y z' J H t' (c0.trans F) D S' G e (x.oX b0.step.there)
set_option maxRecDepth 100000 in
def Dk:Slot "set_iterator" "__iter__" "set_iterator.__iter__":=
 .of (owner:="set_iterator") (n:="__iter__") (by rw[rj,rm];kernel_rfl) (by decide +kernel) (by decide +kernel) (by decide +kernel)
  (by first |exact .inl (by decide +kernel) |exact .inr (by decide +kernel)) (by rw[rn];kernel_rfl)
set_option maxRecDepth 100000 in
def MS (a:aw):pU "set_iterator.__iter__" ⟨[a],[]⟩:=by
 unfold argsOk;rw[signature?_of (id:="set_iterator.__iter__") (n:=['_','_','r','e','t','i','_','_']) (o:=['r','o','t','a','r','e','t','i','_','t','e','s']) (by kernel_rfl) CN];kernel_rfl
set_option maxRecDepth 100000 in
def MT:AP table "set_iterator.__iter__"=ae j4.«dict_keyiterator.__iter__»:=
 Hk (id':="dict_keyiterator.__iter__") (by rw[wQ];kernel_rfl) rfl (by rw[PySem.W.Fast.canonicalY_eq];kernel_rfl) (by rw[wQ];kernel_rfl)
set_option tactic.hygienic true in theorem dT.self {b0 : aw → aD → Prop} (r : dT X B h own ai it) (a0 : Inv X B I h) (MU : ∀ i, ai = .obj i → ∃ s k, I[i]? = ae (.iter s k)) (hQ : b0 it (sh z h W)) : aA (MX X) A (gb it) b0 E (sh z h W) := by
 cases r with
 |simple r=>
  cases r with
  |list e hi n b=>exact wpAny_pyIter_listiter (s:=sh z h W) hi hQ
  |range hi n b=>exact HU (s:=sh z h W) hi hQ
  |obj e=>
   rename_i i a;obtain⟨s,k,e1⟩:=MU i rfl;obtain⟨o,eo,bo⟩:=a0.obj i _ a e1 e;have hc:o.cls= .type "list_iterator":=by cases s with
    |none=>exact bo.1
    |some s=>exact bo.1
   obtain hT:(sh z h W).TypeIs (.ref a) "list_iterator":=⟨_,eo,hc⟩;refine oB hT j8 (gy j8 hT rz ?_ (rA _));exact aC ⟨_,rfl,"list_iterator",_,hT,j5.lookup,hQ⟩
 |enum he n b ne r=>exact HQ (s:=sh z h W) he hQ
 |zip hz hI hO n b j xM d r1 r2=>exact HV (s:=sh z h W) hz hQ
 |set n b na xN ho hd hf kI mH good hi hc=>
  obtain hT:(sh z h W).TypeIs (.ref _) "set_iterator":=⟨_,hi,rfl⟩;refine oB hT Dk (gy Dk hT MT ?_ (MS _));exact aC ⟨_,rfl,"set_iterator",_,hT,vk.lookup,hQ⟩
def Dl {l:ah bH}{t h0:aH}{A0:fk}{ce:DE}{ct:aH->DT}{v0:ax (aw->dn b8)}{a0:aw->aD->Prop}{ex:ah ay}{cs:ah (au×ak)}{P0 M0:Type}{R':ah ay->aG->P0->M0->Prop}{Qf:M0->aD->Prop}{g:AV->P P0}(K:Ctx X k U A l G Q N B I h)(hi:HI X F k U h0 ci)(ht:∀j,HA (X.more j) F k aP t ca)(he:∀j,HE (X.more j) F k aP elt ce)(H0:∀j,∀c∈ifs,HT (X.more j) F k aP c (ct c))(hm:iO h0=aj)(B0:fc aP=aj)(a1:fM ⟨F,Q,N⟩ aP.names []=ae cs)(hr:(ci ⟨F,Q,N⟩>>=λai=>P.guard (fL t ai=aj)>>=λ_=>cP F aP cs []>>=λr2=>cw ce (ifs.map ct) ca n ai r2 []>>=λl=>cz l>>=g).run I (aL X z ex B h R' Qf E))(f1:∀z' J Z H t' i D C m,Zs z z'->Inv X J Z H->Go X [] B h J H->J[i]? =ae D->H.Ns C m->h.get? C=ag->C∉J->C∉X.bad->(g (.ref i)).run Z (aL X z ex B h R' Qf E)->xf (MX X) A E v0 a0 (.ref D) C (.ok .next) (sh z' H t')):
  aA (MX X) A (comprehension (.ListComp elt [⟨t,h0,ifs,0⟩] aP pos) aP G A0 (wH []) az (eval h0 G) v0) a0 E (sh z h W):=by
 revert X h B I A F U aP k W n E z pos G Q N elt ci ca ifs l t h0 A0 ce ct v0 a0 ex cs P0 M0 R' Qf g K hi ht he H0 hm B0 a1 hr f1;intros _ X h B I A F U aP k W n E z pos G Q N elt ci ca ifs l t;intros _ h0 A0 ce ct v0 a0 ex cs;intros _ P0 M0;intros _ R' Qf g _ K hi ht he H0 hm B0 a1 hr f1;obtain⟨E1,_,_,L0⟩:=C2 B0;obtain (⟨cl,K1,p1⟩):=Di K.en a1;refine wpAny_comprehension_free (gs:=[]) (g:=⟨t,h0,ifs,0⟩) rfl (λx=>CR hm G x) p1 E1 L0 ?_;refine hi K z W _ E ((ci ⟨F,Q,N⟩).mono ?_ (show(ci ⟨F,Q,N⟩).run I _ from hr));intros _ l1 D1 _ y;cases l1 with
 |err kx=>exact λz' J H t' S M L e x=>y z' J H t' S M (L.nil _) e x
 |ok ai=>
  intros ai _ y;intros ai _ y;intros _ z1 w0 h1 t1 j p0 it _ Z1 I1 G1 r1 ho d2;obtain⟨Y1,y⟩:=a6 (show(P.guard (fL t ai=aj)>>=λ_=>cP F aP cs []>>=λr2=>cw ce (ifs.map ct) ca n ai r2 []>>=λl=>cz l>>=g).run D1 (aL X z ex B h R' Qf E) from y);refine om ?_ (by show 0<=2 ^ 24;decide);generalize e1:({ cls:=.type "list",data:=.seq ([]:ah aw).toArray }:Obj)=Lo;have b0:h1.get? h1.objs.size=ag:=eU h1;have o1:(h1.push Lo).get? h1.objs.size=ae Lo:=cV _ (by rw[<-e1];rfl);have c1:∀b o,h1.get? b=ae o->(h1.push Lo).get? b=ae o:=λb o e=>be _ e;generalize e2:h1.objs.size=D at *;generalize c2:h1.push Lo=h2 at *;have G2:Go X [] B h w0 h2:=G1.trans (Go.keeps X w0 c1 []);have L1:∀b∈[D],h1.get? b=ag:=λb hb=>by rw[aJ.mp hb];exact b0
  have I2:Inv ((X.more j).more [D]) w0 D1 h2:=I1.more c1 λb hb=>by rw[aJ.mp hb];exact⟨b0,_,o1⟩
  have r2:dT ((X.more j).more [D]) w0 h2 p0 ai it:=(r1.more L1).dr (Dr.keeps [] w0 c1) (λ_ hc=>nomatch hc) (λ_ _ hc=>nomatch hc);have S0:h.get? D=ag:=G1.fresh b0;have C0:D∉w0:=(I1.fresh b0).1;have eX:(X.more j).more [D]=X.more ([D]++j):=rfl;rw[eX]at I2 r2;generalize R1:[D]++j=bb at *;have T0:D∈bb:=by rw[<-R1];exact .head _
  have m0:D∉p0:=λhm=>by
   obtain⟨_,_,q⟩:=r1.gn D hm;rcases q with q |⟨o,V,q,_⟩
   ·obtain⟨o,e⟩:=I1.gh D q;rw[b0]at e;cases e
   ·rw[b0]at q;cases q
  refine(vo (F:=F) (X:=X.more bb) (g0:=[]) (vb:=[]) (c0:=ae G) E1 K.en.glob K.en.blt I2 .nil (K1.step G2.step)).qr Z1 G2 (λ_ hm=>nomatch hm) y (λp z' J H t' S M L _ e x=>p z' J H t' S M.less (L.nil _) e x) ?_;intros _ z3 N0 b1 h3 t3 rt T _ Z3 I3 G3 b2 re s0;obtain⟨hF,N3,i1,J1,F1⟩:=re;obtain⟨F',Y,o0⟩:=rt;intros F' Y o0 _ s0 hF N3
  replace hF:F'=F:=hF
  subst F';intros Y o0 _ s0 N3;have O0:T.scope=aP:=by rw[F1];rfl
  have n0:T.frame=G.frame:=by rw[F1];rfl
  have N4:En (X.more bb) aP { T with scope:=PySem.relabel aP G } Y o0 N0 h3:=N3.relabel O0;have R0:h.get? T.locals=ag:=G2.fresh i1;have y1:T.locals∉X.bad:=λhm=>by obtain⟨o,e⟩:=K.inv.gh _ hm;rw[R0]at e;cases e
  have l0:T.locals∉p0:=λhm=>by
   obtain⟨_,_,q⟩:=r2.gn _ hm;rcases q with q |⟨o,V,q,_⟩
   ·obtain⟨o,e⟩:=I2.gh _ q;rw[i1]at e;cases e
   ·rw[i1]at q;cases q
  have hx:∀c∈p0,c∉[T.locals]:=λc hc hm=>l0 (aJ.mp hm ▸ hc);have r3:dT (X.more bb) N0 h3 p0 ai it:=r2.step I2 (Go.more G3) (λ_ _ hm=>nomatch hm);have H1:h3.get? D=ae Lo:=G3.seq o1 (by rw[<-e1]) C0 (I1.fresh b0).2.1;have j1:D∉N0:=G3.step.dt o1 C0;have Y0:kc (MX X) A (.compLoop (.ListComp elt [⟨t,h0,ifs,0⟩] aP pos) 0 it (.ref D) { T with scope:=PySem.relabel aP G }) (xf (MX X) A E v0 a0 (.ref D) T.locals) (sh z3 h3 t3):=by
   refine MO (λn s=>∃z' J Z H t' c0 g0 u O n',s=sh z' H t'/\Zs z z'/\Inv (X.more bb) J Z H/\Go X [] B h J H/\En (X.more bb) aP { T with scope:=PySem.relabel aP G } Y c0 J H/\dT (X.more bb) J H p0 g0 it/\fL t g0=aj/\D∉J/\
    H.get? D=ae { cls:=.type "list",data:=.seq (mc O) n' }/\aT (X.more bb) J H u O/\u.length<=4097/\(cw ce (ifs.map ct) ca n g0 ⟨F,Y,c0⟩ u>>=λl=>cz l>>=g).run Z (aL X z ex B h R' Qf E)) ?_ n
    ⟨z3,N0,b1,h3,t3,o0,ai,[],[],0,rfl,Z3,I3,b2,N4,r3,Y1,j1,by rw[H1,<-e1],.nil,by simp,s0⟩
   intros _ n s _ hh;obtain (⟨z',J,Z,H,t',c0,g0,u,O,n',rfl,Z',I',G',N',r',u1,d0,gD,W0,C1,u0⟩):=hh;have err:∀{kx:aI} {w:St},aL X z ex B h R' Qf E (.err kx) w->∀{z5:aD} {f0:ah ay} {f:aG} {t5:ak},Zs z z5->Inv (X.more bb) f0 w f->Go X [] B h f0 f->(∃o,f.get? T.locals=ae o/\gZ o)/\T.locals∉f0->∀e,eT kx e h f->
     nj (MX X) A { T with scope:=PySem.relabel aP G } (λe s'=>xf (MX X) A E v0 a0 (.ref D) T.locals (.error e) s') (.ref e) (sh z5 f t5):=by
    intros _ kx w _ p _ z5 f0 f t5 _ Z5 I5 G5 N5 _ e _ x;obtain⟨⟨o,eo,es,ep,d,ks⟩,X1⟩:=N5;exact MQ (f0:={ T with scope:=PySem.relabel aP G }) (m:=λx=>jy es x) K n0 R0 X1 y1 p Z5 I5.less G5 ⟨o,es,ep,eo,d,ks,λ_=>rfl⟩ x
   have g1:∀{U0:ah (ax AV)} {f0 i0:ah ay} {f h6:aG} {w1:ah ay},En (X.more bb) aP { T with scope:=PySem.relabel aP G } Y U0 f0 f->Go X w1 f0 f i0 h6->(∃o,h6.get? T.locals=ae o/\gZ o)/\T.locals∉i0:=by
    intro U0 f0 i0 f h6 w1 R L;obtain (⟨m,⟨o,es,ep,e,d,ks,_⟩,_⟩):=R.ns;exact⟨L.fr _ o e R.fZ ⟨es,ep,d,ks⟩ R.iz,L.step.dt e R.fZ⟩
   cases n with
   |zero=>exact u0.elim
   |succ n=>
    intros n _ u0;intros n _ u0;have u0:(bx g0>>=λo=>(match o with
      |Option.none=>P.pure u
      |some (v,jJ)=>ca v ⟨F,Y,c0⟩>>=λN=>(ifs.map ct).foldlM (λb t=>if b then t ⟨F,Y,N⟩else P.pure az) aj>>=λok=>if ok then (P.guard (u.length<=4096)>>=λ_=>ce ⟨F,Y,N⟩>>=λx=>cw ce (ifs.map ct) ca n jJ ⟨F,Y,N⟩ (u++[x]))else cw ce (ifs.map ct) ca n jJ ⟨F,Y,N⟩ u)>>=λl=>cz l>>=g).run Z (aL X z ex B h R' Qf E):=by
     rw[<-P.g8];exact u0
    refine CQ (X:=X.more bb) (target:=t) (I:=Z) (z:=z') (W:=t') r' I' K.ar.handled u1 ((bx g0).mono ?_ (yo g0 (show(bx g0).run Z _ from u0)));intros _ l1 w _ y5;cases l1 with
    |err kx=>exact y5
    |ok o=>cases o with
     |none=>
      intros _ f t5 _ I5 D5;have y5:(cz u>>=g).run w (aL X z ex B h R' Qf E):=y5;have G5:Go X [] B h J f:=G'.dr D5 ho;have K0:f.get? D=ae { cls:=.type "list",data:=.seq (mc O) n' }:=D5.keep _ _ gD m0 d0;have k0:=aT.jn (λr=>r.dr D5 r'.gn) W0;have N5:=N'.dr D5 r'.gn l0;obtain⟨hl,y6⟩:=a6 (show(P.guard (u.length<=4096)>>=λ_=>(P.alloc (.list u)>>=λi=>P.pure (.ref i))>>=g).run w (aL X z ex B h R' Qf E) from by
       rw[<-P.g8];exact y5)
      have y6:(g (.ref w.length)).run (w++[.list u]) (aL X z ex B h R' Qf E):=y6;have hB:X.base.get? D=ag:=K.inv.ey S0;have I6:Inv X (J++[D]) (w++[.list u]) f:=I5.adopt T0 K0 ⟨O,n',rfl,k0,by exact FI 0 4096 0 10000 hl rfl⟩ d0 hB;have G6:Go X [] B h (J++[D]) f:=G5.adopt S0;obtain (⟨m,v1,_⟩):=N5.ns;have n1:T.locals≠D:=λq=>by
       obtain (⟨o,es,ep,e,d,_⟩):=v1;have e':f.get? T.locals=ae o:=e;rw[q,K0]at e';cases e';cases d
      refine f1 z' (J++[D]) (w++[.list u]) f t5 w.length D T.locals m Z' I6 G6 (by rw[<-I5.len];simp) v1 R0 (λhm=>?_) y1 y6;rcases dX.mp hm with hm |hm
      ·exact N5.fZ hm
      ·exact n1 (aJ.mp hm)
     |some q=>
      intros q _ y5;obtain⟨xv,r0⟩:=q;intros xv r0 _ y5;intros xv r0 _ y5;intros _ f t5 v _ I5 D5 r5 V0 rv;have y5:((ca xv ⟨F,Y,c0⟩>>=λN=>(ifs.map ct).foldlM (λb t=>if b then t ⟨F,Y,N⟩else P.pure az) aj>>=λok=>if ok then (P.guard (u.length<=4096)>>=λ_=>ce ⟨F,Y,N⟩>>=λx=>cw ce (ifs.map ct) ca n r0 ⟨F,Y,N⟩ (u++[x]))else cw ce (ifs.map ct) ca n r0 ⟨F,Y,N⟩ u)>>=λl=>cz l>>=g).run w (aL X z ex B h R' Qf E):=y5;rw[P.g8]at y5;have G5:Go X [] B h J f:=G'.dr D5 ho;have K0:f.get? D=ae { cls:=.type "list",data:=.seq (mc O) n' }:=D5.keep _ _ gD m0 d0;have k0:=aT.jn (λr=>r.dr D5 r'.gn) W0;have N5:=N'.dr D5 r'.gn l0;have K5:Ctx (X.more bb) k aP A l { T with scope:=PySem.relabel aP G } Y c0 J w f:=⟨K.ok.more,(K.ar.step G5).more,by obtain (⟨e0,l',q1,q2⟩):=K.top;exact⟨e0,l',q1,q2.trans n0.symm⟩,I5,N5,λq=>(yv B0 q).elim⟩;have a2:∀a∈[T.locals],h.get? a=ag:=λa hm=>by rw[aJ.mp hm];exact R0
      refine(ht bb K5 rv).qr Z' G5 a2 y5 (λp z6 i0 h6 t6 Z6 I6 G6 Gx e x=>err p Z6 I6 G6 (g1 N5 Gx) e x) ?_;intros _ z6 i0 N1 h6 t6 I0 u6 _ Z6 I6 Q0 G6 N6 y6;have K6:Ctx (X.more bb) k aP A l { T with scope:=PySem.relabel aP G } Y I0 i0 N1 h6:=⟨K.ok.more,(K.ar.step G6).more,K5.top,I6,N6,λq=>(yv B0 q).elim⟩;have r6:=r5.step I5 (Go.more Q0) hx;have A1:=Q0.seq K0 rfl d0 (I1.fresh b0).2.1;have z0:D∉i0:=Q0.step.dt K0 d0;have s1:=k0.step (Go.more Q0).step;rw[P.g8]at y6;refine(MP ct ifs (H0 bb) aj K6).qr Z6 G6 (λ_ hm=>nomatch hm) y6 (λp z7 d1 h7 t7 Z7 I7 G7 Gx e x=>err p Z7 I7 G7 (g1 N6 Gx) e x) ?_;intros _ z7 d1 W1 h7 t7 ok M1 _ Z7 I7 E0 G7 P1 y7;obtain rfl:ok=M1:=P1;have K7:=K6.step I7 (Go.more E0);have r7:=r6.step I6 (Go.more E0) (λ_ _ hm=>nomatch hm);have m1:=E0.seq A1 rfl z0 (I1.fresh b0).2.1;have j0:D∉d1:=E0.step.dt A1 z0;have x0:=s1.step (Go.more E0).step;cases ok with
      |false=>exact⟨n,jF n,z7,d1,W1,h7,t7,I0,r0,u,O,n',rfl,Z7,I7,G7,K7.en,r7,V0,j0,m1,x0,C1,y7⟩
      |true=>
       rw[aN rfl];rw[aN rfl,P.g8]at y7;obtain⟨B1,y7⟩:=a6 y7;rw[P.g8]at y7;refine(he bb K7).qr Z7 G7 (λ_ hm=>nomatch hm) y7 (λp z8 G0 h8 t8 Z8 I8 G8 Gx e x=>err p Z8 I8 G8 (g1 K7.en Gx) e x) ?_;intros _ z8 G0 S1 h8 t8 xe ve _ Z8 I8 y0 G8 re y8;have K8:=K7.step I8 (Go.more y0);have r8:=r7.step I7 (Go.more y0) (λ_ _ hm=>nomatch hm);have x1:=y0.seq m1 rfl j0 (I1.fresh b0).2.1;have J0:D∉G0:=y0.step.dt m1 j0;have F0:=x0.step (Go.more y0).step;refine Dj (s:=sh z8 h8 t8) x1 (by rw[cG,F0.length,fH];exact FI 0 4096 0 16777216 B1 rfl) ?_;intros _ h9 n9 _ Z0 U1;rw[List.push_toArray]at Z0;have OD:eG (X.more bb) G0 h8 [D]:=λc hc=>by
        rw[aJ.mp hc];exact⟨J0,K.inv.ey S0,.inl (gQ _ T0)⟩
       have D9:Dr [D] [] h8 h9:=Dr.same (.head _) U1 Z0;have n1:T.locals∉[D]:=λhm=>by
        obtain (⟨m,⟨o,es,ep,e,d,_⟩,_⟩):=K8.en.ns;have e':h8.get? T.locals=ae o:=e;rw[aJ.mp hm,x1]at e';cases e';cases d
       have O1:Go X [] B h G0 h9:=G8.dr D9.widen (λc hc=>by rw[aJ.mp hc];exact S0);exact⟨n,jF n,z8,G0,S1,h9,t8,I0,r0,u++[xe],O++[ve],n9,rfl,Z8,I8.dr OD D9,O1,K8.en.dr D9.widen OD n1,r8.dr D9.widen OD (λc hc hm=>m0 (aJ.mp hm ▸ hc)),V0,J0,Z0,
        (F0.append (.cons re .nil)).jn (λr=>r.dr D9.widen OD),by simp;exact B1,y8⟩
  refine codeAny_compStart_list Y0 ?_;refine dT.self (X:=X.more bb) (I:=b1) r3 I3 ?_ Y0;intros _ i _ hi;subst hi;cases n with
  |zero=>exact s0.elim
  |succ n=>
   intros n _ hr y s0;have T1:(bx (.obj i)).run b1 _:=s0;obtain⟨o,e,Q1⟩:=eV T1;cases o with
   |iter s kk=>exact⟨s,kk,e⟩
   |_=>exact Q1.elim
def Dm {t a0:aH}{ce:DE}{ct:aH->DT}(hi:HI X F k U a0 ci)(ht:∀j,HA (X.more j) F k aP t ca)(he:∀j,HE (X.more j) F k aP elt ce)(c0:∀j,∀c∈ifs,HT (X.more j) F k aP c (ct c)):
  HE X F k U (.ListComp elt [⟨t,a0,ifs,0⟩] aP pos) (λrt=>do
   P.guard (iO a0=aj)
   P.guard (fc aP=aj)
   let cs <-P.opt (fM rt aP.names [])
   let b0 <-ci rt
   P.guard (fL t b0=aj)
   let r2 <-cP rt.F aP cs []
   let l0 <-cw ce (ifs.map ct) ca n b0 r2 []
   cz l0):=by
 intro A l G Q N B I h K z W L E M;obtain⟨hm,M⟩:=a6 M;obtain⟨u,M⟩:=a6 M;obtain⟨cs,V,M⟩:=c9 M;rw[eval_ListComp];have qm:(ci ⟨F,Q,N⟩>>=λw=>P.guard (fL t w=aj)>>=λv=>cP F aP cs []>>=λr2=>cw ce (ifs.map ct) ca n w r2 []>>=λl=>cz l>>=P.pure).run I (aL X z [] B h (RV X) L E):=by
  obtain e:∀l,(cz l>>=P.pure)=cz l:=λl=>by
   show(⟨_,_⟩:P AV)=_
   congr 1
   try (funext I p;show(cz l).run I _=(cz l).run I p;congr 1;funext r Z;cases r <;>rfl)
  simp only[e];exact M
 refine Dl (v0:=ag) (g:=P.pure) K hi ht he c0 hm u V qm λz' J Z H t' i D C m f I' G' hD R S O T Y=>?_;refine⟨m,R,λh2 b=>?_⟩;obtain⟨o,es,ep,e,d,ks,_⟩:=R;exact Y z' J h2 t' f (I'.sameBut b e ⟨es,ep,d,ks⟩ O (K.inv.ey S) T) (G'.sameBut b S) _ (.ref hD)
def MV {N:ah (ax AV)}{t:aH}{a:DA}(hd:HE X F k U e d)(ha:HA X F k U t a)(K:Ctx X k U A l G Q N B I h)(a0:ow e (ae t) pos.line G=pure az)(hq:ku e=az)(hp:dg t=aj):
  aW X A [G.locals] (RS X U G Q) B I h (exec (.Assign [t] e pos) G) (d ⟨F,Q,N⟩>>=λv=>a v ⟨F,Q,N⟩>>=λN=>P.pure (.next,N)):=by
 intro z W D E Y;rw[wN];refine wB (jE ?_);show aA _ _ (ow e (ae t) pos.line G>>=_) _ _ _;rw[a0];refine bO (aC ?_);rw[aK (by simp)];refine wB ?_;refine(hd K).value Y λz1 M j w f x v R O V J=>?_;rw[vi hq];refine wB (aC ?_);rw[qk t [] G hp];show aA _ _ (ly t G v>>=λy=>pure Flow.next) _ _ _;refine wB ?_;refine(ha (K.step R O) V).then J λz2 T u o m L y S b Z H=>?_;exact aC (H _ _ _ _ (.refl _) S (.refl ..) _ ⟨.next,Z⟩)
def MW {b0:ah Comprehension}{a0:fk}(t:aH)(c0:ak)(G:bH):∃b,ow (.ListComp elt b0 aP a0) (ae t) c0 G=pure b/\(b=aj->∃y py,t= .Name y py):=by
 cases t with
 |Name y py=>exact⟨_,rfl,λu=>⟨y,py,rfl⟩⟩
 |_=>exact⟨az,rfl,λq=>by cases q⟩
theorem MY {t a0 c0:aH}{b0:fk}{ce:DE}{ct:aH->DT}{a:DA}(hi:HI X F k U a0 ci)(ht:∀j,HA (X.more j) F k aP t ca)(he:∀j,HE (X.more j) F k aP elt ce)(d0:∀j,∀c∈ifs,HT (X.more j) F k aP c (ct c))(ha:HA X F k U c0 a):
  HS X F k U (.Assign [c0] (.ListComp elt [⟨t,a0,ifs,0⟩] aP b0) pos) (λrt=>do
   P.guard (ku (.ListComp elt [⟨t,a0,ifs,0⟩] aP b0)=az/\dg c0=aj)
   let v0 <-(do
    P.guard (iO a0=aj)
    P.guard (fc aP=aj)
    let cs <-P.opt (fM rt aP.names [])
    let f0 <-ci rt
    P.guard (fL t f0=aj)
    let r2 <-cP rt.F aP cs []
    let l0 <-cw ce (ifs.map ct) ca n f0 r2 []
    cz l0)
   let e0 <-a v0 rt
   P.pure (.next,e0)):=by
 intros _ A l G Q N B I h _ K _ z W L E _ M;obtain⟨⟨hq,hp⟩,M⟩:=a6 M;obtain⟨b,hb,h0⟩:=MW (elt:=elt) (b0:=[⟨t,a0,ifs,0⟩]) (aP:=aP) (a0:=b0) c0 pos.line G;cases b with
 |false=>
  exact MV (d:=λrt=>do
    P.guard (iO a0=aj)
    P.guard (fc aP=aj)
    let cs <-P.opt (fM rt aP.names [])
    let O <-ci rt
    P.guard (fL t O=aj)
    let r2 <-cP rt.F aP cs []
    let l <-cw ce (ifs.map ct) ca n O r2 []
    cz l) (Dm hi ht he d0) ha K hb hq hp z W L E M
 |true=>
  obtain (⟨y,py,rfl⟩):=h0 rfl;rw[exec_Assign_Name_used _ _ _ _ hb];refine wB (jE (wB ?_));have M:((P.guard (iO a0=aj)>>=λp=>P.guard (fc aP=aj)>>=λp=>P.opt (fM ⟨F,Q,N⟩ aP.names [])>>=λcs=>ci ⟨F,Q,N⟩>>=λO=>P.guard (fL t O=aj)>>=λp=>cP F aP cs []>>=λr2=>cw ce (ifs.map ct) ca n O r2 []>>=λl=>cz l)>>=λv=>a v ⟨F,Q,N⟩>>=λN=>P.pure (FL.next,N)).run I (aL X z [G.locals] B h (RS X U G Q) L E):=M;rw[P.g8]at M;obtain⟨hm,M⟩:=a6 M;rw[P.g8]at M;obtain⟨n0,M⟩:=a6 M;rw[P.g8]at M;obtain (⟨cs,j0,M⟩):=c9 M;have qm:(ci ⟨F,Q,N⟩>>=λO=>P.guard (fL t O=aj)>>=λp=>cP F aP cs []>>=λr2=>cw ce (ifs.map ct) ca n O r2 []>>=λl=>cz l>>=λv=>a v ⟨F,Q,N⟩>>=λN=>P.pure (FL.next,N)).run I (aL X z [G.locals] B h (RS X U G Q) L E):=by
   rw[P.g8]at M;refine(ci ⟨F,Q,N⟩).mono (λr Z y=>?_) (show(ci ⟨F,Q,N⟩).run I _ from M);cases r with
   |err kx=>exact y
   |ok O=>
    have y:((P.guard (fL t O=aj)>>=λp=>cP F aP cs []>>=λr2=>cw ce (ifs.map ct) ca n O r2 []>>=λl=>cz l)>>=λv=>a v ⟨F,Q,N⟩>>=λN=>P.pure (FL.next,N)).run Z (aL X z [G.locals] B h (RS X U G Q) L E):=y;rw[P.g8]at y;refine(P.guard (fL t O=aj)).mono (λr Z y=>?_) (show(P.guard (fL t O=aj)).run Z _ from y);cases r with
    |err kx=>exact y
    |ok _=>
     have y:((cP F aP cs []>>=λr2=>cw ce (ifs.map ct) ca n O r2 []>>=λl=>cz l)>>=λv=>a v ⟨F,Q,N⟩>>=λN=>P.pure (FL.next,N)).run Z (aL X z [G.locals] B h (RS X U G Q) L E):=y;rw[P.g8]at y;refine(cP F aP cs []).mono (λr Z y=>?_) (show(cP F aP cs []).run Z _ from y);cases r with
     |err kx=>exact y
     |ok r2=>
      have y:((cw ce (ifs.map ct) ca n O r2 []>>=λl=>cz l)>>=λv=>a v ⟨F,Q,N⟩>>=λN=>P.pure (FL.next,N)).run Z (aL X z [G.locals] B h (RS X U G Q) L E):=y;rw[P.g8]at y;exact y
  show aA _ A (do let _ <-comprehension (.ListComp elt [⟨t,a0,ifs,0⟩] aP b0) aP G _ (wH []) az (eval a0 G) (ae (ly (.Name y py) G))) _ _ _;refine wB (eB (Dl (v0:=ae (ly (.Name y py) G)) (a0:=λp s'=>L .next s') (g:=λv=>a v ⟨F,Q,N⟩>>=λN=>P.pure (FL.next,N)) K hi ht he d0 hm n0 j0 qm ?_) (λp s' q=>aC (aC q)) λp p q=>q);intros _ z' J Z H t' i D C m _ Z' I' G' hD i0 S T g0 p0;show aA (MX X) A (ly (.Name y py) G (.ref D)) _ E (sh z' H t');obtain K':=K.step I' G';refine(ha K' (.ref hD)).inner Z' (G'.nil [G.locals]) (λa hm=>.inr hm) p0 (λy=>y.same) ?_;intros _ z3 u x0 h3 t3 w0 y0 _ Z3 I3 G3 r0 R u0;obtain (⟨o,f,ep,e,d,ks,s0⟩):=i0;have Y:C∉[G.locals]:=λV=>by
   obtain (⟨m2,⟨o2,_,_,w,_⟩,_⟩):=K.en.ns;rw[<-aJ.mp V,S]at w;cases w
  obtain (⟨o',e',ko⟩):=G3.step.keep C o e T (K.inv.g7 (K.inv.ey S)) (λV=>absurd V Y);have d':o'.data= .dict f ep:=ko.data.trans d;refine⟨m,⟨o',f,ep,e',d',ks,s0⟩,?_⟩;intros _ h4 _ hs;obtain k0:C∉u:=G3.step.dt e T;obtain I4:=I3.sameBut hs e' ⟨f,ep,d',ks⟩ k0 (K.inv.ey S) g0;obtain G4:=r0.sameBut hs S;refine u0 z3 u h4 t3 Z3 I4 G4 .next ⟨.next,?_⟩;refine⟨R.kind,R.glob,R.blt,R.kinds,R.len,?_,R.fZ,R.iz,R.cells⟩;obtain (⟨m3,⟨o3,m0,o0,e3,r3⟩,q3⟩):=R.ns;exact⟨m3,⟨o3,m0,o0,(hs.2 _ λq=>Y (by rw[q];exact .head _)).trans e3,r3⟩,λx i v e1 w e4=>by obtain⟨v',a1,a2⟩:=q3 x i v e1 w e4;exact⟨v',a1,a2.sameBut hs e' ⟨f,ep,d',ks⟩⟩⟩
theorem yC {x:au}{v:AV}{a0:aw->aD->Prop}(C:cn X)(b0:Inv X B I h)(c0:En X U G Q N B h)(hk:cM U x=ae .globalImplicit)(hg:qb x=ae v)(hn:(x == aq "__debug__" || x == aq "__classdict__")=az)(hQ:∀v',SV X v v'->a0 v' (sh z h W)):
  aA (MX X) A (eval (.Name x p) G) a0 E (sh z h W):=by
 rw[HX]at hn;have oZ:=c0.kinds x;rw[hk]at oZ;refine wpAny_Name ?_ hn.1;obtain⟨H,J,D,F,r⟩:=C.gl;have q:aA (MX X) A (loadGlobal G x) a0 E (sh z h W):=by
  rcases r x v hg with ⟨v',e,sv⟩ |⟨e0,v',e,sv⟩
  ·exact PySem.Calls.loadGlobal_global (by rw[c0.glob];exact b0.ns D (by decide)) e (hQ _ sv)
  ·exact PySem.Calls.loadGlobal_builtin (by rw[c0.glob];exact b0.ns D (by decide)) e0 (by rw[c0.blt];exact b0.ns F (by decide)) e (hQ _ sv)
 rw[loadName_read c0.kind oZ];exact q
theorem MZ {x:au}{v:AV}{rt:RT}{p:Res (ah (ax AV))->St->Prop}(hr:(nameA U x v rt).run I p):(nameA U x v rt).run I (λr Z=>match r with |.ok b0=>p (.ok b0) Z |.err _=>dm):=by
 unfold nameA at hr |-;cases B:cM U x with
 |none=>rw[B]at hr;exact hr.elim
 |some G=>
  rw[B]at hr;cases G with
  | «local»=>
   dsimp only at hr |-;cases D:lK U x with
   |none=>rw[D]at hr;exact hr.elim
   |some i=>rw[D]at hr;exact hr
  |cell=>
   dsimp only at hr |-;unfold kr at hr |-;obtain⟨c,E,hr⟩:=c9 hr;obtain⟨o,F,hr⟩:=eV hr;rw[E];show(P.load c>>=_).run I _;rw[P.run_bind,P.run_load F];cases o with
   |cell w=>exact hr
   |_=>exact hr.elim
  |_=>exact hr.elim
def Dn {b0:b8->aD->Prop}(a0:Inv X B I h)(c0:En X U G Q N B h)(hx:aF X B h x v)(n:au){β:Type}{g:ah (ax AV)->P β}{p:Res β->St->Prop}(hr:(nameA U n x ⟨F,Q,N⟩>>=g).run I p)(hQ:∀z' J Z H t' d0,Zs z z'->Inv X J Z H->Go X [G.locals] B h J H->En X U G Q d0 J H->(g d0).run Z p->b0 () (sh z' H t')):aA (MX X) A (q7 G n v) b0 E (sh z h W):=by
 refine yb (F:=F) a0 c0 hx n z W b0 E ((nameA U n x ⟨F,Q,N⟩).mono (λr Z y=>?_) (MZ (show(nameA U n x ⟨F,Q,N⟩).run I _ from hr)));cases r with
 |ok d0=>exact λz' J H t' D L M u K=>hQ z' J Z H t' d0 D L M K y
 |err _=>exact y.elim
def Ds:lE (.type "AttributeError") (.type "AttributeError")=pure aj:=oK (by decide +kernel)
def Dt:lE (.type "AttributeError") (.type "BaseException")=pure aj:=oK (by decide +kernel)
def M4:lE (.type "TypeError") (.type "BaseException")=pure aj:=oK (by decide +kernel)
def M6:lE (.type "TypeError") (.type "TypeError")=pure aj:=oK (by decide +kernel)
def M7:lE (.type "TypeError") (.type "AttributeError")=pure az:=oK (by decide +kernel)
def M8:lE (.type "AttributeError") (.type "TypeError")=pure az:=oK (by decide +kernel)
def Du:lE (.type ((HY "AttributeError").elim "type" λx=>x.metatype)) (.type "tuple")=pure az:=oK (by decide +kernel)
def M9:lE (.type ((HY "TypeError").elim "type" λx=>x.metatype)) (.type "tuple")=pure az:=oK (by decide +kernel)
def Dv {n:au}(h:uM e=ae n):∃p,e= .Name n p:=by
 cases e with
 |Name m p=>exact⟨p,bZ (Expr.Name · p) (dp h)⟩
 |_=>exact gm h
def Na {c:n8}(h:constOf e=ae c):∃k p,e= .Constant c k p:=by
 cases e with
 |Constant d k p=>exact⟨k,p,bZ (Expr.Constant · k p) (dp h)⟩
 |_=>exact gm h
def Nb {es:ah aH}(h:uN e=ae es):∃k p,e= .Tuple es k p:=by
 cases e with
 |Tuple d k p=>exact⟨k,p,bZ (Expr.Tuple · k p) (dp h)⟩
 |_=>exact gm h
def Nc (h:BZ e=aj):∃p,e= .List [] p:=by
 cases e with
 |List B p=>exact⟨p,bZ (Expr.List · p) (uc.mp h)⟩
 |_=>exact AD h
def yD {l:ah aH}{n:au}{ns:ah au}(h:namesOf l=ae (n :: ns)):∃p r,l= .Name n p :: r/\namesOf r=ae ns:=by
 cases l with
 |nil=>cases h
 |cons e l=>
  obtain⟨m,B,h⟩:=qV.mp h;obtain⟨H,F,G⟩:=j3.mp h;obtain⟨p,q⟩:=Dv B;obtain⟨D,E⟩:=List.cons.inj G;rw[q,D];exact⟨p,l,rfl,F.trans (bZ ae E)⟩
def Dw {l:ah aH}(h:namesOf l=ae []):l=[]:=by
 cases l with
 |nil=>rfl
 |cons e l=>
  obtain⟨m,E,h⟩:=qV.mp h;obtain⟨D,F,B⟩:=j3.mp h;cases B
theorem Nd {c:aH}{f:aI->aB}(h:takes c=ae f):(∃p,c= .Name (aq "AttributeError") p/\f=λk=>k == "AttributeError")\/
  ∃p1 p2 kk tp,c= .Tuple [.Name (aq "TypeError") p1,.Name (aq "AttributeError") p2] kk tp/\f=λk=>k == "TypeError" || k == "AttributeError":=by
 unfold takes at h;cases E:uN c with
 |none=>
  rw[E]at h;obtain⟨F,h⟩:=tJ.mp h;obtain⟨p,q⟩:=Dv F;exact .inl ⟨p,q,(dp h).symm⟩
 |some J=>
  rw[E]at h;obtain⟨F,h⟩:=tJ.mp h;obtain⟨p1,r,H,B⟩:=yD F;obtain⟨p2,I,G,D⟩:=yD B;obtain⟨kk,tp,q⟩:=Nb E;rw[H,G,Dw D]at q;exact .inr ⟨p1,p2,kk,tp,q,(dp h).symm⟩
def yE {α:Type}{l:ah α}{x:α}(h:l.head? =ae x)(h1:l.length=1):l=[x]:=by
 obtain⟨y,rfl⟩:=Hv.mp h1;cases h;rfl
theorem Nf {hb:ah dy}{d0:Flow->aD->Prop}(c0:Zs dE z)(b0:Inv X B I h)(e0:En X U G Q N B h)(a0:Go X [G.locals] br h₀ B h)(hr:(rR U hb ⟨F,Q,N⟩).run I (aL X dE [G.locals] br h₀ (RS X U G Q) d0 E)):aA (MX X) A (execs hb G) d0 E' (sh z h W):=by
 obtain⟨s,J,D⟩:=c9 hr;clear hr;obtain⟨o,hr⟩:=a6 D;clear D;rw[yE J o];cases s with
 |Pass p=>
  refine tR (wpAny_Pass (rg ?_));exact hr _ _ _ _ c0 b0 a0 _ ⟨.next,e0⟩
 |Assign ts e Y=>
  obtain⟨xs,q,D⟩:=c9 hr;clear hr;obtain⟨x,u,H⟩:=c9 D;clear D;obtain⟨S,D⟩:=a6 H;clear H;rw[yE u S]at q;obtain⟨L,r,J,R⟩:=yD q;rw[Dw R]at J;subst J;obtain⟨c,q,H⟩:=c9 D;clear D;obtain⟨kk,M,J⟩:=Na q;subst J;obtain⟨v,b,hr⟩:=c9 H;clear H;refine tR ?_;rw[wN];refine wB (jE ?_);show aA _ _ (ow (.Constant c kk M) (ae (.Name x L)) Y.line G>>=_) _ _ _;rw[yd rfl];refine bO (aC ?_);rw[aK (by simp)];refine wB (yz (X:=X) (h:=h) b kk M λval j f=>?_);rw[vi rfl];refine wB (aC ?_);rw[qk (.Name x L) [] G rfl];show aA _ _ (ly (.Name x L) G val>>=λy=>pure Flow.next) _ _ _;refine wB (assign_Name ?_);refine Dn (F:=F) b0 e0 (f B h) x hr λz1 l V m j O T w K k D=>?_;exact aC (rg (D _ _ _ _ (c0.trans T) w (a0.trans K) _ ⟨.next,k⟩))
 |Return e q=>
  obtain⟨J,q,D⟩:=c9 hr;clear hr;subst q;obtain⟨q,hr⟩:=a6 D;clear D;obtain⟨p,q⟩:=Nc q;subst q;obtain⟨_,hr⟩:=a6 (show(P.guard (([]:ah AV).length<=4096)>>=λy=>P.alloc (.list [])>>=λi=>P.pure (FL.ret (.ref i),N)).run I _ from hr);have hr:aL X dE [G.locals] br h₀ (RS X U G Q) d0 E (.ok (.ret (.ref I.length),N)) (I++[.list []]):=hr;refine tR (Hh (List_ ?_));refine Ax ?_;refine om ?_ (cZ _);obtain K:=Go.alloc X [G.locals] B h { cls:=.type "list",data:=.seq ([]:ah aw).toArray };obtain CL:=Go.alloc X [] B h { cls:=.type "list",data:=.seq ([]:ah aw).toArray };refine hr _ _ _ _ c0 (b0.alloc (ao:=.list []) ⟨[],0,rfl,.nil,by simp⟩ rfl) (a0.trans K) _ ⟨.ret (.ref ?_),e0.step b0 CL⟩;rw[<-b0.len];simp
 |_=>exact hr.elim
def Ng {hb:ah dy}{rt:RT}{p:Res (FL×ah (ax AV))->St->Prop}(hr:(rR U hb rt).run I p):∃Nh Ni,hb=Nh :: Ni:=by
 obtain⟨s,B,hr⟩:=c9 hr;exact⟨s,[],yE B (a6 hr).1⟩
theorem Nj {k:ak}{x:au}{np ap hp:fk}{c:aH}{hb o:ah dy}{dS:DS}(hd:HE X F k U e d)(ho:iQ X F k U o dS):
  HS X F k U (.Try [.Assign [.Name x np] e ap] [.ExceptHandler (ae c) ag hb hp] o [] pos) (λrt=>do
   P.guard (nJ e=aj/\ku e=az/\B2 U c=aj)
   P.uE (d rt) (λv=>do
     let h0 <-nameA U x v rt
     dS { rt with loc:=h0 })
    λk=>match takes c with
     |some f0=>if f0 k then rR U hb rt else P.fail
     |Option.none=>P.fail):=by
 intros _ A l G Q N B I h _ K _ z W D E _ hr;obtain⟨⟨g1,g2,j⟩,hr⟩:=a6 hr;refine wpAny_Try_except ?_;refine tR ?_;rw[wN];refine wB (jE ?_);show aA _ _ (ow e (ae (.Name x np)) ap.line G>>=_) _ _ _;rw[yd g1];refine bO (aC ?_);rw[aK (by simp)];refine wB ?_;refine hd K z W _ _ ((d ⟨F,Q,N⟩).mono ?_ (show(d ⟨F,Q,N⟩).run I _ from hr));intros _ r b _ y;intros _ z1 H h1 t1 _ Z1 I1 G1;have N1:=K.en.step K.inv G1;cases r with
 |ok v=>
  intro val rv;rw[vi g2];refine wB (aC ?_);rw[qk (.Name x np) [] G rfl];show aA _ _ (ly (.Name x np) G val>>=λa=>pure Flow.next) _ _ _;refine wB (assign_Name ?_);refine Dn (F:=F) I1 N1 rv x (show(nameA U x v ⟨F,Q,N⟩>>=λd0=>dS ⟨F,Q,d0⟩).run b _ from y) ?_;intro z2 p0 r0;intros _ h2 _ t2 b0 Z2 I2 G2 N2 m0;refine aC (rg ?_);have a0:=(G1.nil [G.locals]).trans G2;exact ho (K.next I2 a0 N2) z2 t2 D E ((dS ⟨F,Q,b0⟩).mono (λa a p=>p.shift (Z1.trans Z2) a0) m0)
 |err R=>
  intros R _ y;intros _ ea _ xa;obtain (⟨e0,l',rfl,c0⟩):=K.top;obtain⟨L,hL⟩:∃L,G.frame=ae L:=by
   obtain⟨_,L,_,q,_⟩:=K.ar.dR e0 (.head _);exact⟨L,c0 ▸ q⟩
  obtain R1:=K.ar.dR.step G1;refine vg (jH:=I) K.ar.frames c0 hL I1 R1 K.inv (G1.nil [G.locals]) xa ?_;intros _ h2 _ W2 x2;refine sf (jH:=I) W2.inv W2.dR K.inv W2.go x2 ?_;intros _ w _ M x3;have N3:=(M.en (W2.en N1))
  change ((match takes c with
     |some f=>if f R then rR U hb ⟨F,Q,N⟩else P.fail
     |Option.none=>P.fail):P _).run b _ at y
  cases ht:takes c with
  |none=>rw[ht]at y;exact y.elim
  |some f=>
   intros f _ ht;rw[ht]at y;dsimp only at y;cases S:f R with
   |false=>rw[S]at y;exact y.elim
   |true=>
    rw[S,aN rfl]at y;obtain (⟨Z,J,rfl⟩):=Ng y;have g0:∀(O:aG),Inv X H b O->Go X [G.locals] B h H O->Frs X (e0 :: l') H O->En X U G Q N H O->mF R ea h O->∀(A':d8) (E':aw->aD->Prop) (t4:ak),
      aA (MX X) A' (setFlight (.ref ea) ag) (λa i0=>aA (MX X) A' (execs (Z :: J) G) D E' i0) E' (sh z1 O t4):=by
     intro O I4 G4 R4 N4 m A' E' t4;refine sf (jH:=I) I4 R4 K.inv G4 m λh5 W5 x5=>?_;exact Nf (F:=F) Z1 W5.inv (W5.en N4) W5.go y
    have u:∀(O:aG) (t4:ak),mF R ea h O->(sh z1 O t4).TypeIs (.ref ea) R:=λO t4 m=>by
     obtain⟨_,_,_,oe,_,q1,q2,_⟩:=m;exact⟨oe,q1,q2⟩
    rcases Nd ht with ⟨p,rfl,rfl⟩ |⟨p1,p2,kk,tp,rfl,rfl⟩
    ·dsimp only at S;rw[bU]at S;subst S;have j:cM U (aq "AttributeError")=ae .globalImplicit:=bU.mp (bW.mp j _ (.head _));refine wpAny_handleBy_builtin (X:="AttributeError") (T:="AttributeError") (b:=aj) Dt Du Ds ?_;refine yC (v:=.ty "AttributeError") K.ok M.inv N3 j (by kernel_rfl) (by decide +kernel) λv' sv=>?_;cases sv H w
     ·refine⟨rfl,u _ _ x3,?_⟩;rw[aN rfl];exact g0 w M.inv M.go M.dR N3 x3 _ _ _
    ·dsimp only at S;have j:cM U (aq "TypeError")=ae .globalImplicit/\cM U (aq "AttributeError")=ae .globalImplicit:=⟨bU.mp (bW.mp j _ (.head _)),bU.mp (bW.mp j _ (.tail _ (.head _)))⟩;have Y:∀{b1 b2:aB},lE (.type R) (.type "TypeError")=pure b1->lE (.type R) (.type "AttributeError")=pure b2->(b1 || b2)=aj->
       aA (MX X) A (handleBy (.ref ea) G [.ExceptHandler (ae (.Tuple [.Name (aq "TypeError") p1,.Name (aq "AttributeError") p2] kk tp)) ag (Z :: J) hp]) D E (sh z1 w t1):=by
      intros _ b1 b2 _ s1 s2 hb;refine wpAny_handleBy_tup2 (T1:="TypeError") (T2:="AttributeError") M4 M9 Dt Du s1 s2 ?_;refine Tuple_ (Ay ?_ rfl);refine yC (v:=.ty "TypeError") K.ok M.inv N3 j.1 (by kernel_rfl) (by decide +kernel) λv1 n0=>?_;cases n0 H w;refine Ay ?_ rfl;refine yC (v:=.ty "AttributeError") K.ok M.inv N3 j.2 (by kernel_rfl) (by decide +kernel) λv2 l0=>?_;cases l0 H w;refine Ax ?_;refine m9 ?_ (by show 2<=2 ^ 24;decide);obtain I4:=M.inv.push { cls:=.type "tuple",data:=.seq [lD "TypeError",.type "AttributeError"].toArray };have G4:=Go.push X [] H w { cls:=.type "tuple",data:=.seq [lD "TypeError",.type "AttributeError"].toArray };have m:mF R ea h (w.push { cls:=.type "tuple",data:=.seq [lD "TypeError",.type "AttributeError"].toArray }):=by
       obtain⟨a1,a2,a3,j0⟩:=x3;obtain (⟨oe,V,o0⟩):=j0;obtain (⟨b1,b2,b3,b4,k0⟩):=o0;obtain (⟨T,oT,ts,c1,c2,c3,c4,c5⟩):=k0;exact⟨a1,a2,a3,oe,V,be _ b1,b2,b3,b4,T,oT,ts,c1,c2,c3,be _ c4,c5⟩
      refine⟨_,rfl,IsTup.new _ _,u _ _ m,?_⟩;rw[aN hb];exact g0 _ I4 (M.go.trans (G4.nil _)) (M.dR.step G4) (N3.step M.inv G4) m _ _ _
     rw[pQ,bU,bU]at S;rcases S with rfl |rfl
     ·exact Y M6 M7 rfl
     ·exact Y M8 Ds rfl
theorem Nk {h0 b0:au}{e0:fj}{i0:aH}{d0:bN}{c P:ay}{c0:ak}{g0:ah (au×ay)}{a0:aw->aD->Prop}(j0:closureFor d0 G=pure g0)(l0:G.globals=gO)(hg:s.heap.Ns gO mg)(f0:G.code= .ref c)(C:CodeHd s.heap c P)(hP:s.heap.get? P=ae (jY #[]))(k0:gO≠P)(hb:s.heap.BuiltinsAt mg P)(h:∀c' xK H W pm oc V t ps,HZ P s.heap H->s.heap.objs.size<=c'->H.get? c'=ae oc->oc.cls= .type "code"->oc.data= .fields V->V[1]? =ae (.str b0 t)->H.get? P=ae (jY ps)->
   a0 (.ref H.objs.size) { s with heap:=H.push (wA h0 b0 e0 i0 d0 g0 pm c' xK),toks:=W }):
  aA M A (makeFunction h0 b0 e0 (.expr i0) d0 G [] [] [] pos c0) a0 E s:=by
 rw[makeFunction_eq];simp only[H3,HJ,tU,jD,pure_bind];obtain⟨bm,ob,U,J,_,K,Y,L,B,D⟩:=hb;have T:∀(c':ay) (H:aG),H.CodeRec (.ref c') b0->(∃I,s.heap.objs.size<=I/\H.IsCode c' I #[]/\H.TableAt c' I #[])->∃oc V t,H.get? c'=ae oc/\oc.cls= .type "code"/\oc.data= .fields V/\V[1]? =ae (.str b0 t):=by
  intros _ c' H _ u z;obtain (⟨c2,o2,f,t2,e2,g2,d2,X⟩):=u;obtain (⟨I,_,_,l,_⟩):=z;obtain (⟨o3,n0,g3,c3,d3,_⟩):=l;cases e2;rw[g2]at g3;cases g3;exact⟨o2,f,t2,g2,c3,d2,X⟩
 unfold makeTail;rw[j0,l0];refine wB (aC ?_);obtain tr:TriplesOk (#[]:aZ aw).toList:=trivial;cases g0 with
 |nil=>
  simp only[tU,jD];refine wB (aC ?_);refine wB (H4 f0 (C.code hP tr) (C.tab hP) rfl ?_);intros _ c' H _ W S R m m0 F N O;obtain⟨oc,V,t,k,X,j,Z⟩:=T c' H F O;have sj:=hg.extBut S k0;refine wB (H5 sj U J (S _ _ K Y) L B D ?_);refine wB (wpAny_nsGet sj ?_);exact wB (aC (q8 (h c' .none H W _ oc V t _ S R k X j Z N.2) (by size_fits)))
 |cons q r=>
  intros q r _ j0 h;simp only[List.isEmpty_cons,jd,je];refine wB (wpAny_newTextTuple ?_);refine wB (H4 f0 ((C.keeps λb o e=>be _ e).code (be _ hP) tr) ((C.keeps λb o e=>be _ e).tab (be _ hP)) rfl ?_);intros _ c' H _ W S R m m0 F N O;have Nl:∃I,s.heap.objs.size<=I/\H.IsCode c' I #[]/\H.TableAt c' I #[]:=by
   obtain (⟨I,a1,a2⟩):=O;exact⟨I,dW (by rw[j'];exact gU _) a1,a2⟩
  obtain⟨oc,V,t,k,X,j,Z⟩:=T c' H F Nl;obtain sj:=(hg.push _).extBut S k0;obtain qp:HZ P s.heap H:=λb o w e=>S b o w (be _ e);obtain Nm:s.heap.objs.size<=c':=dW (by rw[j'];exact gU _) R;refine wB (H5 sj U J (qp _ _ K Y) L B D ?_);refine wB (wpAny_nsGet sj ?_);exact wB (aC (q8 (h c' _ H W _ oc V t _ qp Nm k X j Z N.2) (by size_fits)))
theorem Inv.lam {o:Obj}{V:aZ aw}(a0:Inv X B I h)(hk:∀b o,b≠cJ->h.get? b=ae o->H.get? b=ae o)(ht:H.get? cJ=ae (jY V))(hl:jj ao=aj)(b:OB X B H ao o)(hf:o.isFreed=az):
  Inv X (B++[H.objs.size]) (I++[ao]) (H.push o)/\Go X [] B h (B++[H.objs.size]) (H.push o):=by
 have D:h.get? H.objs.size=ag:=by
  cases q:h.get? H.objs.size with
  |none=>rfl
  |some E=>
   by_cases e:H.objs.size=cJ
   ·rw[<-e]at ht;exact absurd (gP ht) (dP _)
   ·exact absurd (gP (hk _ _ e q)) (dP _)
 have G:Go X [] B h (B++[H.objs.size]) (H.push o):=by
  refine⟨⟨λa E e=>?_,⟨[H.objs.size],rfl,λa F=>by rw[aJ.mp F];exact D⟩,λa E e u L u=>⟨E,be _ (hk a E L e),.refl ..⟩⟩,λa E e u f u=>?_⟩
  ·by_cases q:a=cJ
   ·subst q;exact⟨_,be _ ht⟩
   ·exact⟨E,be _ (hk a E q e)⟩
  ·have L:a≠cJ:=λq=>by
    subst q;obtain⟨Z,U,_⟩:=a0.tab;rw[U]at e;cases e;obtain⟨_,_,q,_⟩:=f;cases q
   exact⟨E,be _ (hk a E L e),f⟩
 obtain M:H.objs.size∉B:=λF=>by
  obtain⟨i,J,Y⟩:=qT.mp F;have gj:i < I.length:=a0.len ▸ J;obtain⟨O,Q,_⟩:=a0.obj i I[i] _ (cy gj) (by rw[cy J,Y]);rw[D]at Q;cases Q
 refine⟨⟨by simp[a0.len],?_,λi T a N K=>?_,λR O e L=>be _ (hk _ _ L (a0.base R O e L)),λa F=>?_,a0.gg,a0.mods,⟨V,be _ ht,.inr ⟨ao,by simp,hl⟩⟩,λb S=>?_⟩,G⟩
 ·refine tF.mpr ⟨a0.nodup,by simp,λa A b S e=>?_⟩;rw[aJ.mp S]at e;exact M (e ▸ A)
 ·by_cases J:i < I.length
  ·rw[lB J]at N;rw[lB (by rw[a0.len];exact J)]at K;obtain⟨O,Q,R⟩:=a0.obj i T a N K;exact⟨O,be _ (hk _ _ (λq=>a0.Ck (q ▸ cD K)) Q),R.step G.step⟩
  ·have gj:i=I.length:=by
    have:=(cF.mp N).1;simp at this;exact AN (FI 1 1 0 0 this rfl) ((NL J))
   subst gj;simp at N;rw[<-a0.len]at K;simp at K;subst N K;exact⟨o,cV _ hf,b.step (Go.alloc X [] B H o).step⟩
 ·rcases dX.mp F with F |F
  ·exact a0.new a F
  ·rw[aJ.mp F];exact a0.ey D
 ·obtain⟨E,W⟩:=a0.gh b S;exact G.step.there b E W
theorem Nn {T:fj}{a0:aH}:HE X F k U (.Lambda T a0 aP pos) (λrt=>do
   P.guard (B4 T=aj/\cM U mC=ae .cell)
   let d0 <-P.get
   P.guard (d0.all (λo=>!jj o)=aj)
   let cs <-P.opt (fM rt aP.names [])
   let i0 <-P.alloc (.lam T a0 aP cs)
   P.pure (.ref i0)):=by
 intros _ A l G Q N B I h _ K _ z W J E _ L;obtain⟨⟨g1,g2⟩,L⟩:=a6 L;obtain⟨g3,L⟩:=a6 (show(P.guard (I.all (λo=>!jj o)=aj)>>=_).run I _ from L);obtain (⟨cs,m,L⟩):=c9 L;have L:aL X z [] B h (RV X) J E (.ok (.ref I.length)) (I++[.lam T a0 aP cs]):=L;have Y:defaultsOf T G=([],[]):=by
  obtain⟨_,_,_,_,e,_,g⟩:=T;cases e with
  |nil=>cases g with
   |nil=>rfl
   |cons=>cases g1
  |cons=>cases g1
 obtain (⟨cl,rc,f0⟩):=Di K.en m;obtain (⟨V,et,O⟩):=K.inv.tab;have O:V= #[]:=by
  rcases O with q |⟨ao,hm,q⟩
  ·exact q
  ·have:=bW.mp g3 ao hm;rw[q]at this;cases this
 subst O;obtain (⟨mg,mb,n1,n2,_⟩):=K.ok.gl;obtain (⟨bm,ob,b1,b2,b3,b4,b5,b6⟩):=K.ok.bt mg n1;obtain (⟨oc,vc,Z,tf,R,tg,b0,text,tt,c1,cr⟩):=K.ok.cd;refine kla_eval Y (Nk (s:=sh z h W) f0 K.en.glob (K.inv.ns n1 (by decide)) (K.code g2) ⟨oc,vc,Z,tf,R,tg,b0,text,tt,K.inv.base _ _ c1 (by decide),cr⟩ et (by decide) ⟨bm,ob,b1,b2,b3,b4,K.inv.base _ _ b5 b4,b6⟩ λu c0 H j0 pm h0 g0 t' ps hx M q1 q2 q3 q4 e0=>?_);have hk:∀b o,b≠cJ->h.get? b=ae o->H.get? b=ae o:=λb o w e=>hx b o w e;have M:h.objs.size<=u:=M;have S:h.get? u=ag:=Bg M;have f:X.ok u:=⟨λq=>(by rw[q]at S;rw[S]at et;cases et),λw=>by obtain⟨o,e⟩:=K.inv.gh _ w;rw[S]at e;cases e⟩;have j:u∉B:=λhm=>dP _ (gV (K.inv.lt hm) M);obtain⟨I',D⟩:=K.inv.lam hk e0 (ao:=.lam T a0 aP cs) rfl (o:=wA "<lambda>" (G.qual++"<lambda>") T a0 aP cl pm u c0) ⟨_,_,_,_,_,_,rfl,rc,⟨⟨j,f,q1,q2,q3,q4⟩⟩⟩ rfl;refine L _ _ _ _ (.refl _) I' D _ (.ref ?_);rw[<-K.inv.len];simp
def eT.Np {e:ay}{k:aI}(x:H6 h H e k)(ho:nM (.type k)=az)(hf:k≠"frame"):eT k e h H:=by
 obtain⟨E,t,F,B,D⟩:=x.there;exact⟨x.new,ho,hf,E,_,F,B,D,by simp,.inl rfl⟩
def Nq:tW (.type "list_iterator") "__len__"=pure ag:=by rw[rj,rm];kernel_rfl
def Nr {a0:aw->aD->Prop}(hT:s.TypeIs (.ref a) "list_iterator")(hh:A.handled=ag)(h:∀H W e,H6 s.heap H e "TypeError"->E (.ref e) { s with heap:=H,toks:=W }):
  aA (aV prog w) A (call (.builtin "len") [.ref a]) a0 E s:=by
 refine Calls.call_function_entry kind_len plain_len entry_len (args_len1 _) ?_;unfold Builtin.«len»;refine wB (m:=oneArg "len" _) (aC ?_);refine wB (m:=oz (.ref a) (aq "__len__")) (wpAny_callSpecial?_none (name:=aq "__len__") hT Nq ?_);dsimp only;refine wB (gR ?_);refine wB (wpAny_typeNameOf' hT (by decide) ?_);exact wpAny_raiseErrorMade plainExc_TypeError hh h (by show _<=2 ^ 24;decide +kernel)
def Nt {a0:aw->aD->Prop}(h:aA (aV prog w) A.in1 (gb v) a0 E s):aA (aV prog w) A (call (.builtin "iter") [v]) a0 E s:=by
 refine call_function_tree (by decide +kernel) (by decide +kernel) kdk_entry_iter (kdk_args_iter _) ?_;unfold Builtin.«iter»;refine wB (m:=someArgs "iter" 1 2 _) (nq (a:=[v]) (by first |rfl |kernel_rfl!) ?_);show aA _ _ (gb v>>=_) _ _ _;exact wB (eB h (λD B q=>aC q) λu u q=>q)
def Nu:Slot "object" "__init__" "object.__init__":=
 .of (owner:="object") (n:="__init__") (by rw[rj,rm];kernel_rfl) (by decide +kernel) (by decide +kernel) (by decide +kernel)
  (by first |exact .inl (by decide +kernel) |exact .inr (by decide +kernel)) (by rw[rn];kernel_rfl)
def mro_object:mroOf (.type "object")=pure [.type "object"]:=by rw[mroOf_type];kernel_rfl
def Nv:tW (.type "object") "__new__"=pure (ae (.builtin "object.__new__")):=by rw[rj,rm];kernel_rfl
def Dx:TypeCalled "object" "object.__new__" "object.__init__":=
 ⟨by decide +kernel,by decide +kernel,⟨_,_,mro_object⟩,madeBy_type mro_object Nv (by decide +kernel),by decide +kernel,by rw[rn];kernel_rfl,Nu⟩
def Nw:checkTypeCall "object" ⟨[],[]⟩=pure ():=by rw[PySem.W.Fast.te11612656972197000677];kernel_rfl
def Nx:uf "object.__new__" ⟨[.type "object"],[]⟩=pure ():=by rw[PySem.W.Fast.te10254737850608025244];kernel_rfl
def Ny:MeetsIn prog w (j4.«object.__new__» ⟨[.type "object"],[]⟩) (λA R s=>R (.ok (.ret (.ref s.heap.objs.size))) { s with heap:=s.heap.push { cls:=.type "object",data:=.plain } }):=
 .of_wp λA R s h=>by
  obtain B:=Dx.made;obtain⟨D,g,d,W,os⟩:=s;unfold Builtin.«object.__new__»
  wp_walk
  exact⟨_,rfl,h⟩
def Nz {a0:aw->aD->Prop}(h:a0 (.ref s.heap.objs.size) { s with heap:=s.heap.push { cls:=.type "object",data:=.plain } }):aA (aV prog w) A (call (.type "object") []) a0 E s:=
 callType_meetsIn (Q₁:=λobj B=>obj= .ref s.heap.objs.size/\B={ s with heap:=s.heap.push { cls:=.type "object",data:=.plain } }) Dx Nw Nx F.entry_object_new F.entry_object_init Ny ⟨rfl,rfl⟩
  (by
   rintro obj B ⟨rfl,rfl⟩;have G:xg { s with heap:=s.heap.push { cls:=.type "object",data:=.plain } } (.ref s.heap.objs.size) "object":=⟨_,cV _ rfl,rfl⟩;exact⟨G,F.args_object_init_1 _,λu R s=>R (.ok (.ret .none)) s,Meets.of_wp λprog w A R s D=>aC ⟨_,rfl,D⟩,rfl,h⟩)
def Inv.place {o:Obj}(a0:Inv X B I h)(hk:∀b o,h.get? b=ae o->H.get? b=ae o)(hD:h.get? D=ag)(e:H.get? D=ae o)(b:OB X B h ao o):Inv X (B++[D]) (I++[ao]) H/\Go X [] B h (B++[D]) H:=by
 obtain E:∀b∈[D],h.get? b=ag:=λb E=>by rw[aJ.mp E];exact hD
 refine⟨(a0.more (j:=[D]) hk λb F=>⟨E b F,?_⟩).adopt (.head _) e ((b.more E).step (Go.keeps (X.more [D]) B hk []).step) (a0.fresh hD).1 (a0.ey hD),(Go.keeps X B hk []).adopt hD⟩;rw[aJ.mp F];exact⟨_,e⟩
def sk (a0:Inv X B I h)(D:ay):(B++[D])[I.length]? =ae D:=by rw[<-a0.len];simp
def nU {γ:Type}{p:Res γ->St->Prop}{β:Type}{b:β}{g:β->P γ}(hr:(P.pure b>>=g).run I p):(g b).run I p:=hr
def jq {γ:Type}{p:Res γ->St->Prop}{g:AV->P γ}(ra:aT X B h T V)(hr:(one T>>=g).run I p):∃x v,V=[v]/\aF X B h x v/\(g x).run I p:=by
 cases ra with
 |nil=>exact hr.elim
 |cons E D=>
  obtain⟨q,hr⟩:=a6 (g:=λu=>P.pure _>>=g) hr;cases D with
  |nil=>exact⟨_,_,rfl,E,hr⟩
  |cons _ _=>cases q
def yF {γ:Type}{p:Res γ->St->Prop}{g:b8->P γ}(ra:aT X B h T V)(hr:(rP T>>=g).run I p):V=[]/\(g ()).run I p:=by
 obtain⟨q,hr⟩:=a6 hr;cases ra with
 |nil=>exact⟨rfl,hr⟩
 |cons _ _=>cases q
def g9 {γ:Type}{p:Res γ->St->Prop}{g:b8->P γ}(rk:cq X B h kw kvs)(hr:(noKw kw>>=g).run I p):kvs=[]/\(g ()).run I p:=by
 obtain⟨q,hr⟩:=a6 hr;cases rk with
 |nil=>exact⟨rfl,hr⟩
 |cons _ _=>cases q
def vB {n:au}{γ:Type}{p:Res γ->St->Prop}{g:AV×ah (au×AV)->P γ}(rk:cq X B h kw kvs)(hr:(p9 n kw>>=g).run I p):
  ∃x v l ks,kvs=(n,v) :: ks/\aF X B h x v/\cq X B h l ks/\(g (x,l)).run I p:=by
 cases rk with
 |nil=>exact hr.elim
 |cons F E=>
  obtain⟨q,D⟩:=a6 (g:=λu=>P.pure _>>=g) hr;clear hr;cases q;exact⟨_,_,_,_,rfl,F,E,D⟩
def Dy {γ:Type}{p:Res γ->St->Prop}{g:aB->P γ}(rk:cq X B h kw kvs)(hr:(uK kw>>=g).run I p):
  ∃b,kvs=(if b then [(aq "reverse",.bool aj)]else [])/\(g b).run I p:=by
 cases rk with
 |nil=>exact⟨az,rfl,hr⟩
 |cons E D=>
  obtain⟨x,v,l,F,q,E,D,hr⟩:=vB (g:=λq=>BX q.1>>=λu=>noKw q.2>>=λu=>P.pure aj>>=g) (.cons E D) hr;rw[q];cases x with
  |bool b=>cases b with
   |true=>
    obtain⟨rfl,hr⟩:=g9 D hr;cases E;exact⟨aj,rfl,hr⟩
   |false=>exact hr.elim
  |_=>exact hr.elim
def Dz {γ:Type}{p:Res γ->St->Prop}{g:b8->P γ}(hr:(isCallable x>>=g).run I p):∃m,x= .ref m/\(g ()).run I p:=by
 obtain⟨m,q,hr⟩:=iC (g:=λi=>P.load i>>=λo=>(match o with
  |.lam .. =>P.pure ()
  |_=>P.fail)>>=g) hr
 obtain⟨o,_,hr⟩:=eV hr;cases o with
 |lam _ _ _ _=>exact⟨m,q,hr⟩
 |_=>exact hr.elim
def NC {b:BI}(e:qa x=ae b):x=Jx b:=by
 cases x with
 |bi n=>
  unfold qa at e;dsimp only at e;by_cases B:n="len"
  ·rw[aN B]at e;cases e;rw[B];rfl
  rw[aK B]at e;by_cases B:n="iter"
  ·rw[aN B]at e;cases e;rw[B];rfl
  rw[aK B]at e;by_cases B:n="sum"
  ·rw[aN B]at e;cases e;rw[B];rfl
  rw[aK B]at e;by_cases B:n="sorted"
  ·rw[aN B]at e;cases e;rw[B];rfl
  rw[aK B]at e;by_cases B:n="min"
  ·rw[aN B]at e;cases e;rw[B];rfl
  rw[aK B]at e;obtain⟨B,e⟩:=tJ.mp e;cases e;rw[B];rfl
 |ty n=>
  unfold qa at e;dsimp only at e;by_cases B:n="object"
  ·rw[aN B]at e;cases e;rw[B];rfl
  rw[aK B]at e;by_cases B:n="list"
  ·rw[aN B]at e;cases e;rw[B];rfl
  rw[aK B]at e;by_cases B:n="set"
  ·rw[aN B]at e;cases e;rw[B];rfl
  rw[aK B]at e;obtain⟨B,e⟩:=tJ.mp e;cases e;rw[B];rfl
 |_=>exact gm e
def ND (a0:Inv X B I h)(hh:A.handled=ag)(ra:aT X B h T V)(rk:cq X B h kw kvs):aW X A [] (RV X) B I h (call (.builtin "len") V kvs) (jK F T kw .len):=by
 intro z W Q E D;obtain⟨x,v,rfl,J,D⟩:=jq ra D;obtain⟨rfl,D⟩:=g9 rk D;cases G:gd x with
 |some l=>
  rw[G]at D;obtain⟨a,O,rfl,⟨o,e,c,n,d⟩,r⟩:=vd J G;obtain L:=Km G;refine len_tuple (s:=sh z h W) (items:=O.toArray) ⟨o,e,c,n,d⟩ (by rw[cG,r.length];lia) ?_;rw[cG,r.length];exact D _ _ _ _ (.refl _) a0 (.refl ..) _ (.int ..)
 |none=>
  rw[G]at D;obtain⟨j,q,D⟩:=iC D;subst q;obtain⟨e⟩:=J;obtain⟨o,i,D⟩:=eV D;cases o with
  |list l=>
   obtain⟨K,n,q,r,len,L⟩:=ez a0 i e;refine Calls.call_len_list (s:=sh z h W) (items:=K.toArray) q.isList (by rw[cG];lia) ?_;rw[cG,len];exact D _ _ _ _ (.refl _) a0 (.refl ..) _ (.int ..)
  |iter s k=>
   refine Nr (s:=sh z h W) (vn a0 i e) hh λH M N x=>?_;exact D _ _ _ _ (.refl _) (a0.keeps x.keeps) (Go.keeps X B x.keeps []) _ (eT.Np x (by rfl) (by decide))
  |_=>exact D.elim
def NH (a0:Inv X B I h)(ra:aT X B h T V)(rk:cq X B h kw kvs):aW X A [] (RV X) B I h (call (.builtin "iter") V kvs) (jK F T kw .iter):=by
 intro z W Q E D;obtain⟨x,v,rfl,K,D⟩:=jq ra D;obtain⟨rfl,D⟩:=g9 rk D;obtain⟨i,q,D⟩:=iC D;subst q;obtain⟨e⟩:=K;refine Nt ?_;obtain⟨L,H,D⟩:=eV D;cases L with
 |list l=>
  obtain⟨O,n,J,M,len,_⟩:=ez a0 H e;refine A4 (s:=sh z h W) ⟨_,J,rfl,n,rfl⟩ ?_;have D:aL X z [] B h (RV X) Q E (.ok (.ref I.length)) (I++[.iter (ae i) 0]):=D;exact D _ _ _ _ (.refl _) (a0.alloc (ao:=.iter (ae i) 0) ⟨rfl,_,e,rfl⟩ rfl) (Go.alloc ..) _ (.ref (sk a0 _))
 |iter s kk=>
  have G:=vn (z:=z) (W:=W) a0 H e;refine oB G j8 (gy j8 G rz ?_ (rA _));obtain D:aL X z [] B h (RV X) Q E (.ok (.ref i)) I:=D;exact aC ⟨_,rfl,"list_iterator",_,G,j5.lookup,D _ _ _ _ (.refl _) a0 (.refl ..) _ (.ref e)⟩
 |_=>exact D.elim
def NI (a0:Inv X B I h)(ra:aT X B h T V)(rk:cq X B h kw kvs):aW X A [] (RV X) B I h (call (.type "object") V kvs) (jK F T kw .object):=by
 intro z W Q E D;obtain⟨rfl,D⟩:=yF ra D;obtain⟨rfl,D⟩:=g9 rk D;have D:aL X z [] B h (RV X) Q E (.ok (.ref I.length)) (I++[.obj]):=D;exact Nz (s:=sh z h W) (D _ _ _ _ (.refl _) (a0.alloc (ao:=.obj) ⟨rfl,rfl⟩ rfl) (Go.alloc ..) _ (.ref (sk a0 _)))
def ints_of {ns:ah Int}:∀{V:ah aw},aT X B h (ns.map .int) V->oh V ns:=by
 induction ns with
 |nil=>intro V r;cases r;exact .nil
 |cons i ns E=>
  intro V r;cases r with |cons F D=>
  obtain⟨t,rfl⟩:=F;exact .cons _ _ (E D)
theorem NJ (a0:Inv X B I h)(hh:A.handled=ag)(ra:aT X B h T V)(rk:cq X B h kw kvs):aW X A [] (RV X) B I h (call (.builtin "sum") V kvs) (jK F T kw .sum):=by
 intros _ z W Q E _ D;obtain (⟨x,v,rfl,j,D⟩):=jq ra D;obtain⟨rfl,D⟩:=g9 rk D;obtain (⟨i,q,D⟩):=iC D;subst q;obtain⟨e⟩:=j;obtain (⟨l,R,D⟩):=g6 D;obtain⟨ns,N,D⟩:=c9 D;obtain⟨O,n,S,Y,len,_⟩:=ez a0 R e;have L:=ints_of (vw N ▸ Y);obtain⟨J,G⟩:=(show AllInts O.toArray from L.allInts).items;refine sum_intListG (s:=sh z h W) hh (xs:=J) (by rw[<-G];exact S.isList) λH U k K=>?_;have Z:preSum (numAt J) J.size=ns.sum:=by
  have M:=nums_intItems J;rw[<-G]at M;rw[preSum_eq,gA (by simp),<-M,<-L.numsOf]
 rw[Z];exact D _ _ _ _ (.refl _) (a0.keeps K) (Go.keeps X B K []) _ (.int ..)
def NK (a0:Inv X B I h)(ra:aT X B h T V)(rk:cq X B h kw kvs):aW X A [] (RV X) B I h (call (.type "type") V kvs) (jK F T kw .type):=by
 intro z W Q E D;obtain⟨x,v,rfl,G,D⟩:=jq ra D;obtain⟨rfl,D⟩:=g9 rk D;cases x with
 |int i=>obtain⟨t,rfl⟩:=G;exact call_type_of (Tx:="int") rfl (by decide) (D _ _ _ _ (.refl _) a0 (.refl ..) _ (.ty "int"))
 |str i=>obtain⟨t,rfl⟩:=G;exact call_type_of (Tx:="str") rfl (by decide) (D _ _ _ _ (.refl _) a0 (.refl ..) _ (.ty "str"))
 |_=>exact D.elim
def NM {α:Type}(xs:aZ α)(p:ak)(x:α):1<=(SetTable.insertAt xs p x).size:=by
 unfold SetTable.insertAt;simp;exact CF 0 0 1 0 1 0 ZZ AL rfl
def jO.laid {L:aB}{t:gv}(h:jO L t)(es:aZ (Int×aw))(hs:Int)(x:aw):jO L (layNew t es hs x).2.1:=by
 obtain B:∀(t:gv) (n:ak),t.led=L->1<=n->jO L (t.standIn n):=λt n F H=>⟨rfl,by show 7<=4 * n+4;lia,F⟩;unfold layNew;cases t.freeSlot hs with
 |none=>exact B t _ h.led (by exact FI 0 0 1 1 ZZ rfl)
 |some p=>
  obtain⟨D,G⟩:=p;have E:jO L (t.put D).1:=by
   refine⟨?_,h.mask,h.led⟩;show(if H7 t.dummies D=aj then _ else t.dummies)= #[];rw[h.xO];rw[aK (by simp[H7])]
  dsimp only;unfold SetTable.orStandIn;split
  ·exact E
  ·exact B _ _ E.led (NM ..)
def jO.DB {L:aB}{t:gv}(h:jO L t)(hf:t.fits n=aj)(hn:n<=3):t.tooFull=az:=by
 unfold SetTable.fits at hf;rw[cW,bU]at hf;unfold SetTable.tooFull SetTable.fill;rw[h.xO,hf.1];have:=h.mask;simp
 lia
theorem add_str {L:aB}{es:aZ (Int×aw)}{t:gv}{k:au}{W:cK}{a0:aB->aD->Prop}(ho:s.heap.get? a=ae o)(hex:o.ExactSet)(hd:o.data= .set es ep t)(DC:ElemsOf (PySem.strKind prog w) es.toList)(hf:t.fits es.size=aj)(NN:∀e∈es.toList,lx k e.2=az)(kT:es.size<=2)(hT:jO L t)(h:∀H o' mN yx t',fq a s.heap H->H.get? a=ae o'->o'.ExactSet->o'.data= .set mN yx t'->mN.toList.Perm (es.toList++[(lu w k,.str k W)])->t'.fits mN.size=aj->jO L t'->t'.plain=az->a0 aj { s with heap:=H }):
  aA (aV prog w) A (setAddHashed a (.str k W) (lu w k)) a0 E s:=by
 have NQ:(PySem.strKind prog w).is k (.str k W)=aj:=by show lx k (.str k W)=aj;simp[lx]
 obtain DD:(qX k W).scannable=aj:=rfl;have hb:es.size < scanBound:=by unfold scanBound;exact FI 0 2 1 4096 kT rfl
 unfold setAddHashed setAddHashedIn;refine eA (bO (rq ho hd hf ?_));dsimp only;rw[byScan_of DD hb DC];simp only[↓AY];unfold setAddByScan;refine wB ?_;refine wB (gR ?_);refine wB (wpAny_setScan_of (knd:=PySem.strKind prog w) (k:=k) NQ ho hd hf DC ?_);obtain hr:List.findIdx? (λe=>(PySem.strKind prog w).is k e.2) es.toList=ag:=List.findIdx?_eq_none_iff.mpr λe he=>NN e he;rw[hr];dsimp only;have NR:∀(b:aB) {jk:aD} {Q':b8->aD->Prop},Q' () jk->aA (aV prog w) A (match b with |true=>jZ "set.scan.the-table-gave-way" |false=>pure ()) Q' E jk:=
  λb jk Q' hq=>by cases b <;>first |exact aC hq |exact gR hq
 obtain sm:=layNew_perm t es (lu w k) (.str k W);obtain qt:=layNew_fits t es (lu w k) (.str k W);obtain o5:=hT.laid es (lu w k) (.str k W);generalize Wu:layNew t es (lu w k) (.str k W)=Ln at sm qt o5 |-;obtain⟨iU,t1,NS,gave⟩:=Ln;dsimp only at sm qt o5 |-;rw[Hq]at sm;have yG:iU.size=es.size+1:=by rw[<-Bh,sm.length_eq,bK,Bh];rfl
 obtain NW:=o5.DB qt (by exact CF 0 1 0 2 0 3 (EL yG) kT rfl);refine wB (NR _ ?_);have fin:∀t2:gv,t2.fits iU.size=aj->jO L t2->t2.plain=az->t2.tooFull=az->aA (aV prog w) A (do
    storeSet a iU t2
    if (!NS && t2.tooFull)=aj then do
      (match (Bi t2 iU (Bj iU.size)).2.2 with |true=>jZ "set.scan.the-table-gave-way" |false=>pure ())
      storeSet a (Bi t2 iU (Bj iU.size)).1 (Bi t2 iU (Bj iU.size)).2.1
      pure (ae aj)
     else pure (ae aj)) (λr s'=>r=ae aj/\a0 aj s') E s:=by
  intro t2 f2 l2 p2 n2;refine wB (wpAny_storeSet_of ho hd ?_ (fits_of_scanBound (by unfold scanBound;exact CF 0 1 0 2 1 4096 (EL yG) kT rfl)));rw[n2,xb,aK (by simp)];refine aC ⟨rfl,?_⟩;obtain hg:(s.heap.update a (H8 iU t2)).get? a=ae { o with data:=.set iU (ep+1) t2 }:=by
   have:=iK (H8 iU t2) ho (by rw[putSet_of iU t2 hd];rfl);rw[putSet_of iU t2 hd]at this;exact this
  exact h _ _ _ _ _ (dY ..) hg hex rfl sm f2 l2 p2
 have Wv:t1.plain=aj\/t1.plain=az:=by cases t1.plain <;>simp
 obtain off:jO L { t1 with plain:=az }:=⟨o5.xO,o5.mask,o5.led⟩;split
 ·refine wB ?_;rw[hashByValue_scannable 8 DD];refine aC ?_;refine eB (fin { t1 with plain:=az } (H9 qt) off rfl (off.DB (H9 qt) (by exact CF 0 1 0 2 0 3 (EL yG) kT rfl))) (λr s' q=>?_) λu u q=>q;obtain⟨rfl,q⟩:=q;exact aC q
 ·rename_i hp;refine bO (aC ?_);simp only[↓AY];refine eB (fin t1 qt o5 (by simpa using hp) NW) (λr s' q=>?_) λu u q=>q;obtain⟨rfl,q⟩:=q;exact aC q
def NX:∀{es:ah (Int×aw)},(∀e∈es,uW w e)->kG w (es.map strOf) es:=by
 intro l;induction l with
 |nil=>
  intro _;exact .nil
 |cons e es D=>
  intro h;obtain⟨x,t,rfl⟩:=h e (.head _);exact .cons (D λe B=>h e (.tail _ B))
def kJ.keep {xs:ah au}(x:kJ w h S xs)(hk:∀o,h.get? S=ae o->H.get? S=ae o):kJ w H S xs:=by
 obtain⟨o,B,D,t,a,b⟩:=x;exact⟨o,B,D,t,hk o a,b⟩
theorem NY {a0 l:ay}{xs:ah au}(hh:A.handled=ag)(e0:l≠a0)(c0:S≠a0)(f0:S≠l)(b0:∀(i:ak) (v:aw),O[i]? =ae v->∃x t,xs[i]? =ae x/\v= .str x t)(d0:O.size=xs.length)(g0:xs.Nodup)(h3:xs.length<=3)(hR:∀H W,(∀b o,b≠S->b≠a0->s.heap.get? b=ae o->H.get? b=ae o)->kJ w H S xs->R (.ok (.ret .none)) { s with heap:=H,toks:=W }):
  ∀(k i:ak) (h:aG) (W:ak),xs.length - i=k->i<=xs.length->(∀b o,b≠S->b≠a0->s.heap.get? b=ae o->h.get? b=ae o)->h.IsListIter a0 l i->h.IsList l O->kJ w h S (xs.take i)->
   kc (aV prog w) A (.builtin "set.update.loop" ⟨[.ref S,.ref a0],[]⟩) R { s with heap:=h,toks:=W }:=by
 have B:=Walks.list (prog:=prog) (w:=w) (A:=A.in1) hh a0 l e0 O;have n0:S∉[a0,l]:=by simp[c0,f0]
 intros _ k;induction k with
 |zero=>
  intros _ i h W _ f hi G N hl z;have U:i=xs.length:=Am hi (Ia f);refine ke F.entry_set_update_loop ?_;rw[mw F.plain_set_update_loop _];show aA _ A.in1 (ib (.ref a0)>>=_) _ _ _;refine wB (B.done _ _ _ ⟨by rw[d0,<-U];exact N,hl⟩ λH j0 K=>?_);show aA _ A.in1 (ret dq) _ _ _;refine aC (hR _ _ (λb o Y Z e=>K b o (by simpa using Z) (G b o Y Z e)) ?_);rw[U,j7]at z;exact z.keep λo e=>K S o (by simpa using c0) e
 |succ k ih=>
  intros k _ ih;intros _ i h W _ f hi G N hl z;have J:i < xs.length:=Ib (by rw[f];exact Bk k);refine ke F.entry_set_update_loop ?_;rw[mw F.plain_set_update_loop _];show aA _ A.in1 (ib (.ref a0)>>=_) _ _ _;refine wB (B.item i _ _ _ (by rw[d0];exact J) ⟨N,hl⟩ ?_);intros _ v H j0 _ hP M K;obtain (⟨x,t,hx,rfl⟩):=b0 i v hP;have vC:=z.keep λo e=>K S o (by simpa using c0) e;show aA _ A.in1 (lA [qX x t] (setAdd S (.str x t))>>=_) _ _ _;refine wB (eA ?_);unfold setAdd;refine eA ?_;refine wB ((PySem.strKind prog w).pyHash (k:=x) (by show lx x (.str x t)=aj;simp[lx]) ?_);obtain (⟨o,es,ep,tb,ho,i0,hd,E,D,hf,hT,m0⟩):=vC;have l0:es.size=i:=by
   have:=D.length_eq;simp at this
   lia
  have T:xs[i]=x:=by
   rw[cy J]at hx;exact dp hx
  have X:x∉xs.take i:=by
   intro hm;obtain⟨j,hj,ej⟩:=qT.mp hm;rw[List.getElem_take]at ej;have yH:j < i:=by simp at hj;exact TT hj ML
   exact absurd ((wJ g0).mp (ej.trans T.symm)) (by exact NE (yH))
  refine add_str (s:={ s with heap:=H,toks:=_ }) (L:=!w.params.followText "set-order") ho i0 hd ?_ hf ?_ (by exact TT (EL l0) (CF 1 0 0 3 0 2 J h3 rfl)) hT λZ o2 m k0 t2 Q g2 x2 d2 p2 f2 l2 h0=>?_
  ·intros _ e _ L;obtain (⟨y,u,rfl⟩):=E e L;exact⟨⟨y,by show lx y (.str y u)=aj;simp[lx],rfl⟩,rfl⟩
  ·intros _ e _ L;cases hq:lx x e.2 with
   |false=>rfl
   |true=>
    obtain (⟨y,u,rfl⟩):=E e L;obtain⟨t',e'⟩:=GK hq;cases e';exact absurd (D.mem_iff.mp (mx.mpr ⟨_,L,rfl⟩)) X
  ·refine aC ⟨oJ F.plain_set_update_loop _,ih (i+1) Z _ (bZ Nat.pred f) J (λb ob Y V e=>(Q.2 b Y).trans (K b ob (by simpa using V) (G b ob Y V e))) (M.1.at λo e=>(Q.2 a0 c0.symm).trans e) (M.2.at λo e=>(Q.2 l f0.symm).trans e) ⟨o2,m,k0,t2,g2,x2,d2,?_,?_,f2,l2,λa=>h0⟩⟩
   ·intros _ e _ L;rcases dX.mp (p2.mem_iff.mp L)with L |L
    ·exact E e L
    ·rw[aJ.mp L];exact⟨x,t,rfl⟩
   ·rw[Ic J,T];refine(p2.map strOf).trans ?_;rw[dH];exact D.append (.refl _)
theorem NZ {a0:aw->aD->Prop}(a:aw)(h:a0 (.ref s.heap.objs.size) { s with heap:=s.heap.push { cls:=.type "set",dict:=ag,data:=.set #[] 0 (.fresh 0 0 (!w.params.followText "set-order")) } }):
  kc (aV prog w) A (.call (.builtin "set.__new__") ⟨[.type "set",a],[]⟩) (rG a0 E) s:=by
 refine ue ?_;show aA _ A.in1 (do uf "set.__new__" ⟨[.type "set",a],[]⟩;again (.builtin "set.__new__" ⟨[.type "set",a],[]⟩)) _ _ s;refine wB (nq (F.newCall_set_1 a) (aC ⟨oJ F.plain_set_new _,ke F.entry_set_new ?_⟩));rw[mw F.plain_set_new _];unfold Builtin.«set.__new__» Ie;have B:=sub_set_self;obtain⟨D,g,d,W,os⟩:=s;dsimp only
 wp_walk
 refine pV (aC ?_);dsimp only;simp only[newObj];refine wB (ua (aC ?_));exact aC h
def N7:uf "set.__new__" ⟨[.type "set"],[]⟩=pure ():=by rw[PySem.W.Fast.te10254737850608025244];kernel_rfl
def N8 {a0:aw->aD->Prop}(h:a0 (.ref s.heap.objs.size) { s with heap:=s.heap.push { cls:=.type "set",dict:=ag,data:=.set #[] 0 (.fresh 0 0 (!w.params.followText "set-order")) } }):
  kc (aV prog w) A (.call (.builtin "set.__new__") ⟨[.type "set"],[]⟩) (rG a0 E) s:=by
 refine ue ?_;show aA _ A.in1 (do uf "set.__new__" ⟨[.type "set"],[]⟩;again (.builtin "set.__new__" ⟨[.type "set"],[]⟩)) _ _ s;refine wB (nq N7 (aC ⟨oJ F.plain_set_new _,ke F.entry_set_new ?_⟩));rw[mw F.plain_set_new _];unfold Builtin.«set.__new__» Ie;have B:=sub_set_self;obtain⟨D,g,d,W,os⟩:=s;dsimp only
 wp_walk
 refine pV (aC ?_);dsimp only;simp only[newObj];refine wB (ua (aC ?_));exact aC h
def DF:kJ w (h.push { cls:=.type "set",dict:=ag,data:=.set #[] 0 (.fresh 0 0 (!w.params.followText "set-order")) }) h.objs.size []:=
 ⟨_,#[],0,_,cV _ rfl,⟨rfl,rfl,rfl⟩,rfl,λe B=>by simp at B,by simp,by rfl,⟨rfl,by show 7<=7;decide,rfl⟩,λq=>absurd rfl q⟩
set_option maxHeartbeats 3200000 in
theorem N9 {l:ay}{xs:ah au}{a0:aw->aD->Prop}(hh:A.handled=ag)(hl:s.heap.IsList l O)(b0:∀(i:ak) (v:aw),O[i]? =ae v->∃x t,xs[i]? =ae x/\v= .str x t)(c0:O.size=xs.length)(d0:xs.Nodup)(h3:xs.length<=3)(h:∀(H:aG) (W:ak),kJ w H s.heap.objs.size xs->(∀b o,s.heap.get? b=ae o->H.get? b=ae o)->a0 (.ref s.heap.objs.size) { s with heap:=H,toks:=W }):
  aA (aV prog w) A (call (.type "set") [.ref l]) a0 E s:=by
 obtain⟨c,tl,j0⟩:=F.called_set.mro;have k:=F.called_set.made;have g0:=F.called_set.sub;refine ud (ue ?_);show aA _ _ (callAny (.type "set") _) _ _ _;refine aC ⟨Ig _ (by decide +kernel),ke F.entry_type_call ?_⟩;rw[Ih (Ii "set" [.ref l] []) rfl];have h1:=F.called_set.notType;have h2:=F.called_set.canCreate;have k0:=F.typeCall_set_1 (.ref l);repeat (any_goals (first |assumption |wp_step))
 generalize M:Ij 0 0 (!w.params.followText "set-order")=fr;refine xh (NZ (.ref l) (E:=E) (a0:=λobj J=>obj= .ref s.heap.objs.size/\J={ s with heap:=s.heap.push { cls:=.type "set",dict:=ag,data:=.set #[] 0 fr } }) ⟨rfl,by rw[M]⟩) λr J z=>?_;cases r with
 |error e=>exact z
 |ok fl=>
  cases fl with
  |ret obj=>
   obtain⟨rfl,rfl⟩:=z;have hS:(s.heap.push { cls:=.type "set",dict:=ag,data:=.set #[] 0 fr }).get? s.heap.objs.size=ae { cls:=.type "set",dict:=ag,data:=.set #[] 0 fr }:=cV _ rfl;have hT:xg { s with heap:=s.heap.push { cls:=.type "set",dict:=ag,data:=.set #[] 0 fr } } (.ref s.heap.objs.size) "set":=⟨_,hS,rfl⟩;have m:kJ w (s.heap.push { cls:=.type "set",dict:=ag,data:=.set #[] 0 fr }) s.heap.objs.size []:=by rw[<-M];exact DF
   have D:fr=Ij 0 0 fr.led:=by rw[<-M];rfl
   generalize fr.led=led at D;subst D;have m0:=F.called_set.init.lookup;have l0:=F.called_set.init.bind (.ref s.heap.objs.size);repeat (any_goals (first |assumption |wp_step))
   refine xh (Ik (R:=rG (λr I=>r= .none/\∃H W,I={ s with heap:=H,toks:=W }/\
     kJ w H s.heap.objs.size xs/\(∀b o,s.heap.get? b=ae o->H.get? b=ae o)) E) F.called_set.init.plain F.entry_set_init (check_set_init_1 hT ?_)) λX I B=>?_
   ·obtain⟨ol,T,U,nl,S⟩:=hl;obtain⟨f0,L,f,G⟩:=ol;simp only at U S;subst U;subst S;have Oa:(s.heap.push { cls:=.type "set",dict:=ag,data:=.set #[] 0 (.fresh 0 0 led) }).get? l=ae { cls:=.type "list",dict:=L,data:=.seq O nl,slots:=G }:=be _ T;have i0:=F.sub_list_set;have h0:=F.sub_list_frozenset;have n0:(lD "list" == lD "dict")=az:=by decide
    have V:(s.heap.push { cls:=.type "set",dict:=ag,data:=.set #[] 0 (.fresh 0 0 led) }).IsList l O:=⟨_,Oa,rfl,nl,rfl⟩;unfold Builtin.«set.__init__» noKeywords Wd;generalize j:gb=PI
    wp_walk
    subst j;refine A4 V ?_;refine bO (wpAny_runValue ?_);have Y:l < s.heap.objs.size:=gP T;have Z:A.in1.in1.handled=ag:=by simp[hh]
    have u:(s.heap.push { cls:=.type "set",dict:=ag,data:=.set #[] 0 (.fresh 0 0 led) }).objs.size=s.heap.objs.size+1:=j' ..;have R:l≠(s.heap.push { cls:=.type "set",dict:=ag,data:=.set #[] 0 (.fresh 0 0 led) }).objs.size:=by
     rw[u];exact jX (Bl Y)
    refine NY (s:={ s with heap:=(s.heap.push { cls:=.type "set",dict:=ag,data:=.set #[] 0 (.fresh 0 0 led) }).push { cls:=.type "list_iterator",data:=.fields #[.ref l,.int 0 0] } }) Z R (by rw[u];exact jX (jF _)) (Al Y) b0 c0 d0 h3 (λH W hk N=>?_) xs.length 0 _ s.toks (by lia) (cZ _) (λb o y y e=>e)
     ⟨_,cV _ rfl,rfl,rfl⟩ (V.push _) (by rw[uj];exact m.keep λo e=>be _ e)
    show aA _ _ _ _ _ _;refine aC ?_;show aA _ _ (ret dq) _ _ _;refine aC ⟨rfl,H,W,rfl,N,λb o e=>?_⟩;have hb:=gP e;exact hk b o (jX hb) (by rw[u];exact jX (Bl hb)) (be _ (be _ e))
   ·cases X with
    |error e=>exact B
    |ok K=>
     cases K with
     |ret r=>
      obtain⟨rfl,H,W,rfl,N,e0⟩:=B;repeat (any_goals (first |assumption |wp_step))
      exact h _ _ N e0
     |_=>exact B.elim
  |_=>exact z.elim
set_option maxHeartbeats 1000000 in
set_option maxRecDepth 100000 in
theorem Ob {a0:aw->aD->Prop}(h:a0 (.ref s.heap.objs.size) { s with heap:=s.heap.push { cls:=.type "set",dict:=ag,data:=.set #[] 0 (.fresh 0 0 (!w.params.followText "set-order")) } }):
  aA (aV prog w) A (call (.type "set") []) a0 E s:=by
 obtain⟨c,X,N⟩:=F.called_set.mro;have L:=F.called_set.made;have M:=F.called_set.sub;refine ud (ue ?_);show aA _ _ (callAny (.type "set") _) _ _ _;refine aC ⟨Ig _ (by decide +kernel),ke F.entry_type_call ?_⟩;rw[Ih (Ii "set" [] []) rfl];have W:=F.called_set.notType;have Y:=F.called_set.canCreate;have O:=F.typeCall_set_0;repeat (any_goals (first |assumption |wp_step))
 generalize J:(!w.params.followText "set-order")=led at h;refine xh (N8 (E:=E) (a0:=λobj D=>obj= .ref s.heap.objs.size/\D={ s with heap:=s.heap.push { cls:=.type "set",dict:=ag,data:=.set #[] 0 (.fresh 0 0 led) } }) ⟨rfl,by rw[J]⟩) λr D K=>?_;cases r with
 |error e=>exact K
 |ok R=>
  cases R with
  |ret obj=>
   obtain⟨rfl,rfl⟩:=K;have T:(s.heap.push { cls:=.type "set",dict:=ag,data:=.set #[] 0 (.fresh 0 0 led) }).get? s.heap.objs.size=ae { cls:=.type "set",dict:=ag,data:=.set #[] 0 (.fresh 0 0 led) }:=cV _ rfl;have V:xg { s with heap:=s.heap.push { cls:=.type "set",dict:=ag,data:=.set #[] 0 (.fresh 0 0 led) } } (.ref s.heap.objs.size) "set":=⟨_,T,rfl⟩;have U:=F.called_set.init.lookup;have S:=F.called_set.init.bind (.ref s.heap.objs.size);repeat (any_goals (first |assumption |wp_step))
   refine xh (Ik (R:=rG (λr G=>r= .none/\a0 (.ref s.heap.objs.size) G) E) F.called_set.init.plain F.entry_set_init (check_set_init V ?_)) λI G B=>?_
   ·unfold Builtin.«set.__init__» noKeywords
    wp_walk
    exact⟨rfl,h⟩
   ·cases I with
    |error e=>exact B
    |ok H=>
     cases H with
     |ret r=>
      obtain⟨rfl,Z⟩:=B;repeat (any_goals (first |assumption |wp_step))
     |_=>exact B.elim
  |_=>exact K.elim
def kJ.rel {xs:ah au}(a0:Inv X B I h)(hS:h.get? S=ag)(h3:xs.length<=3)(x:kJ X.w H S xs):aF X B H (.cL xs) (.ref S):=by
 obtain⟨o,J,G,t,a,b,c,d,e,f,g,i⟩:=x;obtain⟨E,F⟩:=a0.fresh hS;have D:=e.length_eq;simp at D;exact⟨⟨E,F,a,b,c,⟨_,e,NX d,f,by exact TT (EL D) h3,i,g.led⟩⟩⟩
def so {l:ah AV}:∀{xs:ah au},strsOf l=ae xs->l=xs.map .str:=by
 induction l with
 |nil=>exact λe=>dp e ▸ rfl
 |cons x l D=>cases x with
  |str i=>
   intro ns e;obtain⟨E,B,rfl⟩:=j3.mp e;rw[D B];rfl
  |_=>exact λe=>gm e
def Oc (a0:Inv X B I h)(hh:A.handled=ag)(ra:aT X B h T V)(rk:cq X B h kw kvs):aW X A [] (RV X) B I h (call (.type "set") V kvs) (jK F T kw .set):=by
 intro z W Q E D;obtain⟨rfl,D⟩:=g9 rk D;cases ra with
 |nil=>
  have D:aL X z [] B h (RV X) Q E (.ok (.cL [])) I:=D;exact Ob (s:=sh z h W) (D _ _ _ _ (.refl _) (a0.push _) (Go.push ..) _ (DF.rel a0 (eU h) (by simp)))
 |cons Z b=>
  obtain⟨x,v,q,u,D⟩:=jq (.cons Z b) D;rw[q];obtain⟨i,q,D⟩:=iC D;subst q;obtain⟨e⟩:=u;obtain⟨l,k,D⟩:=g6 D;obtain⟨G,U,D⟩:=c9 D;obtain⟨⟨J,K⟩,D⟩:=a6 D;have D:aL X z [] B h (RV X) Q E (.ok (.cL G)) I:=D;obtain⟨O,n,o,R,len,_⟩:=ez a0 k e;rw[so U]at R len;refine N9 (s:=sh z h W) (O:=O.toArray) (xs:=G) hh o.isList (λj v L=>?_) (by rw[cG,len,aO]) J K λH f Y M=>?_
  ·have S:j < G.length:=by
    rw[<-aO (f:=AV.str),<-len];exact(cF.mp (show O[j]? =ae v by simpa using L)).1
   obtain⟨w,N,t,q⟩:=R.get (i:=j) (x:=.str G[j]) (by rw[dA,cy S];rfl);rw[show O[j]? =ae v by simpa using L]at N;exact⟨_,t,cy S,(dp N).trans q⟩
  ·exact D _ _ _ _ (.refl _) (a0.keeps M) (Go.keeps X B M []) _ (Y.rel a0 (eU h) K)
def Inv.DH {b0:AO}(a0:Inv X B I h)(hi:I[i]? =ae ao)(ha:B[i]? =ae a)(hk:∀b o,b≠a->h.get? b=ae o->H.get? b=ae o)(he:H.get? a=ae o')(hf:o'.isFreed=az)(b:OB X B h b0 o')(ex:ah ay)(hq:jj ao=aj->jj b0=aj:=by intro q0;cases q0):
  Inv X B (I.set i b0) H/\Go X ex B h B H:=by
 obtain⟨o,J,_⟩:=a0.obj i ao a hi ha;obtain g:=iK (λu=>o') J hf;obtain D:=dY h a (λu=>o');obtain⟨F,E⟩:=a0.change hi ha D g b ex hq;obtain kk:∀b o,(h.update a (λu=>o')).get? b=ae o->H.get? b=ae o:=λb G e=>by
  by_cases q:b=a
  ·subst q;rw[g]at e;cases e;exact he
  ·exact hk b G q ((D.2 b q).symm.trans e)
 exact⟨F.keeps kk,E.trans (Go.keeps X B kk ex)⟩
def next_item {it l:ay}{x:aw}{a0:ax aw->aD->Prop}(ho:s.heap.get? it=ae o)(hc:o.cls= .type "list_iterator")(hd:o.data= .fields #[.ref l,.int i 0])(hl:s.heap.IsList l O)(hx:O[i]? =ae x)(hQ:∀H o',H.get? it=ae o'->o'.cls= .type "list_iterator"->o'.data= .fields #[.ref l,.int (i+1:ak) 0]->fq it s.heap H->a0 (ae x) { s with heap:=H }):
  aA (aV prog w) A (ib (.ref it)) a0 E s:=by
 unfold pyNext;refine wB (ny (ye ho hc hd hl hx λH o' a b c d=>?_));exact aC (hQ H o' a b c d)
def next_end {o:Obj}{it l:ay}{a0:ax aw->aD->Prop}(hh:A.handled=ag)(ho:s.heap.get? it=ae o)(hc:o.cls= .type "list_iterator")(hd:o.data= .fields #[.ref l,.int i 0])(hl:s.heap.IsList l O)(hx:O[i]? =ag)(hQ:∀H o',H.get? it=ae o'->o'.cls= .type "list_iterator"->o'.data= .fields #[.none,.int i 0]->(∀b o,b≠it->s.heap.get? b=ae o->H.get? b=ae o)->a0 ag { s with heap:=H }):
  aA (aV prog w) A (ib (.ref it)) a0 E s:=by
 unfold pyNext;refine wB (ny (yf hh ho hc hd hl hx λB H e o' a b c d k u hx=>?_));obtain⟨J,I,K⟩:=hx;refine wB (mh (T:="StopIteration") (b:=aj) ⟨J,I,K⟩ oD ?_);exact aC (hQ H o' (k _ _ a) b c λD L F G=>k _ _ ((d.2 D F).trans G))
def Od {o:Obj}{it:ay}{a0:ax aw->aD->Prop}{V:aZ aw}(hh:A.handled=ag)(ho:s.heap.get? it=ae o)(hc:o.cls= .type "list_iterator")(hd:o.data= .fields V)(h0:V[0]? =ae .none)(hQ:∀H,(∀b o,s.heap.get? b=ae o->H.get? b=ae o)->a0 ag { s with heap:=H }):
  aA (aV prog w) A (ib (.ref it)) a0 E s:=by
 unfold pyNext;refine wB (ny (CM hh ho hc hd h0 λH e k u G=>?_));obtain⟨B,F,D⟩:=G;refine wB (mh (T:="StopIteration") (b:=aj) ⟨B,F,D⟩ oD ?_);exact aC (hQ H k)
theorem Oe {a0 l:ay}{O:ah aw}(hh:A.handled=ag)(d0:l≠a0)(c0:S≠a0)(e0:S≠l)(hn:O.length<=10000):
  ∀(r k:ak) (h:aG) (b0:ah aw) (c:ak) (oI:Obj),O.length - k=r->k<=O.length->b0.length<=k->h.get? a0=ae oI->oI.cls= .type "list_iterator"->oI.data= .fields #[.ref l,.int k 0]->h.IsList l O.toArray->
   h.get? S=ae { cls:=.type "list",data:=.seq b0.toArray c }->
   (∀H c' sp,(∀b o,b≠S->b≠a0->h.get? b=ae o->H.get? b=ae o)->H.get? a0=ae sp->sp.cls= .type "list_iterator"->sp.data= .fields #[.none,.int O.length 0]->H.get? S=ae { cls:=.type "list",data:=.seq (b0++O.drop k).toArray c' }->R (.ok (.ret .none)) { s with heap:=H })->
   kc (aV prog w) A (.builtin "list.extend.loop" ⟨[.ref S,.ref a0,.none],[]⟩) R { s with heap:=h }:=by
 intro r;induction r with
 |zero=>
  intro k h b0 c oI G u E K Z M J U Q;have D:k=O.length:=Am u (Ia G);refine ke F.entry_extend_loop ?_;rw[mw F.plain_extend_loop _];show aA _ A.in1 (ib (.ref a0)>>=_) _ _ _;refine wB (next_end (s:={ s with heap:=h }) (show A.in1.handled=ag from hh) K Z M J (by simp;exact(EG D)) λH L a b c' d=>?_);refine aC (Q H c L (λb o N Y e=>d b o Y e) a b (by rw[c',D]) ?_);rw[d S _ c0 U,D,Il,fU]
 |succ r ih=>
  intro k h b0 c oI G u E K Z M J U Q;have B:k < O.length:=Ib (by rw[G];exact Bk _);refine ke F.entry_extend_loop ?_;rw[mw F.plain_extend_loop _];show aA _ A.in1 (ib (.ref a0)>>=_) _ _ _;refine wB (next_item (s:={ s with heap:=h }) K Z M J (x:=O[k]) (by simp[B]) λH L a b c' d=>?_);obtain vC:H.get? S=ae { cls:=.type "list",data:=.seq b0.toArray c }:=(d.2 S c0).trans U;show aA _ A.in1 (my S (·.push O[k])>>=_) _ _ _;refine wB (mA vC rfl ?_ (by rw[cG];show _<=2 ^ 24;exact TT E (CF 1 0 0 10000 0 16777216 B hn rfl)) (by rw[Im,cG];show _<=2 ^ 24+1;exact CF 1 0 0 10000 1 16777217 (CH 0 0 1 0 E B) hn rfl));obtain T:=dY H S (bQ (·.push O[k]));obtain g:=iK (bQ (·.push O[k])) vC rfl;obtain⟨X,V⟩:∃X,bQ (·.push O[k]) { cls:=.type "list",data:=.seq b0.toArray c }={ cls:=.type "list",data:=.seq (b0++[O[k]]).toArray X }:=by
   refine⟨if (b0.toArray.push O[k]).size == b0.toArray.size then c else c+1,?_⟩;simp[bQ]
  rw[V]at g;refine aC ⟨oJ F.plain_extend_loop _,ih (k+1) _ (b0++[O[k]]) X L (bZ Nat.pred G) (by exact B) (by simp;exact E) ((T.2 a0 c0.symm).trans a) b c' ?_ g λY c3 m e1 e2 z e4 e5=>?_⟩
  ·obtain⟨ol,f,q2⟩:=J;exact⟨ol,(T.2 l e0.symm).trans ((d.2 l d0).trans f),q2⟩
  ·refine Q Y c3 m (λW o3 N j e=>e1 W o3 N j ((T.2 W N).trans ((d.2 W j).trans e))) e2 z e4 ?_;rw[e5,j2,oA B];rfl
theorem DJ {a0:aw->aD->Prop}{it:ay}(ho:s.heap.get? it=ae o)(hc:o.cls= .type "list_iterator")(h:kc (aV prog w) A.in1 (.builtin "list.extend.loop" ⟨[.ref s.heap.objs.size,.ref it,.none],[]⟩) (rG (λr b0=>r= .none/\a0 (.ref s.heap.objs.size) b0) E)
   { s with heap:=(s.heap.push { cls:=.type "list",data:=.seq #[] }).update s.heap.objs.size (bQ (λc=>(#[]:aZ aw))) }):
  aA (aV prog w) A (call (.type "list") [.ref it]) a0 E s:=by
 have I:it≠s.heap.objs.size:=λe=>dP _ (e ▸ gP ho);refine callType_codes (Q₁:=λobj B=>obj= .ref s.heap.objs.size/\B={ s with heap:=s.heap.push { cls:=.type "list",data:=.seq #[] } }) F.called_list (F.typeCall_list_1 _) F.entry_list_init
  (code_list_new _ ⟨rfl,rfl⟩) λobj B H=>?_
 obtain⟨rfl,rfl⟩:=H;have J:(s.heap.push { cls:=.type "list",data:=.seq #[] }).get? s.heap.objs.size=ae { cls:=.type "list",data:=.seq #[] }:=cV _ rfl;refine⟨⟨_,J,rfl⟩,F.args_list_init_2 _ _,?_⟩;show aA _ A.in1.in1 (do let old <-GL (.ref s.heap.objs.size);tC (.ref s.heap.objs.size) (λu=>#[]);letGo old.toList.reverse;Io (.ref s.heap.objs.size) (.ref it) .none) _ _ _;refine wB ?_;unfold Builtin.List.listItems;refine wB (j6 J rfl (aC ?_));show aA _ A.in1.in1 (my s.heap.objs.size (λu=>#[])>>=λu=>letGo (#[]:aZ aw).toList.reverse>>=λu=>Io (.ref s.heap.objs.size) (.ref it) .none) _ _ _;refine wB (mA J rfl ?_);refine wB (ic ?_);have G:xg { s with heap:=(s.heap.push { cls:=.type "list",data:=.seq #[] }).update s.heap.objs.size (bQ (λu=>(#[]:aZ aw))) } (.ref it) "list_iterator":=
  ⟨o,((dY ..).2 it I).trans (be _ ho),hc⟩
 unfold Builtin.List.listExtendWith;refine bO (wpAny_typeOf G ?_);have K:Ip (.ref s.heap.objs.size) (.ref it)=az:=by simp[Ip,I.symm]
 rw[aK (by rw[K];decide)];refine wB (oB G j8 (gy j8 G rz ?_ (rA _)));refine aC ⟨_,rfl,"list_iterator",_,G,j5.lookup,?_⟩;refine bO (eA ?_);unfold Builtin.List.listLengthHint;refine bO (rH G F.nolen_li ?_);show aA _ A.in1.in1 (specialOf (gw it) (aq "__length_hint__")>>=_) _ _ _;refine bO (rH G F.hint_li ?_)
 (generalize D:("list_iterator.__length_hint__":aI)=DK;(fail_if_success (clear D DK));wp_delta;rw[show splitId DK=ae ("list_iterator","__length_hint__") from by subst D;decide +kernel];subst D)
 refine bO (mh (b:=aj) G (by rw[rn];kernel_rfl) ?_);refine aC ?_;rw[aK (by decide)];exact aC ⟨oJ F.plain_extend_loop _,h⟩
set_option tactic.hygienic true in theorem Of (a0 : Inv X B I h) (hh : A.handled = ag) (ra : aT X B h T V) (rk : cq X B h kw kvs) : aW X A [] (RV X) B I h (call (.type "list") V kvs) (jK F T kw .list) := by
 intro z W Q E hr;intros z W Q E _ hr;obtain (⟨x,v,rfl,hx,hr⟩):=jq ra hr;obtain⟨rfl,hr⟩:=g9 rk hr;obtain (⟨i,q,hr⟩):=iC hr;subst q;obtain⟨e⟩:=hx;rename_i a;obtain⟨ao,e1,hr⟩:=eV hr;obtain⟨o,eo,bo⟩:=a0.obj i ao a e1 e;have mP:h.get? h.objs.size=ag:=eU h;have gS:((h.push { cls:=.type "list",data:=.seq #[] }).update h.objs.size (bQ (λu=>(#[]:aZ aw)))).get? h.objs.size=ae { cls:=.type "list",data:=.seq #[] }:=
  iK (bQ (λu=>(#[]:aZ aw))) (cV _ rfl) rfl
 obtain sb:=dY (h.push { cls:=.type "list",data:=.seq #[] }) h.objs.size (bQ (λu=>(#[]:aZ aw)));have kp:∀b o,h.get? b=ae o->((h.push { cls:=.type "list",data:=.seq #[] }).update h.objs.size (bQ (λu=>(#[]:aZ aw)))).get? b=ae o:=λb o e=>by
  refine(sb.2 b λq=>?_).trans (be _ e);rw[q,mP]at e;cases e
 cases ao with
 |list l=>
  obtain⟨O,n,hl,rl,len,hlen⟩:=ez a0 e1 e;obtain⟨hg,hr⟩:=a6 hr;have hr:aL X z [] B h (RV X) Q E (.ok (.ref I.length)) (I++[.list l]):=hr;refine call_list_seq (s:=sh z h W) a (.inl rfl) hl rfl rfl (λH c' hk g=>?_) (by rw[cG];show _<=2 ^ 24;exact CF 0 0 0 4096 0 16777216 (EL len) hg rfl);obtain⟨I1,G1⟩:=a0.place hk mP g (ao:=.list l) ⟨O,c',rfl,rl,hlen⟩;exact hr _ _ _ _ (.refl _) I1 G1 _ (.ref (sk a0 _))
 |iter s k=>
  cases s with
  |none=>
   obtain⟨c,V,d,d0⟩:=bo;obtain⟨hg,hr⟩:=a6 hr;have hr:aL X z [] B h (RV X) Q E (.ok (.ref I.length)) (I++[.list []]):=hr;refine DJ (s:=sh z h W) eo c ?_;refine ke PySem.F.entry_extend_loop ?_;rw[mw PySem.F.plain_extend_loop _];show aA _ A.in1.in1 (ib (.ref a)>>=_) _ _ _;refine bO (Od (s:=sh z _ W) (show A.in1.in1.handled=ag from hh) (kp _ _ eo) c d d0 λH hk=>?_);intros H _ hk;obtain⟨I1,G1⟩:=a0.place (λb o e=>hk _ _ (kp _ _ e)) mP (hk _ _ gS) (ao:=.list []) ⟨[],0,rfl,.nil,by simp⟩;exact aC ⟨rfl,hr _ _ _ _ (.refl _) I1 G1 _ (.ref (sk a0 _))⟩
  |some s=>
   obtain⟨c,la,es,d⟩:=bo;obtain⟨l,e2,hr⟩:=g6 hr;obtain⟨⟨Og,DL⟩,hr⟩:=a6 hr;obtain⟨hg,hr⟩:=a6 (show(P.guard ((l.drop k).length<=4096)>>=λu=>P.alloc (.list (l.drop k))>>=λi=>P.pure (AV.ref i)).run (I.set i (.iter .none 0)) (aL X z [] B h (RV X) Q E) from hr);have hr:aL X z [] B h (RV X) Q E (.ok (.ref (I.set i (.iter .none 0)).length)) (I.set i (.iter .none 0)++[.list (l.drop k)]):=hr;obtain⟨O,m,hl,rl,len,_⟩:=ez a0 e2 es;obtain yI:la≠a:=λq=>by
    obtain⟨ol,q1,_,n,q2⟩:=hl.isList;rw[q,eo]at q1;cases q1;rw[d]at q2;cases q2
   obtain Oh:h.objs.size≠a:=λq=>by rw[<-q,mP]at eo;cases eo
   obtain Oi:h.objs.size≠la:=λq=>by
    obtain⟨ol,q1,_⟩:=hl.isList;rw[<-q,mP]at q1;cases q1
   refine DJ (s:=sh z h W) eo c ?_;refine Oe (s:=sh z h W) (O:=O) (show A.in1.handled=ag from hh) yI Oh Oi (by exact CF 0 0 0 4096 0 10000 (EL len) DL rfl) (O.length - k) k _ [] 0 o rfl (by exact TT Og (EG len)) (cZ _) (kp _ _ eo) c d (by
    obtain⟨ol,q1,q2⟩:=hl.isList;exact⟨ol,kp _ _ q1,q2⟩) gS λH c' sp hk g1 g2 g3 g4=>?_
   refine⟨rfl,?_⟩;obtain b1:OB X B h (.list (l.drop k)) { cls:=.type "list",data:=.seq (O.drop k).toArray c' }:=⟨O.drop k,c',rfl,rl.drop k,by simp;exact CF 0 4096 10000 0 0 0 DL AL rfl⟩;obtain I1:=a0.alloc b1 rfl;obtain G1:=Go.alloc X [] B h { cls:=.type "list",data:=.seq (O.drop k).toArray c' };have ei:(I++[AO.list (l.drop k)])[i]? =ae (.iter (ae s) k):=by
    rw[lB (cF.mp e1).1];exact e1
   obtain ea:(B++[h.objs.size])[i]? =ae a:=Dh e;obtain fo:sp.isFreed=az:=ou g3;obtain Df:∀b ob,b≠a->(h.push { cls:=.type "list",data:=.seq (O.drop k).toArray c' }).get? b=ae ob->H.get? b=ae ob:=by
    intro b ob hb eb;intros b ob _ hb eb;by_cases q:b=h.objs.size
    ·subst q;rw[cV _ rfl]at eb;cases eb
     simpa using g4
    ·refine hk b ob q hb (kp b ob ?_);exact(Bm _ _ _ q).symm.trans eb
   obtain⟨I2,G2⟩:=I1.DH (b0:=.iter .none 0) ei ea Df g1 fo ⟨g2,_,g3,rfl⟩ [];obtain ql:i < I.length:=(cF.mp e1).1;rw[List.set_append_left _ _ ql]at I2;exact hr _ _ _ _ (.refl _) I2 (G1.trans G2) _ (.ref (by rw[eM,<-a0.len];simp))
 |_=>exact hr.elim
theorem eT.DO {k:aI}{e:ay}(x:eT k e h₀ h)(hk:∀a o V,h.get? a=ae o->o.data= .fields V->H.get? a=ae o):eT k e h₀ H:=by
 obtain⟨a,b,I,D⟩:=x;obtain (⟨o,V,F,J,E,G,B⟩):=D;refine⟨a,b,I,o,V,hk _ _ _ F E,J,E,G,?_⟩;rcases B with B |⟨T,oT,ts,d1,d2,d3,d4,d5,d6,d7⟩
 ·exact .inl B
 ·exact .inr ⟨T,oT,ts,d1,d2,d3,hk _ _ _ d4 d6,d5,d6,d7⟩
def Oj {b0:ax aw->aD->Prop}(r:bP X B h own ai it)(a0:Inv X B I h)(hh:A.handled=ag)(hr:(bx ai).run I λc0 Z=>match c0 with
   |.ok (ae (x0,d0))=>∀H t' v,Inv X B Z H->Dr own B h H->bP X B H own d0 it->aF X B H x0 v->b0 (ae v) (sh z H t')
   |.ok .none=>∀H t',Inv X B Z H->Dr own B h H->b0 ag (sh z H t')
   |.err _=>dm):aA (MX X) A (ib it) b0 E (sh z h W):=by
 unfold pyNext;refine wB (ny (draw (I:=I) r a0 hh ((bx ai).mono (λc0 Z y=>?_) hr)));cases c0 with
 |err k=>exact y
 |ok p=>cases p with
  |none=>
   intro H e F D O ex K;obtain⟨o,G,L⟩:=K;refine wB (mh (T:="StopIteration") (b:=aj) ⟨o,G,L⟩ oD ?_);exact aC (y H W F D)
  |some p=>
   obtain⟨x,d0⟩:=p;intro H t' v F D J M;exact aC (y H t' v F D J M)
def Ol (a0:Inv (X.more [S]) B I h)(hS:S∉B)(hB:X.base.get? S=ag):eG (X.more [S]) B h [S]:=λc D=>by
 rw[aJ.mp D];exact⟨hS,hB,.inl (by show S∈[S]++X.bad;simp)⟩
def DP {g:aB}(l:ah aw)(kw:ah (au×aw)):(oH (lp g) ⟨l,kw⟩).quiet=aj:=by
 cases g
 ·exact oJ PySem.F.plain_min_loop _
 ·exact oJ PySem.F.plain_max_loop _
def Om {n:Int}{t tb:cK}{a0:aw->aD->Prop}(h:a0 (.bool (decide (n < b))) s):aA (aV prog w) A (tK .Lt (.int n t) (.int b tb)) a0 E s:=
 CmpOf.ints_lt (P:=λj w=>if j=0 then w= .int n t else w= .int b tb) (λj=>if j=0 then n else b) (λj w B=>by by_cases D:j=0 <;>simp[D]at B |- <;>exact⟨_,B⟩) 0 1 _ _ _ _ _ (by simp) (by simp) (by simpa using h)
def Oo {n:Int}{t tb:cK}{a0:aw->aD->Prop}(h:a0 (.bool (decide (b < n))) s):aA (aV prog w) A (tK .Gt (.int n t) (.int b tb)) a0 E s:=
 CmpOf.ints_gt (P:=λj w=>if j=0 then w= .int n t else w= .int b tb) (λj=>if j=0 then n else b) (λj w B=>by by_cases D:j=0 <;>simp[D]at B |- <;>exact⟨_,B⟩) 0 1 _ _ _ _ _ (by simp) (by simp) (by simpa using h)
set_option maxHeartbeats 1000000 in
theorem Oq {g:aB}{d:aw}{q:ay}{old:ax (aw×Int×cK)}{c:ak}(gS:s.heap.get? S=ae (bC "list" (qh old) c))(h:aA (aV prog w) A.in1 (ib it) (λo s1=>∃c,s1.heap.get? S=ae (bC "list" (qh old) c)/\match o with
   |none=>old.elim (∀t,R (.ok (.ret d)) { s1 with toks:=t }) λp=>R (.ok (.ret p.1)) (upd s1 S #[])
   |some x0=>aA (aV prog w) A.in1 (call (.ref q) [x0]) (λy s2=>∃n t c,y= .int n t/\s2.heap.get? S=ae (bC "list" (qh old) c)/\
     kc (aV prog w) A (.builtin (lp g) ⟨[it,.ref q,.ref S],[(aq "default",d)]⟩) R (if rX g n old then upd s2 S #[x0,.int n t]else s2))
    (λe s2=>∃c,s2.heap.get? S=ae (bC "list" (qh old) c)/\R (.error e) (upd s2 S #[])) s1) (λ_ _=>dm) s):
  kc (aV prog w) A (.builtin (lp g) ⟨[it,.ref q,.ref S],[(aq "default",d)]⟩) R s:=by
 obtain E:=DP (g:=g) [it,.ref q,.ref S] [(aq "default",d)];have D:(qh old).size<=Bf:=by rw[fH];cases old <;>exact i6 rfl
 cases g
 ·refine ke PySem.F.entry_min_loop ?_;rw[show A.under (.builtin (lp az) ⟨[it,.ref q,.ref S],[(aq "default",d)]⟩)=A.in1 from mw PySem.F.plain_min_loop _];show aA _ A.in1 (rh (.ref S)>>=_) _ _ _;refine wB (j6 gS rfl ?_);show aA _ A.in1 (tryCatch (ib it) _>>=_) _ _ _;refine wB (rI (eB h (λo s1 h=>?_) λu u q=>q.elim));obtain⟨J,H,h⟩:=h;cases o with
  |none=>
   cases old with
   |none=>exact wB (gR (aC (h _)))
   |some p=>
    show aA _ A.in1 (my S (λu=>#[])>>=_) _ _ _;exact wB (mA H rfl (hz:=D) (wB (ic (aC h))))
  |some x=>
   show aA _ A.in1 (tryCatch (lA [x] (call (.ref q) [x])) _>>=_) _ _ _;refine wB (rI (eA (eB h (λy s2 h=>?_) λe s2 h=>?_)))
   ·obtain⟨n,t,G,rfl,B,h⟩:=h;cases old with
    |none=>
     show aA _ A.in1 (my S (λu=>#[x,.int n t])>>=_) _ _ _;exact wB (mA B rfl (hz:=D) (aC ⟨E,h⟩))
    |some p=>
     obtain⟨I,b,F⟩:=p;show aA _ A.in1 (tryCatch (lA [x,.int n t] (tK .Lt (.int n t) (.int b F)>>=_)) _>>=_) _ _ _;refine wB (rI (eA (wB (Om ?_))));refine wB (eA (qO (wB (ic (aC ?_)))));rw[show rX az n (ae (I,b,F))=decide (n < b) from rfl]at h;generalize decide (n < b)=y at h |-;cases y with
     |true=>
      rw[aN rfl]at h;show aA _ A.in1 (my S (λu=>#[x,.int n t])>>=_) _ _ _;exact wB (mA B rfl (hz:=D) (wB (ic (aC ⟨E,h⟩))))
     |false=>
      rw[aK jg]at h;exact wB (ic (aC ⟨E,h⟩))
   ·obtain⟨G,B,h⟩:=h;show aA _ A.in1 (my S (λu=>#[])>>=_) _ _ _;exact wB (mA B rfl (hz:=D) (wB (ic (tS h))))
 ·refine ke PySem.F.entry_max_loop ?_;rw[show A.under (.builtin (lp aj) ⟨[it,.ref q,.ref S],[(aq "default",d)]⟩)=A.in1 from mw PySem.F.plain_max_loop _];show aA _ A.in1 (rh (.ref S)>>=_) _ _ _;refine wB (j6 gS rfl ?_);show aA _ A.in1 (tryCatch (ib it) _>>=_) _ _ _;refine wB (rI (eB h (λo s1 h=>?_) λu u q=>q.elim));obtain⟨J,H,h⟩:=h;cases o with
  |none=>
   cases old with
   |none=>exact wB (gR (aC (h _)))
   |some p=>
    show aA _ A.in1 (my S (λu=>#[])>>=_) _ _ _;exact wB (mA H rfl (hz:=D) (wB (ic (aC h))))
  |some x=>
   show aA _ A.in1 (tryCatch (lA [x] (call (.ref q) [x])) _>>=_) _ _ _;refine wB (rI (eA (eB h (λy s2 h=>?_) λe s2 h=>?_)))
   ·obtain⟨n,t,G,rfl,B,h⟩:=h;cases old with
    |none=>
     show aA _ A.in1 (my S (λu=>#[x,.int n t])>>=_) _ _ _;exact wB (mA B rfl (hz:=D) (aC ⟨E,h⟩))
    |some p=>
     obtain⟨I,b,F⟩:=p;show aA _ A.in1 (tryCatch (lA [x,.int n t] (tK .Gt (.int n t) (.int b F)>>=_)) _>>=_) _ _ _;refine wB (rI (eA (wB (Oo ?_))));refine wB (eA (qO (wB (ic (aC ?_)))));rw[show rX aj n (ae (I,b,F))=decide (b < n) from rfl]at h;generalize decide (b < n)=y at h |-;cases y with
     |true=>
      rw[aN rfl]at h;show aA _ A.in1 (my S (λu=>#[x,.int n t])>>=_) _ _ _;exact wB (mA B rfl (hz:=D) (wB (ic (aC ⟨E,h⟩))))
     |false=>
      rw[aK jg]at h;exact wB (ic (aC ⟨E,h⟩))
   ·obtain⟨G,B,h⟩:=h;show aA _ A.in1 (my S (λu=>#[])>>=_) _ _ _;exact wB (mA B rfl (hz:=D) (wB (ic (tS h))))
def Ot (a v d:aw):pU "min" ⟨[a],[(aq "default",d),(aq "key",v)]⟩:=by unfold argsOk;kernel_rfl
def Ou (a v d:aw):pU "max" ⟨[a],[(aq "default",d),(aq "key",v)]⟩:=by unfold argsOk;kernel_rfl
def Ov {g:aB}{n:Int}{t:cK}{old:ax (Int×AV)}{ov:ax (aw×Int×cK)}(rx:aF X B h x v)(ro:qi X B h old ov):
  qi X B h (ae (uJ g n x old)) (if rX g n ov then ae (v,n,t)else ov):=by
 cases old with
 |none=>rw[show ov=ag from ro];exact⟨v,t,rfl,rx⟩
 |some p=>
  obtain⟨w,u,rfl,D⟩:=ro;show qi X B h (ae (if (if g then decide (p.1 < n)else decide (n < p.1))then (n,x)else p)) (if (if g then decide (p.1 < n)else decide (n < p.1))then _ else _);generalize (if g then decide (p.1 < n)else decide (n < p.1))=b;cases b with
  |true=>exact⟨v,t,rfl,rx⟩
  |false=>exact⟨w,u,rfl,D⟩
theorem Ow {X:Cx}{p0:St}{a0:aw->aD->Prop}{kk dd:AV}{q:ay}{d:aw}{g:aB}(C:cn X)(hF:∀X,cn X->HF X F k)(I0:Inv X B p0 h)(ar:Ar X k (20 * k+36) A l B h)(d0:∀v s,a0 v s->R (.ok (.ret v)) s)(m0:∀e s,E e s->R (.error e) s)(g0:h.get? S=ag)(rk:aF X B h kk (.ref q))(rd:aF X B h dd d)(n:ak):
  ∀(ai:AI) (z1:aD) (b0:ah ay) (c0:St) (h1:aG) (t1:ak) (old:ax (Int×AV)) (ov:ax (aw×Int×cK)) (c:ak),Zs z z1->Inv (X.more [S]) b0 c0 h1->Go X [] B h b0 h1->bP (X.more [S]) b0 h1 [] ai (.ref a)->S∉b0->
   h1.get? S=ae (bC "list" (qh ov) c)->qi (X.more [S]) b0 h1 old ov->(oR F kk dd g n ai old).run c0 (aL X z [] B h (RV X) a0 E)->
   kc (MX X) A (.builtin (lp g) ⟨[.ref a,.ref q,.ref S],[(aq "default",d)]⟩) R (sh z1 h1 t1):=by
 obtain f0:X.base.get? S=ag:=I0.ey g0;induction n with
 |zero=>exact λb b b b b b b b b b b b b b b b hr=>hr.elim
 |succ n ih=>
  intro ai z1 b0 c0 h1 t1 old ov c Z1 I1 G1 r1 hS gS ro hr;have D:∀{M:ah ay} {T:St} {L:aG} {xs:aZ aw} {c:ak} (ys:aZ aw),Inv (X.more [S]) M T L->Go X [] B h M L->S∉M->L.get? S=ae (bC "list" xs c)->
    Inv (X.more [S]) M T (L.update S (bQ λb=>ys))/\Go X [] B h M (L.update S (bQ λb=>ys))/\Dr [S] M L (L.update S (bQ λb=>ys))/\eG (X.more [S]) M L [S]:=@λM T L xs c ys m G5 n0 g5=>by
   obtain sb:=dY L S (bQ λb=>ys);obtain g:=iK (bQ λb=>ys) g5 rfl;obtain O:=Ol m n0 f0;obtain D:Dr [S] [] L (L.update S (bQ λb=>ys)):=Dr.same (.head _) sb g;exact⟨m.dr O D,G5.dr D.widen λc hc=>by rw[aJ.mp hc];exact g0,D.widen,O⟩
  refine Oq gS (eB (Oj (X:=X.more [S]) (I:=c0) (z:=z1) (W:=t1) (E:=λb b=>dm) (b0:=λo s'=>∃J Z H t',s'=sh z1 H t'/\Inv (X.more [S]) b0 Z H/\Dr [] b0 h1 H/\match o with
   |none=>aL X z [] B h (RV X) a0 E (.ok (old.elim dd (·.2))) Z
   |some vx=>J=b0/\∃x W,bP (X.more [S]) b0 H [] W (.ref a)/\aF (X.more [S]) b0 H x vx/\(F kk [x] []>>=λr=>dF r>>=λi=>oR F kk dd g n W (ae (uJ g i x old))).run Z (aL X z [] B h (RV X) a0 E)) r1 I1 (show A.in1.handled=ag from ar.handled)
    ((bx ai).mono (λr0 T y5=>?_) (yo ai (show(bx ai).run c0 _ from hr)))) (λo s1 x=>?_) λb b q=>q)
  ·cases r0 with
   |err kx=>exact y5
   |ok o=>cases o with
    |none=>exact λH t' I' D'=>⟨b0,T,H,t',rfl,I',D',y5⟩
    |some p=>exact λH t' v I' D' r' rv=>⟨b0,T,H,t',rfl,I',D',rfl,p.1,p.2,r',rv,y5⟩
  ·obtain⟨_,T,L,t5,rfl,m,D5,y⟩:=x;obtain G5:Go X [] B h b0 L:=G1.dr D5 λc hc=>nomatch hc;obtain U:=D5.keep _ _ gS pP hS;refine⟨c,U,?_⟩;cases o with
   |none=>
    obtain⟨I6,G6,D6,O6⟩:=D #[] m G5 hS U;cases old with
    |none=>
     rw[show ov=ag from ro];exact λt=>d0 _ _ (y z1 b0 L t Z1 m.less G5 _ (rd.step G5.step))
    |some p=>
     obtain⟨v,t,q,rv⟩:=ro;rw[q];exact d0 _ _ (y z1 b0 _ t5 Z1 I6.less G6 _ ((rv.dr D5 r1.gn).dr D6 O6).less)
   |some vx=>
    obtain⟨_,x,W,r5,rx,y⟩:=y;have h0:qi (X.more [S]) b0 L old ov:=by
     cases old with
     |none=>exact ro
     |some p=>exact ro.imp λb q=>q.imp λb q=>⟨q.1,q.2.dr D5 r1.gn⟩
    obtain k0:aF (X.more [S]) b0 L kk (.ref q):=(rk.more (j:=[S]) (λb hb=>by rw[aJ.mp hb];exact g0)).step (Go.more G5).step;obtain o0:Ar (X.more [S]) k (20 * k+30) A.in1 l b0 L:=((ar.step G5).in1 (by exact RR 31 36 rfl)).more;refine(hF (X.more [S]) C.more C.more o0 m k0 (.cons rx .nil) .nil).qr Z1 G5 (λb hm=>nomatch hm) y (λp z' J H t' K I G Gx e x=>?_) λz6 e0 i0 h6 t6 r vr Z6 I6 j G6 rr f=>?_
    ·obtain N:=Gx.seq U rfl hS (m.g7 f0);obtain Y:=Gx.step.dt U hS;obtain⟨I7,G7,D7,O7⟩:=D #[] I G Y N;refine⟨c,N,m0 _ _ (p z' J _ t' K I7.less G7 e (x.DO λa o V ea da=>((dY H S (bQ λb=>(#[]:aZ aw))).2 a λq=>?_).trans ea))⟩;rw[q,N]at ea;cases ea;cases da
    ·obtain⟨i,q,f⟩:=jo f;subst q;obtain⟨t2,rfl⟩:=rr;obtain Y:=j.step.dt U hS;obtain N:=j.seq U rfl hS (m.g7 f0);have l0:qi (X.more [S]) e0 h6 old ov:=by
      cases old with
      |none=>exact h0
      |some p=>exact h0.imp λb q=>q.imp λb q=>⟨q.1,q.2.step (Go.more j).step⟩
     obtain j0:=rx.step (Go.more j).step;obtain r6:=r5.step m (Go.more j) (λb hc=>nomatch hc);refine⟨i,t2,c,rfl,N,?_⟩;obtain rb:=Ov (g:=g) (n:=i) (t:=t2) j0 l0;cases hb:rX g i ov with
     |false=>
      rw[hb]at rb;exact ih W z6 e0 i0 h6 t6 _ ov c Z6 I6 G6 r6 Y N rb f
     |true=>
      rw[hb]at rb;obtain⟨I7,G7,D7,O7⟩:=D #[vx,.int i t2] I6 G6 Y N;obtain⟨c2,qu⟩:∃c2,(h6.update S (bQ λb=>#[vx,.int i t2])).get? S=ae (bC "list" #[vx,.int i t2] c2):=⟨_,nB N λb=>#[vx,.int i t2]⟩;obtain⟨w,u,q1,q2⟩:=rb;exact ih W z6 e0 i0 _ t6 (ae (uJ g i x old)) (ae (vx,i,t2)) c2 Z6 I7 G7 (r6.dr D7 (λb hc=>nomatch hc)) Y qu ⟨w,u,q1,q2.dr D7 O7⟩ f
set_option tactic.hygienic true in theorem Ox {X : Cx} (C : cn X) (hF : ∀ X, cn X → HF X F k) (a0 : Inv X B I h) (ar : Ar X k (20 * k + 38) A l B h) (ra : aT X B h T V) (rk : cq X B h kw kvs) (g : aB) :
  aW X A [] (RV X) B I h (call (.builtin (JH g)) V kvs) (jK F T kw (.best g)):=by
 intro z W Q E hr;intros z W Q E _ hr;obtain (⟨x,v,rfl,hx,hr⟩):=jq ra hr;obtain (⟨dd,d,l1,ks,rfl,rd,rk,hr⟩):=vB rk hr;obtain (⟨kk,kv,l2,Ww,rfl,Oy,rk,hr⟩):=vB rk hr;obtain⟨rfl,hr⟩:=g9 rk hr;obtain (⟨i,q,hr⟩):=iC hr;subst q;obtain⟨e⟩:=hx;rename_i a;obtain (⟨m,q,hr⟩):=Dz hr;obtain q:kk= .ref m:=q;subst q;cases Oy with
 | @mk q ek=>
 obtain hr:(oR F (.ref m) dd g 65 (.obj i) ag).run I (aL X z [] B h (RV X) Q E):=hr;obtain⟨s,kx,e1⟩:∃s kx,I[i]? =ae (.iter s kx):=by
  obtain (⟨o,e1,h2⟩):=eV (show(P.load i>>=λo=>match o with
   |.iter bq _=>P.pure bq
   |.iter (ae s) k=>(do
    let l <-lst s
    match l[k]? with
    |some v=>(do P.store i (.iter (ae s) (k+1));P.pure (ae (v,AI.obj i)))
    |Option.none=>(do P.store i (.iter bq 0);P.pure bq))
   |_=>P.fail).run I _ from hr)
  cases o with
  |iter s kx=>exact⟨s,kx,e1⟩
  |_=>exact h2.elim
 obtain hT:=vn (z:=z) (W:=W) a0 e1 e;obtain mP:h.get? h.objs.size=ag:=eU h;obtain gS:(h.push { cls:=.type "list",data:=.seq ([]:ah aw).toArray }).get? h.objs.size=ae (bC "list" #[] 0):=cV _ rfl
 set_option backward.match.sparseCases true in
 obtain fin:kc (MX X) A (.builtin (lp g) ⟨[.ref a,.ref q,.ref h.objs.size],[(aq "default",d)]⟩) (λr s'=>match r with |.ok (.ret v)=>Q v s' |.ok _=>dm |.error e=>E e s') (sh z (h.push { cls:=.type "list",data:=.seq ([]:ah aw).toArray }) W):=
  Ow C hF a0 (ar.less (a4 _) (by exact RR 36 38 rfl)) (λu u q=>q) (λu u q=>q) mP (.ref ek) rd 65 (.obj i) z B I _ W ag ag 0 (.refl z) (a0.more (λb o e=>be _ e) λb hb=>by rw[aJ.mp hb];exact⟨mP,_,gS⟩) (Go.push ..) (.obj e) (a0.fresh mP).1 gS rfl hr
 obtain hq:=DP (g:=g) [.ref a,.ref q,.ref h.objs.size] [(aq "default",d)];cases g
 ·refine kmk_tree PySem.F.kind_min PySem.F.plain_min PySem.F.entry_min (Ot _ _ _) ?_;show aA _ A.in1 (Iq "min" ["key","default"] 0 ⟨[],[(aq "default",d),(aq "key",.ref q)]⟩>>=_) _ _ _;refine wB (aC (a:=[ae (.ref q),ae d]) ?_);refine wB (aC ?_);refine wB (oB hT j8 (gy j8 hT rz ?_ (rA _)));refine aC ⟨_,rfl,"list_iterator",_,hT,j5.lookup,?_⟩;refine wB (om ?_ (cZ _));exact aC ⟨hq,fin⟩
 ·refine kmk_tree PySem.F.kind_max PySem.F.plain_max PySem.F.entry_max (Ou _ _ _) ?_;show aA _ A.in1 (Iq "max" ["key","default"] 0 ⟨[],[(aq "default",d),(aq "key",.ref q)]⟩>>=_) _ _ _;refine wB (aC (a:=[ae (.ref q),ae d]) ?_);refine wB (aC ?_);refine wB (oB hT j8 (gy j8 hT rz ?_ (rA _)));refine aC ⟨_,rfl,"list_iterator",_,hT,j5.lookup,?_⟩;refine wB (om ?_ (cZ _));exact aC ⟨hq,fin⟩
def DQ {c0:ak->ak->(aB->aD->Prop)->aD->Prop}{lt:ak->ak->aB}{α:Type}(hc:∀i a0 C,i < n->a0 < n->i≠a0->C (lt i a0) s->c0 i a0 C s){b0:α->aD->Prop}{a:α}:
  ∀(t:KasT α),mI n lt t=ae a->b0 a s->t.kasWp c0 b0 s
 |.ret b,e,q=>by cases e;exact q
 |.ask i a0 k,e,q=>by
  have e:(if i < n/\a0 < n/\i≠a0 then mI n lt (k (lt i a0))else ag)=ae a:=e;by_cases h:i < n/\a0 < n/\i≠a0
  ·rw[aN h]at e;exact hc i a0 _ h.1 h.2.1 h.2.2 (DQ hc (k (lt i a0)) e q)
  ·rw[aK h]at e;cases e
def DV {lt lt':ak->ak->aB}{α:Type}(h:∀i a0,i < n->a0 < n->lt i a0=lt' i a0):∀(t:KasT α),mI n lt t=mI n lt' t
 |.ret _=>rfl
 |.ask i a0 k=>by
  show(if i < n/\a0 < n/\i≠a0 then mI n lt (k (lt i a0))else ag)=(if i < n/\a0 < n/\i≠a0 then mI n lt' (k (lt' i a0))else ag);by_cases q:i < n/\a0 < n/\i≠a0
  ·rw[aN q,aN q,h i a0 q.1 q.2.1];exact DV h _
  ·rw[aK q,aK q]
def DW:∀(r:ah ak),(∀x∈r,x < 4)->r∈ranks r.length:=by
 intro l;induction l with
 |nil=>
  intro _;exact .head _
 |cons x r B=>
  intro h;have:=B λy D=>h y (.tail _ D);have E:=h x (.head _);show _∈(ranks r.length).flatMap _;rw[List.mem_flatMap];refine⟨r,this,?_⟩;have:x=0\/x=1\/x=2\/x=3:=by lia
  rcases this with rfl |rfl |rfl |rfl <;>simp
def Oz:(ranks 2).all (rY 2)=aj:=by decide +kernel
def OA:(ranks 3).all (rY 3)=aj:=by decide +kernel
def OC:(ranks 4).all (rY 4)=aj:=by decide +kernel
def OE {r:ah ak}(h2:2<=n)(h4:n<=4)(hr:r.length=n)(hx:∀x∈r,x < 4):rY n r=aj:=by
 obtain B:=DW r hx;rw[hr]at B;have:n=2\/n=3\/n=4:=by lia
 rcases this with rfl |rfl |rfl
 ·exact bW.mp Oz r B
 ·exact bW.mp OA r B
 ·exact bW.mp OC r B
def yJ {α:Type}{p q:α->aB}:∀{l:ah α},(∀x∈l,p x=aj->q x=aj)->∀{a:α},a∈l->q a=aj->p a=az->l.countP p < l.countP q:=by
 intro l;induction l with
 |nil=>
  intro _ a B _ _;exact nomatch B
 |cons b l J=>
  intro h a B F G;rw[uk,uk];obtain I:=Ir (l:=l) (p:=p) (q:=q) λx E=>h x (.tail _ E);rcases bu.mp B with rfl |B
  ·rw[F,G];simp;exact FI 0 0 1 1 I rfl
  ·have:=J (λx E=>h x (.tail _ E)) B F G;obtain H:=h b (.head _);cases D:p b with
   |true=>rw[H D];simp;exact this
   |false=>cases q b <;>simp <;>lia
def nO.rank {α:Type}{lt:α->α->aB}(a0:nO lt){l:ah α}{x y:α}(hx:x∈l):lt x y=decide (iB lt l x < iB lt l y):=by
 cases h:lt x y with
 |true=>
  have:=yJ (p:=λz=>lt z x) (q:=λz=>lt z y) (l:=l) (λz u B=>a0.trans _ _ _ B h) hx h (a0.uX x);exact(jc this).symm
 |false=>
  have:=Ir (l:=l) (p:=λz=>lt z y) (q:=λz=>lt z x) λz u B=>by
   rcases a0.neg z x y B with q |q
   ·exact q
   ·rw[h]at q;cases q
  exact(pK (og.mpr this)).symm
def lS {α β:Type}{lt:α->α->aB}{lt':β->β->aB}(f:β->α):∀(l:ah β),(∀x∈l,∀y∈l,lt (f x) (f y)=lt' x y)->sortBy lt (l.map f)=(sortBy lt' l).map f/\∀x∈sortBy lt' l,x∈l
 | [],_=>⟨rfl,λu h=>h⟩
 |x :: l,h=>by
  obtain⟨I,F⟩:=lS f l λa J b H=>h a (.tail _ J) b (.tail _ H);have D:∀(m:ah β),(∀y∈m,y∈l)->sortBy.cf lt (f x) (m.map f)=(sortBy.cf lt' x m).map f/\∀y∈sortBy.cf lt' x m,y=x\/y∈m:=by
   intro m;induction m with
   |nil=>intro _;exact⟨rfl,λy K=>.inl (aJ.mp K)⟩
   |cons y m E=>
    intro G;obtain⟨a,b⟩:=E λz B=>G z (.tail _ B);rw[gc];rw[show sortBy.cf lt (f x) (f y :: m.map f)=(if lt (f y) (f x)=aj then f y :: sortBy.cf lt (f x) (m.map f)else f x :: f y :: m.map f) from rfl,show sortBy.cf lt' x (y :: m)=(if lt' y x=aj then y :: sortBy.cf lt' x m else x :: y :: m) from rfl];rw[h y (.tail _ (G y (.head _))) x (.head _)];cases lt' y x with
    |true=>
     simp only[jD];refine⟨by rw[a,gc],λz B=>?_⟩;rcases bu.mp B with rfl |B
     ·exact .inr (.head _)
     ·exact(b z B).imp id λq=>.tail _ q
    |false=>
     simp only[jd,je];refine⟨by simp,λz B=>?_⟩
     simpa using B
  obtain⟨a,b⟩:=D (sortBy lt' l) F;refine⟨?_,λz B=>?_⟩
  ·rw[gc];show sortBy.cf lt (f x) (sortBy lt (l.map f))=_;rw[I,a];rfl
  ·rcases b z B with rfl |q
   ·exact .head _
   ·exact .tail _ (F z q)
def OF {α:Type}{lt:α->α->aB}(b0:nO lt)(l:ah α)(h2:2<=l.length)(h4:l.length<=4)(d:α):∃p:aZ ak,mI l.length (λi a0=>lt (l.getD i d) (l.getD a0 d)) (kas_sort l.length)=ae p/\p.toList.map (λi=>l.getD i d)=sortBy lt l:=by
 have L:∀x∈l.map (iB lt l),x < 4:=by
  intro x I;obtain⟨y,H,rfl⟩:=mx.mp I;have:iB lt l y < l.countP λu=>aj:=yJ (λu u u=>rfl) H rfl (b0.uX y);rw[Iu]at this;exact TT this h4
 have B:∀i a0,i < l.length->a0 < l.length->lt (l.getD i d) (l.getD a0 d)=f3 (l.map (iB lt l)) i a0:=by
  intro i a0 E J;have D:l.getD i d=l[i]:=by simp[E]
  have F:l.getD a0 d=l[a0]:=by simp[J]
  unfold f3;rw[b0.rank (l:=l) (by rw[D];exact pZ E),D,F];simp[E,J]
 obtain G:=OE h2 h4 (r:=l.map (iB lt l)) (by simp) L;unfold rY at G;rw[bU]at G;obtain⟨p,D,F⟩:=j3.mp G;refine⟨p,by rw[DV B];exact D,?_⟩;rw[F];have M:l=(dz l.length).map (λi=>l.getD i d):=by
  apply Iv (by simp);intro i K N;simp[K]
 have:=(lS (lt:=lt) (lt':=f3 (l.map (iB lt l))) (λi=>l.getD i d) (dz l.length) (λx I y H=>B x y (nx.mp I) (nx.mp H))).1;rw[<-M]at this;exact this.symm
def DX {κ:SortKind}{it:ah Keyed}{lt:Keyed->Keyed->aB}{c0:SortSt->aD->Prop}(b0:nO lt)(h2:2<=it.length)(h4:it.length<=4)(hc:∀(i a0:ak) (hi:i < it.length) (hj:a0 < it.length) (C:aB->aD->Prop),i≠a0->C (lt it[i] it[a0]) s->aA (aV prog w) A (keyLt' κ it[i].1 it[a0].1) C (λc c=>dm) s)(hQ:∀Z,(jA Z).toList=sortBy lt it->qS Z=ag->c0 Z s):
  aA (aV prog w) A ((sortRuns').run (pJ κ it.toArray #[] 7 ag)) (λr s'=>c0 r.2 s') E s:=by
 obtain⟨p,D,G⟩:=OF b0 it h2 h4 (dq,dq);have B:∀i,kas_item it.toArray i=it.getD i (dq,dq):=λi=>by
  unfold kas_item;simp[Array.getD,List.getD];by_cases h:i < it.length <;>simp[h]
 obtain run:=kas_runs (prog:=prog) (w:=w) (A:=A) (E:=E) (κ:=κ) (it:=it.toArray) (n:=it.length) (Q:=λu Z s'=>c0 Z s') (G:=λJ s'=>J=p/\s'=s) (s:=s) h2 (by exact FI 0 4 1 64 h4 rfl)
  (λJ Z s' N K L M=>by
   obtain⟨rfl,rfl⟩:=M;refine hQ Z ?_ L;rw[K,um,<-G];exact HD λi u=>B i)
  (DQ (n:=it.length) (lt:=λi a0=>lt (it.getD i (dq,dq)) (it.getD a0 (dq,dq))) (λi a0 C hi hj F I=>by
   unfold kas_cmp;rw[B,B];have D:it.getD i (dq,dq)=it[i]:=by simp[hi]
   have G:it.getD a0 (dq,dq)=it[a0]:=by simp[hj]
   rw[D,G]at I |-;exact hc i a0 hi hj C F I) _ D ⟨rfl,rfl⟩)
 have H:pJ κ it.toArray #[] 7 ag=kas_st κ it.toArray (mc (dz it.length)):=by
  obtain e:=kas_range it.toArray;rw[show it.toArray.size=it.length from cG ..]at e;show pJ κ it.toArray #[] 7 ag=pJ κ ((mc (dz it.length)).map (kas_item it.toArray)) #[] 7 ag;rw[e]
 rw[H];exact run
def DY:nO gI:=⟨λx=>by simp[gI],λx y z B D=>by simp only[gI,fu]at *;lia,λx y z h=>by simp only[gI,fu]at *;lia⟩
def DZ:[0,1].all (λn=>(ranks n).all λr=>(sortBy (f3 r) (dz n).reverse).reverse == sortBy (λi a0=>f3 r a0 i) (dz n))=aj:=by decide +kernel
def OG:(ranks 2).all (λr=>(sortBy (f3 r) (dz 2).reverse).reverse == sortBy (λi a0=>f3 r a0 i) (dz 2))=aj:=by decide +kernel
def OH:(ranks 3).all (λr=>(sortBy (f3 r) (dz 3).reverse).reverse == sortBy (λi a0=>f3 r a0 i) (dz 3))=aj:=by decide +kernel
def OI:(ranks 4).all (λr=>(sortBy (f3 r) (dz 4).reverse).reverse == sortBy (λi a0=>f3 r a0 i) (dz 4))=aj:=by decide +kernel
def D3 {α:Type}{lt:α->α->aB}(a0:nO lt)(l:ah α)(h4:l.length<=4):(sortBy lt l.reverse).reverse=sortBy (λx y=>lt y x) l:=by
 revert α lt a0 l h4;intros _ α;intros _ lt _ a0 _ l _ h4;cases l with
 |nil=>rfl
 |cons d Q=>
 generalize N:d :: Q=l at *;have O:∀x∈l.map (iB lt l),x < 4:=by
  intro x F;obtain⟨y,E,rfl⟩:=mx.mp F;have:iB lt l y < l.countP λu=>aj:=yJ (λu u u=>rfl) E rfl (a0.uX y);rw[Iu]at this;exact TT this h4
 have D:∀i j,i < l.length->j < l.length->lt (l.getD i d) (l.getD j d)=f3 (l.map (iB lt l)) i j:=by
  intro i j G K;have I:l.getD i d=l[i]:=by simp[G]
  have M:l.getD j d=l[j]:=by simp[K]
  unfold f3;rw[a0.rank (l:=l) (by rw[I];exact pZ G),I,M];simp[G,K]
 obtain B:=DW _ O;rw[aO]at B;have H:(sortBy (f3 (l.map (iB lt l))) (dz l.length).reverse).reverse=sortBy (λi j=>f3 (l.map (iB lt l)) j i) (dz l.length):=by
  generalize l.map (iB lt l)=r at B;have:l.length=0\/l.length=1\/l.length=2\/l.length=3\/l.length=4:=by lia
  rcases this with e |e |e |e |e <;>rw[e]at B |-
  ·exact bU.mp (bW.mp (bW.mp DZ 0 (by simp)) r B)
  ·exact bU.mp (bW.mp (bW.mp DZ 1 (by simp)) r B)
  ·exact bU.mp (bW.mp OG r B)
  ·exact bU.mp (bW.mp OH r B)
  ·exact bU.mp (bW.mp OI r B)
 have J:l=(dz l.length).map (λi=>l.getD i d):=by
  apply Iv (by simp);intro i L R;simp[L]
 obtain a:=(lS (lt:=lt) (lt':=f3 (l.map (iB lt l))) (λi=>l.getD i d) (dz l.length).reverse (λx F y E=>D x y (nx.mp (Iw.mp F)) (nx.mp (Iw.mp E)))).1;obtain b:=(lS (lt:=λx y=>lt y x) (lt':=λi j=>f3 (l.map (iB lt l)) j i) (λi=>l.getD i d) (dz l.length) (λx F y E=>D y x (nx.mp E) (nx.mp F))).1;rw[uo,<-J]at a;rw[<-J]at b;rw[a,b,<-uo,H]
def D4 {α:Type}(lt:α->α->aB):∀(l:ah α),l.length < 2->sortBy lt l=l
 | [],_=>rfl
 | [x],_=>rfl
 |_ :: _ :: _,h=>by simp at h;exact XX 3 2 (CH 3 2 0 0 h ZZ) rfl
def D8 {I:SortSt}{kS:ay}{b:aB}{e e1:ak}{b0:aZ aw}{it:ah Keyed}{P:PySem.Fin->aD->Prop}(gk:s.heap.get? kS=ae (bC "list" b0 e))(ga:s.heap.get? a=ae (bC "list" #[] e1))(c0:kS≠a)(d0:b0.size<=4)(h4:it.length<=4)(a0:(jA I).toList=sortBy gI (if b then it.reverse else it))(e0:qS I=ag)(h:∀H c,(∀b o,b≠a->b≠kS->s.heap.get? b=ae o->H.get? b=ae o)->H.get? a=ae (bC "list" (fw b gI it).toArray c)->(∃ok n xs,H.get? kS=ae ok/\ok.data= .seq xs n)->P (.done (.ret .none)) { s with heap:=H }):
  aA (aV prog w) A (ksk_tail a b e1 (.ref kS) I) P E s:=by
 have B:(if b then ((jA I).map (·.2)).reverse else (jA I).map (·.2))=(fw b gI it).toArray:=by
  apply xi.mp;unfold fw;cases b with
  |false=>simp only[jd,je]at a0 |-;rw[um,a0]
  |true=>
   simp only[jD]at a0 |-;rw[Iy,um,a0,<-uo,D3 DY it h4]
 have F:(fw b gI it).toArray.size<=4:=by
  rw[<-B];have U:(jA I).size<=4:=by
   rw[<-Bh,a0];have:∀(lt:Keyed->Keyed->aB) (l:ah Keyed),(sortBy lt l).length=l.length:=by
    intro lt l;induction l with
    |nil=>rfl
    |cons x l R=>
     have K:∀m:ah Keyed,(sortBy.cf lt x m).length=m.length+1:=by
      intro m;induction m with
      |nil=>rfl
      |cons y m S=>
       rw[show sortBy.cf lt x (y :: m)=(if lt y x=aj then y :: sortBy.cf lt x m else x :: y :: m) from rfl];split
       ·rw[ft,S,ft]
       ·rfl
     show(sortBy.cf lt x (sortBy lt l)).length=_;rw[K,R];rfl
   rw[this];split <;>simp <;>exact h4
  cases b <;>simp <;>exact U
 obtain N:=dY s.heap kS (bQ λu=>(#[]:aZ aw));obtain D:(s.heap.update kS (bQ λu=>(#[]:aZ aw))).get? a=ae (bC "list" #[] e1):=(N.2 a c0.symm).trans ga;obtain G:=nB gk λu=>(#[]:aZ aw);obtain L:=dY (s.heap.update kS (bQ λu=>(#[]:aZ aw))) a (bQ λu=>(fw b gI it).toArray);obtain J:=nB D λu=>(fw b gI it).toArray;unfold ksk_tail;try dsimp only
 refine wB (oL gk rfl ?_ (by rw[fH];exact FI 0 4 0 16777216 d0 rfl) (cZ _));refine wB (ic ?_);refine wB (xj D rfl ?_);rw[B];refine wB (oL D rfl ?_ (cZ _) (dW F (by rw[fH];exact RR 4 16777217 rfl)));rw[e0];simp only[AZ,jd,je];refine aC (h _ _ (λM o O T Q=>(L.2 M O).trans ((N.2 M T).trans Q)) J ⟨_,_,_,(L.2 kS c0).trans G,rfl⟩)
theorem yK {kS:ay}{b:aB}{e e1:ak}{a0:ah aw}{kz:ah Int}{P:PySem.Fin->aD->Prop}(gk:s.heap.get? kS=ae (bC "list" a0.toArray e))(ga:s.heap.get? a=ae (bC "list" #[] e1))(b0:kS≠a)(hi:oh a0 kz)(hl:a0.length=V.length)(h4:V.length<=4)(h:∀H c,(∀b o,b≠a->b≠kS->s.heap.get? b=ae o->H.get? b=ae o)->H.get? a=ae (bC "list" (fw b gI (a0.zip V)).toArray c)->(∃ok n xs,H.get? kS=ae ok/\ok.data= .seq xs n)->P (.done (.ret .none)) { s with heap:=H }):
  aA (aV prog w) A (ksk_end a b V.toArray e1 (.ref kS) a0.toArray) P E s:=by
 have step:∀t:dn PySem.Fin,aA (aV prog w) A t P E s->aA (aV prog w) A (if b=aj then (do let _ <-jZ "list.sort.reverse";t)else t) P E s:=by
  intro t J;split
  ·exact bO (gR J)
  ·exact J
 have N:a0.toArray.zip V.toArray=(a0.zip V).toArray:=by apply xi.mp;rw[ksk_zip]
 have O:(a0.zip V).length=V.length:=by simp[hl]
 have D:(if b=aj then (a0.zip V).toArray.reverse else (a0.zip V).toArray)=(if b=aj then (a0.zip V).reverse else a0.zip V).toArray:=by cases b <;>simp
 unfold ksk_end;try dsimp only
 refine step _ ?_;rw[N,D];by_cases B:V.toArray.size < 2
 ·rw[aN B,aN B];refine bO (aC ?_);rw[Iz];refine bO (aC ?_);try dsimp only
  rw[cG]at B;refine D8 (I:=pJ Aq (if b=aj then (a0.zip V).reverse else a0.zip V).toArray #[] 7 ag) gk ga b0 (by simp;exact CF 0 0 1 2 0 4 (EL hl) B rfl) (by lia) ?_ rfl h;show(if b=aj then (a0.zip V).reverse else a0.zip V)=_;rw[D4 _ _ (by split <;>simp <;>lia)]
 ·rw[aK B,aK B];rw[cG]at B;rw[ksk_kind (keys:=a0.toArray) (by simpa using hi) (by simp;exact TT (NL B) (EG hl))];refine bO (aC ?_);refine bO (DX (κ:=oneType') (lt:=gI) DY (by split <;>simp <;>lia) (by split <;>simp <;>exact TT MR h4) (λi j G F C v I=>?_) (c0:=λZ Q=>aA (aV prog w) A (ksk_tail a b e1 (.ref kS) Z) P E Q) λZ e1 M=>?_)
  ·obtain L:=pZ G;obtain K:=pZ F;generalize (if b=aj then (a0.zip V).reverse else a0.zip V)[i]=x at L I |-;generalize (if b=aj then (a0.zip V).reverse else a0.zip V)[j]=y at K I |-;have qp:x∈a0.zip V:=by cases b <;>simpa using L
   have OJ:y∈a0.zip V:=by cases b <;>simpa using K
   obtain⟨S,U⟩:=x;obtain⟨R,T⟩:=y;obtain⟨n,t,rfl⟩:=hi.all _ (rC qp).1;obtain⟨m,u,rfl⟩:=hi.all _ (rC OJ).1;rw[keyLt'_oneType];exact oneLt_int I
  ·exact D8 gk ga b0 (by simp;exact TT (EL hl) h4) (by lia) e1 M h
def aT.ofMap {α:Type}{f:α->AV}{g:α->aw}(l:ah α)(hx:∀x∈l,aF X B h (f x) (g x)):aT X B h (l.map f) (l.map g):=by
 induction l with
 |nil=>exact .nil
 |cons x l D=>exact .cons (hx x (.head _)) (D λy E=>hx y (.tail _ E))
theorem OK {ks:ah (Int×AV)}:∀{keys V:ah aw},oh keys (ks.map (·.1))->aT X B h (ks.map (·.2)) V->∃zz:ah ((Int×AV)×Keyed),ks=zz.map (·.1)/\keys.zip V=zz.map (·.2)/\∀z∈zz,lz z.2.1=z.1.1/\aF X B h z.1.2 z.2.2:=by
 induction ks with
 |nil=>intro _ _ _ r;cases r;exact⟨[],rfl,H3,λu I=>nomatch I⟩
 |cons p ks F=>
  intros p ks _ F;intro _ _ D r;cases D with
  |cons n t D=>cases r with
   |cons K r=>
    obtain⟨zz,J,H,G⟩:=F D r;refine⟨(p,(_,_)) :: zz,by rw[J];rfl,by rw[Bn,H];rfl,λz E=>?_⟩;rcases bu.mp E with rfl |E
    ·exact⟨rfl,K⟩
    ·exact G z E
def OL {ks:ah (Int×AV)}{a0:ah aw}(b:aB)(hi:oh a0 (ks.map (·.1)))(r:aT X B h (ks.map (·.2)) V):
  aT X B h ((sortBy (λx y=>if b then decide (y.1 < x.1)else decide (x.1 < y.1)) ks).map (·.2)) (fw b gI (a0.zip V)):=by
 obtain⟨G,rfl,I,F⟩:=OK hi r;unfold fw;rw[I];obtain a:=lS (lt:=λx y:Int×AV=>if b then decide (y.1 < x.1)else decide (x.1 < y.1)) (lt':=λD E:(Int×AV)×Keyed=>if b then decide (E.1.1 < D.1.1)else decide (D.1.1 < E.1.1)) (λz=>z.1) G (λu u u u=>rfl);have c:=lS (lt:=λx y:Keyed=>if b then gI y x else gI x y) (lt':=λD E:(Int×AV)×Keyed=>if b then decide (E.1.1 < D.1.1)else decide (D.1.1 < E.1.1)) (λz=>z.2) G (λx K y J=>by
  unfold gI;rw[(F x K).1,(F y J).1])
 rw[a.1,c.1,oM,oM];exact aT.ofMap _ λz H=>(F z (c.2 z H)).2
def yL (a0:Inv (X.more j) B I h)(ho:∀c∈own,c∈j/\c∉B/\X.base.get? c=ag):eG (X.more j) B h own:=λc D=>
 ⟨(ho c D).2.1,(ho c D).2.2,.inl (gQ _ (ho c D).1)⟩
theorem OM {X:Cx}{h1:aG}{t1:ak}{a0:aw->aD->Prop}{PF:PySem.Fin->aD->Prop}{kk:AV}{q kS:ay}{b:aB}{e1:ak}{l:ah AV}{g:ah (Int×AV)->P AV}(C:cn X)(hF:∀X,cn X->HF X F k)(I0:Inv X B I h)(ar:Ar X k (20 * k+30) A le B h)(rk:aF X B h kk (.ref q))(d0:a∈j)(c0:kS∈j)(b0:∀b∈j,h.get? b=ag)(g0:kS≠a)(I1:Inv (X.more j) B I h1)(G1:Go X [] B h B h1)(B0:h1.get? kS=ae (bC "list" #[] 0))(u0:h1.get? a=ae (bC "list" #[] e1))(j0:a∉B)(n0:kS∉B)(s0:aT (X.more j) B h1 l V)(h4:V.length<=4)(A0:(nH F kk l>>=g).run I (aL X z [] B h (RV X) a0 E))(y0:∀z' J Z H t' ks out c,Zs z z'->Inv (X.more j) J Z H->Go X [] B h J H->a∉J->H.get? a=ae (bC "list" out c)->
   aT (X.more j) J H ((sortBy (λx y=>if b then decide (y.1 < x.1)else decide (x.1 < y.1)) ks).map (·.2)) out.toList->(g ks).run Z (aL X z [] B h (RV X) a0 E)->PF (.done (.ret .none)) (sh z' H t')):
  aA (MX X) A (ksk_rest a (.ref q) b V.toArray e1 (.ref kS)) PF E (sh z h1 t1):=by
 have w:X.base.get? a=ag:=I0.ey (b0 _ d0);have W:X.base.get? kS=ag:=I0.ey (b0 _ c0);unfold ksk_rest;refine wB (gR ?_);first
  |rw[List.forIn_toArray]
  |(rw[<-IA];simp only[List.toList_toArray])
  |rw[<-IA]
 refine wB (ksk_fold (Cg X j F z B h kk a kS e1 l V g (aL X z [] B h (RV X) a0 E)) V 0 _ (.mk (acc:=[]) (keys:=[]) rfl (.refl z) I1 G1 j0 n0 B0 u0 .nil rfl rfl s0 A0) ?step ?done);case step=>
  rintro G v s' hx @⟨z',J,Z,H,t',O,K,e,rfl,Z',m,G',R,U,gk,ga,hi,N,L,T,S⟩;rw[kg]at N L S;rw[kg];have hj:G < V.length:=(cF.mp hx).1;have f0:G < l.length:=by rw[<-T.length];exact hj
  rw[oA f0]at S;have S:(F kk [l[G]] []>>=λr=>dF r>>=λi=>nH F kk (l.drop (G+1))>>=λrs=>g (O++((i,l[G]) :: rs))).run Z (aL X z [] B h (RV X) a0 E):=S;obtain⟨v',ev,rv⟩:=T.get (cy f0);rw[hx]at ev;cases ev;have OO:aF (X.more j) J H kk (.ref q):=(rk.more (j:=j) b0).step (Go.more G').step;have qn:Ar (X.more j) k (20 * k+30) A le J H:=(ar.step G').more;refine wB (ny ((hF (X.more j) C.more C.more qn m OO (.cons rv .nil) .nil).qr Z' G' (λd hm=>nomatch hm) S (λp z5 i0 h5 t5 Z5 I5 G5 Gx e x=>?_) λz6 v0 F0 h6 t6 r vr Z6 I6 Y G6 rr e0=>?_))
  ·have k0:=Gx.seq ga rfl R (m.g7 w);have f:=Gx.seq gk rfl U (m.g7 W);have x0:=Gx.step.dt ga R;have C0:=Gx.step.dt gk U;refine wB (gR (wB (xk f rfl ?_)));refine wB (oL f rfl ?_ (by rw[cG,fH];exact TT (EL N) (CF 1 0 0 4 0 16777216 hj h4 rfl)) (cZ _));refine wB (ic ?_);have s1:=dY h5 kS (bQ λd=>(#[]:aZ aw));have g1:=nB f λd=>(#[]:aZ aw);have u:=(s1.2 a g0.symm).trans k0;refine wB (oL u rfl ?_ (cZ _) (by rw[cG,fH];exact FI 0 4 0 16777217 h4 rfl));have s2:=dY (h5.update kS (bQ λd=>(#[]:aZ aw))) a (bQ λd=>V.toArray);have g2:=nB u λd=>V.toArray;have O5:eG (X.more j) i0 h5 [a,kS]:=yL I5 λc M=>by
    rcases bu.mp M with rfl |M
    ·exact⟨d0,x0,w⟩
    ·rw[aJ.mp M];exact⟨c0,C0,W⟩
   have D:Dr [a,kS] [] h5 ((h5.update kS (bQ λd=>(#[]:aZ aw))).update a (bQ λd=>V.toArray)):=(Dr.same (Bo _ (aJ.mpr rfl)) s1 g1).trans (Dr.same (.head _) s2 g2);refine tS (p z5 i0 _ t5 Z5 (I5.dr O5 D).less (G5.dr D.widen λc M=>?_) e (x.DO λa2 o E0 ea da=>?_))
   ·rcases bu.mp M with rfl |M
    ·exact b0 _ d0
    ·rw[aJ.mp M];exact b0 _ c0
   ·refine D.keep _ _ ea (λhm=>?_) (by simp);rcases bu.mp hm with rfl |hm
    ·rw[k0]at ea;cases ea;cases da
    ·rw[aJ.mp hm,f]at ea;cases ea;cases da
  ·obtain⟨i,q,e0⟩:=jo e0;subst q;obtain⟨t2,rfl⟩:=rr;have u:=Y.seq ga rfl R (m.g7 w);have l0:=Y.seq gk rfl U (m.g7 W);have w0:=Y.step.dt ga R;have r0:=Y.step.dt gk U;have m0:=T.step (Go.more Y).step;try dsimp only
   have s1:=dY h6 kS (bQ (·.push (.int i t2)));obtain⟨c2,qu⟩:∃c2,(h6.update kS (bQ (·.push (.int i t2)))).get? kS=ae (bC "list" (mc (K++[.int i t2])) c2):=by
    have:=nB l0 (·.push (.int i t2));have ee:(mc K).push (tL i t2)=mc (K++[.int i t2]):=by simp
    simp only[ee]at this;exact⟨_,this⟩
   have O6:eG (X.more j) v0 h6 [kS]:=yL I6 λc M=>by rw[aJ.mp M];exact⟨c0,r0,W⟩
   have D:Dr [kS] [] h6 (h6.update kS (bQ (·.push (.int i t2)))):=Dr.same (.head _) s1 qu;refine wB (oL l0 rfl ?_ (by rw[cG,fH];exact TT (EL N) (CF 1 0 0 4 0 16777216 hj h4 rfl)) (dW (oa (Im ..)) (by rw[cG,fH];exact CF 1 0 0 4 1 16777217 (CH 0 0 1 0 (EL N) hj) h4 rfl)));refine aC ⟨rfl,.mk (acc:=O++[(i,l[G])]) (keys:=K++[.int i t2]) rfl Z6 (I6.dr O6 D) (G6.dr D.widen (λc M=>by rw[aJ.mp M];exact b0 _ c0)) w0 r0 qu ((s1.2 a g0.symm).trans u) ?_ (by simp[N]) ?_ (aT.jn (λr=>r.dr D.widen O6) m0) ?_⟩
   ·rw[dH];exact ksk_snoc hi
   ·rw[dH,L,Ic f0];rfl
   ·simp only[j2,rD,mu];exact e0
 case done=>
  rintro s' @⟨z',J,Z,H,t',O,K,e,rfl,Z',m,G',R,U,gk,ga,hi,N,L,T,S⟩;rw[kg]at N L S;have p0:=T.length;rw[List.drop_of_length_le (by exact(EG p0))]at S;have S:(g O).run Z (aL X z [] B h (RV X) a0 E):=by
   have S:(g (O++[])).run Z (aL X z [] B h (RV X) a0 E):=S;rw[fU]at S;exact S
  rw[gA (by exact(EG p0))]at L;try dsimp only
  refine wB (xk gk rfl ?_);refine yK (s:=sh z' H t') gk ga g0 hi N h4 λh2 c o0 h0 z0=>?_;have O':eG (X.more j) J H [a,kS]:=yL m λc M=>by
   rcases bu.mp M with rfl |M
   ·exact⟨d0,R,w⟩
   ·rw[aJ.mp M];exact⟨c0,U,W⟩
  have D:Dr [a,kS] [] H h2:=⟨λb o eb=>by
   by_cases q1:b=a
   ·subst q1;exact⟨_,h0⟩
   by_cases q2:b=kS
   ·subst q2;obtain⟨ok,n,xs,g,_⟩:=z0;exact⟨ok,g⟩
   exact⟨o,o0 b o q1 q2 eb⟩,λb o eb hn d=>o0 b o (λq=>hn (by rw[q];exact .head _)) (λq=>hn (by rw[q];exact Bo _ (aJ.mpr rfl))) eb⟩
  have rs:=OL (X:=X.more j) (B:=J) (h:=h2) (ks:=O) (a0:=K) (V:=V) b hi (by rw[L];exact aT.jn (λr=>r.dr D.widen O') T);refine y0 z' J Z h2 t' O (fw b gI (K.zip V)).toArray c Z' (m.dr O' D) (G'.dr D.widen λc M=>?_) R h0 (by simpa using rs) S
  ·rcases bu.mp M with rfl |M
   ·exact b0 _ d0
   ·rw[aJ.mp M];exact b0 _ c0
theorem Ea {X:Cx}{b0:aw->aD->Prop}{l:ah AV}{la q:ay}{kk:AV}{b:aB}{kw:ah (au×aw)}(C:cn X)(hF:∀X,cn X->HF X F k)(a0:Inv X B I h)(ar:Ar X k (20 * k+38) A le B h)(ei:I[i]? =ae (.list l))(ea:B[i]? =ae la)(h4:l.length<=4)(rk:aF X B h kk (.ref q))(c0:pU "sorted" ⟨[.ref la],kw⟩)(d0:∀x,pU "list.sort" ⟨[.ref x],kw⟩)(ht:∀x,j4.«list.sort» ⟨[.ref x],kw⟩=ksk_tree x (.ref q) b)(hr:(nH F kk l>>=λks=>cz ((sortBy (λx y=>if b then decide (y.1 < x.1)else decide (x.1 < y.1)) ks).map (·.2))).run I (aL X z [] B h (RV X) b0 E)):
  aA (MX X) A (call (.builtin "sorted") [.ref la] kw) b0 E (sh z h W):=by
 obtain (⟨V,n,hl,rl,len,_⟩):=ez a0 ei ea;refine call_function_entry_kw kind_sorted plain_sorted entry_sorted c0 ?_;unfold Builtin.«sorted»;refine wB (m:=checkCount "sorted" 1 1 _) (aC ?_);refine wB (collect_list (s:=sh z h W) hl.isList ?_ (by rw[fH];exact CF 0 0 0 4 0 16777216 (EL len) h4 rfl));refine wB (om ?_ (by rw[fH];exact CF 0 0 0 4 0 16777216 (EL len) h4 rfl));have N:((h.push (bC "list" #[] 0)).update h.objs.size (bQ (· ++V.toArray))).objs.size=h.objs.size+1:=by
  rw[IB,Bp]
 have M:(((h.push (bC "list" #[] 0)).update h.objs.size (bQ (· ++V.toArray))).push (bC "list" V.toArray 0)).get? (h.objs.size+1)=ae (bC "list" V.toArray 0):=by
  rw[<-N];exact cV _ rfl
 have keep:∀b o,h.get? b=ae o->(((h.push (bC "list" #[] 0)).update h.objs.size (bQ (· ++V.toArray))).push (bC "list" V.toArray 0)).get? b=ae o:=λb o q=>by
  have S:b < h.objs.size:=gP q;rw[Bm _ _ _ (by rw[N];exact jX (Bl S)),Heap.get?_update_ne _ _ _ _ (jX S),Bm _ _ _ (jX S)];exact q
 have U:(((h.push (bC "list" #[] 0)).update h.objs.size (bQ (· ++V.toArray))).push (bC "list" V.toArray 0)).objs.size=h.objs.size+2:=by rw[Bp,N]
 show aA _ _ _ _ _ (sh z (((h.push (bC "list" #[] 0)).update h.objs.size (bQ (· ++V.toArray))).push (bC "list" V.toArray 0)) W);rw[N];have L:h.get? (h.objs.size+1)=ag:=Bg (gU _);have Y:h.get? (h.objs.size+3)=ag:=Bg (by exact RR 0 3 rfl);generalize u:h.objs.size+1=D at *;generalize h0:((h.push (bC "list" #[] 0)).update h.objs.size (bQ (· ++V.toArray))).push (bC "list" V.toArray 0)=hA at *;refine wB (eA (IC ID ⟨_,M,rfl⟩ IE ?body (d0 _)));case body=>
  show aA (MX X) A.in1.in1 (j4.«list.sort» ⟨[.ref D],kw⟩) _ _ _;rw[ht D];have s1:=dY hA D (bQ λd=>(#[]:aZ aw));obtain⟨e1,qv⟩:∃e1,(hA.update D (bQ λd=>(#[]:aZ aw))).get? D=ae (bC "list" #[] e1):=⟨_,nB M λd=>#[]⟩;have T:((hA.update D (bQ λd=>(#[]:aZ aw))).push (bC "tuple" V.toArray 0)).objs.size=h.objs.size+3:=by rw[Bp,IB,U]
  unfold ksk_tree;refine wB (xk M rfl ?_);refine wB (oL M rfl ?_ (by rw[cG,fH];exact CF 0 0 0 4 0 16777216 (EL len) h4 rfl) (cZ _));refine wB (xj qv rfl ?_);refine wB (m9 ?_ (by show V.length<=_;rw[fH];exact CF 0 0 0 4 0 16777216 (EL len) h4 rfl));refine wB (om ?_ (cZ _));refine eA ?_;have gk:(((hA.update D (bQ λd=>(#[]:aZ aw))).push (bC "tuple" V.toArray 0)).push (bC "list" #[] 0)).get? (h.objs.size+3)=ae (bC "list" #[] 0):=by
   rw[<-T];exact cV _ rfl
  have ga:(((hA.update D (bQ λd=>(#[]:aZ aw))).push (bC "tuple" V.toArray 0)).push (bC "list" #[] 0)).get? D=ae (bC "list" #[] e1):=be _ (be _ qv);have w:∀b o,h.get? b=ae o->(((hA.update D (bQ λd=>(#[]:aZ aw))).push (bC "tuple" V.toArray 0)).push (bC "list" #[] 0)).get? b=ae o:=λb o e=>
   be _ (be _ ((s1.2 b λq=>by rw[q,L]at e;cases e).trans (keep b o e)))
  have K:∀c∈[D,h.objs.size+3],h.get? c=ag:=λc O=>by
   rcases bu.mp O with rfl |O
   ·exact L
   ·rw[aJ.mp O];exact Y
  have I1:=a0.more (j:=[D,h.objs.size+3]) w λc O=>⟨K c O,by
   rcases bu.mp O with rfl |O
   ·exact⟨_,ga⟩
   ·rw[aJ.mp O];exact⟨_,gk⟩⟩
  have f:h.objs.size+3≠D:=by exact NT (FI 0 1 1 3 (EG u) rfl)
  have j:aT (X.more [D,h.objs.size+3]) B (((hA.update D (bQ λd=>(#[]:aZ aw))).push (bC "tuple" V.toArray 0)).push (bC "list" #[] 0)) l V:=
   (aT.jn (λr=>r.more K) rl).step (Go.keeps (X.more [D,h.objs.size+3]) B w []).step
  have f0:=OM C hF a0 ((ar.in1 (u':=20 * k+34) (by exact RR 35 38 rfl)).in1 (u':=20 * k+30) (by exact RR 31 34 rfl)) (z:=z) (t1:=W) (a0:=b0) (E:=E) (PF:=λR s'=>∃v,R= .done (.ret v)/\aA (MX X) A.in1 (ret (gw D)) (λR s'=>∃v,R= .done (.ret v)/\b0 v s') E s') rk (j:=[D,h.objs.size+3]) (a:=D) (kS:=h.objs.size+3)
   (.head _) (Bo _ (aJ.mpr rfl)) K f (b:=b) (e1:=e1) I1 (Go.keeps X B w []) gk ga (a0.fresh L).1 (a0.fresh Y).1 j (by exact TT (EL len) h4) hr
   (λz' J Z H t' ks e0 c Z' I' G' m g0 rs G=>by
    obtain⟨hg,G⟩:=a6 G;have G:aL X z [] B h (RV X) b0 E (.ok (.ref Z.length)) (Z++[.list ((sortBy (λx y=>if b then decide (y.1 < x.1)else decide (x.1 < y.1)) ks).map (·.2))]):=G;refine⟨_,rfl,aC ⟨_,rfl,?_⟩⟩;have I2:=I'.adopt (D:=D) (.head _) g0 (ao:=.list ((sortBy (λx y=>if b then decide (y.1 < x.1)else decide (x.1 < y.1)) ks).map (·.2))) ⟨e0.toList,c,by simp[bC],rs,by exact FI 0 4096 0 10000 hg rfl⟩ m (a0.ey L);exact G z' _ _ _ Z' I2 (G'.adopt L) _ (.ref (by rw[<-I'.len];simp)))
  rw[T];exact f0
theorem OP {X:Cx}(C:cn X)(hF:∀X,cn X->HF X F k)(a0:Inv X B I h)(ar:Ar X k (20 * k+38) A le B h)(ra:aT X B h T V)(rk:cq X B h kw kvs):
  aW X A [] (RV X) B I h (call (.builtin "sorted") V kvs) (jK F T kw .sorted):=by
 intros _ z W Q E _ D;obtain (⟨x,v,rfl,N,D⟩):=jq ra D;obtain (⟨kk,kv,O,M,rfl,G,rk,D⟩):=vB rk D;obtain (⟨b,rfl,D⟩):=Dy rk D;obtain (⟨i,q,D⟩):=iC D;subst q;obtain⟨K⟩:=N;obtain (⟨l,L,D⟩):=g6 D;obtain⟨H,D⟩:=a6 D;obtain (⟨m,q,D⟩):=Dz D;obtain q:kk= .ref m:=q;subst q;obtain⟨J⟩:=G;cases b with
 |false=>exact Ea (b:=az) C hF a0 ar L K H (.ref J) (ksk_s1 _ _) (λu=>ksk_l1 _ _) (λu=>ksk_t1 _ _) D
 |true=>exact Ea (b:=aj) C hF a0 ar L K H (.ref J) (ksk_s2 _ _ _) (λu=>ksk_l2 _ _ _) (λu=>ksk_t2 _ _ _) D
def OQ {X:Cx}{fv:AV}{f:aw}(C:cn X)(hF:∀X,cn X->HF X F k)(a0:Inv X B I h)(ar:Ar X k (20 * k+38) A le B h)(rf:aF X B h fv f)(ra:aT X B h T V)(rk:cq X B h kw kvs):aW X A [] (RV X) B I h (call f V kvs) (xF F fv T kw):=by
 obtain G:=ar.handled;intro z W Q E J;obtain⟨b,H,D⟩:=c9 J;clear J;obtain q:=NC H;subst q;clear H;cases b with
 |len=>cases rf;exact ND a0 G ra rk z W Q E D
 |iter=>cases rf;exact NH a0 ra rk z W Q E D
 |object=>cases rf;exact NI a0 ra rk z W Q E D
 |sum=>cases rf;exact NJ a0 G ra rk z W Q E D
 |list=>cases rf;exact Of a0 G ra rk z W Q E D
 |set=>cases rf;exact Oc a0 G ra rk z W Q E D
 |type=>cases rf;exact NK a0 ra rk z W Q E D
 |sorted=>cases rf;exact OP C hF a0 ar ra rk z W Q E D
 |best g=>cases rf;exact Ox C hF a0 ar ra rk g z W Q E D
def OR:∀(l:ah au) (n:ak),aT X B h (l.map .str) (strsFrom n l):=by
 intro D;induction D with
 |nil=>
  intro _;exact .nil
 |cons x l E=>
  intro n;exact .cons (.str x n) (E (n+1))
def OS {xs:ah au}:∀{V:ah aw},aT X B h (xs.map .str) V->∃ll,V=strValues ll/\ll.map (·.1)=xs:=by
 induction xs with
 |nil=>intro V r;cases r;exact⟨[],rfl,rfl⟩
 |cons x xs H=>
  intro V r;cases r with |cons E F=>
  obtain⟨t,rfl⟩:=E;obtain⟨ll,G,D⟩:=H F;exact⟨(x,t) :: ll,by rw[G];rfl,by rw[gc,D]⟩
def OT {s:au}{t:cK}(a0:Inv X B I h)(ra:aT X B h T V)(rk:cq X B h kw kvs):aW X A [] (RV X) B I h (call (.builtin "str.startswith") (.str s t :: V) kvs) (fb F (.str s) .startswith T kw):=by
 intro z W Q E D;obtain⟨x,v,rfl,G,D⟩:=jq ra (nU D);obtain⟨rfl,D⟩:=g9 rk D;obtain⟨p,q,D⟩:=xT D;subst q;obtain⟨u,rfl⟩:=G;obtain D:aL X z [] B h (RV X) Q E (.ok (.bool (pE s p))) I:=D;exact SC.startswith (D _ _ _ _ (.refl _) a0 (.refl ..) _ (.bool _))
theorem OU {s:au}{t:cK}(a0:Inv X B I h)(ra:aT X B h T V)(rk:cq X B h kw kvs):aW X A [] (RV X) B I h (call (.builtin "str.split") (.str s t :: V) kvs) (fb F (.str s) .split T kw):=by
 intros _ z W Q E _ D;obtain (⟨x,v,rfl,M,D⟩):=jq ra (nU D);obtain⟨rfl,D⟩:=g9 rk D;obtain (⟨c,q,D⟩):=xT D;subst q;obtain (⟨u,rfl⟩):=M;obtain⟨⟨L,N,O⟩,D⟩:=a6 D;obtain⟨R,D⟩:=a6 (show(P.guard (((aU s c).map AV.str).length<=4096)>>=λw=>P.alloc (.list ((aU s c).map .str))>>=λi=>P.pure (AV.ref i)).run I (aL X z [] B h (RV X) Q E) from D);have D:aL X z [] B h (RV X) Q E (.ok (.ref I.length)) (I++[.list ((aU s c).map .str)]):=D;have G:∀(V:ah aw) (K:ak),aT X B h ((aU s c).map .str) V->Q (.ref h.objs.size) (sh z (h.push { cls:=.type "list",data:=.seq V.toArray }) K):=λV K r=>
  D _ _ _ _ (.refl _) (a0.alloc (ao:=.list ((aU s c).map .str)) ⟨V,0,rfl,r,by exact FI 0 4096 0 10000 R rfl⟩ rfl) (Go.alloc ..) _ (.ref (sk a0 _))
 cases H:(decide (s.length < c.length) || decide (IF s < IF c))
 ·cases J:(l7 s c 0 s.length (s.length+1)).isEmpty
  ·refine nr PySem.F.slot_str_split (pS _ _ _) PySem.F.entry_str_split (PySem.F.args_str_split_2 _ _) (meets_str_split_sep s c t u H L J (by show _<=2 ^ 24;exact FI 0 4096 0 16777216 N rfl) (by show _<=2 ^ 24;exact FI 0 4096 0 16777216 O rfl)) ?_;refine G (strsFrom W (m6 s (l7 s c 0 s.length (s.length+1)) c.length)) _ ?_;have e:aU s c=m6 s (l7 s c 0 s.length (s.length+1)) c.length:=(aK (Bq H)).trans (aK (Bq J));rw[e];exact OR _ _
  ·refine nr PySem.F.slot_str_split (pS _ _ _) PySem.F.entry_str_split (PySem.F.args_str_split_2 _ _) (meets_str_split_not_found s c t u H L J) ?_;have e:aU s c=[s]:=(aK (Bq H)).trans (aN J);exact G [.str s t] W (by rw[e];exact .cons (.str s t) .nil)
 ·refine nr PySem.F.slot_str_split (pS _ _ _) PySem.F.entry_str_split (PySem.F.args_str_split_2 _ _) (meets_str_split_cannot_occur s c t u H) ?_;have e:aU s c=[s]:=aN H;exact G [.str s t] W (by rw[e];exact .cons (.str s t) .nil)
theorem OV {s:au}{t:cK}(a0:Inv X B I h)(ra:aT X B h T V)(rk:cq X B h kw kvs):aW X A [] (RV X) B I h (call (.builtin "str.join") (.str s t :: V) kvs) (fb F (.str s) .join T kw):=by
 intros _ z W Q E _ D;obtain (⟨x,v,rfl,J,D⟩):=jq ra (nU D);obtain⟨rfl,D⟩:=g9 rk D;obtain (⟨i,q,D⟩):=iC D;subst q;obtain⟨K⟩:=J;obtain (⟨l,O,D⟩):=g6 D;obtain (⟨R,ex,D⟩):=c9 D;obtain⟨N,D⟩:=a6 D;obtain D:aL X z [] B h (RV X) Q E (.ok (.str (jx s R))) I:=D;obtain⟨V,n,L,M,len,_⟩:=ez a0 O K;obtain⟨S,rfl,H⟩:=OS (so ex ▸ M);exact SC.join (s:=sh z h W) L.isList H N λG k=>D z B h k (.refl _) a0 (.refl ..) _ (.str _ G)
def OW (a0:Inv X B I h)(ea:B[i]? =ae a)(ra:aT X B h T V)(rk:cq X B h kw kvs):aW X A [] (RV X) B I h (call (.builtin "list.append") (.ref a :: V) kvs) (fb F (.ref i) .append T kw):=by
 intro z W Q E D;obtain⟨x,v,rfl,N,D⟩:=jq ra (nU D);obtain⟨rfl,D⟩:=g9 rk D;obtain⟨l,L,D⟩:=g6 D;obtain⟨K,D⟩:=a6 D;obtain D:aL X z [] B h (RV X) Q E (.ok .none) (I.set i (.list (l++[x]))):=D;obtain⟨V,n,U,R,len,_⟩:=ez a0 L ea;refine Dj (s:=sh z h W) U (by rw[cG];show _<=2 ^ 24;exact CF 0 0 0 4096 0 16777216 (EL len) K rfl) λH J G M=>?_;obtain b:OB X B h (.list (l++[x])) { cls:=.type "list",data:=.seq (V.toArray.push v) J }:=⟨V++[v],J,by simp,R.append (.cons N .nil),by simp;exact FI 0 4096 0 9999 K rfl⟩;obtain⟨S,O⟩:=a0.change L ea M G b [];exact D _ _ _ _ (.refl _) S O _ .none
theorem OX (a0:Inv X B I h)(ea:B[i]? =ae a)(ra:aT X B h T V)(rk:cq X B h kw kvs):aW X A [] (RV X) B I h (call (.builtin "list.extend") (.ref a :: V) kvs) (fb F (.ref i) .extend T kw):=by
 intros _ z W Q E _ D;obtain (⟨x,v,rfl,S,D⟩):=jq ra (nU D);obtain⟨rfl,D⟩:=g9 rk D;obtain (⟨j,q,D⟩):=iC D;subst q;cases S with
 | @mk c w=>
 obtain (⟨l,M,D⟩):=g6 D;obtain (⟨N,Z,D⟩):=g6 D;obtain⟨⟨k,R,o⟩,D⟩:=a6 D;obtain D:aL X z [] B h (RV X) Q E (.ok .none) (I.set i (.list (l++N))):=D;obtain⟨V,n,K,u,len,_⟩:=ez a0 M ea;obtain⟨G,O,H,J,L,_⟩:=ez a0 Z w;refine nr PySem.F.slot_list_extend ⟨_,K,rfl⟩ PySem.F.entry_list_extend (PySem.F.args_list_extend_2 _ _) (AutoSeq1.list_extend_list_list_0 a V.toArray n c G.toArray O (extend_door (by rw[cG,cG,fH];lia)) (by rw[cG,fH];exact CF 0 0 0 4096 0 16777216 (EL len) R rfl) (by rw[cG,cG,fH];lia)) ⟨K,H,?_⟩;obtain g:=IG K (λx=>x++G.toArray);obtain b:OB X B h (.list (l++N)) { cls:=.type "list",data:=.seq (V.toArray++G.toArray) (if (V.toArray++G.toArray).size == V.toArray.size then n else n+1) }:=⟨V++G,_,by rw[GZ],u.append J,by simp;lia⟩;obtain⟨U,Y⟩:=a0.change M ea (dY ..) g b [];exact D _ _ _ _ (.refl _) U Y _ .none
def OY {α:Type}:∀{l:ah α} {x:α},l.getLast? =ae x->l=l.dropLast++[x]:=λ{l x} e=>by
 obtain⟨B,rfl⟩:=List.getLast?_eq_some_iff.mp e;simp
theorem aT.snoc_inv {l:ah AV}:∀{V:ah aw},aT X B h (l++[x]) V->∃ws v,V=ws++[v]/\aT X B h l ws/\aF X B h x v:=by
 induction l with
 |nil=>
  intro V r;cases r with |cons I D=>cases D;exact⟨[],_,rfl,.nil,I⟩
 |cons y l H=>
  intro V r;cases r with |cons G D=>
  obtain⟨ws,v,rfl,E,F⟩:=H D;exact⟨_ :: ws,v,rfl,.cons G E,F⟩
theorem OZ (a0:Inv X B I h)(ea:B[i]? =ae a)(ra:aT X B h T V)(rk:cq X B h kw kvs):aW X A [] (RV X) B I h (call (.builtin "list.pop") (.ref a :: V) kvs) (fb F (.ref i) .pop T kw):=by
 intros _ z W Q E _ G;obtain⟨rfl,G⟩:=yF ra (nU G);obtain⟨rfl,G⟩:=g9 rk G;obtain (⟨l,N,G⟩):=g6 G;obtain (⟨x,ex,G⟩):=c9 G;obtain G:aL X z [] B h (RV X) Q E (.ok x) (I.set i (.list l.dropLast)):=G;obtain (⟨V,n,J,M,len,H⟩):=ez a0 N ea;rw[OY ex]at M;obtain (⟨D,v,rfl,U,R⟩):=M.snoc_inv;have K:(D++[v]).toArray.size - 1=D.length:=by rw[cG,bK];rfl
 refine nr PySem.F.slot_list_pop ⟨_,J,rfl⟩ PySem.F.entry_list_pop (PySem.F.args_list_pop_1 _) (PySem.MeetsSeq.list_pop_last a _ n v (by rw[K];simp) (by rw[cG,len,fH];exact FI 0 10000 0 16777216 H rfl)) ⟨J,?_⟩;obtain g:=IG J (λS=>S.eraseIdxIfInBounds ((D++[v]).toArray.size - 1));have O:(D++[v]).toArray.eraseIdxIfInBounds ((D++[v]).toArray.size - 1)=D.toArray:=by
  rw[K,kl_erase,fU]
 obtain b:OB X B h (.list l.dropLast) { cls:=.type "list",data:=.seq ((D++[v]).toArray.eraseIdxIfInBounds ((D++[v]).toArray.size - 1)) (if ((D++[v]).toArray.eraseIdxIfInBounds ((D++[v]).toArray.size - 1)).size == (D++[v]).toArray.size then n else n+1) }:=⟨D,_,by rw[O],U,by simp;exact FI 0 10000 0 10001 H rfl⟩;obtain⟨Y,L⟩:=a0.change N ea (dY ..) g b [];exact G _ _ _ _ (.refl _) Y L _ (R.step L.step)
def vD {xs:aZ aw}(g:h.get? a=ae o)(d:o.data= .seq xs n):dJ h (.ref a)=(lz (xs.getD 0 .none),lz (xs.getD 1 .none)):=by
 show(match h.get? a with |some o=>(match o.data with |.seq xs _=>(lz (xs.getD 0 .none),lz (xs.getD 1 .none)) |_=>(0,0)) |none=>(0,0))=_;rw[g];show(match o.data with |.seq xs _=>(lz (xs.getD 0 .none),lz (xs.getD 1 .none)) |_=>(0,0))=_;rw[d]
def yM:nO cX:=by
 refine⟨λx=>by simp[cX],λx y z B D=>?_,λx y z h=>?_⟩
 ·simp only[cX,pQ,cW,fu,bU]at *;rcases B with B |⟨e1,B⟩<;>rcases D with D |⟨e2,D⟩
  ·exact .inl (uq B D)
  ·exact .inl (e2 ▸ B)
  ·exact .inl (e1.symm ▸ D)
  ·exact .inr ⟨e1.trans e2,uq B D⟩
 ·simp only[cX,pQ,cW,fu,bU]at *;rcases Int.lt_trichotomy x.1 y.1 with c |c |c
  ·exact .inl (.inl c)
  ·rcases h with h |⟨e,h⟩
   ·exact .inr (.inl (c ▸ h))
   ·rcases ur (x.2 < y.2)with d |d
    ·exact .inl (.inr ⟨c,d⟩)
    ·exact .inr (.inr ⟨c.symm.trans e,GW (He.1 d) h⟩)
  ·exact .inr (.inl (h.elim (uq c) λh=>h.1 ▸ c))
def Eb (h:aG):nO (jl h):=⟨λx=>yM.uX _,λx y z B D=>yM.trans _ _ _ B D,λx y z h=>yM.neg _ _ _ h⟩
def O2 (a:ay):j4.«list.sort» ⟨[.ref a],[]⟩=rZ a az:=rfl
def O3 (a:ay):j4.«list.sort» ⟨[.ref a],[(aq "reverse",.bool aj)]⟩=rZ a aj:=rfl
theorem O4 {x y:aw}{C:aB->aD->Prop}(hx:nQ s.heap x)(hy:nQ s.heap y)(a0:dJ s.heap x≠dJ s.heap y)(hC:C (cX (dJ s.heap x) (dJ s.heap y)) s):aA (aV prog w) A (keyLt' (tuples' aj) x y) C E s:=by
 obtain (⟨a,o,B,T,F,V,O,n,rfl,J,Q,K⟩):=hx;obtain (⟨c,p,G,S,D,R,U,m,rfl,I,N,L⟩):=hy;have k1:dJ s.heap (.ref a)=(B,F):=vD J K;have k2:dJ s.heap (.ref c)=(G,D):=vD I L;rw[k1,k2]at a0 hC;refine kat_lt J K I L ?_;refine kat_cons (tu ?_);by_cases H:B=G
 ·subst H;rw[IH];refine kat_yes (kat_cons (tu ?_));obtain M:F≠D:=λq=>a0 (by rw[q]);rw[oj.mpr M];refine kat_no ?_;refine kat_one _ _ ?_;have:cX (B,F) (B,D)=decide (F < D):=by simp[cX]
  rw[this]at hC;exact PySem.P.lt_int hC
 ·rw[oj.mpr H];refine kat_no ?_;have:cX (B,F) (G,D)=decide (B < G):=by simp[cX,H]
  rw[this]at hC;exact oneLt_int hC
def nQ.keep (x:nQ h v)(hk:∀a o xs n,h.get? a=ae o->o.cls= .type "tuple"->o.data= .seq xs n->H.get? a=ae o):nQ H v/\dJ H v=dJ h v:=by
 obtain⟨a,o,B,E,G,F,D,n,rfl,g,c,d⟩:=x;obtain g':=hk _ _ _ _ g c d;exact⟨⟨a,o,B,E,G,F,D,n,rfl,g',c,d⟩,by rw[vD g d,vD g' d]⟩
def Ec (b:aB)(lt:Keyed->Keyed->aB)(it:ah Keyed):(fw b lt it).length=it.length:=by
 unfold fw;rw[aO];have:∀(lt:Keyed->Keyed->aB) (l:ah Keyed),(sortBy lt l).length=l.length:=by
  intro lt l;induction l with
  |nil=>rfl
  |cons x l E=>
   have B:∀m:ah Keyed,(sortBy.cf lt x m).length=m.length+1:=by
    intro m;induction m with
    |nil=>rfl
    |cons y m D=>
     unfold sortBy.cf;split
     ·rw[ft,D,ft]
     ·rfl
   show(sortBy.cf lt x (sortBy lt l)).length=_;rw[B,E];rfl
 exact this _ _
set_option backward.match.sparseCases true in
theorem O8 {b:aB}{PF:PySem.Fin->aD->Prop}(ho:s.heap.get? a=ae (bC "list" V.toArray n))(h4:V.length<=4)(hT:∀v∈V,nQ s.heap v)(a0:(V.map (dJ s.heap)).Nodup)(h:∀H c,(∀b' o,b'≠a->s.heap.get? b'=ae o->H.get? b'=ae o)->H.get? a=ae (bC "list" (fw b (jl s.heap) (V.zip V)).toArray c)->PF (.done (.ret .none)) { s with heap:=H }):
  aA (aV prog w) A (rZ a b) PF E s:=by
 have s1:=dY s.heap a (bQ λy=>(#[]:aZ aw));obtain⟨M,qv⟩:∃M,(s.heap.update a (bQ λy=>(#[]:aZ aw))).get? a=ae (bC "list" #[] M):=⟨_,nB ho λy=>#[]⟩;unfold rZ;refine wB (xk ho rfl ?_);refine wB (oL ho rfl ?_ (by rw[cG,fH];exact FI 0 4 0 16777216 h4 rfl) (cZ _));refine wB (xj qv rfl ?_);refine wB (m9 ?_ (by show V.length<=_;rw[fH];exact FI 0 4 0 16777216 h4 rfl));refine wB (om ?_ (cZ _));refine eA ?_;have u:∀b' o,b'≠a->s.heap.get? b'=ae o->(((s.heap.update a (bQ λy=>(#[]:aZ aw))).push (bC "tuple" V.toArray 0)).push (bC "list" #[] 0)).get? b'=ae o:=λb' o R e=>
  be _ (be _ ((s1.2 b' R).trans e))
 have J:(((s.heap.update a (bQ λy=>(#[]:aZ aw))).push (bC "tuple" V.toArray 0)).push (bC "list" #[] 0)).get? a=ae (bC "list" #[] M):=be _ (be _ qv);show aA (aV prog w) A _ PF E { s with heap:=((s.heap.update a (bQ λy=>(#[]:aZ aw))).push (bC "tuple" V.toArray 0)).push (bC "list" #[] 0) };generalize ((s.heap.update a (bQ λy=>(#[]:aZ aw))).push (bC "tuple" V.toArray 0)).push (bC "list" #[] 0)=H2 at *;have W:∀v∈V,nQ H2 v/\dJ H2 v=dJ s.heap v:=λv F=>(hT v F).keep λa' o xs m g c y=>u a' o (λq=>by rw[q,ho]at g;cases g;exact absurd c (by show ¬ (lD "list"=lD "tuple");decide)) g;have L:(fw b (jl s.heap) (V.zip V)).length<=4:=by rw[Ec];simp;exact h4
 have step:∀t:dn PySem.Fin,aA (aV prog w) A t PF E { s with heap:=H2 }->aA (aV prog w) A (if b=aj then (do let _ <-jZ "list.sort.reverse";t)else t) PF E { s with heap:=H2 }:=by
  intro t ht;split
  ·exact wB (gR ht)
  ·exact ht
 have tail:∀I:SortSt,(jA I).toList=sortBy (jl s.heap) (if b then (V.zip V).reverse else V.zip V)->qS I=ag->aA (aV prog w) A (do
   let B:=(<-wF a) != M
   tC (.ref a) λy=>if b then ((jA I).map (·.2)).reverse else (jA I).map (·.2)
   if let ae e:=qS I then jZ "list.sort.comparison-raised";throw e
   if B then jZ "list.sort.modified";raiseError "ValueError" "list modified during sort"
   ret .none) PF E { s with heap:=H2 }:=by
  intro I D U;have Q:(if b then ((jA I).map (·.2)).reverse else (jA I).map (·.2))=(fw b (jl s.heap) (V.zip V)).toArray:=by
   apply xi.mp;unfold fw;cases b with
   |false=>simp only[jd,je]at D |-;rw[um,D]
   |true=>
    simp only[jD]at D |-;rw[Iy,um,D,<-uo,D3 (Eb s.heap) (V.zip V) (by simp;exact h4)]
  obtain s2:=dY H2 a (bQ λy=>(fw b (jl s.heap) (V.zip V)).toArray);obtain T:=nB J λy=>(fw b (jl s.heap) (V.zip V)).toArray;refine wB (xj J rfl ?_);rw[Q];refine wB (oL J rfl ?_ (cZ _) (by rw[cG,fH];exact FI 0 4 0 16777217 L rfl));rw[U];simp only[AZ,jd,je];exact aC (h _ _ (λb' o R e=>(s2.2 b' R).trans (u b' o R e)) T)
 have hz:V.toArray.zip V.toArray=(V.zip V).toArray:=by apply xi.mp;rw[ksk_zip]
 have K:(if b=aj then (V.zip V).toArray.reverse else (V.zip V).toArray)=(if b=aj then (V.zip V).reverse else V.zip V).toArray:=by cases b <;>simp
 try dsimp only
 refine step _ ?_;rw[hz,K];by_cases G:V.toArray.size < 2
 ·rw[aN G,aN G];refine bO (aC ?_);rw[Iz];refine wB (aC ?_);try dsimp only
  rw[cG]at G;refine tail (pJ Aq (if b=aj then (V.zip V).reverse else V.zip V).toArray #[] 7 ag) ?_ rfl;show(if b=aj then (V.zip V).reverse else V.zip V)=_;rw[D4 _ _ (by split <;>simp <;>exact G)]
 ·rw[aK G,aK G];rw[cG]at G;have Y:∃N:ah aw,KatTups H2 V N/\N.length=V.length/\∀v∈N,∃x t,v= .int x t:=by
   clear tail a0 G L h4 hz K ho J qv s1 u h step;induction V with
   |nil=>exact⟨[],.nil,rfl,λy S=>nomatch S⟩
   |cons v V k=>
    obtain⟨N,k1,k2,k3⟩:=k (λv F=>hT v (.tail _ F)) λv F=>W v (.tail _ F);obtain⟨a',o,x1,t1,x2,t2,x3,m,rfl,g,c,d⟩:=(W v (.head _)).1;refine⟨.int x1 t1 :: N,.cons g c d rfl k1,by simp[k2],λv F=>?_⟩;rcases bu.mp F with rfl |F
    ·exact⟨_,_,rfl⟩
    ·exact k3 v F
  obtain⟨N,k1,k2,k3⟩:=Y;refine wB (kat_kind (T:=.type "int") k1 (by exact CF 2 0 0 0 1 0 (NL G) (EG k2) rfl) (λv F=>?_) (by decide) ?_)
  ·obtain⟨x,t,rfl⟩:=k3 v F;exact Bb rfl
  rw[show(lD "int" != lD "tuple")=aj by decide];refine wB (DX (κ:=tuples' aj) (lt:=jl s.heap) (Eb _) (by split <;>simp <;>exact(NL G)) (by split <;>simp <;>exact h4) (λi j f hj C z hC=>?_) (c0:=λZ s'=>aA (aV prog w) A (do
   let B:=(<-wF a) != M
   tC (.ref a) λy=>if b then ((jA Z).map (·.2)).reverse else (jA Z).map (·.2)
   if let ae e:=qS Z then jZ "list.sort.comparison-raised";throw e
   if B then jZ "list.sort.modified";raiseError "ValueError" "list modified during sort"
   ret .none) PF E s') λZ M e2=>tail Z M e2)
  have O:((if b=aj then (V.zip V).reverse else V.zip V).map λp=>dJ s.heap p.1).Nodup:=by
   have e:((V.zip V).map λp=>dJ s.heap p.1)=V.map (dJ s.heap):=by
    have:∀l:ah aw,((l.zip l).map λp=>dJ s.heap p.1)=l.map (dJ s.heap):=by
     intro l;induction l with
     |nil=>rfl
     |cons x l k=>rw[Bn,gc,gc,k]
    exact this V
   cases b with
   |false=>simp only[jd,je];rw[e];exact a0
   |true=>simp only[jD];rw[uo,e];exact List.pairwise_reverse.mpr (a0.imp λX=>X.symm)
  have S:∀p∈(if b=aj then (V.zip V).reverse else V.zip V),p.1∈V:=λp hp=>by
   have:p∈V.zip V:=by cases b <;>simpa using hp
   exact(rC (a:=p.1) (b:=p.2) this).1
  obtain mi:=S _ (pZ f);obtain mj:=S _ (pZ hj);obtain⟨ti,ki⟩:=W _ mi;obtain⟨tj,kj⟩:=W _ mj;refine O4 (s:={ s with heap:=H2 }) ti tj ?_ ?_
  ·show dJ H2 _≠dJ H2 _;rw[ki,kj];intro q;have gj:i < ((if b=aj then (V.zip V).reverse else V.zip V).map λp=>dJ s.heap p.1).length:=by rw[aO];exact f
   have yH:j < ((if b=aj then (V.zip V).reverse else V.zip V).map λp=>dJ s.heap p.1).length:=by rw[aO];exact hj
   exact z ((wJ (h₀:=gj) (h₁:=yH) O).mp (by rw[II,II];exact q))
  ·show C (cX (dJ H2 _) (dJ H2 _)) _;rw[ki,kj];exact hC
theorem O9 {l:ah AV}(r:aT X B h l V):∀{ks:ah ((Int×Int)×AV)},rO l=ae ks->
  ∃zz:ah (((Int×Int)×AV)×Keyed),ks=zz.map (·.1)/\V.zip V=zz.map (·.2)/\V.map (dJ h)=ks.map (·.1)/\(∀v∈V,nQ h v)/\∀z∈zz,dJ h z.2.1=z.1.1/\aF X B h z.1.2 z.2.2:=by
 induction r with
 |nil=>exact λe=>dp e ▸ ⟨[],rfl,rfl,rfl,(λv F=>nomatch F),λv F=>nomatch F⟩
 | @cons x v l V J u N=>
  intro ks e;obtain⟨E,T,e⟩:=qV.mp e;obtain⟨W,F,e⟩:=j3.mp e;obtain⟨zz,S,M,K,U,Q⟩:=N F;subst e;obtain⟨y,q⟩:=xZ T;subst q;have G:=J;cases J with
  | @mk ad A j Z t R L k=>
  obtain⟨_,_,g,c,n,d⟩:=t;obtain⟨O,rfl⟩:=R;obtain⟨Y,rfl⟩:=L;have D:dJ h (.ref ad)=(E.1,E.2):=by simp only[dJ,g,d];rfl
  refine⟨((E,_),(_,_)) :: zz,by rw[S];rfl,by rw[Bn,M];rfl,by rw[gc,K,D];rfl,λv H=>?_,λz I=>?_⟩
  ·rcases bu.mp H with rfl |H
   ·exact⟨_,_,E.1,O,E.2,Y,_,n,rfl,g,c,d⟩
   ·exact U v H
  ·rcases bu.mp I with rfl |I
   ·exact⟨D,G⟩
   ·exact Q z I
theorem Ed {a0:aw->aD->Prop}(b0:Inv X B I h)(ea:B[i]? =ae a)(c0:aB)(ha:pU "list.sort" ⟨[.ref a],kvs⟩)(ht:j4.«list.sort» ⟨[.ref a],kvs⟩=rZ a c0)(hr:(lst i>>=λl=>uI c0 l>>=λl'=>P.store i (.list l')>>=λt=>P.pure AV.none).run I (aL X z [] B h (RV X) a0 E)):aA (MX X) A (call (.builtin "list.sort") [.ref a] kvs) a0 E (sh z h W):=by
 obtain (⟨l,M,hr⟩):=g6 hr;obtain (⟨V,n,S,m,len,Z⟩):=ez b0 M ea;obtain (⟨Y,hm,hr⟩):=c9 hr;obtain⟨⟨L,O⟩,hr⟩:=a6 hr;have hr:aL X z [] B h (RV X) a0 E (.ok .none) (I.set i (.list ((sortBy (λx y=>if c0 then cX y.1 x.1 else cX x.1 y.1) Y).map (·.2)))):=hr;obtain (⟨J,rfl,U,T,e4,K⟩):=O9 m hm;refine IC ID ⟨_,S,rfl⟩ IE ?_ ha;rw[ht];refine O8 (s:=sh z h W) S (by exact TT (EL len) O) e4 (by rw[T];exact L) λH c o g=>⟨_,rfl,?_⟩;have N:aT X B h ((sortBy (λx y=>if c0 then cX y.1 x.1 else cX x.1 y.1) (J.map (·.1))).map (·.2)) (fw c0 (jl h) (V.zip V)):=by
  unfold fw;rw[U];have b:=lS (lt:=λx y:(Int×Int)×AV=>if c0 then cX y.1 x.1 else cX x.1 y.1) (lt':=λG F:((Int×Int)×AV)×Keyed=>if c0 then cX F.1.1 G.1.1 else cX G.1.1 F.1.1) (λz=>z.1) J (λv v v v=>rfl);have R:=lS (lt:=λx y:Keyed=>if c0 then jl h y x else jl h x y) (lt':=λG F:((Int×Int)×AV)×Keyed=>if c0 then cX F.1.1 G.1.1 else cX G.1.1 F.1.1) (λz=>z.2) J (λx w y u=>by
   unfold jl;rw[(K x w).1,(K y u).1])
  rw[b.1,R.1,oM,oM];exact aT.ofMap _ λz f=>(K z (R.2 z f)).2
 have D:=N.length;rw[Ec]at D;obtain⟨j,k⟩:=b0.DH (b0:=.list ((sortBy (λx y=>if c0 then cX y.1 x.1 else cX x.1 y.1) (J.map (·.1))).map (·.2))) M ea o g rfl ⟨fw c0 (jl h) (V.zip V),c,rfl,N,by rw[<-D];simp;exact CF 0 0 0 4 0 10000 (EL len) O rfl⟩ [];exact hr _ _ _ _ (.refl _) j k _ .none
def Pa (a0:Inv X B I h)(ea:B[i]? =ae a)(ra:aT X B h T V)(rk:cq X B h kw kvs):aW X A [] (RV X) B I h (call (.builtin "list.sort") (.ref a :: V) kvs) (fb F (.ref i) .sort T kw):=by
 intro z W Q E D;obtain⟨rfl,D⟩:=yF ra (nU D);obtain⟨b,rfl,D⟩:=Dy rk D;cases b with
 |false=>exact Ed a0 ea az (We _) (O2 a) D
 |true=>exact Ed a0 ea aj (Wf _ _) (O3 a) D
def eT.Pb {e:ay}{o:aw}{n:au}(x:Br h H e o n):eT "AttributeError" e h H:=by
 obtain⟨t,u,B⟩:=x.there;exact⟨x.new,by rfl,by decide,_,_,B,rfl,rfl,by simp,.inl rfl⟩
def Ee:tW (.type "int") (aq "startswith")=pure ag:=by rw[rj,rm];kernel_rfl
theorem Pc {n:Int}{t:cK}{b0:au}{a0:aw->aD->Prop}(c0:tW (.type "int") b0=pure ag)(hA:A.handled=ag)(h:∀H W e,Br s.heap H e (.int n t) b0->E (.ref e) { s with heap:=H,toks:=W })(d0:b0.length+100<=Bf:=by size_fits):
  aA (aV prog w) A (getAttr (.int n t) b0 az) a0 E s:=by
 obtain⟨N,g,d,W,os⟩:=s;have G:∀s':aD,s'.TypeIs (.int n t) "int":=λu=>rfl;have J:=sub_AttributeError;have M:=F.slot_int_getattribute.lookup;have K:=F.slot_int_getattribute.bind (.int n t);have L:=IJ;unfold getAttr getAttrBy;repeat (any_goals (first |assumption |((with_reducible show aA _ _ (call (ug "object.__getattribute__") _ _) _ _ _);refine nr F.slot_int_getattribute (G _) IK (F.args_int_getattribute_2 _ _) (IL n t b0 _ c0 d0) ⟨hA,λH D e B=>?_⟩) |((with_reducible show aA _ _ (call (ug "int.__getattribute__") _ _) _ _ _);refine nr F.slot_int_getattribute (G _) IK (F.args_int_getattribute_2 _ _) (IL n t b0 _ c0 d0) ⟨hA,λH D e B=>?_⟩) |wp_step))
 obtain⟨I,R,O⟩:=B.there;show aA _ _ (getattributeRaised _ _ _ _ _ _ _) _ _ _;unfold getattributeRaised;repeat (any_goals (first |assumption |wp_step))
 exact h _ _ _ B
def Pd {n:Int}{t:cK}{pl:dn aB}{a0:aw×ah aw->aD->Prop}(hA:A.handled=ag)(h:∀H W e,Br s.heap H e (.int n t) (aq "startswith")->E (.ref e) { s with heap:=H,toks:=W }):aA (aV prog w) A (Bs (.int n t) (aq "startswith") pl) a0 E s:=by
 have B:s.TypeIs (.int n t) "int":=rfl;unfold getMethod;refine bO (rH B F.slot_int_getattribute.lookup ?_);dsimp only;rw[aK (by decide +kernel)];refine wB (rH B IJ ?_);refine wB (rH B Ee ?_);exact wB (Pc Ee hA h)
def Ef {m:au}(h:rQ m=ae mm):m=aq (Ci mm):=by
 unfold rQ at h;split at h
 ·cases h;assumption
 split at h
 ·cases h;assumption
 split at h
 ·cases h;assumption
 split at h
 ·cases h;assumption
 split at h
 ·cases h;assumption
 split at h
 ·cases h;assumption
 split at h
 ·cases h;assumption
 split at h
 ·cases h;assumption
 ·cases h
def jm.step {ov:AV}{f:aw}{fi:ah aw}(m:jm X B ov mm f fi)(a0:Go X [] B h J H):jm X J ov mm f fi:=by
 cases m with
 |startswith=>exact .startswith
 |split=>exact .split
 |join=>exact .join
 |append e=>exact .append (a0.step.iT e)
 |extend e=>exact .extend (a0.step.iT e)
 |pop e=>exact .pop (a0.step.iT e)
 |sort e=>exact .sort (a0.step.iT e)
 |names e D=>exact .names (a0.step.iT e) D
def Pe {ov:AV}{m:au}{pl:dn aB}{b0:aw×ah aw->aD->Prop}(C:cn X)(a0:Inv X B I h)(hm:rQ m=ae mm)(rv:aF X B h ov v){γ:Type}{g:b8->P γ}{p:Res γ->St->Prop}(hr:(lJ ov mm>>=g).run I p)(hQ:∀f fi,jm X B ov mm f fi->(g ()).run I p->b0 (f,fi) (sh z h W)):aA (MX X) A (Bs v m pl) b0 E (sh z h W):=by
 have M:=Ef hm;subst M;cases ov with
 |str s=>
  obtain⟨t,rfl⟩:=rv;obtain⟨N,D⟩:=a6 hr;clear hr;have L:∀{p:Obj->Prop} a,qX s t=gw a->∃o,(sh z h W).heap.get? a=ae o/\p o:=λa e=>Value.noConfusion e;rcases N with rfl |rfl |rfl
  ·refine p3 (v:=.str s t) (T:="str") (name:=aq "startswith") (id:="str.startswith") (pS _ _ _) PySem.F.plainAttrs_str PySem.F.slot_str_startswith PySem.F.type_str_startswith L ?_;exact hQ _ _ .startswith D
  ·refine p3 (v:=.str s t) (T:="str") (name:=aq "split") (id:="str.split") (pS _ _ _) PySem.F.plainAttrs_str PySem.F.slot_str_split PySem.F.type_str_split L ?_;exact hQ _ _ .split D
  ·refine p3 (v:=.str s t) (T:="str") (name:=aq "join") (id:="str.join") (pS _ _ _) PySem.F.plainAttrs_str PySem.F.slot_str_join PySem.F.type_str_join L ?_;exact hQ _ _ .join D
 |ref i=>
  cases rv with
  | @mk a e=>
  obtain⟨j,R,hr⟩:=eV (i:=i) (g:=λo=>(match o with
   |.list _=>P.guard (mm= .append\/mm= .extend\/mm= .pop\/mm= .sort)
   |.inst d=>(do
    match <-P.load d with
    |.bc l=>P.guard (mm= .names/\(l.lookup (aq "names")).isNone=aj)
    |_=>P.fail)
   |_=>P.fail)>>=g) hr
  cases j with
  |list l=>
   obtain⟨N,D⟩:=a6 hr;clear hr;obtain⟨O,n,H,rl,len,_⟩:=ez a0 R e;have J:∀b,gw a= .ref b->∃o,(sh z h W).heap.get? b=ae o/\o.dict=ag:=λb q=>by cases q;exact⟨_,H,rfl⟩
   rcases N with rfl |rfl |rfl |rfl
   ·refine p3 (v:=.ref a) (T:="list") (name:=aq "append") (id:="list.append") ⟨_,H,rfl⟩ PySem.F.plainAttrs_list PySem.F.slot_list_append PySem.F.type_list_append J ?_;exact hQ _ _ (.append e) D
   ·refine p3 (v:=.ref a) (T:="list") (name:=aq "extend") (id:="list.extend") ⟨_,H,rfl⟩ PySem.F.plainAttrs_list PySem.F.slot_list_extend PySem.F.type_list_extend J ?_;exact hQ _ _ (.extend e) D
   ·refine p3 (v:=.ref a) (T:="list") (name:=aq "pop") (id:="list.pop") ⟨_,H,rfl⟩ PySem.F.plainAttrs_list PySem.F.slot_list_pop PySem.F.type_list_pop J ?_;exact hQ _ _ (.pop e) D
   ·refine p3 (v:=.ref a) (T:="list") (name:=aq "sort") (id:="list.sort") ⟨_,H,rfl⟩ PySem.F.plainAttrs_list PySem.F.slot_list_sort PySem.F.type_list_sort J ?_;exact hQ _ _ (.sort e) D
  |inst d=>
   obtain⟨ad,w,hr⟩:=eV (i:=d) (g:=λo=>(match o with
    |.bc l=>P.guard (mm= .names/\(l.lookup (aq "names")).isNone=aj)
    |_=>P.fail)>>=g) hr
   cases ad with
   |bc l=>
    obtain⟨U,D⟩:=a6 hr;clear hr;obtain⟨rfl,V⟩:=U;obtain⟨da,T,Y,m,_,S,k,c,Z,u,_,r⟩:=yy a0 R w e;obtain⟨fN,K,G,F⟩:=C.iP.names;have q:=r (aq "names");rw[w8.mp V]at q;refine method_fn (s:=sh z h W) (a0.lP C) S C.iP.ga C.iP.gk G F ?_ (hQ _ _ (.names e K) D);show(lookIn (aq "names") T).map _=_;rw[C8 Z u,show jy Y (aq "names")=ag from q];rfl
   |_=>exact hr.elim
  |_=>exact hr.elim
 |_=>exact hr.elim
def Eg (e:h.get? a=ae o)(d:o.data= .func fd):oE M h (oF (.ref a)) .frame:=by
 obtain⟨c,D,B,E⟩:=o;cases d;exact(Looks.ld (part:=ag) e).andThen .now
def Pf {X:Cx}{ov:AV}{f:aw}{fi:ah aw}(C:cn X)(hF:∀X,cn X->HF X F k)(a0:Inv X B I h)(ar:Ar X k (20 * k+38) A le B h)(m:jm X B ov mm f fi)(ra:aT X B h T V)(rk:cq X B h kw kvs):aW X A [] (RV X) B I h (call f (fi++V) kvs) (fb F ov mm T kw):=by
 intro z W Q E D;cases m with
 |startswith=>exact OT a0 ra rk z W Q E D
 |split=>exact OU a0 ra rk z W Q E D
 |join=>exact OV a0 ra rk z W Q E D
 |append e=>exact OW a0 e ra rk z W Q E D
 |extend e=>exact OX a0 e ra rk z W Q E D
 |pop e=>exact OZ a0 e ra rk z W Q E D
 |sort e=>exact Pa a0 e ra rk z W Q E D
 |names e G=>
  obtain⟨rfl,D⟩:=g9 rk (nU D);exact hF X C C (ar.less (a4 _) (by exact RR 30 38 rfl)) a0 (.fn G) (.cons (.ref e) ra) .nil z W Q E D
def Eh {n:au}(C:cn X)(a0:Inv X B I h)(e:X.kF n=ae a)(hk:∀o,X.base.get? a=ae o->eN):∃kp,(kp=tY\/kp=pY\/kp=tZ)/\oE (MX X) h (oF (.ref a)) kp:=by
 by_cases D:n=gG
 ·subst D;rw[C.cls]at e;cases e;exact keeps_K (f:=.ref X.gX) C.iP.keep h (a0.lP C)
 ·obtain⟨o,E,g,d,_⟩:=C.fns n a e D h a0.base;exact⟨.frame,.inl rfl,Eg g d⟩
def Pg {X:Cx}{x:au}{T:ah aH}{ks:ah m7}{g:aH->DE}(hF:∀X,cn X->HF X F k)(hd:HE X F k U (.Name x p) d)(ha:∀e∈T,HE X F k U e (g e))(hw:∀w∈ks,HE X F k U (nN w) (g (nN w))):
  HE X F k U (.Call (.Name x p) T ks q) (λrt=>do
   P.guard (lN T ks=aj)
   let fv <-d rt
   let c0 <-dG (T.map g) rt
   let kv <-fW (ks.map (oU g)) rt
   eu rt fv c0 kv):=by
 intro A l G Q N B I h K z W D E u;obtain⟨a0,u⟩:=a6 u;refine uh ?_;refine(hd K).then u λz1 g0 f0 h1 t1 fv f I1 G1 rf d0=>?_;have K1:=K.step I1 G1;refine yq (R':=RV X) (e0:=[]) (Pk:=λH=>(∃kp,(kp=tY\/kp=pY\/kp=tZ)/\oE (MX X) H (oF f) kp)) (a0:=λV kv=>eu ⟨F,Q,N⟩ fv V kv) K1 ha hw a0 (λH hp=>hp) d0 λj L b0 Y m V Z kv O S G2 R rk J=>?_;have K2:=K1.step S G2;have M:=rf.step G2.step;have e0:Ar X k (20 * k+38) A l L Y:=K2.ar.less (a4 _) (by exact RR 38 40 rfl);have b:Ar X k (20 * k+30) A l L Y:=K2.ar.less (a4 _) (by exact RR 30 40 rfl);have bi:∀{fv:AV} {f:aw},aF X L Y fv f->(∃n,f= .builtin n\/f= .type n)->(xF F fv V kv).run b0 (aL X j [] L Y (RV X) D E)->(∃kp,(kp=tY\/kp=pY\/kp=tZ)/\oE (MX X) Y (oF f) kp)/\aA (MX X) A (call f ([]++Z) O) D E (sh j Y m):=by
  intro fv f rf hn u;refine⟨?_,OQ K.ok hF S e0 rf R rk j m D E u⟩;obtain⟨n,rfl |rfl⟩:=hn
  ·exact⟨_,.inr (.inl rfl),Dc _ _ _⟩
  ·exact⟨_,.inr (.inl rfl),sg _ _ _⟩
 cases fv with
 |fn n=>
  obtain⟨e⟩:=M;exact⟨Eh K.ok S e (λv v=>trivial),hF X K.ok K.ok b S (.fn e) R rk j m D E J⟩
 |ref i=>
  obtain⟨e⟩:=M;obtain⟨ao,ei,J⟩:=eV J;cases ao with
  |lam _ _ _ _=>
   obtain⟨o,eo,bo⟩:=S.obj i _ _ ei e;obtain⟨_,_,_,_,_,_,rfl,_⟩:=bo;exact⟨⟨.frame,.inl rfl,Eg eo rfl⟩,hF X K.ok K.ok b S (.ref e) R rk j m D E J⟩
  |_=>exact J.elim
 |bi n=>cases M;exact bi (.bi n) ⟨n,.inl rfl⟩ J
 |ty n=>cases M;exact bi (.ty n) ⟨n,.inr rfl⟩ J
 |_=>exact J.elim
def Ph:∀(T:ah aH) (pos:fk) (G:bH),(lC pos (jC T G)).all (λx=>!x.1)= !(lC pos (jC T G)).any (·.1):=λT pos G=>by
 rw[qY];simp
theorem Pj {X:Cx}{o:aH}{m:au}{ap:fk}{T:ah aH}{ks:ah m7}{g:aH->DE}(hF:∀X,cn X->HF X F k)(hd:HE X F k U o d)(ha:∀e∈T,HE X F k U e (g e))(hw:∀w∈ks,HE X F k U (nN w) (g (nN w))):
  HE X F k U (.Call (.Attribute o m ap) T ks q) (λrt=>do
   P.guard (lN T ks=aj/\xH o ap q=aj/\T.length+ks.length < 28)
   let a0 <-P.opt (rQ m)
   let ov <-d rt
   if isInt ov=aj/\a0= .startswith then P.err "AttributeError"
   else do
    lJ ov a0
    let h0 <-dG (T.map g) rt
    let kv <-fW (ks.map (oU g)) rt
    fb rt.F ov a0 h0 kv):=by
 intros _ A l G Q N B I h _ K _ z W D E _ u;obtain⟨⟨Y,M,k0⟩,u⟩:=a6 u;obtain⟨mm,b0,u⟩:=c9 u;unfold xH at M;rw[cW]at M;have R:attributeBase o m G (eval o G)=eval o G:=by
  cases o <;>first |rfl |(exact absurd M.1 jg)
 rw[arm_eval_Call,R];refine wB ?_;refine(hd K).then u λz1 j g0 h1 t1 ov v I1 G1 rv L=>?_;have K1:=K.step I1 G1;refine wB (jE ?_);have J:=Y;unfold lN at J;rw[cW]at J;obtain⟨w1,w2⟩:=yp ks q G J.2;have S:methodCallForm (T.length+ks.length) (lC q (jC T G)) (mo q (mq ks G))=aj:=by
  clear M;unfold methodCallForm;rw[Ph,plain_any T q G J.1,w1];simp;split <;>lia
 have c0:methodCallPos aj o G ap q=pure q:=by unfold methodCallPos;simp[M.2]
 unfold methodCall;rw[S];have b:calleeOf aj o G v m=Bs v m (do return (<-importBound o G).getD aj):=rfl;rw[b];by_cases O:isInt ov=aj/\mm= .startswith
 ·rw[aN O]at L;obtain⟨hi,rfl⟩:=O;have d0:=Ef b0;simp only[Ci]at d0;subst d0;cases ov with
  |int n=>
   obtain⟨t,rfl⟩:=rv;refine wB (eA (Pd (s:=sh z1 h1 t1) (show A.handled=ag from K.ar.handled) λH m0 e x=>?_));have L:aL X z1 [] j h1 (RV X) D E (.err "AttributeError") g0:=L;exact L _ _ _ _ (.refl _) (I1.keeps x.keeps) (Go.keeps X j x.keeps []) _ (eT.Pb x)
  |_=>cases hi
 ·rw[aK O]at L;refine wB (eA (Pe K.ok I1 b0 rv L λf fi mf i0=>?_));dsimp only;rw[c0];refine wB (aC ?_);refine yq (R':=RV X) (e0:=fi) (Pk:=λH=>(∃kp,(kp=tY\/kp=pY\/kp=tZ)/\oE (MX X) H (oF f) kp)) (a0:=λV kv=>fb F ov mm V kv) K1 ha hw Y (λH hp=>hp) i0 λz2 n0 o0 h2 t2 V l0 kv e0 I2 G2 f0 rk j0=>?_;have K2:=K1.step I2 G2;have Z:=mf.step G2;refine⟨?_,Pf K.ok hF I2 (K2.ar.less (a4 _) (by exact RR 38 40 rfl)) Z f0 rk z2 t2 D E j0⟩;cases Z with
  |names e ef=>exact Eh K.ok I2 ef (λy y=>trivial)
  |_=>exact⟨_,.inr (.inl rfl),Dc _ _ _⟩
def HE.stuck:HE X F k U e stuck:=λu u u u u u u u u u u u u B=>B.elim
def HT.stuck:HT X F k U e stuck:=λu u u u u u u u u u u u u B=>B.elim
def HR.stuck:HR X F k U e stuck:=λu u u u u u u u u u u u u B=>B.elim
def HI.stuck:HI X F k U e stuck:=λu u u u u u u u u u u u u B=>B.elim
def HA.stuck:HA X F k U e (λc=>stuck):=by
 intro A l G Q N B I h K x v r z W D E H;exact H.elim
def all_zero (X:Cx)(F:Or)(k:ak):mJ X F k 0:=⟨λu u=>HE.stuck (F:=F),λu u=>HT.stuck (F:=F),λu u=>HR.stuck (F:=F),λu u=>HI.stuck (F:=F),λu u=>HA.stuck (F:=F)⟩
def Ei:∀e,dg e=az->cE U n e=Internal.stuck:=λe h=>by
 cases e with
 |Starred a b=>cases n <;>rfl
 |_=>cases h
def Pl {M:aH->Prop}(S:∀e,cE U (n+1) e=Internal.stuck->M e)(h1:∀c a p,M (.Constant c a p))(h2:∀x p,M (.Name x p))(h3:∀a op b p,M (.BinOp a op b p))(h4:∀x p,M (.UnaryOp .Not x p))(h5:∀x p,M (.UnaryOp .USub x p))(h6:∀x y p,M (.BoolOp .And [x,y] p))(h7:∀x y p,M (.BoolOp .Or [x,y] p))(h8:∀t b o p,M (.IfExp t b o p))(h9:∀a op r p,M (.Compare a [op] [r] p))(j0:∀es p,M (.List es p))(f0:∀es a p,M (.Tuple es a p))(e0:∀ck a b cv c d p,M (.Dict [ae (.Constant ck a b)] [.Constant cv c d] p))(d0:∀x q a p,M (.Attribute (.Name x q) a p))(g0:∀o lo hi q p,M (.Subscript o (.Slice lo hi bq q) p))(c0:∀o lo hi I q p,M (.Subscript o (.Slice lo hi (ae I) q) p))(l0:∀o i p,uV i=az->cE U (n+1) (.Subscript o i p)=(λrt=>do
   let v0 <-cE U n o rt
   let w0 <-cE U n i rt
   iw v0 w0)->M (.Subscript o i p))(h0:∀T a0 aP p,M (.Lambda T a0 aP p))(i0:∀elt t src ifs aP p,M (.ListComp elt [⟨t,src,ifs,0⟩] aP p))(k0:∀o m ap T ks q,M (.Call (.Attribute o m ap) T ks q))(b0:∀x p T ks q,M (.Call (.Name x p) T ks q))(e:aH):M e:=by
 cases e with
 |Constant c a p=>exact h1 c a p
 |Name x p=>exact h2 x p
 |BinOp a op b p=>exact h3 a op b p
 |UnaryOp op x p=>
  cases op with
  |Not=>exact h4 x p
  |USub=>exact h5 x p
  |_=>exact S _ rfl
 |BoolOp op V p=>
  rcases V with _ |⟨x,_ |⟨y,_ |⟨_,_⟩⟩⟩<;>cases op
  ·exact S _ rfl
  ·exact S _ rfl
  ·exact S _ rfl
  ·exact S _ rfl
  ·exact h6 x y p
  ·exact h7 x y p
  ·exact S _ rfl
  ·exact S _ rfl
 |IfExp t b o p=>exact h8 t b o p
 |Compare a G D p=>
  rcases G with _ |⟨op,_ |⟨_,_⟩⟩<;>rcases D with _ |⟨r,_ |⟨_,_⟩⟩;all_goals first
   |exact S _ rfl
   |exact h9 _ _ _ _
 |List es p=>exact j0 es p
 |Tuple es a p=>exact f0 es a p
 |Dict F B p=>
  rcases F with _ |⟨_ |k,_ |⟨k2,ks⟩⟩
  ·exact S _ rfl
  ·exact S _ rfl
  ·exact S _ rfl
  ·cases k with
   |Constant ck a b=>
    rcases B with _ |⟨v,_ |⟨v2,V⟩⟩
    ·exact S _ rfl
    ·cases v with
     |Constant cv c d=>exact e0 ck a b cv c d p
     |_=>exact S _ rfl
    ·cases v <;>exact S _ rfl
   |_=>exact S _ rfl
  ·cases k <;>exact S _ rfl
 |Attribute v a p=>
  cases v with
  |Name x q=>exact d0 x q a p
  |_=>exact S _ rfl
 |Subscript o i p=>
  cases i with
  |Slice lo hi I q=>cases I with
   |none=>exact g0 o lo hi q p
   |some I=>exact c0 o lo hi I q p
  |_=>exact l0 _ _ _ rfl rfl
 |Lambda T a0 aP p=>exact h0 T a0 aP p
 |ListComp elt E aP p=>
  rcases E with _ |⟨⟨t',i,ifs,a⟩,_ |⟨_,_⟩⟩
  ·exact S _ rfl
  ·rcases a with (_ |a) |a
   ·exact i0 elt t' i ifs aP p
   ·exact S _ rfl
   ·exact S _ rfl
  ·rcases a with (_ |a) |a <;>exact S _ rfl
 |Call f T ks q=>
  cases f with
  |Attribute o m ap=>exact k0 o m ap T ks q
  |Name x p=>exact b0 x p T ks q
  |_=>exact S _ rfl
 |_=>exact S _ rfl
def Pm {X:Cx}(hF:∀X,cn X->HF X F k)(ih:∀X,mJ X F k n)(e:aH):HE X F k U e (cE U (n+1) e):=by
 have E:∀e,HE X F k U e (cE U n e):=(ih X).e U;refine Pl (U:=U) (n:=n) (M:=λe=>HE X F k U e (cE U (n+1) e)) (λe h=>?_) (λc a p=>?_) (λx p=>?_) (λa S b p=>(JU (E _) (E _))) (λx p=>(JV (E _))) (λx p=>(JW (E _)))
  (λx y p=>(JX (E _) (E _))) (λx y p=>(JY (E _) (E _))) (λt b o p=>(JZ ((ih X).t U _) (E _) (E _))) (λa S r p=>(Kk (E _) (E _))) (λu p=>(J7 (λe u=>E e) (λe u=>Ei e)))
  (λu a p=>(J8 (λe u=>E e) (λe u=>Ei e))) (λck a b cv c d p=>(Ms (F:=F))) (λx q a p=>(Mm (E _))) (λo lo L q p=>(Ku (E _) (λe u=>E e) (λe u=>E e))) (λo lo L I q p=>?_)
  (λo i p M h2=>?_) (λT O J p=>(Nn (F:=F))) (λR t b0 a0 J p=>(Dm ((ih X).i U _) (λj=>(ih _).a _ _) (λj=>(ih _).e _ _) (λj c u=>(ih _).t _ _)))
  (λo m ap T Y q=>(Pj hF (E _) (λe u=>E e) (λw u=>E _))) (λx p T Y q=>(Pg hF (E _) (λe u=>E e) (λw u=>E _))) e
 ·rw (config:={}) [h];exact(HE.stuck (F:=F))
 ·exact λA l G Q N B I h K=>JM K.inv _ _ _
 ·exact λA l G Q N B I h K=>Co K.ok K.inv K.en _ _
 ·intro A l G Q N B Z h K z W D E' hr;refine AF ?_;refine(E o K).then (show(cE U n o ⟨F,Q,N⟩>>=λv=>cE U n (.Slice lo L (ae I) q) ⟨F,Q,N⟩>>=λw=>iw v w).run Z _ from hr) λz1 f V M t1 x v I1 G1 rx H=>?_;cases n <;>exact H.elim
 ·rw (config:={}) [h2];exact(Ko M (E _) (E _))
def Pn {t b o:aH}{cb co:DT}(ht:HT X F k U t ct)(hb:HT X F k U b cb)(ho:HT X F k U o co):HT X F k U (.IfExp t b o pos) (λrt=>do
   let c <-ct rt
   if c then cb rt else co rt):=by
 intro A l G Q N B I h K z W D E T;rw[arm_isTrue_IfExp];refine wB ?_;refine(ht K).then T λO R V Y M x v L J S H=>?_;obtain rfl:x=v:=S;cases x with
 |true=>exact hb (K.step L J) O M D E H
 |false=>exact ho (K.step L J) O M D E H
def Po {M:aH->Prop}(no:∀e,cT U (n+1) e=Internal.stuck->M e)(a0:∀e,(∀G whole,tw e G whole=(do let v0 <-whole;tI e.pos;lA [v0] (truthy v0)))->cT U (n+1) e=(λrt=>do
   let v0 <-cE U n e rt
   eE v0)->M e)(h1:∀x p,M (.UnaryOp .Not x p))(h2:∀a b p,M (.BoolOp .And [a,b] p))(h3:∀a b p,M (.BoolOp .Or [a,b] p))(h4:∀a b c p,M (.BoolOp .Or [a,b,c] p))(h5:∀t b o p,M (.IfExp t b o p))(h6:∀l op r p,M (.Compare l [op] [r] p))(e:aH):M e:=by
 cases e with
 |UnaryOp op x B=>cases op with
  |Not=>exact h1 x B
  |_=>exact a0 _ (λu u=>rfl) rfl
 |BoolOp op V B=>
  rcases V with _ |⟨a,_ |⟨b,_ |⟨c,_ |⟨_,_⟩⟩⟩⟩<;>cases op
  ·exact no _ rfl
  ·exact no _ rfl
  ·exact no _ rfl
  ·exact no _ rfl
  ·exact h2 a b B
  ·exact h3 a b B
  ·exact no _ rfl
  ·exact h4 a b c B
  ·exact no _ rfl
  ·exact no _ rfl
 |IfExp t b o B=>exact h5 t b o B
 |Compare F E D B=>
  rcases E with _ |⟨op,_ |⟨_,_⟩⟩<;>rcases D with _ |⟨v,_ |⟨_,_⟩⟩;all_goals first
   |exact no _ rfl
   |exact h6 _ _ _ _
 |_=>exact a0 _ (λu u=>rfl) rfl
def Pp {X:Cx}(ih:∀X,mJ X F k n)(e:aH):HT X F k U e (cT U (n+1) e):=by
 have E:∀e,HE X F k U e (cE U n e):=(ih X).e U;have T:∀e,HT X F k U e (cT U n e):=(ih X).t U;refine Po (n:=n) (U:=U) (M:=λe=>HT X F k U e (cT U (n+1) e)) (λe h=>?_) (λe B D=>?_) (λx p=>?_) (λa b p=>?_) (λa b p=>?_) (λa b c p=>?_) (λt b o p=>?_) (λl G r p=>?_) e
 ·rw (config:={}) [h];exact(HT.stuck (F:=F))
 ·rw (config:={}) [D];exact(J6 (E e) B)
 ·exact(J2 (T _))
 ·exact(J3 (T _) (T _))
 ·exact(J4 (T _) (T _))
 ·exact(J5 (T _) (T _) (T _))
 ·exact(Pn (T _) (T _) (T _))
 ·exact(Kl (E _) (E _))
def Pq {M:aH->Prop}(a0:∀e,cR U (n+1) e=(λrt=>do
   let v0 <-cE U n e rt
   P.pure (.val v0))->M e)(h:∀f p T q,M (.Call (.Name f p) T [] q))(e:aH):M e:=by
 cases e with
 |Call f T B q=>cases f with
  |Name f p=>cases B with
   |nil=>exact h f p T q
   |cons _ _=>exact a0 _ rfl
  |_=>exact a0 _ rfl
 |_=>exact a0 _ rfl
def Pr {X:Cx}(ih:∀X,mJ X F k n)(e:aH):HR X F k U e (cR U (n+1) e):=by
 have E:∀e,HE X F k U e (cE U n e):=(ih X).e U;have V:∀e,cR U (n+1) e=(λrt=>do
   let v <-cE U n e rt
   P.pure (.val v))->HR X F k U e (cR U (n+1) e):=λe h=>by
  rw (config:={}) [h];exact(MD (E _))
 refine Pq (U:=U) (n:=n) (M:=λe=>HR X F k U e (cR U (n+1) e)) V (λf p T q=>?_) e;rcases ur ((cM U f == ae .globalImplicit && f == aq "range")=aj)with hc |hc
 ·have B:cR U (n+1) (.Call (.Name f p) T [] q)=(λrt=>do
    P.guard (lN T []=aj)
    let l <-dG (T.map (cE U n)) rt
    lM l):=aN hc
  rw (config:={}) [B];rw[cW,bU,bU]at hc;obtain⟨D,rfl⟩:=hc;exact(src_range D (λe u=>E e))
 ·exact(V _ (aK hc))
def Pt {M:aH->Prop}(a0:∀e,cI U (n+1) e=(λrt=>do
   let v0 <-cE U n e rt
   jI v0)->M e)(h:∀f p T q,M (.Call (.Name f p) T [] q))(e:aH):M e:=by
 cases e with
 |Call f T B q=>cases f with
  |Name f p=>cases B with
   |nil=>exact h f p T q
   |cons _ _=>exact a0 _ rfl
  |_=>exact a0 _ rfl
 |_=>exact a0 _ rfl
theorem Pu {X:Cx}(ih:∀X,mJ X F k n)(e:aH):HI X F k U e (cI U (n+1) e):=by
 have E:∀e,HE X F k U e (cE U n e):=(ih X).e U;have R:∀e,HR X F k U e (cR U n e):=(ih X).r U;have V:∀e,cI U (n+1) e=(λrt=>do
   let v <-cE U n e rt
   jI v)->HI X F k U e (cI U (n+1) e):=λe h=>by
  rw (config:={}) [h];exact(Lx (E _))
 refine Pt (U:=U) (n:=n) (M:=λe=>HI X F k U e (cI U (n+1) e)) V ?_ e;intros _ f p T q;rcases ur ((cM U f == ae .globalImplicit && f == aq "enumerate")=aj)with c1 |c1
 ·have B:cI U (n+1) (.Call (.Name f p) T [] q)=(match (generalizing:=false) T with
    | [a]=>λrt=>do
     P.guard (dg a=aj)
     let x <-cR U n a rt
     let i <-eP x
     P.pure (.enum 0 i)
    |_=>stuck):=aN c1
  rw (config:={}) [B];rw[cW,bU,bU]at c1;obtain⟨D,rfl⟩:=c1;rcases T with _ |⟨a,_ |⟨_,_⟩⟩
  ·exact(HI.stuck (F:=F))
  ·exact(MF D (R _))
  ·exact(HI.stuck (F:=F))
 rcases ur ((cM U f == ae .globalImplicit && f == aq "zip")=aj)with c2 |c2
 ·have B:cI U (n+1) (.Call (.Name f p) T [] q)=(match (generalizing:=false) T with
    | [a,b]=>λrt=>do
     P.guard (dg a=aj/\dg b=aj)
     let x <-cR U n a rt
     let y <-cR U n b rt
     let i <-eP x
     let j <-eP y
     P.pure (.zip i j)
    |_=>stuck):=(aK c1).trans (aN c2)
  rw (config:={}) [B];rw[cW,bU,bU]at c2;obtain⟨D,rfl⟩:=c2;rcases T with _ |⟨a,_ |⟨b,_ |⟨_,_⟩⟩⟩
  ·exact(HI.stuck (F:=F))
  ·exact(HI.stuck (F:=F))
  ·exact(MK D (R _) (R _))
  ·exact(HI.stuck (F:=F))
 rcases ur ((cM U f == ae .globalImplicit && f == aq "reversed")=aj)with c3 |c3
 ·have B:cI U (n+1) (.Call (.Name f p) T [] q)=(match (generalizing:=false) T with
    | [a]=>λrt=>do
     P.guard (dg a=aj)
     let i <-cR U n a rt
     qc i
    |_=>stuck):=(aK c1).trans ((aK c2).trans (aN c3))
  rw (config:={}) [B];rw[cW,bU,bU]at c3;obtain⟨D,rfl⟩:=c3;rcases T with _ |⟨a,_ |⟨_,_⟩⟩
  ·exact(HI.stuck (F:=F))
  ·exact(MG D (R _))
  ·exact(HI.stuck (F:=F))
 ·have B:cI U (n+1) (.Call (.Name f p) T [] q)=(λrt=>do
    let v <-cR U n (.Call (.Name f p) T [] q) rt
    eP v):=(aK c1).trans ((aK c2).trans (aK c3))
  rw (config:={}) [B];exact(MJ (R _))
def Pw {X:Cx}(ih:∀X,mJ X F k n)(e:aH):HA X F k U e (cA U (n+1) e):=by
 have E:∀e,HE X F k U e (cE U n e):=(ih X).e U;cases e with
 |Name x p=>intro A l G Q N B I h K x v r;exact Kz (F:=F) _ _ K r
 |Attribute o a p=>intro A l G Q N B I h K x v r;exact Mn (E _) K r
 |Subscript o i p=>intro A l G Q N B I h K x v r;exact Mr (E _) (E _) K r
 |Tuple D c p=>intro A l G Q N B I h K x v r;exact assign_tuple (λe u=>(ih X).a U e) K r
 |_=>intro A l G Q N B I h K x v r;exact HA.stuck (F:=F) K r
def yN (hF:∀X,cn X->HF X F k):∀n X,mJ X F k n:=by
 intro n;induction n with
 |zero=>
  intro X;exact all_zero X F k
 |succ n B=>
  intro X;exact⟨λu e=>Pm hF (B) e,λu e=>Pp (B) e,λu e=>Pr (B) e,λu e=>Pu (B) e,λu e=>Pw (B) e⟩
def HS.stuck {s:dy}:HS X F k U s stuck:=by
 intro A l G Q N B I h K z W D E H;exact H.elim
def Px {M:dy->Prop}(no:∀s,cS U (n+1) s=Internal.stuck->M s)(h1:∀p,M (.Pass p))(h2:∀p,M (.Break p))(h3:∀p,M (.Continue p))(h4:∀e p,M (.Return (ae e) p))(h5:∀e p,M (.Expr e p))(h6:∀t e p,M (.Assign [t] e p))(h7:∀x q op e p,M (.AugAssign (.Name x q) op e p))(h8:∀t b o p,M (.If t b o p))(h9:∀t b p,M (.While t b [] p))(b0:∀t i b p,M (.For t i b [] p))(a0:∀x np e ap c h hp o p,M (.Try [.Assign [.Name x np] e ap] [.ExceptHandler (ae c) bq h hp] o [] p))(s:dy):M s:=by
 cases s with
 |Pass p=>exact h1 p
 |Break p=>exact h2 p
 |Continue p=>exact h3 p
 |Return v p=>cases v with
  |none=>exact no _ rfl
  |some e=>exact h4 e p
 |Expr e p=>exact h5 e p
 |Assign B e p=>
  rcases B with _ |⟨t,_ |⟨_,_⟩⟩
  ·exact no _ rfl
  ·exact h6 t e p
  ·exact no _ rfl
 |AugAssign t op e p=>cases t with
  |Name x q=>exact h7 x q op e p
  |_=>exact no _ rfl
 |If t b o p=>exact h8 t b o p
 |While t b o p=>cases o with
  |nil=>exact h9 t b p
  |cons _ _=>exact no _ rfl
 |For t i b o p=>cases o with
  |nil=>exact b0 t i b p
  |cons _ _=>exact no _ rfl
 |Try b D o f p=>
  cases b with
  |nil=>exact no _ rfl
  |cons E G=>
  cases G with
  |cons _ _=>cases E with
   |Assign B e ap=>cases B with
    |nil=>exact no _ rfl
    |cons t B=>cases B <;>cases t <;>exact no _ rfl
   |_=>exact no _ rfl
  |nil=>
  cases E with
  |Assign B e ap=>
   cases B with
   |nil=>exact no _ rfl
   |cons t B=>
   cases B with
   |cons _ _=>cases t <;>exact no _ rfl
   |nil=>
   cases t with
   |Name x np=>
    cases D with
    |nil=>exact no _ rfl
    |cons h1 D=>
    obtain⟨c,nm,F,hp⟩:=h1;cases c with
    |none=>exact no _ rfl
    |some c=>
    cases nm with
    |some _=>exact no _ rfl
    |none=>
    cases D with
    |cons _ _=>exact no _ rfl
    |nil=>
    cases f with
    |cons _ _=>exact no _ rfl
    |nil=>exact a0 x np e ap c F hp o p
   |_=>exact no _ rfl
  |_=>exact no _ rfl
 |_=>exact no _ rfl
def Py {M:aH->Prop}(h1:∀elt t i ifs aP cp,M (.ListComp elt [⟨t,i,ifs,0⟩] aP cp))(a0:∀e,cE U (n+1) e=Internal.stuck->M e)(h3:∀e,nJ e=aj->M e)(e:aH):M e:=by
 cases e with
 |ListComp elt B aP cp=>
  rcases B with _ |⟨⟨t',i,ifs,a⟩,_ |⟨_,_⟩⟩
  ·exact a0 _ rfl
  ·rcases a with (_ |a) |a
   ·exact h1 elt t' i ifs aP cp
   ·exact a0 _ rfl
   ·exact a0 _ rfl
  ·rcases a with (_ |a) |a <;>exact a0 _ rfl
 |SetComp _ _ _ _=>exact a0 _ rfl
 |DictComp _ _ _ _ _=>exact a0 _ rfl
 |_=>exact h3 _ rfl
def Pz (hF:∀X,cn X->HF X F k)(ih:∀X U s,HS X F k U s (cS U n s))(X:Cx)(U:bN)(s:dy):HS X F k U s (cS U (n+1) s):=by
 have D:∀X,mJ X F k 40:=λX=>yN hF 40 X;have O:∀X,mJ X F k 39:=λX=>yN hF 39 X;have E:∀e,HE X F k U e (cE U 40 e):=(D X).e U;have T:∀e,HT X F k U e (cT U 40 e):=(D X).t U;have L:∀X R,iQ X F k U R (ew (cS U n) R):=λX R=>CK _ R λs x=>ih X U s;refine Px (U:=U) (n:=n) (M:=λs=>HS X F k U s (cS U (n+1) s)) (λs h=>?_) (λp=>?_) (λp=>?_) (λp=>?_) (λe p=>?_) (λe p=>?_) (λt e p=>?_) (λx q w e p=>?_) (λt b o p=>?_) (λt b p=>?_) (λt i b p=>?_) (λx np e f c h m o p=>?_) s
 ·rw (config:={}) [h];exact(HS.stuck (F:=F))
 ·exact(KD (F:=F) p)
 ·exact(KE (F:=F) p)
 ·exact(KG (F:=F) p)
 ·exact(KH (E e))
 ·exact(KR (E e))
 ·refine Py (U:=U) (n:=39) (M:=λe=>HS X F k U (.Assign [t] e p) (cS U (n+1) (.Assign [t] e p))) (λS Y i Z J cp=>?_) (λe V=>?_) (λe V=>?_) e
  ·exact(MY ((O X).i U i) (λj=>(O _).a J Y) (λj=>(O _).e J S) (λj c x=>(O _).t J c) ((D X).a U t))
  ·intro A l G Q N B I h K z W H u M;obtain⟨_,M⟩:=a6 (show(P.guard (ku e=az/\dg t=aj)>>=λx=>cE U 40 e ⟨F,Q,N⟩>>=λv=>cA U 40 t v ⟨F,Q,N⟩>>=λN=>P.pure (FL.next,N)).run I _ from M);rw[show cE U 40 e=Internal.stuck from V]at M;exact M.elim
  ·exact(KS V (E e) ((D X).a U t))
 ·exact(KU (E e))
 ·exact(KL (T t) (L X b) (L X o))
 ·exact(KP (T t) (L X b) 64)
 ·exact(Lu ((D X).i U i) (λj=>(D _).a U t) (λj=>L _ b) 128)
 ·exact(Nj (E e) (L X o))
def PA (hF:∀X,cn X->HF X F k):∀n X U s,HS X F k U s (cS U n s):=by
 intro n;induction n with
 |zero=>
  intro X U s;exact HS.stuck (F:=F)
 |succ n B=>
  intro X U s;exact Pz hF (B) X U s
def PB (hF:∀X,cn X->HF X F k)(n:ak)(X:Cx)(U:bN)(ss:ah dy):iQ X F k U ss (ew (cS U n) ss):=CK _ ss λs u=>PA hF n X U s
def PC:∀(n:ak) (X:Cx),cn X->HF X (FN n) n:=by
 intro n;induction n with
 |zero=>
  intro X _;exact Me X 0
 |succ n B=>
  intro X _;exact Mf (F:=FN n) (λU e=>(yN (B) 40 X).e U e) (λU D=>PB (B) 20 X U D)
set_option tactic.hygienic true in theorem PD {c : aw} {q : au} (X : K.In h) (e : recIn K c q = aj) : h.CodeRec c q := by
 cases c with
 |ref a=>
  unfold recIn at e;dsimp only at e;cases B:K.lookup a with
  |none=>rw[B]at e;cases e
  |some o=>
   rw[B]at e;obtain⟨F,E,d,n⟩:=o;cases d with
   |fields V=>
    have e:(match (V[1]? :ax aw)with |some (.str x _)=>x == q |_=>az)=aj:=e;cases D:(V[1]? :ax aw)with
    |none=>rw[D]at e;cases e
    |some v=>
     rw[D]at e;cases v with
     |str x t=>exact⟨a,_,V,t,rfl,X _ _ B,rfl,(bU.mp e) ▸ D⟩
     |_=>cases e
   |_=>cases e
 |_=>cases e
set_option tactic.hygienic true in theorem PE (X : K.In h) (e : xP K v = aj) : v = .none ∨ ∃ a0 ot O n, v = .ref a0 ∧ h.get? a0 = ae ot ∧ ot.data = .seq O n := by
 cases v with
 |none=>exact .inl rfl
 |ref a=>
  unfold xP at e;dsimp only at e;cases B:K.lookup a with
  |none=>rw[B]at e;cases e
  |some o=>
   rw[B]at e;obtain⟨E,D,d,n⟩:=o;cases d with
   |seq=>exact .inr ⟨a,_,_,_,rfl,X _ _ B,rfl⟩
   |_=>cases e
 |_=>cases e
theorem PG {d:ax (fj×ah dy×bN)}(X:K.In h)(e1:(fnIn K a).map (λfd=>(fd.params,fd.body,fd.scope))=d.map (λp=>(p.1,wC p.2.1,p.2.2)))(e2:(fnIn K a).any (r9 K)=aj):FnAt h a d:=by
 cases B:fnIn K a with
 |none=>rw[B]at e2;cases e2
 |some fd=>
  intros fd _ B;rw[B]at e1 e2;unfold fnIn at B;cases F:K.lookup a with
  |none=>rw[F]at B;cases B
  |some o=>
  rw[F]at B;obtain⟨S,T,N,n⟩:=o;cases N with
  |func D=>
   obtain q:D=fd:=dp B;subst q;have e2:r9 K D=aj:=e2;unfold r9 at e2;simp only[cW,w7,pQ,bU,qU,uc]at e2;obtain⟨⟨⟨⟨⟨⟨⟨⟨I,L⟩,H⟩,G⟩,R⟩,J⟩,M⟩,O⟩,E⟩:=e2;refine⟨_,D,X _ _ F,rfl,e1.symm,I,L,H,G,R,J,PD X M,PE X O,λQ=>?_⟩;rcases E with E |E
   ·exact absurd Q E
   ·exact E
  |_=>cases B
def PH (F:lhs K=rhs):(mK.filter λp=>p.1 != gG).all (λp=>(fnIn K p.2).any (r9 K))=aj:=bZ (λx=>x.1) F
def PJ (F:lhs K=rhs):(mK.filter λp=>p.1 != gG).map (λp=>(fnIn K p.2).map (λfd=>(fd.params,fd.body,fd.scope)))=(mK.filter λp=>p.1 != gG).map (λp=>(defOf p.1).map (λq=>(q.1,wC q.2.1,q.2.2))):=bZ (λx=>x.2.1) F
def kt (F:lhs K=rhs):(K.lookup cJ).isNone=aj:=bZ (λx=>x.2.2.1) F
def PK (F:lhs K=rhs):codeHdIn K 177 175=aj:=bZ (λx=>x.2.2.2.1) F
def PL (F:lhs K=rhs):makesIn K 147=aj:=bZ (λx=>x.2.2.2.2.1) F
def PM (F:lhs K=rhs):keepIn K (.ref 147)=aj:=bZ (λx=>x.2.2.2.2.2.1) F
def PN (F:lhs K=rhs):fm K (.ref 147) "__init__"=ae (ae (.ref 137)):=bZ (λx=>x.2.2.2.2.2.2.1) F
def PO (F:lhs K=rhs):qR K (.ref 137)=ae (.type "function"):=bZ (λx=>x.2.2.2.2.2.2.2.1) F
def PQ (F:lhs K=rhs):fm K (.ref 147) (aq "names")=ae (ae (.ref 144)):=bZ (λx=>x.2.2.2.2.2.2.2.2.1) F
def PR (F:lhs K=rhs):qR K (.ref 144)=ae (.type "function"):=bZ (λx=>x.2.2.2.2.2.2.2.2.2.1) F
def PS (F:lhs K=rhs):fm K (.ref 147) "__getattribute__"=ae (ae (.builtin "object.__getattribute__")):=bZ (λx=>x.2.2.2.2.2.2.2.2.2.2.1) F
def PT (F:lhs K=rhs):fm K (.ref 147) "__getattr__"=ae ag:=bZ (λx=>x.2.2.2.2.2.2.2.2.2.2.2.1) F
def PU (F:lhs K=rhs):fm K (.ref 147) "__setattr__"=ae (ae (.builtin "object.__setattr__")):=bZ (λx=>x.2.2.2.2.2.2.2.2.2.2.2.2.1) F
def PV (F:lhs K=rhs):Ao K 147=aj:=bZ (λx=>x.2.2.2.2.2.2.2.2.2.2.2.2.2.1) F
def PW (F:lhs K=rhs):Ap K 147=aj:=bZ (λx=>x.2.2.2.2.2.2.2.2.2.2.2.2.2.2.1) F
def PX (F:lhs K=rhs):fm K (.ref 147) (aq "_mods")=ae ag:=bZ (λx=>x.2.2.2.2.2.2.2.2.2.2.2.2.2.2.2.1) F
def PY (F:lhs K=rhs):pI K 147 (aq "_mods")=ae ag:=bZ (λx=>x.2.2.2.2.2.2.2.2.2.2.2.2.2.2.2.2.1) F
def PZ (F:lhs K=rhs):fm K (.ref 147) (aq "_dirs")=ae ag:=bZ (λx=>x.2.2.2.2.2.2.2.2.2.2.2.2.2.2.2.2.2.1) F
def P2 (F:lhs K=rhs):pI K 147 (aq "_dirs")=ae ag:=bZ (λx=>x.2.2.2.2.2.2.2.2.2.2.2.2.2.2.2.2.2.2.1) F
def P4 (F:lhs K=rhs):fm K (.ref 147) (aq "_ignore")=ae ag:=bZ (λx=>x.2.2.2.2.2.2.2.2.2.2.2.2.2.2.2.2.2.2.2.1) F
def P5 (F:lhs K=rhs):pI K 147 (aq "_ignore")=ae ag:=bZ (λx=>x.2.2.2.2.2.2.2.2.2.2.2.2.2.2.2.2.2.2.2.2.1) F
def P6 (F:lhs K=rhs):BL.map (λp=>iR K (aq p.1))=BL.map (λc=>ae ag):=bZ (λx=>x.2.2.2.2.2.2.2.2.2.2.2.2.2.2.2.2.2.2.2.2.2.1) F
def P7 (F:lhs K=rhs):oW.map (λn=>iR K (aq n))=oW.map (λn=>ae ((kP (aq n)).map gw)):=bZ (λx=>x.2.2.2.2.2.2.2.2.2.2.2.2.2.2.2.2.2.2.2.2.2.2.1) F
def P8 (F:lhs K=rhs):(match iR K (aq "sep")with |some (ae (.str x0 _))=>x0 == aq "/" |_=>az)=aj:=bZ (λx=>x.2.2.2.2.2.2.2.2.2.2.2.2.2.2.2.2.2.2.2.2.2.2.2.1) F
def P9 (F:lhs K=rhs):iR K (aq "law")=ae (ae (.ref 178)):=bZ (λx=>x.2.2.2.2.2.2.2.2.2.2.2.2.2.2.2.2.2.2.2.2.2.2.2.2) F
def P' (h:aG):(FK h).In h:=by
 intro a o;unfold FK;generalize Cj=l;induction l with
 |nil=>intro e;cases e
 |cons b l E=>
  intro e;rw[AW]at e;cases D:h.get? b with
  |none=>rw[D]at e;exact E e
  |some x=>
   rw[D]at e
   replace e:rB a ((b,x) :: _)=ae o:=e
   rw[gx]at e;cases B:a == b with
   |true=>rw[B]at e;cases e;rw[bU.mp B];exact D
   |false=>rw[B]at e;exact E e
def Qa:∀(w:gN) (os),(topRun uu pw w 11 (ae (.ref 6)) 2016 ⟨p4 w.params,#[],boot_drawn,boot_toks,os⟩ (topStub pw)).map (λs=>(Bt (uv pw.main.body) (p4 w.params) s.heap && Bu pw s.heap && Bv s && Bw (p4 w.params) s.heap,openSeen q0 uZ (uv pw.main.body) (λc=>aj) aj s,xQ s))=ae (aj,openGood q0 uZ,rhs,ae (jY #[])):=by
 rw[PySem.W.Fast.te14082659384304107361,PySem.W.Fast.te14364793385576792824,PySem.W.Fast.te4187177175401517315];intro w os
 kernel_rfl
def Qb:∀w:gN,((p4 w.params).isNs gO && (#[]:aZ GenState).size == 0,(p4 w.params).objs.size,(p4 w.params).nsMap gO "__annotations__")=(aj,11,ae (.ref 6)):=λw=>by kernel_rfl
def Qc:PySem.Challenge.rw_oc0179_01.wellSaid=aj:=by
 unfold OpenLaw.wellSaid OpenRow.wellSaid OpenRow.partSaid looksOpen;repeat' with_reducible refine look_both ?_ ?_
 all_goals
  try rw (config:={}) [PySem.W.Fast.te8326940854005059898]
  try rw (config:={}) [PySem.W.Fast.te17119622794617984870]
  try rw (config:={}) [PySem.W.Fast.te797321630700447069]
  try rw (config:={}) [PySem.W.Fast.te17868728402115742887]
  first |rw (config:={}) [PySem.W.Fast.te8377067652309620493] |rw (config:={}) [PySem.W.Fast.te8179353310426384613] |rw (config:={}) [PySem.W.Fast.te6984425678791042302] |rw (config:={}) [PySem.W.Fast.te16286561074155671207] |rw (config:={}) [PySem.W.Fast.te10792542408131684335] |skip
  decide +kernel
def Qd:opening pw=plainProg pw.main.scope.names:=by kernel_rfl
def Qe:∀s,fenceModules? pw s=ae s:=λs=>by kernel_rfl
def Qg {p q:m5}{Xt:aD->aB}{b0:ak}{g0:aB}{a0:Params->aG}{c0:aZ GenState}{d0:Drawn}{k0 m0:ak}{e0:ax aw}{α:Type}{Yf:aD->α}{Ya:gN->α}(op:∀w:gN,(fencedOpening uu p w b0).map (λs=>(s.heap,s.gens,s.drawn,s.toks))=ae (a0 w.params,c0,d0,k0))(f0:∀w:gN,((a0 w.params).isNs gO && c0.size == 0,(a0 w.params).objs.size,(a0 w.params).nsMap gO "__annotations__")=(aj,m0,e0))(run:∀(w:gN) (os),(topRun uu p w m0 e0 b0 ⟨a0 w.params,c0,d0,k0,os⟩ (topStub p)).map (λs=>(Bt (uv p.main.body) (a0 w.params) s.heap && Bu p s.heap && Bv s && Bw (a0 w.params) s.heap,openSeen q loose (uv p.main.body) Xt g0 s,Yf s))=ae (aj,openGood q loose,Ya w)):LeftO p q loose Xt Yf Ya b0 g0:=λw=>by
 obtain⟨⟨h,gs,d,k,os⟩,e,E⟩:=j3.mp (op w);obtain⟨rfl,rfl,rfl,rfl⟩:h=a0 w.params/\gs=c0/\d=d0/\k=k0:=by simpa using E
 obtain⟨I,G,B⟩:_/\_/\_:=by simpa only[w9] using f0 w
 obtain⟨s,r,x⟩:=j3.mp (run w os);obtain⟨F,D⟩:=lF x;have t:topFrom uu p w b0 ⟨a0 w.params,gs,d,k,os⟩=ae s:=by
  unfold topFrom;dsimp only;rw[I,G,B,r];show(match Bt (uv p.main.body) (a0 w.params) s.heap && Bu p s.heap && Bv s && Bw (a0 w.params) s.heap with |true=>_ |false=>_)=_;rw[F]
 unfold openEnds;rw[e];show(topFrom uu p w b0 _).map _=_;rw[t];exact bZ ae D
def Qh:LeftO pw q0 uZ (λc=>aj) xQ (λc=>(rhs,ae (jY #[]))) 2016:=Qg (a0:=p4) (boot_open Qd rfl Qe) Qb Qa
def Qi:kP gG=ae 147:=by decide +kernel
def fI:kP nL=ae 137:=by decide +kernel
def fN:kP uQ=ae 144:=by decide +kernel
def Qj (F:lhs K=rhs):Cb K 147 kP where
 makes:=PL F
 keep:=PM F
 init:=⟨137,fI,PN F,PO F⟩
 names:=⟨144,fN,PQ F,PR F⟩
 ga:=PS F
 gk:=PT F
 sa:=PU F
 over:=PV F
 hasDict:=PW F
 attrs:=λn B=>by
  unfold p7 at B;rcases bu.mp B with rfl |B
  ·exact⟨PX F,PY F⟩
  rcases bu.mp B with rfl |B
  ·exact⟨PZ F,P2 F⟩
  rw[aJ.mp B];exact⟨P4 F,P5 F⟩
def Qk {n:au}(F:lhs K=rhs)(X:K.In h)(e:kP n=ae a)(hn:n≠gG):FnAt h a (defOf n):=by
 have E:(n,a)∈mK:=by
  unfold kP at e;have:∀l:ah (au×ay),l.lookup n=ae a->(n,a)∈l:=by
   intro l;induction l with
   |nil=>intro h;cases h
   |cons p l H=>
    obtain⟨m,b⟩:=p;intro h;rw[gx]at h;cases D:n == m with
    |true=>rw[D]at h;cases h;rw[bU.mp D];exact .head _
    |false=>rw[D]at h;exact .tail _ (H h)
  exact this _ e
 have B:(n,a)∈mK.filter λp=>p.1 != gG:=A7.mpr ⟨E,qU.mpr hn⟩;have G:=bW.mp (PH F) _ B;have I:=xl.mp (PJ F) _ B;exact PG X I G
theorem Ql {x:au}{v:AV}(h:qb x=ae v):(x=aq "sep"/\v= .str (aq "/"))\/(∃p∈BL,x=aq p.1/\v=p.2)\/(∃n∈oW,x=aq n/\v= .fn x):=by
 have h:(if x == aq "sep" then ae (AV.str (aq "/"))
  else match BL.find? λp=>x == aq p.1 with
  |some p=>ae p.2
  |none=>if oW.any λp=>x == aq p then ae (.fn x)else ag)=ae v:=h
 by_cases h1:(x == aq "sep")=aj
 ·rw[aN h1]at h;cases h;exact .inl ⟨bU.mp h1,rfl⟩
 ·rw[aK h1]at h;cases hf:BL.find? λp=>x == aq p.1 with
  |some p=>
   rw[hf]at h;cases h;exact .inr (.inl ⟨p,IM hf,bU.mp (by simpa using List.find?_some hf),rfl⟩)
  |none=>
   rw[hf]at h;dsimp only at h;split at h
   ·rename_i ha;cases h;obtain⟨n,hn,e⟩:=uw.mp ha;exact .inr (.inr ⟨n,hn,bU.mp e,rfl⟩)
   ·cases h
set_option tactic.hygienic true in def vE {x : au} {r : ax aw} (X : K.In h) (g : h.Ns gO mg) (e : iR K x = ae r) : mg x = r := by
 unfold iR at e;cases B:K.lookup gO with
 |none=>rw[B]at e;cases e
 |some o=>
  rw[B]at e;obtain⟨I,L,d,n⟩:=o;cases d with
  |dict M J=>
   cases e;obtain⟨o,G,H,D,F,_,E⟩:=g;rw[X _ _ B]at D;cases D;cases F;exact(E x).symm
  |_=>cases e
def Qm:BL.map (λp=>bootBuiltins (aq p.1))=BL.map (λp=>uY p.2):=by kernel_rfl
def Qn:oW.all (λn=>(kP (aq n)).isSome)=aj:=by decide +kernel
def Qo (F:lhs K=rhs):∃t,iR K (aq "sep")=ae (ae (.str (aq "/") t)):=by
 have h:=P8 F;generalize iR K (aq "sep")=r at h |-;rcases r with _ |_ |v
 ·exact(jg h).elim
 ·exact(jg h).elim
 ·induction v using PySem.Value.casesOn with
  |str x t=>rw[show x=aq "/" from bU.mp h];exact⟨t,rfl⟩
  |_=>exact(jg h).elim
def Qp:BL.all (λp=>decide (aq p.1≠aq "__name__"))=aj:=by decide +kernel
def Qq:kP (aq "law")=ae 178:=by decide +kernel
def Qr {m':au->ax aw}(x:h.Ns a m)(y:h.Ns a m'):m=m':=by
 obtain⟨o,L,M,F,H,_,E⟩:=x;obtain⟨K,J,I,B,D,_,G⟩:=y;rw[F]at B;cases B;rw[H]at D;cases D;exact funext λk=>(E k).symm.trans (G k)
def Qs {v:AV}{v':aw}(e:uY v=ae v'):SV X v v':=λB h=>by
 cases v with
 |bi=>cases e;exact .bi _
 |ty=>cases e;exact .ty _
 |_=>cases e
def Qt {b0:aD}{p:m5}{c0:xm->ax aw}{mb:au->ax aw}(a0:Top p loose c0 mg mb b0.heap)(F:lhs K=rhs)(KX:K.In b0.heap)(d0:∀P∈[175],b0.heap.get? P=ae (jY #[])):cn (X0 K w b0) where
 lim:=a0.nolimit
 lP:=KX
 Cc:=w8.mp (kt F)
 fns:=λn a e G h X=>Qk F (λb o I=>X b o (KX b o I) λD=>by rw[D,w8.mp (kt F)]at I;cases I) e G
 cls:=Qi
 iP:=Qj F
 cd:=codeHd_of_K KX (PK F)
 bt:=λY n=>by
  rw[Qr n a0.g];obtain⟨V,Q,W,R,B,M,U,H⟩:=a0.bmain;refine⟨V,Q,W,R,λD=>?_,λD=>?_,B,M,U,H⟩
  ·obtain⟨o,u,l,j,S,_⟩:=a0.g;rw[D,j]at B;cases B;rw[S]at H;cases H
  ·have:=d0 175 (.head _);rw[D,show cJ=175 from rfl,this]at B;cases B;cases M
 gl:=by
  refine⟨mg,mb,a0.g,a0.b,λx v k=>?_⟩;rcases Ql k with ⟨rfl,rfl⟩ |⟨q,hq,rfl,rfl⟩ |⟨n,G,rfl,rfl⟩
  ·obtain⟨t,e⟩:=Qo F;exact .inl ⟨_,vE KX a0.g e,λx x=>.str _ _⟩
  ·have E:iR _ _=_:=xl.mp (P6 F) q hq;have A:bootBuiltins _=_:=xl.mp Qm q hq;have O:=gz (bW.mp Qp q hq);refine .inr ⟨vE KX a0.g E,?_⟩;have Z:(uY q.2).isSome=aj:=bW.mp (show BL.all (λq=>(uY q.2).isSome)=aj by decide +kernel) q hq;obtain⟨N,L⟩:=Bx.mp Z;exact⟨N,by rw[a0.builtins _ O,A,L],Qs L⟩
  ·have E:iR _ _=_:=xl.mp (P7 F) n G;obtain⟨a,J⟩:=Bx.mp (bW.mp Qn n G);rw[J]at E;exact .inl ⟨_,vE KX a0.g E,λx x=>.fn J⟩
def Qu {b0:aD}{p:m5}{d0:xm->ax aw}{mb:au->ax aw}(a0:Top p loose d0 mg mb b0.heap)(hp:importsNone p=aj)(c0:∀P∈[175],b0.heap.get? P=ae (jY #[])):Inv (X0 K w b0) [] [] b0.heap where
 len:=rfl
 nodup:=.nil
 obj:=λi F a e u=>by cases e
 base:=λb o e u=>e
 new:=λa h=>nomatch h
 gg:=⟨_,c0 175 (.head _)⟩
 mods:=by
  obtain⟨E,⟨o,D,B,e,_⟩,_⟩:=(a0.seer hp).mods;exact⟨o,e⟩
 tab:=⟨#[],c0 175 (.head _),.inl rfl⟩
 gh:=λb h=>nomatch h
def Qv {b0:aD}{p:m5}{f0:xm->ax aw}{mb:au->ax aw}{O:ah aw}{l:ah Int}{c:ClaimW}{cl:au->ax ay}{d0:xm->ax aw}{T:ah WData}(a0:Top p loose f0 mg mb b0.heap)(hp:importsNone p=aj)(F:lhs K=rhs)(KX:K.In b0.heap)(c0:∀P∈[175],b0.heap.get? P=ae (jY #[]))(hg:b0.gens= #[])(hL:b0.heap.IsList a O.toArray)(hI:oh O l)(hl:l.length<=63)(D:(uR l).run [] (λr g=>r= .ok (.bool aj)))(hr:∀cls,c.raises T cls=az)(e0:c.post T (.bool aj) T=aj):
  aA (aV PySem.Challenge.pw_oc0179_01 w) callerA (call (.ref 178) [.ref a]) (fun v s'=>GoodWG c cl d0 T b0 (.ok (.ret v)) s') (fun e s'=>GoodWG c cl d0 T b0 (.error e) s') b0:=by
 have C:=Qt (w:=w) a0 F KX c0;have I:=Qu (K:=K) (w:=w) a0 hp c0;have Q:a≠cJ:=λW=>by
  obtain⟨o,U,M,_⟩:=hL;rw[W,show cJ=175 from rfl,c0 175 (.head _)]at U;cases U;cases M
 have B:=PC 12 (X0 K w b0) C (A:=callerA) (l:=[]) (ρ:=[]) (st:=[]) (h:=b0.heap) C ⟨rfl,by decide +kernel,by decide +kernel,rfl,λe X=>nomatch X⟩ I
  (fv:=.fn (aq "law")) (f:=.ref 178) (args:=[.gW l]) (vs:=[.ref a]) (kw:=[]) (kvs:=[]) (.fn Qq)
  (.cons (VA.mk (xJ.mk (λh=>nomatch h) ⟨Q,λh=>nomatch h⟩ hL hI (by exact FI 0 63 0 4096 hl rfl))) .nil) .nil
 have E:b0=sh b0 b0.heap b0.toks:=rfl;rw[E];refine B b0 b0.toks _ _ ?_;refine P.mono _ (λr Z N=>?_) D;subst N;intro A J H Y G R S b L;cases L;refine⟨.inl ⟨_,.bool aj,[],rfl,hr,.bool aj,e0,λu=>⟨.nil,λu h=>nomatch h⟩⟩,⟨λb o e=>?_,λb o e=>S.step.there b o e⟩,G.2,.of_eq (G.1.trans hg)⟩;by_cases L:b=cJ
 ·rw[L]at e;rw[show cJ=175 from rfl,c0 175 (.head _)]at e;cases e;obtain⟨V,M,_⟩:=R.tab;refine .inr (.inl ⟨?_,rfl,#[],V,rfl,?_⟩)
  ·rw[L];exact(C.cd.tab (c0 175 (.head _))).isCodeTable
  ·rw[L];show H.get? cJ=_;rw[M,Array.empty_append]
 ·exact .inl (R.base b o e L)
namespace Q
open Classical
local macro_rules | `(tactic| wtm_at $s:str) => let n := s.getString; let u (t : String) := cH ("with_unfolding_all' " ++ t ++ " S withUnfoldingAll2") [s]; return if n == "pr" then u "exact' rfl. exact2" else if n == "r" then cH "repeat' wtm_at' 0$ PySem.W.tacticWtm_at_2 S tacticRepeat_2" [Lean.Syntax.mkStrLit "s"] else if n == "lk" then u "first' |' assumption' assumption1 S group2 |' exact' g_last. exact2 S group2 |' (' refine' g_app. ?' _' Term.syntheticHole2 null1 Term.app2 refine2 ;' wtm_at' 0$ PySem.W.tacticWtm_at_2 null3 tacticSeq1Indented1 tacticSeq1 )' paren3 S group2 |' (' refine' g_ne. ?' _' Term.syntheticHole2 ?' _' Term.syntheticHole2 null2 Term.app2 refine2 ;' (' first' |' assumption' assumption1 S group2 |' lia' null0 optConfig1 lia2 S group2 null2 first2 S )' paren3 ;' wtm_at' 0$ PySem.W.tacticWtm_at_2 null5 tacticSeq1Indented1 tacticSeq1 )' paren3 S group2 null4 first2" else if n == "cel" then u "first' |' (' with_reducible' first' |' exact' cl_readers. exact2 S group2 |' exact' cl_asks. exact2 S group2 |' exact' cl_wish. exact2 S group2 |' exact' cl_k. exact2 S group2 |' exact' cl_total. exact2 S group2 null5 first2 S withReducible2 S )' paren3 S group2 |' exact' lk_here. exact2 S group2 |' (' apply' lk_next. apply2 ;' decide' +' kernel. posConfigItem2 configItem1 null1 optConfig1 decide2 ;' wtm_at' 0$ PySem.W.tacticWtm_at_2 null5 tacticSeq1Indented1 tacticSeq1 )' paren3 S group2 null3 first2" else if n == "pl" then cH "(' try' simp' null0 optConfig1 null0 only' null1 [' null0 null0 List.set_cons_succ. simpLemma3 ,' null0 null0 List.set_cons_zero. simpLemma3 null3 ]' null3 null0 simp6 S tacticTry_2 ;' with_unfolding_all' exact' rfl. exact2 S withUnfoldingAll2 null3 tacticSeq1Indented1 tacticSeq1 )' paren3" [] else cH "with_reducible' 0$ S withReducible2" [BP ("x_sq n_next w_Set w_qIf x_Expr x_Ret y_L w_K y_pL w_evs_cons w_evs_nil w_kws_nil w_kws_cons w_Call w_Idx w_tCmp w_tAnd w_tOr w_tNot w_tV w_tIf w_Bin b_add b_sub c_lt c_gt c_ge f_fn r_ret r_next n_ret n_brk n_cont l_next l_brk l_cont l_ret x_nil x_Pass x_Brk x_Cont y_C y_pC x_pIdx x_pAttr y_pTup x_put_cons x_put_nil w_Not w_Neg w_strict w_And w_Or w_If w_Cmp w_List w_Tup tup2 tup3 w_Attr w_Slice w_optE_none w_optE_some w_For w_iA w_iS w_iEnum w_iZip w_iRev w_rRange w_rVal w_itS_val w_itS_range x_Try y_Aug y_Sub y_Meth tr_none tr_bool tr_int t_t t_f".splitOn " ")]
@[reducible] abbrev eL (i:ak):DE:=BY i
@[reducible] abbrev eC (x:aI):DE:=uL (aq x)
abbrev eK (v:AV):DE:=λu=>P.pure v
abbrev yO:DE:=stuck
abbrev aY (op:jW)(a b:DE):DE:=λrt=>do
 let x <-a rt
 let y <-b rt
 gf op x y
abbrev Qw (a:DE):DE:=λrt=>do
 let v <-a rt
 let b <-eE v
 P.pure (.bool !b)
abbrev iV (a:DE):DE:=λrt=>do
 let v <-a rt
 let i <-dF v
 P.pure (.int (-i))
abbrev vF (a b:DE):DE:=λrt=>do
 let v <-a rt
 let c <-eE v
 if c then b rt else P.pure v
abbrev Ej (a b:DE):DE:=λrt=>do
 let v <-a rt
 let c <-eE v
 if c then P.pure v else b rt
abbrev gJ (t:DT)(b o:DE):DE:=λrt=>do
 let c <-t rt
 if c then b rt else o rt
abbrev lT (op:pD)(a b:DE):DE:=λrt=>do
 P.guard (aj=aj)
 let x <-a rt
 let y <-b rt
 let c <-dQ op x y
 P.pure (.bool c)
abbrev eList (l:ah DE):DE:=λrt=>do
 let l <-dG l rt
 cz l
abbrev gK (l:ah DE):DE:=λrt=>do
 let l <-dG l rt
 oO l
abbrev Ek (k v:AV):DE:=λu=>do
 let kv <-P.opt (ae k)
 let vv <-P.opt (ae v)
 let k <-P.opt (gF kv)
 let i <-P.alloc (.dict [(k,vv)])
 P.pure (.ref i)
abbrev iD (o:DE)(a:aI):DE:=λrt=>do
 let v <-o rt
 mB v (aq a)
abbrev fx (o:DE)(lo hi:ax DE):DE:=λrt=>do
 let v <-o rt
 let a <-kD lo rt
 let b <-kD hi rt
 kq v a b
abbrev bz (o i:DE):DE:=λrt=>do
 let v <-o rt
 let k <-i rt
 iw v k
abbrev Qx (args:fj)(body:aH)(sc:bN):DE:=λrt=>do
 let st <-P.get
 P.guard (st.all (λo=>!jj o)=aj)
 let cs <-P.opt (fM rt sc.names [])
 let i <-P.alloc (.lam args body sc cs)
 P.pure (.ref i)
abbrev eH (l:ah (aI×l8)):bN:={ kind:=.function,names:=l.map λp=>(aq p.1,p.2),isGenerator:=az,isCoroutine:=az }
abbrev vG (ai:AI):aB:=match ai with
 |.zip .. =>az
 |.enum .. =>az
 |_=>aj
abbrev d9 (aP:bN)(tup:aB)(src:DI)(put:DA)(ifs:ah DT)(elt:DE):DE:=λrt=>do
 P.guard (aj=aj)
 P.guard (fc aP=aj)
 let cs <-P.opt (fM rt aP.names [])
 let ai <-src rt
 P.guard ((tup || vG ai)=aj)
 let r2 <-cP rt.F aP cs []
 let l <-cw elt ifs put 128 ai r2 []
 cz l
abbrev aX (f:DE)(args:ah DE)(ks:ah (au×DE)):DE:=λrt=>do
 P.guard (aj=aj)
 let fv <-f rt
 let vs <-dG args rt
 let kv <-fW ks rt
 eu rt fv vs kv
abbrev bX (o:DE)(m:km)(args:ah DE)(ks:ah (au×DE)):DE:=λrt=>do
 P.guard (aj=aj/\aj=aj/\args.length+ks.length < 28)
 let m <-P.opt (ae m)
 let ov <-o rt
 if isInt ov=aj/\m= .startswith then P.err "AttributeError"
 else do
  lJ ov m
  let vs <-dG args rt
  let kv <-fW ks rt
  fb rt.F ov m vs kv
abbrev gp (a:DT):DT:=λrt=>do
 let b <-a rt
 P.pure !b
abbrev jP (a b:DT):DT:=λrt=>do
 let x <-a rt
 if x then b rt else P.pure az
abbrev nV (a b:DT):DT:=λrt=>do
 let x <-a rt
 if x then P.pure aj else b rt
abbrev aR (op:pD)(a b:DE):DT:=λrt=>do
 P.guard (aj=aj)
 let x <-a rt
 let y <-b rt
 dQ op x y
abbrev yP (t a b:DT):DT:=λrt=>do
 let c <-t rt
 if c then a rt else b rt
abbrev tV (e:DE):DT:=λrt=>do
 let v <-e rt
 eE v
abbrev iW (l:ah DE):DR:=λrt=>do
 P.guard (aj=aj)
 let l <-dG l rt
 lM l
abbrev hU (e:DE):DR:=λrt=>do
 let v <-e rt
 P.pure (.val v)
abbrev o7 (x:DR):DI:=λrt=>do
 P.guard (aj=aj)
 let x <-x rt
 let i <-eP x
 P.pure (.enum 0 i)
abbrev o8 (a b:DR):DI:=λrt=>do
 P.guard (aj=aj/\aj=aj)
 let x <-a rt
 let y <-b rt
 let i <-eP x
 let j <-eP y
 P.pure (.zip i j)
abbrev vH (a:DR):DI:=λrt=>do
 P.guard (aj=aj)
 let i <-a rt
 qc i
abbrev iS (a:DR):DI:=λrt=>do
 let v <-a rt
 eP v
abbrev iA (e:DE):DI:=λrt=>do
 let v <-e rt
 jI v
abbrev pL (i:ak):DA:=xG i
abbrev pC (x:aI):DA:=kr (aq x)
abbrev sr (o:DE)(a:aI):DA:=λv rt=>do
 let ov <-o rt
 p8 ov (aq a) v
 P.pure rt.loc
abbrev dM (o i:DE):DA:=λv rt=>do
 let ov <-o rt
 let iv <-i rt
 oQ ov iv v
 P.pure rt.loc
abbrev cx (l:ah DA):DA:=λv rt=>do
 let vs <-P.opt (gd v)
 P.guard (vs.length=l.length/\aj=aj)
 ji l vs rt
abbrev El:DS:=λrt=>P.pure (.next,rt.loc)
abbrev su:DS:=λrt=>P.pure (.brk,rt.loc)
abbrev qw:DS:=λrt=>P.pure (.cont,rt.loc)
abbrev bL (e:DE):DS:=λrt=>do
 let v <-e rt
 P.pure (.ret v,rt.loc)
abbrev b9 (e:DE):DS:=λrt=>do
 P.guard (aj=aj)
 let _ <-e rt
 P.pure (.next,rt.loc)
abbrev aE (put:DA)(e:DE):DS:=λrt=>do
 P.guard (az=az/\aj=aj)
 let v <-e rt
 let loc <-put v rt
 P.pure (.next,loc)
abbrev o9 (put:DA)(x:DE)(op:jW)(e:DE):DS:=λrt=>do
 P.guard (op= .Add\/op= .Sub)
 let o <-x rt
 let i <-dF o
 let v <-e rt
 let j <-dF v
 let v <-gf op (.int i) (.int j)
 let loc <-put v rt
 P.pure (.next,loc)
abbrev sq:ah DS->DS
 | []=>λrt=>P.pure (.next,rt.loc)
 |s :: l=>λrt=>do
  let x <-s rt
  match x with
  |(.next,loc)=>sq l { rt with loc:=loc }
  |x=>P.pure x
abbrev bJ (t:DT)(b o:ah DS):DS:=λrt=>do
 let c <-t rt
 if c then sq b rt else sq o rt
abbrev pb (t:DT)(b:ah DS):DS:=λrt=>iN t (sq b) 64 rt
abbrev fy (tup:aB)(put:DA)(src:DI)(b:ah DS):DS:=λrt=>do
 P.guard (aj=aj)
 let it <-src rt
 P.guard ((tup || vG it)=aj)
 forA (sq b) put 128 it rt
abbrev sx (put:DA)(e:DE)(yQ:aI->aB)(h:DS)(o:ah DS):DS:=λrt=>do
 P.guard (aj=aj/\az=az/\aj=aj)
 P.uE (e rt) (λv=>do
   let loc <-put v rt
   sq o { rt with loc:=loc })
  λk=>match (ae yQ:ax (aI->aB))with
   |some f=>if f k then h rt else P.fail
   |none=>P.fail
@[reducible] abbrev vS (x:aI):AV:=.str (aq x)
abbrev eI (n:aI):ax DS:=(defOf (aq n)).map λq=>ew (cS q.2.2 20) q.2.1
abbrev mQ:ax (fj×aH×bN):=(defOf (aq "law")).bind λq=>q.2.1.findSome? λs=>match s with
 |.Assign _ (.Lambda a e sc _) _=>ae (a,e,sc)
 |_=>ag
abbrev Em (o:ax (fj×aH×bN)):DE:=match o with
 |some (a,e,sc)=>Qx a e sc
 |none=>stuck
abbrev Eo:ah DS:=[
 aE (pL 2) (bz (eL 0) (eK (.int 0))),
 aE (dM (eL 0) (eK (.int 0))) (eL 1),
 b9 (aX (eK (.fn (aq "_siftup"))) [(eL 0),(eK (.int 0))] []),
 bL (eL 2)]
abbrev Ep:ah DS:=[
 aE (pL 1) (aX (eK (.bi "len")) [(eL 0)] []),
 fy az (pL 2) (vH (iW [(aY .FloorDiv (eL 1) (eK (.int 2)))])) [
  b9 (aX (eK (.fn (aq "_siftup"))) [(eL 0),(eL 2)] [])]]
abbrev Er:ah DS:=[
 aE (pL 2) (bz (eL 0) (eK (.int 0))),
 aE (dM (eL 0) (eK (.int 0))) (eL 1),
 b9 (aX (eK (.fn (aq "_siftup_max"))) [(eL 0),(eK (.int 0))] []),
 bL (eL 2)]
abbrev Es:ah DS:=[
 aE (pL 1) (aX (eK (.bi "len")) [(eL 0)] []),
 fy az (pL 2) (vH (iW [(aY .FloorDiv (eL 1) (eK (.int 2)))])) [
  b9 (aX (eK (.fn (aq "_siftup_max"))) [(eL 0),(eL 2)] [])]]
abbrev Et:ah DS:=[
 aE (pL 3) (bz (eL 0) (eL 2)),
 pb (aR .Gt (eL 2) (eL 1)) [
  aE (pL 4) (aY .RShift (aY .Sub (eL 2) (eK (.int 1))) (eK (.int 1))),
  aE (pL 5) (bz (eL 0) (eL 4)),
  bJ (aR .Lt (eL 3) (eL 5)) [
   aE (dM (eL 0) (eL 2)) (eL 5),
   aE (pL 2) (eL 4),
   qw] [],
  su],
 aE (dM (eL 0) (eL 2)) (eL 3)]
abbrev Eu:ah DS:=[
 aE (pL 2) (aX (eK (.bi "len")) [(eL 0)] []),
 aE (pL 3) (eL 1),
 aE (pL 4) (bz (eL 0) (eL 1)),
 aE (pL 5) (aY .Add (aY .Mult (eK (.int 2)) (eL 1)) (eK (.int 1))),
 pb (aR .Lt (eL 5) (eL 2)) [
  aE (pL 6) (aY .Add (eL 5) (eK (.int 1))),
  bJ (jP (aR .Lt (eL 6) (eL 2)) (gp (aR .Lt (bz (eL 0) (eL 5)) (bz (eL 0) (eL 6))))) [
   aE (pL 5) (eL 6)] [],
  aE (dM (eL 0) (eL 1)) (bz (eL 0) (eL 5)),
  aE (pL 1) (eL 5),
  aE (pL 5) (aY .Add (aY .Mult (eK (.int 2)) (eL 1)) (eK (.int 1)))],
 aE (dM (eL 0) (eL 1)) (eL 4),
 b9 (aX (eK (.fn (aq "_siftdown"))) [(eL 0),(eL 3),(eL 1)] [])]
abbrev Ew:ah DS:=[
 aE (pL 3) (bz (eL 0) (eL 2)),
 pb (aR .Gt (eL 2) (eL 1)) [
  aE (pL 4) (aY .RShift (aY .Sub (eL 2) (eK (.int 1))) (eK (.int 1))),
  aE (pL 5) (bz (eL 0) (eL 4)),
  bJ (aR .Lt (eL 5) (eL 3)) [
   aE (dM (eL 0) (eL 2)) (eL 5),
   aE (pL 2) (eL 4),
   qw] [],
  su],
 aE (dM (eL 0) (eL 2)) (eL 3)]
abbrev Ey:ah DS:=[
 aE (pL 2) (aX (eK (.bi "len")) [(eL 0)] []),
 aE (pL 3) (eL 1),
 aE (pL 4) (bz (eL 0) (eL 1)),
 aE (pL 5) (aY .Add (aY .Mult (eK (.int 2)) (eL 1)) (eK (.int 1))),
 pb (aR .Lt (eL 5) (eL 2)) [
  aE (pL 6) (aY .Add (eL 5) (eK (.int 1))),
  bJ (jP (aR .Lt (eL 6) (eL 2)) (gp (aR .Lt (bz (eL 0) (eL 6)) (bz (eL 0) (eL 5))))) [
   aE (pL 5) (eL 6)] [],
  aE (dM (eL 0) (eL 1)) (bz (eL 0) (eL 5)),
  aE (pL 1) (eL 5),
  aE (pL 5) (aY .Add (aY .Mult (eK (.int 2)) (eL 1)) (eK (.int 1)))],
 aE (dM (eL 0) (eL 1)) (eL 4),
 b9 (aX (eK (.fn (aq "_siftdown_max"))) [(eL 0),(eL 3),(eL 1)] [])]
abbrev yR:DE:=gK [(aX (eC "key") [(eL 2)] []),(eL 1),(eL 2)]
abbrev yS (b:aB):ah DS:=[
  aE (pL 12) (aX (eC "key") [(eL 7)] []),
  bJ (if b then aR .Lt (eL 8) (eL 12)else aR .Lt (eL 12) (eL 8)) [
   b9 (aX (eL 10) [(eL 5),(gK [(eL 12),(eL 9),(eL 7)])] []),
   aE (cx [(pL 8),(pL 11),(pL 13)]) (bz (eL 5) (eK (.int 0))),
   o9 (pL 9) (eL 9) (if b then .Sub else .Add) (eK (.int 1))] []]
abbrev yT (b:aB):ah DS:=[
  aE (pL 3) (aX (eK (.bi "iter")) [(eL 1)] []),
  aE (pL 4) (aX (eK (.ty "object")) [] []),
  aE (pL 5) (aX (eK (.bi (if b then "max" else "min"))) [(eL 3)] [(aq "default",(eL 4)),(aq "key",(eC "key"))]),
  bL (gJ (aR .Is (eL 5) (eL 4)) (eList []) (eList [(eL 5)]))]
abbrev yU (b:aB):DE:=fx (aX (eK (.bi "sorted")) [(eL 1)] (if b then [(aq "key",(eC "key")),(aq "reverse",(eK (.bool aj)))]else [(aq "key",(eC "key"))])) ag (ae (eL 0))
abbrev qx (b:aB):ah DS:=[
 aE (pL 3) (aX (eK (.bi "iter")) [(eL 1)] []),
 aE (pL 5) (d9 (eH [(".0",.local),("i",.local),("elem",.local),("key",.free)]) aj (o8 (iW (if b then [(eK (.int 0)),(iV (eL 0)),(iV (eK (.int 1)))]else [(eL 0)])) (hU (eL 3))) (cx [(pL 1),(pL 2)]) [] yR),
 bJ (gp (tV (eL 5))) [
  bL (eL 5)] [],
 b9 (aX (eK (.fn (aq (if !b then "_heapify_max" else "heapify")))) [(eL 5)] []),
 aE (pL 8) (bz (bz (eL 5) (eK (.int 0))) (eK (.int 0))),
 aE (pL 9) (if b then iV (eL 0)else eL 0),
 aE (pL 10) (eK (.fn (aq (if !b then "_heapreplace_max" else "heapreplace")))),
 fy az (pL 7) (iA (eL 3)) (yS b),
 b9 (bX (eL 5) .sort [] (if b then [(aq "reverse",(eK (.bool aj)))]else [])),
 bL (d9 (eH [(".0",.local),("k",.local),("order",.local),("elem",.local)]) aj (iA (eL 5)) (cx [(pL 1),(pL 2),(pL 3)]) [] (eL 3))]
abbrev yV (b:aB)(K:ah DS):ah DS:=bJ (aR .Is (eC "key") (eK .none)) K [] :: qx b
abbrev qy (b:aB)(K:ah DS):ah DS:=
 bJ (aR .Eq (eL 0) (eK (.int 1))) (yT b) [] ::
 sx (pL 6) (aX (eK (.bi "len")) [(eL 1)] []) (λk=>k == "TypeError" || k == "AttributeError") El [
  bJ (aR .GtE (eL 0) (eL 6)) [bL (yU b)] []] ::
 yV b K
abbrev yW:ah DS:=qy az [
  aE (pL 3) (aX (eK (.bi "iter")) [(eL 1)] []),
  aE (pL 5) (d9 (eH [(".0",.local),("i",.local),("elem",.local)]) aj (o8 (iW [(eL 0)]) (hU (eL 3))) (cx [(pL 1),(pL 2)]) [] (gK [(eL 2),(eL 1)])),
  bJ (gp (tV (eL 5))) [
   bL (eL 5)] [],
  b9 (aX (eK (.fn (aq "_heapify_max"))) [(eL 5)] []),
  aE (pL 8) (bz (bz (eL 5) (eK (.int 0))) (eK (.int 0))),
  aE (pL 9) (eL 0),
  aE (pL 10) (eK (.fn (aq "_heapreplace_max"))),
  fy az (pL 7) (iA (eL 3)) [
   bJ (aR .Lt (eL 7) (eL 8)) [
    b9 (aX (eL 10) [(eL 5),(gK [(eL 7),(eL 9)])] []),
    aE (cx [(pL 8),(pL 11)]) (bz (eL 5) (eK (.int 0))),
    o9 (pL 9) (eL 9) .Add (eK (.int 1))] []],
  b9 (bX (eL 5) .sort [] []),
  bL (d9 (eH [(".0",.local),("elem",.local),("order",.local)]) aj (iA (eL 5)) (cx [(pL 1),(pL 2)]) [] (eL 1))]
abbrev yX:ah DS:=qy aj [
  aE (pL 3) (aX (eK (.bi "iter")) [(eL 1)] []),
  aE (pL 5) (d9 (eH [(".0",.local),("i",.local),("elem",.local)]) aj (o8 (iW [(eK (.int 0)),(iV (eL 0)),(iV (eK (.int 1)))]) (hU (eL 3))) (cx [(pL 1),(pL 2)]) [] (gK [(eL 2),(eL 1)])),
  bJ (gp (tV (eL 5))) [
   bL (eL 5)] [],
  b9 (aX (eK (.fn (aq "heapify"))) [(eL 5)] []),
  aE (pL 8) (bz (bz (eL 5) (eK (.int 0))) (eK (.int 0))),
  aE (pL 9) (iV (eL 0)),
  aE (pL 10) (eK (.fn (aq "heapreplace"))),
  fy az (pL 7) (iA (eL 3)) [
   bJ (aR .Lt (eL 8) (eL 7)) [
    b9 (aX (eL 10) [(eL 5),(gK [(eL 7),(eL 9)])] []),
    aE (cx [(pL 8),(pL 11)]) (bz (eL 5) (eK (.int 0))),
    o9 (pL 9) (eL 9) .Sub (eK (.int 1))] []],
  b9 (bX (eL 5) .sort [] [(aq "reverse",(eK (.bool aj)))]),
  bL (d9 (eH [(".0",.local),("elem",.local),("order",.local)]) aj (iA (eL 5)) (cx [(pL 1),(pL 2)]) [] (eL 1))]
abbrev yY:ah DS:=[
 aE (pL 2) (aX (eK (.ty "type")) [(eL 1)] []),
 bJ (aR .Is (eL 2) (eK (.ty "str"))) [
  bL (eK (vS ""))] [],
 bJ (aR .Is (eL 1) (eK .none)) [
  bL (eK (vS "NoneType"))] [],
 bJ (aR .Is (eL 2) (eK (.ty "bool"))) [
  bL (eK (vS "bool"))] [],
 bJ (aR .Is (eL 2) (eK (.ty "int"))) [
  bL (eK (vS "int"))] [],
 bJ (aR .Is (eL 2) (eK (.ty "float"))) [
  bL (eK (vS "float"))] [],
 bJ (aR .Is (eL 2) (eK (.ty "list"))) [
  bL (eK (vS "list"))] [],
 bJ (aR .Is (eL 2) (eK (.ty "tuple"))) [
  bL (eK (vS "tuple"))] [],
 bJ (aR .Is (eL 2) (eK (.ty "dict"))) [
  bL (eK (vS "dict"))] [],
 bJ (aR .Is (eL 2) (eK (.ty "set"))) [
  bL (eK (vS "set"))] [],
 b9 (aX yO [(eK (.int 0))] [])]
abbrev yZ:ah DS:=[
 bJ (jP (aR .Eq (aX (eK (.bi "len")) [(eL 3)] []) (eK (.int 1))) (gp (tV (eL 4)))) [
  aE (pL 5) (bz (eL 3) (eK (.int 0)))] [
  bJ (tV yO) [
   aE (pL 5) (bz (eL 4) (eL 2))] [
   b9 (aX yO [(eK (.int 1))] [])]],
 aE (pL 6) (aX (eK (.fn (aq "_kind"))) [(eL 0),(eL 5)] []),
 bJ (tV (eL 6)) [
  stuck] [],
 bL (eL 5)]
abbrev y3:ah DS:=[
 aE (pL 1) (eK (vS "/")),
 aE (pL 2) (eK (vS "")),
 bJ (aR .NotEq (fx (eL 0) ag (ae (eK (.int 1)))) (eL 1)) [
  bL (gK [(eL 2),(eL 2),(eL 0)])] [
  bJ (nV (aR .NotEq (fx (eL 0) (ae (eK (.int 1))) (ae (eK (.int 2)))) (eL 1)) (aR .Eq (fx (eL 0) (ae (eK (.int 2))) (ae (eK (.int 3)))) (eL 1))) [
   bL (gK [(eL 2),(eL 1),(fx (eL 0) (ae (eK (.int 1))) ag)])] [
   bL (gK [(eL 2),(fx (eL 0) ag (ae (eK (.int 2)))),(fx (eL 0) (ae (eK (.int 2))) ag)])]]]
abbrev y4:ah DS:=[
  bJ (nV (gp (tV (eL 8))) (aR .Eq (eL 8) (eL 2))) [
   qw] [],
  bJ (nV (aR .NotEq (eL 8) (eL 3)) (nV (jP (gp (tV (eL 5))) (gp (tV (eL 7)))) (jP (tV (eL 7)) (aR .Eq (bz (eL 7) (iV (eK (.int 1)))) (eL 3))))) [
   b9 (bX (eL 7) .append [(eL 8)] [])] [
   bJ (tV (eL 7)) [
    b9 (bX (eL 7) .pop [] [])] []]]
abbrev za:ah DS:=[
 aE (pL 1) (eK (vS "/")),
 aE (pL 2) (eK (vS ".")),
 aE (pL 3) (eK (vS "..")),
 bJ (gp (tV (eL 0))) [
  bL (eL 2)] [],
 aE (cx [(pL 4),(pL 5),(pL 0)]) (aX (eK (.fn (aq "_splitroot"))) [(eL 0)] []),
 aE (pL 6) (bX (eL 0) .split [(eL 1)] []),
 aE (pL 7) (eList []),
 fy az (pL 8) (iA (eL 6)) y4,
 aE (pL 6) (eL 7),
 aE (pL 0) (aY .Add (eL 5) (bX (eL 1) .join [(eL 6)] [])),
 bL (Ej (eL 0) (eL 2))]
abbrev sy:ah DS:=[
 bL (aX (eK (.fn (aq "_normpath"))) [(aX (eK (.fn (aq "_c_path"))) [(eK (vS "normpath")),(eK (vS "_path_normpath")),(eK (vS "path")),(eL 0),(eL 1)] [])] [])]
abbrev vI:ah DS:=[
 aE (sr (eL 0) "_mods") (gJ (gp (tV (eL 1))) (aX (eK (.ty "set")) [] []) (aX (eK (.ty "set")) [(eL 1)] [])),
 aE (sr (eL 0) "_dirs") (gJ (gp (tV (eL 2))) (eList []) (d9 (eH [(".0",.local),("d",.local),("normpath",.globalImplicit)]) az (iA (eL 2)) (pL 1) [] (aX (eK (.fn (aq "normpath"))) [(eL 1)] []))),
 aE (sr (eL 0) "_ignore") (Ek (vS "<string>") (.int 1))]
abbrev zb:ah DS:=[
 bJ (aR .In (eL 2) (iD (eL 0) "_ignore")) [
  bL (bz (iD (eL 0) "_ignore") (eL 2))] [],
 bJ (aR .In (eL 2) (iD (eL 0) "_mods")) [
  aE (dM (iD (eL 0) "_ignore") (eL 2)) (eK (.int 1)),
  bL (eK (.int 1))] [],
 fy az (pL 3) (iA (iD (eL 0) "_mods")) [
  bJ (tV (bX (eL 2) .startswith [(aY .Add (eL 3) (eK (vS ".")))] [])) [
   aE (dM (iD (eL 0) "_ignore") (eL 2)) (eK (.int 1)),
   bL (eK (.int 1))] []],
 bJ (aR .Is (eL 1) (eK .none)) [
  aE (dM (iD (eL 0) "_ignore") (eL 2)) (eK (.int 1)),
  bL (eK (.int 1))] [],
 fy az (pL 4) (iA (iD (eL 0) "_dirs")) [
  bJ (tV (bX (eL 1) .startswith [(aY .Add (eL 4) (eK (vS "/")))] [])) [
   aE (dM (iD (eL 0) "_ignore") (eL 2)) (eK (.int 1)),
   bL (eK (.int 1))] []],
 aE (dM (iD (eL 0) "_ignore") (eL 2)) (eK (.int 0)),
 bL (eK (.int 0))]
abbrev zc:ah DS:=[
 aE (pL 4) (eList []),
 bJ (aR .NotEq (eL 1) (eK (.int 7))) [
  aE (pC "parts") (bX (eL 1) .split [(eK (vS "."))] []),
  aE (pL 4) (d9 (eH [(".0",.local),("k",.local),("parts",.free)]) az (iS (iW [(aX (eK (.bi "len")) [(eC "parts")] [])])) (pL 1) [] (bX (eK (vS ".")) .join [(fx (eC "parts") ag (ae (aY .Add (eL 1) (eK (.int 1)))))] []))] [],
 bJ (nV (aR .Is (eL 0) (eK .none)) (aR .NotEq (d9 (eH [(".0",.local),("name",.local),("modules",.free)]) az (iA (eL 4)) (pL 1) [(aR .In (eL 1) (eC "modules"))] (eL 1)) (eList []))) [
  bL (eK (.bool aj))] [],
 aE (pC "steps") (bX (eL 0) .split [(eK (vS "/"))] []),
 bL (lT .NotEq (d9 (eH [(".0",.local),("k",.local),("directories",.free),("steps",.free)]) az (iS (iW [(aX (eK (.bi "len")) [(eC "steps")] [])])) (pL 1) [(aR .In (bX (eK (vS "/")) .join [(fx (eC "steps") ag (ae (eL 1)))] []) (eC "directories"))] (eL 1)) (eList []))]
abbrev sz:ah DS:=[
   bJ (jP (aR .Eq (eC "module") (eK (.int 7))) (aR .NotEq (eL 9) (eList []))) [
    bL (eL 3)] [],
   b9 (bX (eL 8) .append [(gK [(eC "module"),(eL 4)])] []),
   aE (pL 11) (bz (d9 (eH [(".0",.local),("name",.local),("where",.local),("module",.free)]) aj (iA (eL 8)) (cx [(pL 1),(pL 2)]) [(aR .Eq (eL 1) (eC "module"))] (eL 2)) (eK (.int 0))),
   bJ (tV (aX (eK (.fn (aq "_law_to_be_left_out"))) [(eL 11),(eC "module"),(eL 9),(eL 10)] [])) [
    o9 (pL 7) (eL 7) .Add (eK (.int 1))] []]
abbrev zd:ah DS:=[
 aE (pL 3) (eList []),
 fy aj (cx [(pL 4),(pC "module"),(pL 6)]) (iA (eL 0)) [
  aE (pL 7) (eK (.int 0)),
  fy aj (cx [(pL 8),(cx [(pL 9),(pL 10)])]) (o8 (hU (eL 1)) (hU (eL 2))) sz,
  b9 (bX (eL 3) .append [(eL 7)] [])],
 bL (eL 3)]
abbrev ze:ah DS:=[
 aE (pL 4) (eList []),
 fy az (pL 5) (iS (iW [(eL 2)])) [
  fy aj (cx [(pC "j"),(pL 7)]) (o7 (hU (eL 0))) [
   aE (pL 8) (d9 (eH [(".0",.local),("i",.local),("rank",.local),("greatest",.free),("j",.free),("ranks",.free)]) aj (o7 (hU (eC "ranks"))) (cx [(pL 1),(pL 2)]) [(yP (tV (eC "greatest")) (aR .Gt (eL 2) (bz (eC "ranks") (eC "j"))) (aR .Lt (eL 2) (bz (eC "ranks") (eC "j"))))] (eL 1)),
   aE (pL 9) (d9 (eH [(".0",.local),("i",.local),("rank",.local),("j",.free),("ranks",.free)]) aj (o7 (hU (fx (eC "ranks") ag (ae (eC "j"))))) (cx [(pL 1),(pL 2)]) [(aR .Eq (eL 2) (bz (eC "ranks") (eC "j")))] (eL 1)),
   bJ (aR .Eq (aY .Add (aX (eK (.bi "len")) [(eL 8)] []) (aX (eK (.bi "len")) [(eL 9)] [])) (eL 5)) [
    b9 (bX (eL 4) .append [(eL 7)] [])] []]],
 bL (eL 4)]
abbrev zf:ah DS:=[
 sx (pL 2) (bX (eL 0) .names [(eK .none),(eL 1)] []) (λk=>k == "AttributeError") (bL (eList [])) [],
 bL (gJ (aR .Is (aX (eK (.ty "type")) [(eL 2)] []) (eK (.ty "int"))) (eList [(eL 2)]) (eList [(eK .none)]))]
abbrev sA:ah DS:=[
 aE (pL 1) (aY .Add (fx (eL 0) ag (ae (eK (.int 6)))) (eList [(eK (.int 1728)),(eK (.int 1466)),(eK (.int 48)),(eK (.int 34)),(eK (.int 41)),(eK (.int 787)),(eK (.int 42)),(eK (.int 1536)),(eK (.int 55)),(eK (.int 33))])),
 aE (pC "total") (aY .Add (aX (eK (.bi "sum")) [(fx (eL 0) ag (ae (eK (.int 6))))] []) (eK (.int 84104))),
 aE (pL 3) (eList []),
 fy az (pC "k") (iA (eList [(eK (.int 0)),(eK (.int 6)),(eK (.int 12))])) [
  aE (pL 5) (d9 (eH [(".0",.local),("i",.local),("name",.local),("k",.free),("total",.free)]) aj (o7 (hU (eList [(eK (vS "a")),(eK (vS "a.b")),(eK (vS "b"))]))) (cx [(pL 1),(pL 2)]) [(aR .Eq (aY .Mod (aY .FloorDiv (eC "total") (aY .Pow (eK (.int 2)) (aY .Add (eC "k") (eL 1)))) (eK (.int 2))) (eK (.int 1)))] (eL 2)),
  aE (pL 6) (d9 (eH [(".0",.local),("i",.local),("name",.local),("k",.free),("total",.free)]) aj (o7 (hU (eList [(eK (vS "/l")),(eK (vS "/l/a")),(eK (vS "/w"))]))) (cx [(pL 1),(pL 2)]) [(aR .Eq (aY .Mod (aY .FloorDiv (eC "total") (aY .Pow (eK (.int 2)) (aY .Add (aY .Add (eC "k") (eK (.int 3))) (eL 1)))) (eK (.int 2))) (eK (.int 1)))] (eL 2)),
  b9 (bX (eL 3) .append [(gK [(eL 5),(eL 6)])] [])]]
abbrev vJ:ah DS:=[
 aE (pC "readers") (d9 (eH [(".0",.local),("modules",.local),("directories",.local),("_Ignore",.globalImplicit)]) aj (iA (eL 3)) (cx [(pL 1),(pL 2)]) [] (aX (eK (.fn (aq "_Ignore"))) [(eL 1),(eL 2)] [])),
 aE (pL 7) (aX (eK (.fn (aq "_Ignore"))) [(eList []),(eList [(eK (vS "/l/../w//"))])] []),
 bJ (aR .NotEq (eList [(bX (eL 7) .names [(eK (vS "/w/q.py")),(eK (vS "q"))] []),(bX (eL 7) .names [(eK (vS "/wx/q.py")),(eK (vS "r"))] [])]) (eList [(eK (.int 1)),(eK (.int 0))])) [
  bL (eK (.bool az))] [],
 aE (pC "asks") (eList []),
 aE (pL 8) (Em mQ)]
abbrev zg:DS:=bJ (nV (aR .Eq (eL 11) (eK (.int 0))) (aR .Eq (aY .Mod (aY .FloorDiv (eL 12) (eK (.int 32))) (eK (.int 3))) (eK (.int 0)))) [
   b9 (bX (eL 9) .append [(eList [])] []),
   b9 (bX (eL 10) .append [(aY .FloorDiv (eL 12) (eK (.int 96)))] [])] []
abbrev vK:ah DS:=[
 aE (pL 9) (eList []),
 aE (pL 10) (eList []),
 fy aj (cx [(pL 11),(pL 12)]) (o7 (hU (eL 1))) [
  zg,
  aE (pL 13) (bz (eList [(eK (vS "a")),(eK (vS "a.b")),(eK (vS "ab")),(eK (vS "b.a")),(eK (vS "a")),(eK (vS "a.b")),(eK (vS "ab")),(eK (.int 7))]) (aY .Mod (eL 12) (eK (.int 8)))),
  b9 (bX (bz (eL 9) (iV (eK (.int 1)))) .append [(gK [(bz (eList [(eK (vS "/l/x.py")),(eK (vS "/l/a/x.py")),(eK (vS "/w/x.py")),(eK .none)]) (aY .Mod (aY .FloorDiv (eL 12) (eK (.int 8))) (eK (.int 4)))),(eL 13),(eL 11)])] [])]]
abbrev vL:ah DS:=[
  b9 (bX (eL 15) .append [(gK [(eL 23),(aX (eK (.ty "list")) [(eL 22)] [])])] []),
  aE (pL 24) (gJ (aR .Gt (eC "wish") (eK (.int 0))) (aX (eK (.fn (aq "_law_ranks"))) [(eL 18),(eL 14),(eL 3)] []) (eList [])),
  b9 (bX (eL 17) .extend [(d9 (eH [(".0",.local),("path",.local),("module",.local),("place",.local),("wish",.free)]) aj (iA (fx (eL 18) ag (ae (aY .Add (aX (eK (.bi "len")) [(eL 24)] []) (eK (.int 1)))))) (cx [(pL 1),(pL 2),(pL 3)]) [(aR .Gt (eC "wish") (eK (.int 0)))] (eL 3))] []),
  aE (pL 25) (gJ (jP (aR .Gt (eC "wish") (eK (.int 0))) (aR .Eq (aY .Mod (aY .FloorDiv (eL 19) (eK (.int 12))) (eK (.int 2))) (eK (.int 1)))) (fx (eL 18) (ae (aY .Add (aX (eK (.bi "len")) [(eL 24)] []) (eK (.int 1)))) ag) (eL 18)),
  aE (pL 26) (vF (lT .Gt (eC "wish") (eK (.int 0))) (lT .Lt (aX (eK (.bi "len")) [(eL 24)] []) (aX (eK (.bi "len")) [(eL 18)] []))),
  b9 (bX (eL 16) .append [(gK [(gJ (tV (eL 26)) (eK .none) (aX (eK (.fn (aq "_law_few"))) [(eL 18),(eL 24),(eC "wish"),(eL 21)] [])),(eL 25)])] [])]
abbrev vM:ah DS:=
  aE (pC "wish") (aY .Sub (aY .Mod (eL 19) (eK (.int 6))) (eK (.int 1))) ::
  aE (pL 21) (lT .Eq (aY .Mod (aY .FloorDiv (eL 19) (eK (.int 6))) (eK (.int 2))) (eK (.int 1))) ::
  aE (pL 22) (gJ (aR .Eq (aY .Mod (aY .FloorDiv (eL 19) (eK (.int 12))) (eK (.int 2))) (eK (.int 1))) (aX (eK (.bi "iter")) [(eL 18)] []) (aX (eK (.ty "list")) [(eL 18)] [])) ::
  sx (pL 23) (gJ (tV (eL 21)) (aX (eK (.fn (aq "nlargest"))) [(eC "wish"),(eL 22)] [(aq "key",(eL 8))]) (aX (eK (.fn (aq "nsmallest"))) [(eC "wish"),(eL 22)] [(aq "key",(eL 8))])) (λk=>k == "AttributeError") (aE (pL 23) (eK .none)) [] :: vL
abbrev vN:ah DS:=[
 aE (pL 14) (eList [(eList []),(eList []),(eList [])]),
 aE (pL 15) (eList []),
 aE (pL 16) (eList []),
 aE (pL 17) (eList []),
 fy aj (cx [(pL 18),(pL 19)]) (o8 (hU (eL 9)) (hU (eL 10))) vM]
abbrev zh:ah DS:=[
   b9 (bX (eL 15) .append [(aX (eK (.fn (aq "_law_says"))) [(bz (eC "readers") (eC "k")),(eL 13)] [])] []),
   b9 (bX (eL 16) .append [(aX (eK (.fn (aq "_law_ranks"))) [(eList [(gK [(eK .none),(eL 13),(eK (.int 0))])]),(eList [(bz (eL 14) (eC "k"))]),(eList [(bz (eL 3) (eC "k"))])] [])] [])]
abbrev vO:ah DS:=[
 fy az (pC "k") (iS (iW [(eK (.int 3))])) [
  fy az (pL 13) (iA (eList [(eK (vS "a")),(eK (vS "a.b")),(eK (vS "ab")),(eK (vS "b.a")),(eK (.int 7))])) zh],
 bL (vF (lT .Eq (eL 15) (eL 16)) (lT .Eq (eC "asks") (eL 17)))]
abbrev vP:ah DS:=sA++(vJ++(vK++(vN++vO)))
abbrev WP {β:Type}(m:P β)(st:St)(Q:β->St->Prop)(E:aI->St->Prop):Prop:=
 m.run st λr bh=>match r with
  |.ok b=>Q b bh
  |.err k=>E k bh
@[reducible] abbrev k1 {β γ:Type}(f:β->P γ)(Q:γ->St->Prop)(E:aI->St->Prop)(v:β)(st:St):Prop:=WP (f v) st Q E
@[reducible] abbrev k2 {β γ δ:Type}(f:β->γ->P δ)(Q:δ->St->Prop)(E:aI->St->Prop)(v:β)(w:γ)(st:St):Prop:=WP (f v w) st Q E
@[reducible] abbrev k3 {β γ δ ε:Type}(f:β->γ->δ->P ε)(Q:ε->St->Prop)(E:aI->St->Prop)(u:β)(v:γ)(w:δ)(st:St):Prop:=WP (f u v w) st Q E
@[reducible] abbrev kE {β γ:Type}(a:RT->P γ)(rt:RT)(Q:β->γ->St->Prop)(E:aI->St->Prop)(v:β)(st:St):Prop:=WP (a rt) st (Q v) E
@[reducible] abbrev Qy {β γ:Type}(a:RT->P γ)(rt:RT)(Q:γ->St->Prop)(E:aI->St->Prop)(_:β)(st:St):Prop:=WP (a rt) st Q E
@[reducible] abbrev Ez {β γ δ:Type}(a:RT->P δ)(rt:RT)(Q:β->γ->δ->St->Prop)(E:aI->St->Prop)(u:β)(v:γ)(st:St):Prop:=WP (a rt) st (Q u v) E
@[reducible] abbrev kM {β γ:Type}(g:β->γ)(Q:γ->St->Prop)(v:β)(st:St):Prop:=Q (g v) st
@[reducible] abbrev Qz {β γ δ:Type}(g:β->γ->δ)(Q:δ->St->Prop)(u:β)(v:γ)(st:St):Prop:=Q (g u v) st
@[reducible] abbrev zi {γ:Type}(m n:P γ)(Q:γ->St->Prop)(E:aI->St->Prop)(c:aB)(st:St):Prop:=(c=aj->WP m st Q E)/\(c=az->WP n st Q E)
@[reducible] abbrev EA {γ:Type}(m:P γ)(R:St->Prop)(Q:γ->St->Prop)(E:aI->St->Prop)(c:aB)(st:St):Prop:=(c=aj->WP m st Q E)/\(c=az->R st)
@[reducible] abbrev vQ {γ:Type}(m:P γ)(R:St->Prop)(Q:γ->St->Prop)(E:aI->St->Prop)(c:aB)(st:St):Prop:=(c=aj->R st)/\(c=az->WP m st Q E)
@[reducible] abbrev kA (m:P AV)(Q:AV->St->Prop)(E:aI->St->Prop)(x:AV)(st:St):Prop:=WP (eE x) st (EA m (Q x) Q E) E
@[reducible] abbrev kO (m:P AV)(Q:AV->St->Prop)(E:aI->St->Prop)(x:AV)(st:St):Prop:=WP (eE x) st (vQ m (Q x) Q E) E
@[reducible] abbrev kU {β:Type}(loc:ah (ax AV))(Q:ah (ax AV)->St->Prop)(_:β)(st:St):Prop:=Q loc st
@[reducible] abbrev kX {β:Type}(loc:ah (ax AV))(Q:FL×ah (ax AV)->St->Prop)(_:β)(st:St):Prop:=Q (.next,loc) st
@[reducible] abbrev kN (Q:FL×ah (ax AV)->St->Prop)(loc:ah (ax AV))(st:St):Prop:=Q (.next,loc) st
@[reducible] abbrev kR (loc:ah (ax AV))(Q:FL×ah (ax AV)->St->Prop)(v:AV)(st:St):Prop:=Q (.ret v,loc) st
@[reducible] abbrev EB (Q:AV->St->Prop)(E:aI->St->Prop)(x:FL×ah (ax AV))(st:St):Prop:=WP (eQ x.1) st Q E
@[reducible] abbrev kL {γ:Type}(f:RT->P γ)(F:Or)(cel:ah (au×ak))(Q:γ->St->Prop)(E:aI->St->Prop)(loc:ah (ax AV))(st:St):Prop:=WP (f ⟨F,cel,loc⟩) st Q E
@[reducible] abbrev kK (n:au)(Q:ah (au×AV)->St->Prop)(x:AV)(xs:ah (au×AV))(st:St):Prop:=Q ((n,x) :: xs) st
@[reducible] abbrev EC (put:DA)(rt:RT)(Q:FL×ah (ax AV)->St->Prop)(E:aI->St->Prop)(v:AV)(st:St):Prop:=WP (put v rt) st (kN Q) E
@[reducible] abbrev ED (x:aI)(v:AV)(loc:ah (ax AV))(Q:ah (ax AV)->St->Prop)(E:aI->St->Prop)(ov:AV)(st:St):Prop:=WP (p8 ov (aq x) v) st (kU loc Q) E
@[reducible] abbrev EE (v:AV)(loc:ah (ax AV))(Q:ah (ax AV)->St->Prop)(E:aI->St->Prop)(ov iv:AV)(st:St):Prop:=WP (oQ ov iv v) st (kU loc Q) E
@[reducible] abbrev QA (op:jW)(Q:AV->St->Prop)(E:aI->St->Prop)(i j:Int)(st:St):Prop:=WP (gf op (.int i) (.int j)) st Q E
@[reducible] abbrev QC (op:jW)(Q:AV->St->Prop)(E:aI->St->Prop)(i:Int)(v:AV)(st:St):Prop:=WP (dF v) st (QA op Q E i) E
@[reducible] abbrev EF (F:Or)(mm:km)(l:ah DE)(ks:ah (au×DE))(rt:RT)(Q:AV->St->Prop)(E:aI->St->Prop)(ov:AV)(st:St):Prop:=
 ¬ (isInt ov=aj/\mm= .startswith)/\WP (lJ ov mm) st (Qy (dG l) rt (kE (fW ks) rt (k2 (fb F ov mm) Q E) E) E) E
@[reducible] abbrev EH (put:DA)(rt:RT)(o:ah DS)(F:Or)(cel:ah (au×ak))(Q:FL×ah (ax AV)->St->Prop)(E:aI->St->Prop)(v:AV)(st:St):Prop:=WP (put v rt) st (kL (sq o) F cel Q E) E
@[reducible] abbrev EI (yQ:aI->aB)(m:P (FL×ah (ax AV)))(Q:FL×ah (ax AV)->St->Prop)(E:aI->St->Prop)(k:aI)(st:St):Prop:=yQ k=aj/\WP m st Q E
abbrev Left (N:ah (ax AV)->St->Prop)(Q:FL×ah (ax AV)->St->Prop)(y:FL×ah (ax AV))(st:St):Prop:=match y with
 |(.next,loc)=>N loc st
 |(.cont,loc)=>N loc st
 |(.brk,loc)=>Q (.next,loc) st
 |(.ret v,loc)=>Q (.ret v,loc) st
@[reducible] abbrev QD (tup:aB)(b:ah DS)(put:DA)(rt:RT)(Q:FL×ah (ax AV)->St->Prop)(E:aI->St->Prop)(it:AI)(st:St):Prop:=(tup || vG it)=aj/\WP (forA (sq b) put 128 it rt) st Q E
abbrev Yl (G:St->Prop):AI->ah AV->Prop
 |it,[]=>∀st,G st->∀(Q:ax (AV×AI)->St->Prop) (E:aI->St->Prop),Q ag st->WP (bx it) st Q E
 |it,x :: xs=>∃jJ,(∀st,G st->∀(Q:ax (AV×AI)->St->Prop) (E:aI->St->Prop),Q (ae (x,jJ)) st->WP (bx it) st Q E)/\Yl G jJ xs
abbrev mR (rt:RT)(Q:aB->St->Prop)(E:aI->St->Prop):ah DT->St->Prop
 | [],st=>Q aj st
 | [t],st=>WP (t rt) st Q E
 |_,_=>dm
abbrev mS (d:Int):ak->Int->ah AV
 | 0,_=>[]
 |n+1,c=>.int c :: mS d n (c+d)
abbrev mT:Int->ah AV->ah AV
 |_,[]=>[]
 |n,x :: l=>.pair (.int n) x :: mT (n+1) l
abbrev pd:ah AV->ah AV->ah AV
 |x :: xs,y :: ys=>.pair x y :: pd xs ys
 |_,_=>[]
@[reducible] abbrev QE (y:AS)(Q:AI->St->Prop)(E:aI->St->Prop)(i:AI)(st:St):Prop:=WP (eP y) st (kM (AI.zip i) Q) E
@[reducible] abbrev kZ (Q:AI->St->Prop)(E:aI->St->Prop)(x y:AS)(st:St):Prop:=WP (eP x) st (QE y Q E) E
@[reducible] abbrev EJ (tup:aB)(elt:DE)(ifs:ah DT)(put:DA)(rt:RT)(Q:AV->St->Prop)(E:aI->St->Prop)(ai:AI)(st:St):Prop:=(tup || vG ai)=aj/\WP (cw elt ifs put 128 ai rt []) st (k1 cz Q E) E
@[reducible] abbrev Body (r:ah DS)(rt:RT)(st:St)(Q:AV->St->Prop)(E:aI->St->Prop):Prop:=WP (sq r rt) st (EB Q E) E
abbrev jQ (N:ah (ax AV)->St->Prop)(Q:FL×ah (ax AV)->St->Prop)(y:FL×ah (ax AV))(st:St):Prop:=match y with
 |(.next,loc)=>N loc st
 |y=>Q y st
@[reducible] abbrev QG (t:DT)(body:DS)(n:ak)(F:Or)(cel:ah (au×ak))(loc:ah (ax AV))(Q:FL×ah (ax AV)->St->Prop)(E:aI->St->Prop)(c:aB)(st:St):Prop:=(c=aj->WP (body ⟨F,cel,loc⟩) st (Left (kL (iN t body n) F cel Q E) Q) E)/\(c=az->Q (.next,loc) st)
@[reducible] abbrev Tr:=Int×Int×AV
abbrev tv (t:Tr):AV:=.dB (.int t.1) (.int t.2.1) t.2.2
abbrev fO (x y:Tr):aB:=if x.1=y.1 then decide (x.2.1 < y.2.1)else decide (x.1 < y.1)
abbrev bf (g:aB)(x y:Tr):aB:=if g then fO y x else fO x y
abbrev f5 (x y:Tr):Prop:=x.1=y.1->x.2.1≠y.2.1
abbrev Hp (st:St)(h:ak)(l:ah Tr):Prop:=st[h]? =ae (.list (l.map tv))
abbrev iE (g:aB)(new:Tr)(s:ak):ak->ah Tr->ak->ah Tr
 | 0,l,p=>l.set p new
 |n+1,l,p=>if s < p then
   match l[(p - 1) / 2]? with
   |some par=>if bf g new par then iE g new s n (l.set p par) ((p - 1) / 2)else l.set p new
   |none=>l.set p new
  else l.set p new
abbrev QH (t:DT):ah DS:=[
 aE (pL 3) (bz (eL 0) (eL 2)),
 pb (aR .Gt (eL 2) (eL 1)) [
  aE (pL 4) (aY .RShift (aY .Sub (eL 2) (eK (.int 1))) (eK (.int 1))),
  aE (pL 5) (bz (eL 0) (eL 4)),
  bJ t [
   aE (dM (eL 0) (eL 2)) (eL 5),
   aE (pL 2) (eL 4),
   qw] [],
  su],
 aE (dM (eL 0) (eL 2)) (eL 3)]
abbrev fe (g:aB):ak->ah Tr->ak->ah Tr×ak
 | 0,l,p=>(l,p)
 |n+1,l,p=>match l[2 * p+1]? with
  |none=>(l,p)
  |some x=>match l[2 * p+2]? with
   |none=>fe g n (l.set p x) (2 * p+1)
   |some y=>if bf g x y then fe g n (l.set p x) (2 * p+1)else fe g n (l.set p y) (2 * p+2)
abbrev QI (t:DT)(f:AV):ah DS:=[
 aE (pL 2) (aX (eK (.bi "len")) [(eL 0)] []),
 aE (pL 3) (eL 1),
 aE (pL 4) (bz (eL 0) (eL 1)),
 aE (pL 5) (aY .Add (aY .Mult (eK (.int 2)) (eL 1)) (eK (.int 1))),
 pb (aR .Lt (eL 5) (eL 2)) [
  aE (pL 6) (aY .Add (eL 5) (eK (.int 1))),
  bJ (jP (aR .Lt (eL 6) (eL 2)) (gp t)) [
   aE (pL 5) (eL 6)] [],
  aE (dM (eL 0) (eL 1)) (bz (eL 0) (eL 5)),
  aE (pL 1) (eL 5),
  aE (pL 5) (aY .Add (aY .Mult (eK (.int 2)) (eL 1)) (eK (.int 1)))],
 aE (dM (eL 0) (eL 1)) (eL 4),
 b9 (aX (eK f) [(eL 0),(eL 3),(eL 1)] [])]
abbrev dN (l:ah Tr):Prop:=∀(i j:ak) (x y:Tr),i≠j->l[i]? =ae x->l[j]? =ae y->f5 x y
abbrev cN (g:aB)(l:ah Tr)(p:ak):ah Tr:=match l[p]? with
 |none=>l
 |some new=>iE g new p (fe g 63 l p).2 ((fe g 63 l p).1.set (fe g 63 l p).2 new) (fe g 63 l p).2
abbrev eW (g:aB):ak->ah Tr->ah Tr
 | 0,l=>l
 |k+1,l=>eW g k (cN g l k)
abbrev kW (g:aB):ah Tr->Prop
 | []=>dm
 | [_]=>eN
 | [a,b]=>bf g a b=aj
 | [a,b,c]=>bf g a b=aj/\bf g a c=aj
 | [a,b,c,d]=>bf g a b=aj/\bf g a c=aj/\bf g b d=aj
 |_=>dm
abbrev bg (b:aB)(k k':Int):aB:=if b then decide (k' < k)else decide (k < k')
abbrev iF (b:aB)(t:Tr):ah Tr->ah Tr
 | []=>[t]
 |x :: S=>if bg b t.1 x.1 then t :: x :: S else x :: iF b t S
abbrev bV (b:aB)(t:Int×AV):ah (Int×AV)->ah (Int×AV)
 | []=>[t]
 |x :: S=>if bg b t.1 x.1 then t :: x :: S else x :: bV b t S
abbrev kv (t:Tr):Int×AV:=(t.1,t.2.2)
abbrev Later (b:aB)(t:Tr)(S:ah Tr):Prop:=∀x∈S,if b then t.2.1 < x.2.1 else x.2.1 < t.2.1
@[reducible] abbrev gL (b:aB)(S:ah Tr):Prop:=S.Pairwise λx y=>bf b x y=aj
abbrev kk (t:Tr):(Int×Int)×AV:=((t.1,t.2.1),tv t)
abbrev fz (b:aB)(n:ak)(xs:ah (Int×AV)):ah (Int×AV):=xs.foldl (λS x=>(bV b x S).take n) []
structure kY (b:aB)(n:ak)(L S:ah Tr)(xs:ah (Int×AV)):Prop where
 heap:kW (!b) L
 sorted:gL b S
 perm:L.Perm S
 sel:S.map kv=fz b n xs
 full:S.length=n
structure Fr (D:ak->Prop)(st bh:St):Prop where
 len:st.length<=bh.length
 keep:∀i,i < st.length->¬ D i->bh[i]? =st[i]?
structure iX (F:Or)(key:AV)(D:ak->Prop)(J:ak->St->Prop)(JE:St->Prop)(xs:ah AV)(rk:ah Int):Prop where
 call:∀(j:ak) (x:AV) (st:St),xs[j]? =ae x->J j st->WP (F key [x] []) st (λv bh=>∃r,rk[j]? =ae r/\v= .int r/\J (j+1) bh/\Fr D st bh) (λk bh=>k="AttributeError"/\rk.length=j/\JE bh/\Fr D st bh)
 zj:∀j st bh,J j st->st.length<=bh.length->(∀i,D i->bh[i]? =st[i]?)->J j bh
 QJ:∀st bh,JE st->st.length<=bh.length->(∀i,D i->bh[i]? =st[i]?)->JE bh
 inside:∀j st,J j st->∀i,D i->i < st.length
 le:rk.length<=xs.length
abbrev mU (loc:ah (ax AV)):Prop:=∃x0 x1 x2,loc=[x0,x1,x2]
abbrev jr (loc:ah (ax AV)):Prop:=∃x0 x1 x2 x3,loc=[x0,x1,x2,x3]
abbrev lU (loc:ah (ax AV)):Prop:=∃x0 x1 x2 x3 x4,loc=[x0,x1,x2,x3,x4]
@[reducible] abbrev QK (ifs:ah DT)(elt:DE)(F:Or)(cel:ah (au×ak))(I:ah AV->ah (ax AV)->St->Prop)(acc:ah AV)(E:aI->St->Prop)(loc:ah (ax AV))(st:St):Prop:=
 mR ⟨F,cel,loc⟩ (λc st=>(c=aj->acc.length<=4096/\WP (elt ⟨F,cel,loc⟩) st (λx st=>I (acc++[x]) loc st) E)/\(c=az->I acc loc st)) E ifs st
abbrev tr (b:aB)(i:ak)(r:Int)(x:AV):Tr:=(r,if b then -(i:Int)else i,x)
abbrev dh (b:aB):ak->ah Int->ah AV->ah Tr
 |i,r :: rs,x :: xs=>tr b i r x :: dh b (i+1) rs xs
 |_,_,_=>[]
abbrev It (st:St)(it s j:ak)(xs:ah AV):Prop:=st[it]? =ae (.iter (ae s) j)/\st[s]? =ae (.list xs)
abbrev qz (st:St)(it s j:ak)(xs:ah AV):Prop:=It st it s j xs\/(st[it]? =ae (.iter ag 0)/\xs.length<=j)
abbrev ec (b:aB)(i:ak):Int:=if b then -(i:Int)else i
abbrev stepI (b:aB):Int:=if b then -1 else 1
abbrev With (D:ak->Prop)(it i:ak):Prop:=D i\/i=it
abbrev jR (st:St)(key:AV):Prop:=∃i a e sc cs,key= .ref i/\st[i]? =ae (.lam a e sc cs)
abbrev qA (b:aB)(o:ak)(S:ah Tr):Prop:=∀x∈S,if b then ec b o < x.2.1 else x.2.1 < ec b o
abbrev iY (b:aB):ah (Int×AV)->Int×AV->Int×AV
 | [],p=>p
 |x :: l,p=>iY b l (if bg b x.1 p.1 then x else p)
abbrev Gv (w:aB)(st:St)(gi s:ak)(xs:ah AV):Prop:=if w then It st gi s 0 xs else s=gi/\st[gi]? =ae (.list xs)
abbrev js (w:aB)(st:St)(gi s m:ak)(xs:ah AV):Prop:=if w then qz st gi s m xs else s=gi/\st[gi]? =ae (.list xs)
abbrev DG (D:ak->Prop)(w:aB)(gi i:ak):Prop:=D i\/(w=aj/\i=gi)
structure pe (b:aB)(n:ak)(D:ak->Prop)(J:ak->St->Prop)(w:aB)(gi s:ak)(xs:ah AV)(rk:ah Int)(df:St)(v:AV)(bh:St):Prop where
 res:∃r,v= .ref r/\df.length<=r/\bh[r]? =ae (.list ((fz b n (rk.zip xs)).map (·.2)))
 len:xs.length=rk.length
 j:J xs.length bh
 fr:Fr (DG D w gi) df bh
 left:js w bh gi s xs.length xs
structure mV (D:ak->Prop)(JE:St->Prop)(w:aB)(gi s:ak)(xs:ah AV)(rk:ah Int)(df:St)(k:aI)(bh:St):Prop where
 k:k="AttributeError"
 len:rk.length < xs.length
 j:JE bh
 fr:Fr (DG D w gi) df bh
 left:js w bh gi s (rk.length+1) xs
structure vR (J:ak->St->Prop)(df:St)(v:AV)(bh:St):Prop where
 res:∃r,v= .ref r/\df.length<=r/\bh[r]? =ae (.list [])
 j:J 0 bh
 fr:Fr (λ_=>dm) df bh
@[reducible] abbrev sO (x:aI):au:=aq x
abbrev subs (x y z:au):ah (ah au):=[[],[x],[y],[x,y],[z],[x,z],[y,z],[x,y,z]]
abbrev qB:ah (ah au):=subs (sO "a") (sO "a.b") (sO "b")
abbrev pf:ah (ah au):=subs (sO "/l") (sO "/l/a") (sO "/w")
abbrev modS:ah au:=[sO "a",sO "a.b",sO "ab",sO "b.a"]
abbrev sC:ah au:=[sO "/l/x.py",sO "/l/a/x.py",sO "/w/x.py"]
abbrev eg (m:AV):Prop:=m= .int 7\/∃s∈modS,m= .str s
abbrev f9 (p:AV):Prop:=p= .none\/∃s∈sC,p= .str s
@[reducible] abbrev Rd:=ah au×ah au
abbrev fA (r:Rd):Prop:=r.1∈qB/\r.2∈pf
abbrev pg (mods:ah au)(s:au):aB:=mods.any λx=>pE s (x++sO ".")
abbrev sD (fP:ah au)(s:au):aB:=fP.any λx=>pE s (x++sO "/")
abbrev sE (mods:ah au):AV->aB
 |.str s=>mods.contains s || pg mods s
 |_=>az
abbrev qC (fP:ah au):AV->aB
 |.str s=>sD fP s
 |_=>aj
abbrev dv (r:Rd)(p m:AV):aB:=sE r.1 m || qC r.2 p
abbrev jt (s:au):ah au:=(dz (aU s (sO ".")).length).map λk=>jx (sO ".") ((aU s (sO ".")).take (k+1))
abbrev k5 (s:au):ah au:=(dz (aU s (sO "/")).length).map λk=>jx (sO "/") ((aU s (sO "/")).take k)
structure fB (st:St)(a d dd g:ak)(r:Rd)(D:ah ((au ⊕ Int)×AV)):Prop where
 inst:st[a]? =ae (.inst d)
 bc:st[d]? =ae (.bc [(sO "_mods",.cL r.1),(sO "_dirs",.ref dd),(sO "_ignore",.ref g)])
 fP:st[dd]? =ae (.list (r.2.map .str))
 dict:st[g]? =ae (.dict D)
abbrev b2i (b:aB):Int:=if b then 1 else 0
abbrev EK (m:AV):Prop:=m= .int 7\/∃s:au,m= .str s
abbrev EM (p:AV):Prop:=p= .none\/∃s:au,p= .str s
@[reducible] abbrev aS:=ah (AV×AV)
abbrev dw (n:aS)(m:AV):ax AV:=(n.find? λq=>q.1=m).map (·.2)
structure k6 (r:Rd)(n:aS)(D:ah ((au ⊕ Int)×AV)):Prop where
 len:D.length<=1+n.length
 get:∀m key,eg m->gF m=ae key->eF D key=(dw n m).map λp=>.int (b2i (dv r p m))
 ok:∀q∈n,f9 q.2/\eg q.1
 EN:r.1≠[]->dw n (.int 7)=ag
structure eY where
 a:ak
 d:ak
 dd:ak
 g:ak
abbrev gs (qs:ah eY)(i:ak):Prop:=∃q∈qs,i=q.g
abbrev bG (st:St):ah eY->ah Rd->ah aS->Prop
 | [],[],[]=>eN
 |q :: qs,r :: rs,n :: ns=>(∃D,fB st q.a q.d q.dd q.g r D/\k6 r n D)/\bG st qs rs ns
 |_,_,_=>dm
abbrev b7:ah Rd->ah aS->AV->AV->ax Int×ah aS
 |r :: rs,n :: ns,m,p=>if m= .int 7/\r.1≠[]then (ag,n :: ns)else
  ((b7 rs ns m p).1.map λi=>b2i (dv r ((dw n m).getD p) m)+i,(n++[(m,p)]) :: (b7 rs ns m p).2)
 |_,_,_,_=>(ae 0,[])
abbrev zk:DE:=bX (eL 1) .names [(bz (eC "thing") (eK (.int 0))),(bz (eC "thing") (eK (.int 1)))] []
abbrev sF:DE:=(bz (eList [(bX (eC "asks") .append [(bz (eC "thing") (eK (.int 2)))] []),(aX (eK (.bi "sum")) [(d9 (eH [(".0",.local),("reader",.local),("thing",.free)]) az (iA (eC "readers")) (pL 1) [] zk)] [])]) (eK (.int 1)))
structure eO where
 cA:ak
 A:ak
 cR:ak
 R:ak
 lm:ak
 qs:ah eY
deriving Inhabited
structure eO.Ok (x:eO):Prop where
 sep:x.qs.Pairwise λp q=>p.g≠q.g
 ar:x.A≠x.R
 ad:∀q∈x.qs,x.A≠q.dd
structure Good (x:eO)(rs:ah Rd)(ns:ah aS)(as:ah AV)(st:St):Prop where
 cA:st[x.cA]? =ae (.cell (ae (.ref x.A)))
 A:st[x.A]? =ae (.list as)
 cR:st[x.cR]? =ae (.cell (ae (.ref x.R)))
 R:st[x.R]? =ae (.list (x.qs.map λq=>.ref q.a))
 lm:∃a e sc,mQ=ae (a,e,sc)/\st[x.lm]? =ae (.lam a e sc [(sO "readers",x.cR),(sO "asks",x.cA)])
 jS:bG st x.qs rs ns
abbrev eZ (x:eO)(i:ak):Prop:=i=x.cA\/i=x.A\/i=x.cR\/i=x.R\/i=x.lm\/∃q∈x.qs,i=q.a\/i=q.d\/i=q.dd\/i=q.g
@[reducible] abbrev Thing:=AV×AV×Int
abbrev tA (t:Thing):AV:=.dB t.1 t.2.1 (.int t.2.2)
abbrev iG (t:Thing):Prop:=f9 t.1/\eg t.2.1
abbrev gq (ts:ah Thing):ah AV:=ts.map λt=>.int t.2.2
abbrev bM (rs:ah Rd):ah aS->ah Thing->ah Int×ah aS
 |ns,[]=>([],ns)
 |ns,t :: ts=>match b7 rs ns t.2.1 t.1 with
  |(ag,lV)=>([],lV)
  |(ae i,lV)=>(i :: (bM rs lV ts).1,(bM rs lV ts).2)
abbrev KJ (x:eO)(rs:ah Rd)(dI:ah aS)(gE:ah AV)(ts:ah Thing)(b0 j:ak)(st:St):Prop:=
 ∃lV,Good x rs lV (gE++gq (ts.take j)) st/\bM rs lV (ts.drop j)=((bM rs dI ts).1.drop j,(bM rs dI ts).2)/\(∀n∈lV,n.length<=b0+j)/\j<=(bM rs dI ts).1.length
abbrev EO (x:eO)(rs:ah Rd)(dI:ah aS)(gE:ah AV)(ts:ah Thing)(st:St):Prop:=Good x rs (bM rs dI ts).2 (gE++gq (ts.take ((bM rs dI ts).1.length+1))) st
@[reducible] abbrev Ex (st bh:St):Prop:=Fr (λu=>dm) st bh
structure vT (s c:au)(n:ak)(L:ah au):Prop where
 len:(aU s c).length<=n
 short:s.length<=16
 ok:cY s=aj
 join:∀k,k<=n->pF c ((aU s c).take k)=aj
 EP:∀x∈L,cY x=aj
 parts:(m6 s (l7 s c 0 s.length (s.length+1)) c.length).length<=4096
abbrev nA (n:aS):ah AV:=n.map λq=>.pair q.1 q.2
abbrev dO (st:St):ah ak->ah aS->Prop
 | [],[]=>eN
 |i :: is,n :: ns=>st[i]? =ae (.list (nA n))/\dO st is ns
 |_,_=>dm
abbrev ff (st:St):ah (ak×ak)->ah Rd->Prop
 | [],[]=>eN
 |q :: qs,r :: rs=>(st[q.1]? =ae (.list (r.1.map .str))/\st[q.2]? =ae (.list (r.2.map .str)))/\ff st qs rs
 |_,_=>dm
abbrev hV (n:aS):Prop:=∀q∈n,eg q.1/\f9 q.2
abbrev pM (q:ak×ak):AV:=.pair (.ref q.1) (.ref q.2)
abbrev sG (row NP LP rp:ak)(loc:ah (ax AV)):Prop:=∃x4 x5 x6 x7 x8 x9 fV bS ph zl,loc=[ae (.ref row),ae (.ref NP),ae (.ref LP),ae (.ref rp),x4,x5,x6,x7,x8,x9,fV,bS,ph,zl]
abbrev fD (b:aB)(T:ah Tr)(t:Tr):ak:=T.countP λu=>bf b u t
abbrev lW (b:aB)(T:ah Tr)(k:ak):ah AV:=(T.filter λt=>decide (fD b T t=k)).map (·.2.2)
abbrev sH (row fp:ak)(z:Int)(loc:ah (ax AV)):Prop:=∃x5 x6 x7 x8 x9 fV bS ph,loc=[ae (.ref row),ag,ae (.int z),ag,ae (.ref fp),x5,x6,x7,x8,x9,fV,bS,ph]
abbrev qD (row fp:ak)(z w:Int)(loc:ah (ax AV)):Prop:=∃x6 x7 x8 x9 fV bS ph,loc=[ae (.ref row),ag,ae (.int z),ag,ae (.ref fp),ae (.int w),x6,x7,x8,x9,fV,bS,ph]
abbrev dx (nc:ah au)(c:au):ah au:=if c.length == 0 || c == sO "." then nc else if !(c == sO "..") || (!nc.isEmpty && nc.getLast? == ae (sO ".."))then nc++[c]else nc.dropLast
abbrev bT (s:au):au:=lr s (ae 1) ag
abbrev iH (s:au):au:=sO "/"++jx (sO "/") ((aU (bT s) (sO "/")).foldl dx [])
abbrev lX:ah au:=[sO "/l",sO "/l/a",sO "/w",sO "/l/../w//"]
abbrev ER (s:au):aB:=decide (0 < s.length) && decide (s.length<=100) && (lr s ag (ae 1) == sO "/") && cY (lr s (ae 1) (ae 2)) && !(lr s (ae 1) (ae 2) == sO "/")
 && decide ((bT s).length<=100) && decide ((aU (bT s) (sO "/")).length<=10) && (aU (bT s) (sO "/")).all (λc=>cY c && decide (c.length<=100))
 && decide ((m6 (bT s) (l7 (bT s) (sO "/") 0 (bT s).length ((bT s).length+1)) (sO "/").length).length<=4096)
 && pF (sO "/") ((aU (bT s) (sO "/")).foldl dx []) && decide ((jx (sO "/") ((aU (bT s) (sO "/")).foldl dx [])).length<=100)
structure NF (s:au):Prop where
 pos:0 < s.length
 len:s.length<=100
 s1:lr s ag (ae 1)=sO "/"
 QM:cY (lr s (ae 1) (ae 2))=aj
 s2:(lr s (ae 1) (ae 2) == sO "/")=az
 ES:(bT s).length<=100
 QN:(aU (bT s) (sO "/")).length<=10
 QO:∀c∈aU (bT s) (sO "/"),cY c=aj/\c.length<=100
 parts:(m6 (bT s) (l7 (bT s) (sO "/") 0 (bT s).length ((bT s).length+1)) (sO "/").length).length<=4096
 join:pF (sO "/") ((aU (bT s) (sO "/")).foldl dx [])=aj
 QP:(jx (sO "/") ((aU (bT s) (sO "/")).foldl dx [])).length<=100
abbrev bj (st:St):Prop:=st.all (λo=>!jj o)=aj
abbrev sI (ni:ak)(loc:ah (ax AV)):Prop:=∃x0 x4 x6 x8 x9,loc=[x0,ae (vS "/"),ae (vS "."),ae (vS ".."),x4,ae (vS "/"),x6,ae (.ref ni),x8,x9]
abbrev D0:ah ((au ⊕ Int)×AV):=[(.inl (sO "<string>"),.int 1)]
abbrev jT (r:Rd)(n:aS)(m:AV):ah Int×ah aS:=bM [r] [n] [(.none,m,0)]
abbrev dc:ah (au×ak):=[(sO "readers",4),(sO "asks",3),(sO "wish",2),(sO "k",1),(sO "total",0)]
abbrev zm:ah (ax AV):=[ag,ag,ag,ag,ag,ag,ag,ag,ag,ag,ag,ag,ag,ag,ag,ag,ag,ag,ag,ag,ag,ag,ag,ag,ag,ag,ag,ag,ag,ag,ag,ag,ag,ag,ag,ag,ag,ag,ag,ag,ag,ag]
abbrev zo (L:ah au):ak->ah (ah au)
 | 0=>[[]]
 |j+1=>zo L j++(zo L j).map (· ++L[j]?.toList)
structure zp (st:St)(n1 LP:ak)(a9:ah (ak×ak))(rs:ah Rd)(nums:ah Int):Prop where
 c1:∃v,st[1]? =ae (.cell v)
 c2:st[2]? =ae (.cell ag)
 c3:st[3]? =ae (.cell ag)
 c4:st[4]? =ae (.cell ag)
 num:st[n1]? =ae (.list (nums.map .int))
 nl:1<=nums.length/\nums.length<=16
 lp:st[LP]? =ae (.list (a9.map pM))
 at_:ff st a9 rs
 ok:∀r∈rs,fA r
 low:∀q∈a9,LP < q.1/\LP < q.2
 fQ:5<=LP/\5<=n1
 ET:n1 < LP
 EU:bj st
abbrev Behind (b:ak)(q:eY):Prop:=b<=q.a/\b<=q.d/\b<=q.dd/\b<=q.g
structure EV (bA:ak)(st:St)(x:eO)(n1 LP:ak)(a9:ah (ak×ak))(rs:ah Rd)(nums:ah Int):Prop where
 good:Good x rs (rs.map λ_=>[]) [] st
 vU:x.Ok
 foot:∀i,eZ x i->i=3\/i=4\/(bA<=i/\i < st.length)
 q3:x.qs.length=3
 c1:∃v,st[1]? =ae (.cell v)
 c2:st[2]? =ae (.cell ag)
 num:st[n1]? =ae (.list (nums.map .int))
 nl:1<=nums.length/\nums.length<=16
 lp:st[LP]? =ae (.list (a9.map pM))
 at_:ff st a9 rs
 ok:∀r∈rs,fA r
 low:∀q∈a9,5<=q.1/\5<=q.2/\q.1 < bA/\q.2 < bA
 fQ:5<=LP/\5<=n1/\LP < bA/\n1 < bA
 bl:bA<=st.length
 cc:x.cA=3/\x.cR=4
abbrev hW (st:St):ah ak->ah (ah Thing)->Prop
 | [],[]=>eN
 |i :: is,n :: ns=>st[i]? =ae (.list (n.map tA))/\hW st is ns
 |_,_=>dm
abbrev total (bR:ah (ah Thing)):ak:=(bR.map List.length).sum
structure LawC (b0:ak)(st:St)(RW OD:ak)(fR:ah ak)(bR:ah (ah Thing))(k7:ah Int)(j:ak):Prop where
 ju:st[RW]? =ae (.list (fR.map .ref))
 od:st[OD]? =ae (.list (k7.map .int))
 at_:hW st fR bR
 len:fR.length=k7.length
 ok:∀ts∈bR,ts≠[]/\∀t∈ts,iG t
 iI:total bR=j
 nd:fR.Nodup
 low:∀i∈fR,b0<=i/\OD < i
 qE:b0<=RW/\RW < OD
structure QR (b0:ak)(st:St)(RW OD:ak)(ip:ah ak)(lp:ak)(it:ah (ah Thing))(lt:ah Thing)(k7:ah Int)(j:ak):Prop where
 ju:st[RW]? =ae (.list ((ip++[lp]).map .ref))
 od:st[OD]? =ae (.list (k7.map .int))
 at_:hW st ip it
 last:st[lp]? =ae (.list (lt.map tA))
 len:ip.length+1=k7.length
 ok:∀ts∈it,ts≠[]/\∀t∈ts,iG t
 QS:∀t∈lt,iG t
 iI:total it+lt.length=j
 nd:(ip++[lp]).Nodup
 low:∀i∈ip++[lp],b0<=i/\OD < i
 qE:b0<=RW/\RW < OD
abbrev cB (rs:ah Rd)(ns:ah aS)(ts:ah Thing)(z:Int):ah Int×ah aS:=if 0 < z then bM rs ns ts else ([],ns)
abbrev fg (rs:ah Rd)(ns:ah aS)(ts:ah Thing)(z:Int):ah AV:=if 0 < z then gq (ts.take ((cB rs ns ts z).1.length+1))else []
abbrev jU (rs:ah Rd)(ns:ah aS)(ts:ah Thing)(z:Int)(w:aB):ah AV:=if w=aj/\0 < z then (ts.map tA).drop ((cB rs ns ts z).1.length+1)else ts.map tA
abbrev nW (b:aB)(rs:ah Rd)(ns:ah aS)(ts:ah Thing)(z:Int):ah AV:=(fz b z.toNat ((cB rs ns ts z).1.zip (ts.map tA))).map (·.2)
structure zq (x:eO)(rs:ah Rd)(ns:ah aS)(as:ah AV)(ts:ah Thing)(b:aB)(z:Int)(w:aB)(gi s:ak)(st:St)(v:AV)(bh:St):Prop where
 good:Good x rs (cB rs ns ts z).2 (as++fg rs ns ts z) bh
 fr:Fr (DG (eZ x) w gi) st bh
 left:∃m,js w bh gi s m (ts.map tA)/\(w=aj->(ts.map tA).drop m=jU rs ns ts z w)/\(w=aj->qz bh gi s m (ts.map tA)->m<=ts.length)
 val:(0 < z/\(cB rs ns ts z).1.length < ts.length/\v= .none)\/(¬ (0 < z/\(cB rs ns ts z).1.length < ts.length)/\∃r,v= .ref r/\st.length<=r/\bh[r]? =ae (.list (nW b rs ns ts z)))
abbrev iZ (o:Int):aB:=(o.fdiv 12).fmod 2 == 1
abbrev nX (rs:ah Rd)(ns:ah aS)(ts:ah Thing)(z:Int):aB:=decide (0 < z) && decide ((cB rs ns ts z).1.length < ts.length)
abbrev Flat (l:ah AV):Prop:=∀v∈l,∃d,(∀n st,a8 (n+1) st v=ae d)/\bY d d=aj
abbrev k8 (Z:ak->Prop)(st:St)(v w:AV):Prop:=∃l i j,Flat l/\v= .ref i/\w= .ref j/\Z i/\Z j/\st[i]? =ae (.list l)/\st[j]? =ae (.list l)
abbrev Item (Z:ak->Prop)(st:St)(v w:AV):Prop:=k8 Z st v w\/∃a a' c c',v= .pair a c/\w= .pair a' c'/\k8 Z st c c'/\((a= .none/\a'= .none)\/k8 Z st a a')
abbrev k9 (Z:ak->Prop)(st:St):ah AV->ah AV->Prop
 | [],[]=>eN
 |v :: vs,w :: ws=>Item Z st v w/\k9 Z st vs ws
 |_,_=>dm
structure Ad where
 x:eO
 bA:ak
 bB:ak
 bD:ak
 bE:ak
 LP:ak
 RW:ak
 OD:ak
 NP:ak
 TD:ak
 DU:ak
 ON:ak
 a9:ah (ak×ak)
 fR:ah ak
 cQ:ah ak
 rs:ah Rd
 bR:ah (ah Thing)
 k7:ah Int
deriving Inhabited
structure Ad.Ok (a:Ad):Prop where
 vU:a.x.Ok
 foot:∀i,eZ a.x i->i=3\/i=4\/(a.bA<=i/\i < a.bB)
 a9:∀q∈a.a9,5<=q.1/\q.1 < a.bA/\5<=q.2/\q.2 < a.bA
 lp:5<=a.LP/\a.LP < a.bA
 rows:a.bB<=a.RW/\a.RW < a.bD/\a.bB<=a.OD/\a.OD < a.bD
 fR:∀i∈a.fR,a.bB<=i/\i < a.bD
 cQ:∀i∈a.cQ,a.bD<=i/\i < a.NP
 ord:a.bD<=a.NP/\a.NP < a.TD/\a.TD < a.DU/\a.DU < a.ON/\a.ON < a.bE
 bs:5<=a.bA/\a.bA<=a.bB/\a.bB<=a.bD
 nd:a.cQ.Nodup
 ml:a.a9.length=3
 nl:a.cQ.length=3
 q3:a.x.qs.length=3
 zr:∀r∈a.rs,fA r
 tok:∀ts∈a.bR,ts≠[]/\∀t∈ts,iG t
 iI:total a.bR<=16
 ES:a.fR.length=a.k7.length
 cc:a.x.cA=3/\a.x.cR=4
abbrev Ad.iy (a:Ad)(i:ak):Prop:=i < 5\/(a.bA<=i/\i < a.bB)\/i∈a.cQ\/i=a.TD\/i=a.DU\/i=a.ON
abbrev Ad.Fz (a:Ad)(i:ak):Prop:=¬ a.iy i
structure LS (a:Ad)(st:St):Prop where
 lp:st[a.LP]? =ae (.list (a.a9.map pM))
 at_:ff st a.a9 a.rs
 ju:st[a.RW]? =ae (.list (a.fR.map .ref))
 od:st[a.OD]? =ae (.list (a.k7.map .int))
 rows:hW st a.fR a.bR
 np:st[a.NP]? =ae (.list (a.cQ.map .ref))
 long:a.bE<=st.length
structure LM (a:Ad)(st:St)(ns:ah aS)(as sJ sL:ah AV)(b:ak):Prop where
 s:LS a st
 good:Good a.x a.rs ns as st
 pj:dO st a.cQ ns
 td:st[a.TD]? =ae (.list sJ)
 du:st[a.DU]? =ae (.list sL)
 on:st[a.ON]? =ae (.list as)
 items:k9 a.Fz st sJ sL
 c1:∃v,st[1]? =ae (.cell v)
 c2:∃v,st[2]? =ae (.cell v)
 nb:∀n∈ns,n.length<=b/\hV n
 al:as.length<=b
 af:Flat as
abbrev Ad.at (a:Ad)(i:ak):ak:=[5,a.bA,a.bB,a.bD,a.NP,a.TD,a.DU,a.ON].getD i a.bE
structure QT (a:Ad)(df st:St)(ns:ah aS)(as sJ sL:ah AV)(rp:ak)(ts:ah Thing)(b:aB)(z:Int)(w:aB)(gi s:ak)(v:AV):Prop where
 ls:LS a st
 good:Good a.x a.rs (cB a.rs ns ts z).2 (as++fg a.rs ns ts z) st
 pj:dO st a.cQ ns
 td:st[a.TD]? =ae (.list sJ)
 du:st[a.DU]? =ae (.list sL)
 on:st[a.ON]? =ae (.list as)
 items:k9 a.Fz df sJ sL
 c1:∃v,st[1]? =ae (.cell v)
 c2:st[2]? =ae (.cell (ae (.int z)))
 hX:a.bE<=gi/\df.length<=gi
 left:∃m,js w st gi s m (ts.map tA)/\(w=aj->(ts.map tA).drop m=jU a.rs ns ts z w)/\(w=aj->qz st gi s m (ts.map tA)->m<=ts.length)
 val:(0 < z/\(cB a.rs ns ts z).1.length < ts.length/\v= .none)\/(¬ (0 < z/\(cB a.rs ns ts z).1.length < ts.length)/\∃r,v= .ref r/\a.bE<=r/\r≠gi/\st[r]? =ae (.list (nW b a.rs ns ts z)))
 fr:Fr a.iy df st
 row:st[rp]? =ae (.list (ts.map tA))
 QU:rp∈a.fR
abbrev jV (o:Int):Int:=o.fmod 6 - 1
abbrev sM (x0 x1 x5 x6 x7 bS ph zl:ax AV)(a:Ad)(loc:ah (ax AV)):Prop:=∃zt zu ik iq ir ie ig ij,loc=[x0,x1,ag,ae (.ref a.LP),ag,x5,x6,x7,ae (.ref a.x.lm),ae (.ref a.RW),ae (.ref a.OD),bS,ph,zl,ae (.ref a.NP),ae (.ref a.TD),ae (.ref a.DU),ae (.ref a.ON),zt,zu,ag,ik,iq,ir,ie,ig,ij,ag,ag,ag,ag,ag,ag,ag,ag,ag,ag,ag,ag,ag,ag,ag,ag]
variable {B H df:St}{E:aI->St->Prop}{F:Or}{I:ah (ax AV)}{b w:aB}{k i n s j U d A h b0 row dd LP k0 di rp ri mi NP:ak}{Q:RT}{O cs:ah (au×ak)}{v a m T p:AV}{M:ah Rd}{K l as args W u vs gE:ah AV}{D Z:ak->Prop}{QB:aB->St->Prop}{z:Int}{R:ah Thing}{x y:Tr}{r:Rd}{x6 x0 x5 x7 x1 bS f Y x3 x8 x9 ie ig ij x4 fV ik iq ir:ax AV}{V:ah Int}{e elt:DE}{S L:ah Tr}{o:AO}{J:ak->St->Prop}{G:St->Prop}{body:DS}{ifs:ah DT}{N QL:ah (ax AV)->St->Prop}{bR:ah (ah Thing)}{mm:km}{kw:ah (au×AV)}{X:ah eY}{dI:ah aS}{a9:ah (ak×ak)}{ks:ah (au×DE)}{ys:ah (Int×AV)}
def QV:eI "heapreplace"=ae (sq Eo):=by kernel_rfl
def QW:eI "heapify"=ae (sq Ep):=by kernel_rfl
def QX:eI "_heapreplace_max"=ae (sq Er):=by kernel_rfl
def QY:eI "_heapify_max"=ae (sq Es):=by kernel_rfl
def QZ:eI "_siftdown"=ae (sq Et):=by kernel_rfl
def Q2:eI "_siftup"=ae (sq Eu):=by kernel_rfl
def Q3:eI "_siftdown_max"=ae (sq Ew):=by kernel_rfl
def Q4:eI "_siftup_max"=ae (sq Ey):=by kernel_rfl
def Q5:eI "nsmallest"=ae (sq yW):=by kernel_rfl
def Q6:eI "nlargest"=ae (sq yX):=by kernel_rfl
def Q7:eI "_kind"=ae (sq yY):=by kernel_rfl
def Q8:eI "_c_path"=ae (sq yZ):=by kernel_rfl
def Q9:eI "_splitroot"=ae (sq y3):=by kernel_rfl
def Ra:eI "_normpath"=ae (sq za):=by kernel_rfl
def Rb:eI "normpath"=ae (sq sy):=by kernel_rfl
def Rc:eI "_Ignore.__init__"=ae (sq vI):=by kernel_rfl
def Rf:eI "_Ignore.names"=ae (sq zb):=by kernel_rfl
def Rg:eI "_law_to_be_left_out"=ae (sq zc):=by kernel_rfl
def Rh:eI "_law_ranks"=ae (sq zd):=by kernel_rfl
def Ri:eI "_law_few"=ae (sq ze):=by kernel_rfl
def Rj:eI "_law_says"=ae (sq zf):=by kernel_rfl
def Rk:eI "law"=ae (sq vP):=by kernel_rfl
def WP.mono {E':aI->St->Prop}{β:Type}{m:P β}{a0 Q':β->St->Prop}(h:WP m B a0 E)(hq:∀b H,a0 b H->Q' b H)(he:∀k H,E k H->E' k H):WP m B Q' E':=
 P.mono m (λr H x=>by cases r with
  |ok b=>exact hq _ _ x
  |err k=>exact he _ _ x) h
def WP.a5 {β:Type}{m:P β}{a0 Q':β->St->Prop}(h:WP m B a0 E)(hq:∀b H,a0 b H->Q' b H):WP m B Q' E:=h.mono hq λu u x=>x
def av {β γ:Type}{m:P β}{c0:β->P γ}{a0:γ->St->Prop}(h:WP m B (λb H=>WP (c0 b) H a0 E) E):WP (m>>=c0) B a0 E:=
 P.mono m (λr H x=>by cases r <;>exact x) h
def aQ {β:Type}{a0:β->St->Prop}{b:β}(h:a0 b B):WP (P.pure b) B a0 E:=h
def sN {β:Type}{a0:β->St->Prop}{b:β}(h:a0 b B):WP (tm b) B a0 E:=h
def EW {k:aI}{β:Type}{a0:β->St->Prop}(h:E k B):WP (P.err k:P β) B a0 E:=h
def bw {a0:b8->St->Prop}{c:Prop}[wu c](h:c)(k:a0 () B):WP (P.guard c) B a0 E:=by
 unfold P.guard;rw[aN h];exact k
def dU {β:Type}{a0:β->St->Prop}{o:ax β}{b:β}(e:o=ae b)(h:a0 b B):WP (P.opt o) B a0 E:=by rw[e];exact h
def dj {a0:AO->St->Prop}(e:B[i]? =ae o)(h:a0 o B):WP (P.load i) B a0 E:=by
 unfold WP;rw[P.run_load e];exact h
def eJ {a0:ak->St->Prop}(h:a0 B.length (B++[o])):WP (P.alloc o) B a0 E:=h
def lg {a0:b8->St->Prop}(h:a0 () (B.set i o)):WP (P.store i o) B a0 E:=h
def w_get {a0:St->St->Prop}(h:a0 B B):WP P.get B a0 E:=h
def Rl {α:Type}{l:ah α}{a0:ah α->St->Prop}(h:∀l',l'.Perm l->a0 l' B):WP (P.perm l) B a0 E:=h
def Rm {β γ:Type}{m:P β}{c0:β->P γ}{a0:γ->St->Prop}{g:aI->P γ}(h:WP m B (λb H=>WP (c0 b) H a0 E) (λk H=>WP (g k) H a0 E)):WP (P.uE m c0 g) B a0 E:=
 P.mono m (λr H x=>by cases r <;>exact x) h
def fE {a0:ah AV->St->Prop}(e:B[i]? =ae (.list l))(h:a0 l B):WP (lst i) B a0 E:=by
 unfold lst;exact av (dj e (aQ h))
def bp {a0:AV->St->Prop}(hl:l.length<=4096)(h:a0 (.ref B.length) (B++[.list l])):WP (cz l) B a0 E:=by
 unfold cz;exact av (bw hl (av (eJ (aQ h))))
def w_ite {β:Type}{a0:β->St->Prop}{c:Prop}[wu c]{a b:P β}(h1:c->WP a B a0 E)(h2: ¬ c->WP b B a0 E):WP (if c then a else b) B a0 E:=by
 by_cases D:c
 ·rw[aN D];exact h1 D
 ·rw[aK D];exact h2 D
def mW {c:aB}{β:Type}{a0:β->St->Prop}{a b:P β}(h1:c=aj->WP a B a0 E)(h2:c=az->WP b B a0 E):WP (if c then a else b) B a0 E:=by
 cases c with
 |true=>exact h1 rfl
 |false=>exact h2 rfl
def EX {a0:AV->St->Prop}(e:Q.loc[i]? =ae (ae v))(h:a0 v B):WP (eL i Q) B a0 E:=by
 refine dU (b:=v) ?_ h;show Option.join (Q.loc[i]?)=ae v;rw[e];rfl
def EY {a0:AV->St->Prop}{x:aI}{c:ak}(e:Q.cel.lookup (aq x)=ae c)(e2:B[c]? =ae (.cell (ae v)))(h:a0 v B):WP (eC x Q) B a0 E:=
 av (dU e (av (dj e2 (aQ h))))
def w_K {a0:AV->St->Prop}(h:a0 v B):WP (eK v Q) B a0 E:=h
def w_Bin {a0:AV->St->Prop}{a b:DE}{op:jW}(h:WP (a Q) B (kE b Q (k2 (gf op) a0 E) E) E):WP (aY op a b Q) B a0 E:=av (h.a5 λu u h=>av h)
def w_Not {a0:AV->St->Prop}{a:DE}(h:WP (a Q) B (k1 eE (kM (λb=>.bool !b) a0) E) E):WP (Qw a Q) B a0 E:=av (h.a5 λu u h=>av (h.a5 λu u h=>aQ h))
def w_Neg {a0:AV->St->Prop}{a:DE}(h:WP (a Q) B (k1 dF (kM (λi=>.int (-i)) a0) E) E):WP (iV a Q) B a0 E:=av (h.a5 λu u h=>av (h.a5 λu u h=>aQ h))
def w_strict {i:Int}{a0:Int->St->Prop}(h:a0 i B):WP (dF (.int i)) B a0 E:=h
def w_And {a0:AV->St->Prop}{a b:DE}(h:WP (a Q) B (kA (b Q) a0 E) E):WP (vF a b Q) B a0 E:=
 av (h.a5 λu u h=>av (h.a5 λu u h=>mW h.1 λe=>aQ (h.2 e)))
def w_Or {a0:AV->St->Prop}{a b:DE}(h:WP (a Q) B (kO (b Q) a0 E) E):WP (Ej a b Q) B a0 E:=
 av (h.a5 λu u h=>av (h.a5 λu u h=>mW (λe=>aQ (h.1 e)) h.2))
def w_If {a0:AV->St->Prop}{a b:DE}{t:DT}(h:WP (t Q) B (zi (a Q) (b Q) a0 E) E):WP (gJ t a b Q) B a0 E:=
 av (h.a5 λu u h=>mW h.1 h.2)
def w_Cmp {a0:AV->St->Prop}{a b:DE}{op:pD}(h:WP (a Q) B (kE b Q (k2 (dQ op) (kM AV.bool a0) E) E) E):WP (lT op a b Q) B a0 E:=
 av (bw rfl (av (h.a5 λu u h=>av (h.a5 λu u h=>av (h.a5 λu u h=>aQ h)))))
def w_evs_nil {a0:ah AV->St->Prop}(h:a0 [] B):WP (dG [] Q) B a0 E:=h
def w_evs_cons {a:DE}{l:ah DE}{a0:ah AV->St->Prop}(h:WP (a Q) B (kE (dG l) Q (Qz List.cons a0) E) E):WP (dG (a :: l) Q) B a0 E:=
 av (h.a5 λu u h=>av (h.a5 λu u h=>sN h))
def w_kws_nil {a0:ah (au×AV)->St->Prop}(h:a0 [] B):WP (fW [] Q) B a0 E:=h
def w_kws_cons {a:DE}{n:au}{l:ah (au×DE)}{a0:ah (au×AV)->St->Prop}(h:WP (a Q) B (kE (fW l) Q (kK n a0) E) E):WP (fW ((n,a) :: l) Q) B a0 E:=
 av (h.a5 λu u h=>av (h.a5 λu u h=>sN h))
def w_List {a0:AV->St->Prop}{l:ah DE}(h:WP (dG l Q) B (k1 cz a0 E) E):WP (eList l Q) B a0 E:=av h
def w_Tup {a0:AV->St->Prop}{l:ah DE}(h:WP (dG l Q) B (k1 oO a0 E) E):WP (gK l Q) B a0 E:=av h
def w_Attr {a0:AV->St->Prop}{o:DE}{x:aI}(h:WP (o Q) B (k1 (λv=>mB v (aq x)) a0 E) E):WP (iD o x Q) B a0 E:=av h
def w_optE_none {a0:ax AV->St->Prop}(h:a0 ag B):WP (kD ag Q) B a0 E:=h
def w_optE_some {a:DE}{a0:ax AV->St->Prop}(h:WP (a Q) B (kM ae a0) E):WP (kD (ae a) Q) B a0 E:=av (h.a5 λu u h=>sN h)
def w_Slice {a0:AV->St->Prop}{o:DE}{lo hi:ax DE}(h:WP (o Q) B (kE (kD lo) Q (Ez (kD hi) Q (k3 kq a0 E) E) E) E):WP (fx o lo hi Q) B a0 E:=
 av (h.a5 λu u h=>av (h.a5 λu u h=>av h))
def w_Idx {a0:AV->St->Prop}{a o:DE}(h:WP (o Q) B (kE a Q (k2 iw a0 E) E) E):WP (bz o a Q) B a0 E:=av (h.a5 λu u h=>av h)
def w_Call {a0:AV->St->Prop}{a:DE}{l:ah DE}(h:WP (a Q) B (kE (dG l) Q (Ez (fW ks) Q (k3 (eu Q) a0 E) E) E) E):WP (aX a l ks Q) B a0 E:=
 av (bw rfl (av (h.a5 λu u h=>av (h.a5 λu u h=>av h))))
def EZ {B:St}{a0:AV->St->Prop}{o:DE}{l:ah DE}(hk:l.length+ks.length < 28)(h:WP (o Q) B (λov B=>(isInt ov=aj/\mm= .startswith->E "AttributeError" B)/\(¬ (isInt ov=aj/\mm= .startswith)->WP (lJ ov mm) B (λg B=>WP (dG l Q) B (λvs B=>WP (fW ks Q) B (λkv B=>WP (fb Q.F ov mm vs kv) B a0 E) E) E) E)) E):WP (bX o mm l ks Q) B a0 E:=
 av (bw ⟨rfl,rfl,hk⟩ (av (dU rfl (av (h.a5 λu u h=>w_ite (λc=>EW (h.1 c)) λc=>av ((h.2 c).a5 λu u h=>av (h.a5 λu u h=>av h)))))))
def w_tNot {a0:aB->St->Prop}{a:DT}(h:WP (a Q) B (kM Bool.not a0) E):WP (gp a Q) B a0 E:=av h
def w_tAnd {a0:aB->St->Prop}{a b:DT}(h:WP (a Q) B (EA (b Q) (a0 az) a0 E) E):WP (jP a b Q) B a0 E:=av (h.a5 λu u h=>mW h.1 λe=>aQ (h.2 e))
def w_tOr {a0:aB->St->Prop}{a b:DT}(h:WP (a Q) B (vQ (b Q) (a0 aj) a0 E) E):WP (nV a b Q) B a0 E:=av (h.a5 λu u h=>mW (λe=>aQ (h.1 e)) h.2)
def w_tCmp {a0:aB->St->Prop}{e':DE}{op:pD}(h:WP (e Q) B (kE e' Q (k2 (dQ op) a0 E) E) E):WP (aR op e e' Q) B a0 E:=
 av (bw rfl (av (h.a5 λu u h=>av h)))
def w_tIf {a0:aB->St->Prop}{a b t:DT}(h:WP (t Q) B (zi (a Q) (b Q) a0 E) E):WP (yP t a b Q) B a0 E:=av (h.a5 λu u h=>mW h.1 h.2)
def w_tV {a0:aB->St->Prop}(h:WP (e Q) B (k1 eE a0 E) E):WP (tV e Q) B a0 E:=av h
def nY {a0:ah (ax AV)->St->Prop}{x:aI}{c:ak}{v':ax AV}(e:Q.cel.lookup (aq x)=ae c)(e2:B[c]? =ae (.cell v'))(h:a0 Q.loc (B.set c (.cell (ae v)))):WP (pC x v Q) B a0 E:=
 av (dU e (av (dj e2 (av (lg (aQ h))))))
def Rn {a0:ah (ax AV)->St->Prop}{o:DE}{x:aI}(h:WP (o Q) B (ED x v Q.loc a0 E) E):WP (sr o x v Q) B a0 E:=av (h.a5 λu u h=>av (h.a5 λu u h=>aQ h))
def Ro {a0:ah (ax AV)->St->Prop}{o:DE}(h:WP (o Q) B (kE e Q (EE v Q.loc a0 E) E) E):WP (dM o e v Q) B a0 E:=
 av (h.a5 λu u h=>av (h.a5 λu u h=>av (h.a5 λu u h=>aQ h)))
def vV {a0:ah (ax AV)->St->Prop}{l:ah DA}(e:gd v=ae vs)(hl:vs.length=l.length)(h:WP (ji l vs Q) B a0 E):WP (cx l v Q) B a0 E:=av (dU e (av (bw ⟨hl,rfl⟩ h)))
def Rp {a0:ah (ax AV)->St->Prop}{a:DA}{as:ah DA}(h:WP (a v Q) B (kL (ji as vs) Q.F Q.cel a0 E) E):WP (ji (a :: as) (v :: vs) Q) B a0 E:=av h
def Rq {B:St}{a0:FL×ah (ax AV)->St->Prop}{s:DS}{l:ah DS}(h:WP (s Q) B (λy B=>match y with |(.next,Rr)=>WP (sq l { Q with loc:=Rr }) B a0 E |y=>a0 y B) E):WP (sq (s :: l) Q) B a0 E:=
 av (h.a5 λy B h=>by
  obtain⟨f,I⟩:=y;cases f <;>exact h)
def Rt {a0:FL×ah (ax AV)->St->Prop}(h:WP (e Q) B (kR Q.loc a0) E):WP (bL e Q) B a0 E:=av h
def Ru {a0:FL×ah (ax AV)->St->Prop}(h:WP (e Q) B (kX Q.loc a0) E):WP (b9 e Q) B a0 E:=av (bw rfl (av h))
def w_Set {a0:FL×ah (ax AV)->St->Prop}{put:DA}(h:WP (e Q) B (EC put Q a0 E) E):WP (aE put e Q) B a0 E:=av (bw ⟨rfl,rfl⟩ (av (h.a5 λu u h=>av h)))
def vW {a0:FL×ah (ax AV)->St->Prop}{x:DE}{put:DA}{op:jW}(ho:op= .Add\/op= .Sub)(h:WP (x Q) B (k1 dF (kE e Q (QC op (EC put Q a0 E) E) E) E) E):
  WP (o9 put x op e Q) B a0 E:=
 av (bw ho (av (h.a5 λu u h=>av (h.a5 λu u h=>av (h.a5 λu u h=>av (h.a5 λu u h=>av (h.a5 λu u h=>av h)))))))
def w_qIf {a0:FL×ah (ax AV)->St->Prop}{t:DT}{b o:ah DS}(h:WP (t Q) B (zi (sq b Q) (sq o Q) a0 E) E):WP (bJ t b o Q) B a0 E:=av (h.a5 λu u h=>mW h.1 h.2)
def Rv {a0:FL×ah (ax AV)->St->Prop}{put:DA}{c0:aI->aB}{hd:DS}{o:ah DS}(h:WP (e Q) B (EH put Q o Q.F Q.cel a0 E) (EI c0 (hd Q) a0 E)):WP (sx put e c0 hd o Q) B a0 E:=
 av (bw ⟨rfl,rfl,rfl⟩ (Rm (h.mono (λu u h=>av h) λk B h=>by
  show WP (if c0 k then hd Q else P.fail) B a0 E;rw[aN h.1];exact h.2)))
def Rw {B:St}{a0:FL×ah (ax AV)->St->Prop}{t:DT}(h:WP (t Q) B (λc B=>(c=aj->WP (body Q) B (Left (λI B=>WP (iN t body n { Q with loc:=I }) B a0 E) a0) E)/\(c=az->a0 (.next,Q.loc) B)) E):WP (iN t body (n+1) Q) B a0 E:=
 av (h.a5 λu u h=>mW (λe=>av ((h.1 e).a5 λy B h=>by
  obtain⟨f,I⟩:=y;cases f <;>exact h)) λe=>aQ (h.2 e))
def E2 {a0:FL×ah (ax AV)->St->Prop}{t:DT}{b:ah DS}(h:WP (iN t (sq b) 64 Q) B a0 E):WP (pb t b Q) B a0 E:=h
def zv {B:St}{a0:FL×ah (ax AV)->St->Prop}{put:DA}{U:AI}(h:WP (bx U) B (λo B=>match o with
  |none=>a0 (.next,Q.loc) B
  |some (v0,c0)=>WP (put v0 Q) B (λI B=>WP (body { Q with loc:=I }) B (Left (λI B=>WP (forA body put n c0 { Q with loc:=I }) B a0 E) a0) E) E) E):WP (forA body put (n+1) U Q) B a0 E:=
 av (h.a5 λo u h=>by
  cases o with
  |none=>exact h
  |some p=>
   obtain⟨v,c0⟩:=p;exact av (h.a5 λu u h=>av (h.a5 λy B h=>by
    obtain⟨f,I⟩:=y;cases f <;>exact h)))
def w_For {a0:FL×ah (ax AV)->St->Prop}{put:DA}{d0:aB}{c0:DI}{b:ah DS}(h:WP (c0 Q) B (QD d0 b put Q a0 E) E):WP (fy d0 put c0 b Q) B a0 E:=
 av (bw rfl (av (h.a5 λu u h=>av (bw h.1 h.2))))
def Rx {a0:FL×ah (ax AV)->St->Prop}{put:DA}{c0:ak->ah (ax AV)->St->Prop}:
  ∀(n j:ak) (U:AI) (Q:RT) (B:St),Yl G U (K.drop j)->j<=K.length->K.length < n+j->(∀k I B,c0 k I B->G B)->c0 j Q.loc B->
  (∀k v I B,K[k]? =ae v->c0 k I B->WP (put v { Q with loc:=I }) B (λI B=>WP (body { Q with loc:=I }) B (Left (c0 (k+1)) a0) E) E)->
  (∀I B,c0 K.length I B->a0 (.next,I) B)->WP (forA body put n U Q) B a0 E:=by
 intro n;induction n with
 |zero=>
  intro j U Q B y F W H L N O
  lia
 |succ n S=>
  intro j U Q B y F W H L N O;refine zv ?_;cases M:K[j]? with
  |none=>
   have D:K.length<=j:=nu.mp M;rw[kh D]at y;refine y B (H _ _ _ L) _ _ ?_;have:j=K.length:=by exact AN (F) (D)
   subst this;exact O _ _ L
  |some v=>
   have D:j < K.length:=(cF.mp M).1;rw[oA D]at y;obtain⟨J,V,R⟩:=y;refine V B (H _ _ _ L) _ _ ?_;have T:K[j]=v:=(cF.mp M).2;rw[T];refine(N j v Q.loc B M L).a5 λI B h=>h.a5 λy B h=>?_;obtain⟨f,I⟩:=y;cases f with
   |next=>exact S (j+1) J _ B R (by exact D) (by lia) H h N O
   |cont=>exact S (j+1) J _ B R (by exact D) (by lia) H h N O
   |brk=>exact h
   |ret v=>exact h
def Ry {a0:aB->St->Prop}(h:mR Q a0 E ifs B):WP (ifs.foldlM (λb t=>if b then t Q else P.pure az) aj) B a0 E:=by
 match ifs,h with
 | [],h=>exact h
 | [t],h=>
  show WP (t Q>>=λb=>tm b) B a0 E;exact av (WP.a5 h λu u h=>h)
def zw {B:St}{a0:ah AV->St->Prop}{put:DA}{U:AI}{c0:ah AV}(h:WP (bx U) B (λo B=>match o with
  |none=>a0 c0 B
  |some (v0,d0)=>WP (put v0 Q) B (λI B=>mR { Q with loc:=I } (λc B=>(c=aj->c0.length<=4096/\WP (elt { Q with loc:=I }) B (λx B=>WP (cw elt ifs put n d0 { Q with loc:=I } (c0++[x])) B a0 E) E)/\
    (c=az->WP (cw elt ifs put n d0 { Q with loc:=I } c0) B a0 E)) E ifs B) E) E):WP (cw elt ifs put (n+1) U Q c0) B a0 E:=
 av (h.a5 λo u h=>by
  cases o with
  |none=>exact h
  |some p=>
   obtain⟨v,d0⟩:=p;exact av (h.a5 λu u h=>av ((Ry h).a5 λc B h=>mW (λe=>av (bw (h.1 e).1 (av (h.1 e).2))) λe=>h.2 e)))
def zx {a0:ah AV->St->Prop}{put:DA}{c0:ak->ah AV->ah (ax AV)->St->Prop}:
  ∀(n j:ak) (U:AI) (Q:RT) (B:St) (acc:ah AV),Yl G U (K.drop j)->j<=K.length->K.length < n+j->(∀k acc I B,c0 k acc I B->G B)->c0 j acc Q.loc B->
  (∀k v acc I B,K[k]? =ae v->c0 k acc I B->WP (put v { Q with loc:=I }) B (λI B=>mR { Q with loc:=I } (λc B=>(c=aj->acc.length<=4096/\WP (elt { Q with loc:=I }) B (λx B=>c0 (k+1) (acc++[x]) I B) E)/\
   (c=az->c0 (k+1) acc I B)) E ifs B) E)->
  (∀acc I B,c0 K.length acc I B->a0 acc B)->WP (cw elt ifs put n U Q acc) B a0 E
 | 0,j,U,Q,B,acc,y,E3,hl,hG,h0,hs,he=>by
  lia
 |n+1,j,U,Q,B,acc,y,E3,hl,hG,h0,hs,he=>by
  refine zw ?_;cases J:K[j]? with
  |none=>
   have D:K.length<=j:=nu.mp J;rw[kh D]at y;refine y B (hG _ _ _ _ h0) _ _ ?_;have:j=K.length:=by exact AN (E3) (D)
   subst this;exact he _ _ _ h0
  |some v=>
   have D:j < K.length:=(cF.mp J).1;rw[oA D]at y;obtain⟨H,S,N⟩:=y;refine S B (hG _ _ _ _ h0) _ _ ?_;have R:K[j]=v:=(cF.mp J).2;rw[R];refine(hs j v acc Q.loc B J h0).a5 λI B h=>?_;have T:∀{M L:aB->St->Prop} (B:St),(∀c B,M c B->L c B)->mR { Q with loc:=I } M E ifs B->mR { Q with loc:=I } L E ifs B:=by
    intro M L B O F
    match ifs,F with
    | [],F=>exact O _ _ F
    | [t],F=>exact WP.a5 F O
   exact T B (λc B h=>⟨λe=>⟨(h.1 e).1,(h.1 e).2.a5 λx B h=>zx n (j+1) H _ B _ N (by exact D) (by lia) hG h hs he⟩,
    λe=>zx n (j+1) H _ B _ N (by exact D) (by lia) hG (h.2 e) hs he⟩) h
def Yl.range {d:Int}:∀{n:ak} {c:Int},Yl G (.range c n d) (mS d n c):=by
 intro n;induction n with
 |zero=>
  intro _;exact λu u u u h=>h
 |succ r B=>
  intro _;exact⟨_,λu u u u h=>h,B⟩
def Yl.set:∀{l:ah au},Yl G (.set l) (l.map .str):=by
 intro l;induction l with
 |nil=>
  exact λu u u u h=>h
 |cons _ r B=>
  exact⟨_,λu u u u h=>h,B⟩
def Yl.list (h:∀B,G B->B[s]? =ae (.list l)):∀(m k:ak),k+m=l.length->Yl G (.list (ae s) k) (l.drop k):=by
 intro n;induction n with
 |zero=>
  intro k e;rw[kh (by exact(EG e))];intro B g Q E q;refine av (fE (h B g) ?_);rw[rJ (by exact(EG e))];exact q
 |succ m F=>
  intro k e;have D:k < l.length:=by lia
  rw[oA D];refine⟨.list (ae s) (k+1),λB g Q E q=>?_,F (k+1) (by lia)⟩;refine av (fE (h B g) ?_);rw[cy D];exact q
def Yl.gM (h:∀B,G B->B[s]? =ae (.list l)):Yl G (.list (ae s) 0) l:=Yl.list h l.length 0 (kg _)
def Yl.enum:∀{K:ah AV} {U:AI} {n:Int},Yl G U K->Yl G (.enum n U) (mT n K)
 | [],_,_,y=>λB g u u q=>av (y B g _ _ q)
 |_ :: _,_,_,⟨_,y1,y2⟩=>⟨_,λB g u u q=>av (y1 B g _ _ q),Yl.enum y2⟩
def Yl.zip:∀{K ys:ah AV} {a b:AI},Yl G a K->Yl G b ys->Yl G (.zip a b) (pd K ys):=by
 intro J;induction J with
 |nil=>
  intro ys _ _ y _;have:pd [] ys=[]:=by cases ys <;>rfl
  rw[this];exact λB g u u q=>av (y B g _ _ q)
 |cons N M I=>
  intro F;cases F with
  |nil=>
   rintro _ _ ⟨_,D,_⟩ z;exact λB g u u q=>av (D B g _ _ (av (z B g _ _ q)))
  |cons _ _=>
   rintro _ _ ⟨_,D,E⟩ ⟨_,H,L⟩;exact⟨_,λB g u u q=>av (D B g _ _ (av (H B g _ _ q))),I E L⟩
def w_iA {a0:AI->St->Prop}(h:WP (e Q) B (k1 jI a0 E) E):WP (iA e Q) B a0 E:=av h
def w_iS {a0:AI->St->Prop}{a:DR}(h:WP (a Q) B (k1 eP a0 E) E):WP (iS a Q) B a0 E:=av h
def w_iEnum {a0:AI->St->Prop}{a:DR}(h:WP (a Q) B (k1 eP (kM (AI.enum 0) a0) E) E):WP (o7 a Q) B a0 E:=av (bw rfl (av (h.a5 λu u h=>av h)))
def w_iZip {a0:AI->St->Prop}{a b:DR}(h:WP (a Q) B (kE b Q (kZ a0 E) E) E):WP (o8 a b Q) B a0 E:=
 av (bw ⟨rfl,rfl⟩ (av (h.a5 λu u h=>av (h.a5 λu u h=>av (h.a5 λu u h=>av h)))))
def w_iRev {a0:AI->St->Prop}{a:DR}(h:WP (a Q) B (k1 qc a0 E) E):WP (vH a Q) B a0 E:=av (bw rfl (av h))
def w_rRange {l:ah DE}{a0:AS->St->Prop}(h:WP (dG l Q) B (k1 lM a0 E) E):WP (iW l Q) B a0 E:=av (bw rfl (av h))
def w_rVal {a0:AS->St->Prop}(h:WP (e Q) B (kM AS.val a0) E):WP (hU e Q) B a0 E:=av h
def fh {a0:AI->St->Prop}(e1:B[i]? =ae (.list l))(h:a0 (.list (ae i) 0) B):WP (jI (.ref i)) B a0 E:=av (dj e1 (aQ h))
def vX {a0:AI->St->Prop}{s:ax ak}(e1:B[i]? =ae (.iter s k))(h:a0 (.obj i) B):WP (jI (.ref i)) B a0 E:=av (dj e1 (aQ h))
def Rz {a0:AI->St->Prop}{l:ah au}(h:∀l',l'.Perm l->a0 (.set l') B):WP (jI (.cL l)) B a0 E:=av (Rl λl' p=>aQ (h l' p))
def w_itS_val {a0:AI->St->Prop}(h:WP (jI (.ref i)) B a0 E):WP (eP (.val (.ref i))) B a0 E:=h
def w_itS_range {a0:AI->St->Prop}{c d:Int}(h:a0 (.range c k d) B):WP (eP (.range c k d)) B a0 E:=h
def pn {b:Int}{a0:AS->St->Prop}(h1: -4096 < b)(h2:b < 4096)(h:a0 (.range 0 b.toNat 1) B):WP (lM [.int b]) B a0 E:=av (dU rfl (av (bw ⟨h1,h2⟩ (aQ h))))
def E4 {b:Int}{a0:AS->St->Prop}(h1: -4096 < b)(h2:b < 4096)(h:a0 (.range 0 (-b).toNat (-1)) B):WP (lM [.int 0,.int b,.int (-1)]) B a0 E:=av (dU rfl (av (bw ⟨rfl,rfl,h1,h2⟩ (aQ h))))
def w_rev {a0:AI->St->Prop}(h:a0 (.range (k - 1) k (-1)) B):WP (qc (.range 0 k 1)) B a0 E:=av (bw ⟨rfl,rfl⟩ (aQ h))
def RA {cs:ah (au×ak)}{c0:bN}{e0:aB}{d0:DI}{put:DA}{a0:AV->St->Prop}(hp:fc c0=aj)(hc:fM Q c0.names []=ae cs)(hn:∀cs,ky c0.names cs=P.pure cs)(h:WP (d0 Q) B (EJ e0 elt ifs put { F:=Q.F,cel:=cs,loc:=c0.names.map λc=>ag } a0 E) E):WP (d9 c0 e0 d0 put ifs elt Q) B a0 E:=by
 refine av (bw rfl (av (bw hp (av (dU hc (av (h.a5 λD B h=>av (bw h.1 (av ?_)))))))));unfold cP;refine av ?_;rw[hn];exact aQ (av (aQ (aQ (av h.2))))
def zy {α:Type}{l:ah α}{a b:α}:(l++[a]).set l.length b=l++[b]:=by simp
def i5 {α:Type}{B l:ah α}:(B++l)[B.length+j]? =l[j]? :=by rw[wI (tq _ _),Nat.add_sub_cancel_left]
def qF {α:Type}{B l:ah α}:(B++l)[B.length]? =l[0]? :=by rw[wI (a4 _),Nat.sub_self]
def E5 {α:Type}{B l:ah α}{b:α}:(B++l).set (B.length+j) b=B++l.set j b:=by simp
def E6 {α:Type}{B l:ah α}{b:α}:(B++l).set B.length b=B++l.set 0 b:=by simp
def fF {B:St}{n:aI}{r:ah DS}{a0:AV->St->Prop}{c0:P RT}(e:eI n=ae (sq r))(hn:(aq n == gG || Str.ofString n == jL)=az)(he:(defOf (aq n)).map (λd=>P.opt (fX d.1 args kw)>>=λb=>cP (FN k) d.2.2 [] b)=ae c0)(h:WP c0 B (λQ B=>WP (sq r Q) B (EB a0 E) E) E):WP (FN (k+1) (.fn (aq n)) args kw) B a0 E:=by
 rw[HX]at hn;show WP (if aq n == gG then qf (FN k) args kw else if aq n == jL then oV (FN k) args kw else lO (FN k) (aq n) args kw) B a0 E;rw[hn.1,hn.2];show WP (lO (FN k) (aq n) args kw) B a0 E;cases D:defOf (aq n)with
 |none=>rw[D]at he;cases he
 |some d=>
  unfold eI at e;rw[D]at he e;obtain e:ew (cS d.2.2 20) d.2.1=sq r:=dp e;obtain he:(P.opt (fX d.1 args kw)>>=λb=>cP (FN k) d.2.2 [] b)=c0:=dp he;unfold lO;rw[D];show WP (P.opt (fX d.1 args kw)>>=λb=>cP (FN k) d.2.2 [] b>>=λQ=>ew (cS d.2.2 20) d.2.1 Q>>=λx=>eQ x.1) B a0 E;have:(P.opt (fX d.1 args kw)>>=λb=>cP (FN k) d.2.2 [] b>>=λQ=>ew (cS d.2.2 20) d.2.1 Q>>=λx=>eQ x.1)
    =((P.opt (fX d.1 args kw)>>=λb=>cP (FN k) d.2.2 [] b)>>=λQ=>ew (cS d.2.2 20) d.2.1 Q>>=λx=>eQ x.1):=by
   cases fX d.1 args kw <;>rfl
  rw[this,he,e];exact av (h.a5 λu u h=>av h)
def RC {b c:AV}{a0:AV->St->Prop}(h:Body Et ⟨FN k,[],[ae a,ae b,ae c,ag,ag,ag]⟩ B a0 E):WP (FN (k+1) (.fn (aq "_siftdown")) [a,b,c] []) B a0 E:=
 fF (c0:=P.pure ⟨FN k,[],[ae a,ae b,ae c,ag,ag,ag]⟩) QZ (by decide +kernel) (by kernel_rfl) (aQ h)
def RD {b c:AV}{a0:AV->St->Prop}(h:Body Ew ⟨FN k,[],[ae a,ae b,ae c,ag,ag,ag]⟩ B a0 E):WP (FN (k+1) (.fn (aq "_siftdown_max")) [a,b,c] []) B a0 E:=
 fF (c0:=P.pure ⟨FN k,[],[ae a,ae b,ae c,ag,ag,ag]⟩) Q3 (by decide +kernel) (by kernel_rfl) (aQ h)
def RE {b:AV}{a0:AV->St->Prop}(h:Body Eu ⟨FN k,[],[ae a,ae b,ag,ag,ag,ag,ag,ag,ag]⟩ B a0 E):WP (FN (k+1) (.fn (aq "_siftup")) [a,b] []) B a0 E:=
 fF (c0:=P.pure ⟨FN k,[],[ae a,ae b,ag,ag,ag,ag,ag,ag,ag]⟩) Q2 (by decide +kernel) (by kernel_rfl) (aQ h)
def RF {b:AV}{a0:AV->St->Prop}(h:Body Ey ⟨FN k,[],[ae a,ae b,ag,ag,ag,ag,ag,ag,ag]⟩ B a0 E):WP (FN (k+1) (.fn (aq "_siftup_max")) [a,b] []) B a0 E:=
 fF (c0:=P.pure ⟨FN k,[],[ae a,ae b,ag,ag,ag,ag,ag,ag,ag]⟩) Q4 (by decide +kernel) (by kernel_rfl) (aQ h)
def RG {b:AV}{a0:AV->St->Prop}(h:Body Eo ⟨FN k,[],[ae a,ae b,ag,ag]⟩ B a0 E):WP (FN (k+1) (.fn (aq "heapreplace")) [a,b] []) B a0 E:=
 fF (c0:=P.pure ⟨FN k,[],[ae a,ae b,ag,ag]⟩) QV (by decide +kernel) (by kernel_rfl) (aQ h)
def RH {b:AV}{a0:AV->St->Prop}(h:Body Er ⟨FN k,[],[ae a,ae b,ag,ag]⟩ B a0 E):WP (FN (k+1) (.fn (aq "_heapreplace_max")) [a,b] []) B a0 E:=
 fF (c0:=P.pure ⟨FN k,[],[ae a,ae b,ag,ag]⟩) QX (by decide +kernel) (by kernel_rfl) (aQ h)
def RI {a0:AV->St->Prop}(h:Body Ep ⟨FN k,[],[ae a,ag,ag,ag,ag,ag,ag]⟩ B a0 E):WP (FN (k+1) (.fn (aq "heapify")) [a] []) B a0 E:=
 fF (c0:=P.pure ⟨FN k,[],[ae a,ag,ag,ag,ag,ag,ag]⟩) QW (by decide +kernel) (by kernel_rfl) (aQ h)
def RJ {a0:AV->St->Prop}(h:Body Es ⟨FN k,[],[ae a,ag,ag,ag,ag,ag,ag]⟩ B a0 E):WP (FN (k+1) (.fn (aq "_heapify_max")) [a] []) B a0 E:=
 fF (c0:=P.pure ⟨FN k,[],[ae a,ag,ag,ag,ag,ag,ag]⟩) QY (by decide +kernel) (by kernel_rfl) (aQ h)
def RK {b:AV}{a0:AV->St->Prop}(h:Body yY ⟨FN k,[],[ae a,ae b,ag,ag,ag,ag,ag,ag,ag,ag,ag,ag,ag]⟩ B a0 E):WP (FN (k+1) (.fn (aq "_kind")) [a,b] []) B a0 E:=
 fF (c0:=P.pure ⟨FN k,[],[ae a,ae b,ag,ag,ag,ag,ag,ag,ag,ag,ag,ag,ag]⟩) Q7 (by decide +kernel) (by kernel_rfl) (aQ h)
def RM {b c d e:AV}{a0:AV->St->Prop}(h:Body yZ ⟨FN k,[],[ae a,ae b,ae c,ae d,ae e,ag,ag,ag,ag,ag,ag]⟩ B a0 E):WP (FN (k+1) (.fn (aq "_c_path")) [a,b,c,d,e] []) B a0 E:=
 fF (c0:=P.pure ⟨FN k,[],[ae a,ae b,ae c,ae d,ae e,ag,ag,ag,ag,ag,ag]⟩) Q8 (by decide +kernel) (by kernel_rfl) (aQ h)
def RN {a0:AV->St->Prop}(h:Body y3 ⟨FN k,[],[ae a,ag,ag]⟩ B a0 E):WP (FN (k+1) (.fn (aq "_splitroot")) [a] []) B a0 E:=
 fF (c0:=P.pure ⟨FN k,[],[ae a,ag,ag]⟩) Q9 (by decide +kernel) (by kernel_rfl) (aQ h)
def RO {a0:AV->St->Prop}(h:Body za ⟨FN k,[],[ae a,ag,ag,ag,ag,ag,ag,ag,ag,ag]⟩ B a0 E):WP (FN (k+1) (.fn (aq "_normpath")) [a] []) B a0 E:=
 fF (c0:=P.pure ⟨FN k,[],[ae a,ag,ag,ag,ag,ag,ag,ag,ag,ag]⟩) Ra (by decide +kernel) (by kernel_rfl) (aQ h)
def RP {b c:AV}{a0:AV->St->Prop}(h:Body vI ⟨FN k,[],[ae a,ae b,ae c,ag]⟩ B a0 E):WP (FN (k+1) (.fn (aq "_Ignore.__init__")) [a,b,c] []) B a0 E:=
 fF (c0:=P.pure ⟨FN k,[],[ae a,ae b,ae c,ag]⟩) Rc (by decide +kernel) (by kernel_rfl) (aQ h)
def RQ {b c:AV}{a0:AV->St->Prop}(h:Body zb ⟨FN k,[],[ae a,ae b,ae c,ag,ag,ag]⟩ B a0 E):WP (FN (k+1) (.fn (aq "_Ignore.names")) [a,b,c] []) B a0 E:=
 fF (c0:=P.pure ⟨FN k,[],[ae a,ae b,ae c,ag,ag,ag]⟩) Rf (by decide +kernel) (by kernel_rfl) (aQ h)
def RU {b:AV}{a0:AV->St->Prop}(h:Body zf ⟨FN k,[],[ae a,ae b,ag,ag,ag,ag]⟩ B a0 E):WP (FN (k+1) (.fn (aq "_law_says")) [a,b] []) B a0 E:=
 fF (c0:=P.pure ⟨FN k,[],[ae a,ae b,ag,ag,ag,ag]⟩) Rj (by decide +kernel) (by kernel_rfl) (aQ h)
def RX {b c:AV}{a0:AV->St->Prop}(h:Body yW ⟨FN k,[(aq "key",B.length)],[ae a,ae b,ag,ag,ag,ag,ag,ag,ag,ag,ag,ag,ag,ag,ag,ag,ag,ag,ag,ag,ag,ag,ag,ag,ag]⟩ (B++[.cell (ae c)]) a0 E):WP (FN (k+1) (.fn (aq "nsmallest")) [a,b] [(aq "key",c)]) B a0 E:=
 fF (c0:=P.alloc (.cell ag)>>=λi=>kr (aq "key") c ⟨FN k,[(aq "key",i)],[ae a,ae b,ag,ag,ag,ag,ag,ag,ag,ag,ag,ag,ag,ag,ag,ag,ag,ag,ag,ag,ag,ag,ag,ag,ag]⟩>>=λI=>P.pure ⟨FN k,[(aq "key",i)],I⟩) Q5 (by decide +kernel) (by kernel_rfl)
  (av (eJ (av (nY (x:="key") (v':=ag) (by kernel_rfl) By (by rw[zy];exact aQ h)))))
def RY {b c:AV}{a0:AV->St->Prop}(h:Body yX ⟨FN k,[(aq "key",B.length)],[ae a,ae b,ag,ag,ag,ag,ag,ag,ag,ag,ag,ag,ag,ag,ag,ag,ag,ag,ag,ag,ag,ag,ag,ag,ag]⟩ (B++[.cell (ae c)]) a0 E):WP (FN (k+1) (.fn (aq "nlargest")) [a,b] [(aq "key",c)]) B a0 E:=
 fF (c0:=P.alloc (.cell ag)>>=λi=>kr (aq "key") c ⟨FN k,[(aq "key",i)],[ae a,ae b,ag,ag,ag,ag,ag,ag,ag,ag,ag,ag,ag,ag,ag,ag,ag,ag,ag,ag,ag,ag,ag,ag,ag]⟩>>=λI=>P.pure ⟨FN k,[(aq "key",i)],I⟩) Q6 (by decide +kernel) (by kernel_rfl)
  (av (eJ (av (nY (x:="key") (v':=ag) (by kernel_rfl) By (by rw[zy];exact aQ h)))))
theorem RZ {b c d:AV}{a0:AV->St->Prop}(h:Body zc ⟨FN k,[(aq "steps",B.length+3),(aq "parts",B.length+2),(aq "directories",B.length+1),(aq "modules",B.length)],[ae a,ae b,ag,ag,ag,ag,ag,ag,ag]⟩ (B++[.cell (ae c),.cell (ae d),.cell ag,.cell ag]) a0 E):
  WP (FN (k+1) (.fn (aq "_law_to_be_left_out")) [a,b,c,d] []) B a0 E:=by
 refine fF (c0:=P.alloc (.cell ag)>>=λi=>P.alloc (.cell ag)>>=λj=>P.alloc (.cell ag)>>=λm=>P.alloc (.cell ag)>>=λn=>
  kr (aq "modules") c ⟨FN k,[(aq "steps",n),(aq "parts",m),(aq "directories",j),(aq "modules",i)],[ae a,ae b,ag,ag,ag,ag,ag,ag,ag]⟩>>=λI=>
  kr (aq "directories") d ⟨FN k,[(aq "steps",n),(aq "parts",m),(aq "directories",j),(aq "modules",i)],I⟩>>=λI=>
  P.pure ⟨FN k,[(aq "steps",n),(aq "parts",m),(aq "directories",j),(aq "modules",i)],I⟩) Rg (by decide +kernel) (by kernel_rfl) ?_
 refine av (eJ (av (eJ (av (eJ (av (eJ ?_)))))));simp only[j2,bK,ft,q9,rD,mu,kg,xn];refine av (nY (x:="modules") (v':=ag) (c:=B.length) (by kernel_rfl) qF ?_);rw[E6];refine av (nY (x:="directories") (v':=ag) (c:=B.length+1) (by kernel_rfl) i5 ?_);rw[E5];exact aQ h
def R2 {b c:AV}{a0:AV->St->Prop}(h:Body zd ⟨FN k,[(aq "module",B.length)],[ae a,ae b,ae c,ag,ag,ag,ag,ag,ag,ag,ag,ag,ag,ag]⟩ (B++[.cell ag]) a0 E):
  WP (FN (k+1) (.fn (aq "_law_ranks")) [a,b,c] []) B a0 E:=
 fF (c0:=P.alloc (.cell ag)>>=λi=>P.pure ⟨FN k,[(aq "module",i)],[ae a,ae b,ae c,ag,ag,ag,ag,ag,ag,ag,ag,ag,ag,ag]⟩) Rh (by decide +kernel) (by kernel_rfl) (av (eJ (aQ h)))
theorem R3 {b c d:AV}{a0:AV->St->Prop}(h:Body ze ⟨FN k,[(aq "j",B.length+2),(aq "greatest",B.length+1),(aq "ranks",B.length)],[ae a,ag,ae c,ag,ag,ag,ag,ag,ag,ag,ag,ag,ag]⟩ (B++[.cell (ae b),.cell (ae d),.cell ag]) a0 E):
  WP (FN (k+1) (.fn (aq "_law_few")) [a,b,c,d] []) B a0 E:=by
 refine fF (c0:=P.alloc (.cell ag)>>=λi=>P.alloc (.cell ag)>>=λj=>P.alloc (.cell ag)>>=λm=>
  kr (aq "ranks") b ⟨FN k,[(aq "j",m),(aq "greatest",j),(aq "ranks",i)],[ae a,ag,ag,ag,ag,ag,ag,ag,ag,ag,ag,ag,ag]⟩>>=λI=>
  xG 2 c ⟨FN k,[(aq "j",m),(aq "greatest",j),(aq "ranks",i)],I⟩>>=λI=>
  kr (aq "greatest") d ⟨FN k,[(aq "j",m),(aq "greatest",j),(aq "ranks",i)],I⟩>>=λI=>
  P.pure ⟨FN k,[(aq "j",m),(aq "greatest",j),(aq "ranks",i)],I⟩) Ri (by decide +kernel) (by kernel_rfl) ?_
 refine av (eJ (av (eJ (av (eJ ?_)))));simp only[j2,bK,ft,q9,rD,mu,kg,xn];refine av (nY (x:="ranks") (v':=ag) (c:=B.length) (by kernel_rfl) qF ?_);rw[E6];refine av ?_;refine aQ (av (nY (x:="greatest") (v':=ag) (c:=B.length+1) (by kernel_rfl) i5 ?_));rw[E5];exact aQ h
def n_next {a0:FL×ah (ax AV)->St->Prop}(h:N I B):jQ N a0 (.next,I) B:=h
def n_brk {a0:FL×ah (ax AV)->St->Prop}(h:a0 (.brk,I) B):jQ N a0 (.brk,I) B:=h
def n_cont {a0:FL×ah (ax AV)->St->Prop}(h:a0 (.cont,I) B):jQ N a0 (.cont,I) B:=h
def n_ret {a0:FL×ah (ax AV)->St->Prop}(h:a0 (.ret v,I) B):jQ N a0 (.ret v,I) B:=h
def l_next {a0:FL×ah (ax AV)->St->Prop}(h:N I B):Left N a0 (.next,I) B:=h
def l_brk {a0:FL×ah (ax AV)->St->Prop}(h:a0 (.next,I) B):Left N a0 (.brk,I) B:=h
def l_cont {a0:FL×ah (ax AV)->St->Prop}(h:N I B):Left N a0 (.cont,I) B:=h
def l_ret {a0:FL×ah (ax AV)->St->Prop}(h:a0 (.ret v,I) B):Left N a0 (.ret v,I) B:=h
def x_sq {a0:FL×ah (ax AV)->St->Prop}{s:DS}{l:ah DS}(h:WP (s ⟨F,O,I⟩) B (jQ (kL (sq l) F O a0 E) a0) E):WP (sq (s :: l) ⟨F,O,I⟩) B a0 E:=
 Rq (h.a5 λy B h=>by obtain⟨f,I⟩:=y;cases f <;>exact h)
def x_nil {a0:FL×ah (ax AV)->St->Prop}(h:a0 (.next,I) B):WP (sq [] ⟨F,O,I⟩) B a0 E:=h
def x_Pass {a0:FL×ah (ax AV)->St->Prop}(h:a0 (.next,I) B):WP (El ⟨F,O,I⟩) B a0 E:=h
def x_Brk {a0:FL×ah (ax AV)->St->Prop}(h:a0 (.brk,I) B):WP (su ⟨F,O,I⟩) B a0 E:=h
def x_Cont {a0:FL×ah (ax AV)->St->Prop}(h:a0 (.cont,I) B):WP (qw ⟨F,O,I⟩) B a0 E:=h
def x_Ret {a0:FL×ah (ax AV)->St->Prop}(h:WP (e ⟨F,O,I⟩) B (kR I a0) E):WP (bL e ⟨F,O,I⟩) B a0 E:=Rt h
def x_Expr {a0:FL×ah (ax AV)->St->Prop}(h:WP (e ⟨F,O,I⟩) B (kX I a0) E):WP (b9 e ⟨F,O,I⟩) B a0 E:=Ru h
def aM {a0:AV->St->Prop}(e:I[i]? =ae (ae v))(h:a0 v B):WP (eL i ⟨F,O,I⟩) B a0 E:=EX e h
def cu {a0:ah (ax AV)}(e:I.set i (ae v)=a0)(h:QL a0 B):WP (pL i v ⟨F,O,I⟩) B QL E:=by subst e;exact h
def x_pIdx {o:DE}(h:WP (o ⟨F,O,I⟩) B (kE e ⟨F,O,I⟩ (EE v I QL E) E) E):WP (dM o e v ⟨F,O,I⟩) B QL E:=Ro h
def E7 {a0:FL×ah (ax AV)->St->Prop}{t:DT}(h:WP (t ⟨F,O,I⟩) B (QG t body n F O I a0 E) E):WP (iN t body (n+1) ⟨F,O,I⟩) B a0 E:=Rw h
def x_put_cons {a:DA}{as:ah DA}(h:WP (a v ⟨F,O,I⟩) B (kL (ji as vs) F O QL E) E):WP (ji (a :: as) (v :: vs) ⟨F,O,I⟩) B QL E:=Rp h
def x_put_nil (h:QL I B):WP (ji [] [] ⟨F,O,I⟩) B QL E:=h
def eh {a0:ak->St->Prop}(h:a0 i B):WP (e9 (.ref i)) B a0 E:=h
def qG {i:au}{a0:au->St->Prop}(h:a0 i B):WP (nD (.str i)) B a0 E:=h
def fG {a0:AV->St->Prop}{x:AV}(h:a0 x B):WP (one [x]) B a0 E:=h
def zA {Q0:b8->St->Prop}(h:Q0 () B):WP (rP []) B Q0 E:=h
def e6 {Q0:b8->St->Prop}(h:Q0 () B):WP (noKw []) B Q0 E:=h
def mX {a0:AV->St->Prop}{n:aI}{b:BI}(e:qa (.bi n)=ae b)(h:WP (jK Q.F args kw b) B a0 E):WP (eu Q (.bi n) args kw) B a0 E:=av (dU e h)
def mY {a0:AV->St->Prop}{n:aI}{b:BI}(e:qa (.ty n)=ae b)(h:WP (jK Q.F args kw b) B a0 E):WP (eu Q (.ty n) args kw) B a0 E:=av (dU e h)
def b_add {a0:AV->St->Prop}{a b:Int}(h:a0 (.int (a+b)) B):WP (gf .Add (.int a) (.int b)) B a0 E:=h
def b_sub {a0:AV->St->Prop}{a b:Int}(h:a0 (.int (a - b)) B):WP (gf .Sub (.int a) (.int b)) B a0 E:=h
def E8 {a0:AV->St->Prop}{a b:Int}(g:a.natAbs < 2 ^ 62/\b.natAbs < 2 ^ 62)(h:a0 (.int (a * b)) B):WP (gf .Mult (.int a) (.int b)) B a0 E:=av (w_strict (av (bw g (aQ h))))
def pq {a0:AV->St->Prop}{a b:Int}(g:0 < b/\b < 2 ^ 29)(h:a0 (.int (a.fdiv b)) B):WP (gf .FloorDiv (.int a) (.int b)) B a0 E:=av (w_strict (av (bw g (aQ h))))
def pv {a0:AV->St->Prop}{a b:Int}(g:0 < b/\b < 2 ^ 29)(h:a0 (.int (a.fmod b)) B):WP (gf .Mod (.int a) (.int b)) B a0 E:=av (w_strict (av (bw g (aQ h))))
def R5 {a0:AV->St->Prop}{a:Int}(h:a0 (.int (a.fdiv 2)) B):WP (gf .RShift (.int a) (.int 1)) B a0 E:=av (w_strict (av (bw rfl (aQ h))))
def c_lt {a b:Int}(h:QB (decide (a < b)) B):WP (dQ .Lt (.int a) (.int b)) B QB E:=h
def c_gt {a b:Int}(h:QB (decide (a > b)) B):WP (dQ .Gt (.int a) (.int b)) B QB E:=h
def c_ge {a b:Int}(h:QB (decide (a ≥ b)) B):WP (dQ .GtE (.int a) (.int b)) B QB E:=h
def lY {a0:AV->St->Prop}{j:Int}(e:B[i]? =ae (.list l))(hj:0<=j/\j < 2 ^ 62)(ev:l[j.toNat]? =ae v)(h:a0 v B):WP (iw (.ref i) (.int j)) B a0 E:=by
 refine av (dj e (av (w_strict (av (bw ⟨by lia,hj.2⟩ (dU ?_ h))))));rw[aN hj.1];exact ev
def sP {Q0:b8->St->Prop}{j:Int}(e:B[i]? =ae (.list l))(hj:0<=j/\j.toNat < l.length/\j < 2 ^ 62)(h:Q0 () (B.set i (.list (l.set j.toNat v)))):WP (oQ (.ref i) (.int j) v) B Q0 E:=
 av (eh (av (dj e (av (w_strict (av (bw hj (lg h))))))))
def f_len {a0:AV->St->Prop}(e:B[i]? =ae (.list l))(h:a0 (.int l.length) B):WP (eu Q (.bi "len") [.ref i] []) B a0 E:=mX rfl (av (fG (av (e6 (av (eh (av (dj e (aQ h)))))))))
def f_fn {a0:AV->St->Prop}{n:au}(h:WP (F (.fn n) args kw) B a0 E):WP (eu ⟨F,O,I⟩ (.fn n) args kw) B a0 E:=h
def r_ret {a0:AV->St->Prop}(h:a0 v B):WP (eQ (.ret v)) B a0 E:=h
def r_next {a0:AV->St->Prop}(h:a0 .none B):WP (eQ .next) B a0 E:=h
def vY (yI:x.1=y.1->x.2.1≠y.2.1)(h:QB (fO x y) B):WP (dQ .Lt (tv x) (tv y)) B QB E:=by
 show WP (if x.1=y.1 then (if x.2.1=y.2.1 then P.fail else P.pure (decide (x.2.1 < y.2.1)))else P.pure (decide (x.1 < y.1))) B QB E;unfold fO at h;split
 ·rename_i e;rw[aK (yI e)];rw[aN e]at h;exact h
 ·rename_i e;rw[aK e]at h;exact h
def f5.symm (h:f5 x y):f5 y x:=λe B=>h e.symm B.symm
def vZ {g:aB}{new:Tr}{l:ah Tr}{p:ak}:iE g new s 0 l p=l.set p new:=rfl
def sQ {g:aB}{new:Tr}{l:ah Tr}{p:ak}:iE g new s (n+1) l p=(if s < p then
   match l[(p - 1) / 2]? with
   |some a0=>if bf g new a0 then iE g new s n (l.set p a0) ((p - 1) / 2)else l.set p new
   |none=>l.set p new
  else l.set p new):=rfl
def sR {l:ah Tr}{p:ak}:(l.map tv).set p (tv x)=(l.set p x).map tv:=by rw[List.map_set]
def Hp.set {l l':ah Tr}(x:Hp B h l):Hp (B.set h (.list (l'.map tv))) h l':=by
 unfold Hp at x |-;have:=(cF.mp x).1;rw[me this]
theorem R6 {g:aB}{t:DT}{new:Tr}(ht:∀{B:St} {a b c d:ax AV} {par:Tr} {QB:aB->St->Prop},f5 new par->QB (bf g new par) B->WP (t ⟨F,[],[a,b,c,ae (tv new),d,ae (tv par)]⟩) B QB E):
  ∀(n p:ak) (l:ah Tr) (B:St) (a b:ax AV) (a0:FL×ah (ax AV)->St->Prop),p<=n->p < 64->p < l.length->Hp B h l->(∀q x,q < p->l[q]? =ae x->f5 new x)->
  (∀(p':ak) (l':ah Tr) (a b:ax AV),p' < l'.length->p'<=p->l'.set p' new=iE g new s n l p->a0 (.next,[ae (.ref h),ae (.int s),ae (.int p'),ae (tv new),a,b]) (B.set h (.list (l'.map tv))))->p < n+1->
  ∀m,n < m->WP (iN (aR .Gt (eL 2) (eL 1)) (sq [
   aE (pL 4) (aY .RShift (aY .Sub (eL 2) (eK (.int 1))) (eK (.int 1))),
   aE (pL 5) (bz (eL 0) (eL 4)),
   bJ t [
    aE (dM (eL 0) (eL 2)) (eL 5),
    aE (pL 2) (eL 4),
    qw] [],
   su]) m ⟨F,[],[ae (.ref h),ae (.int s),ae (.int p),ae (tv new),a,b]⟩) B a0 E:=by
 intro n p l B a b a0 O J L H W S j m X;induction m generalizing n p l B a b a0 with
 |zero=>exact XX 1 0 (CH 1 0 0 0 X ZZ) rfl
 |succ m A=>
  have same:B=B.set h (.list (l.map tv)):=by
   have:=(cF.mp H);obtain⟨U,T⟩:=this;rw[<-T,Bz]
  refine E7 (w_tCmp (aM rfl (aM rfl (c_gt ⟨λc=>?_,λc=>?_⟩))))
  ·have c:s < p:=i7.1 (gz c);have M:0 < p:=wL (cZ _) c;have G:(p - 1) / 2<=p - 1:=IP ..;have I:p - 1 < p:=Nat.sub_lt M Nat.one_pos;obtain⟨n,rfl⟩:∃k,n=k+1:=⟨n - 1,by exact AN (SU) ((SW (TT M O)))⟩;have K:((p:Int) - 1).fdiv 2=(((p - 1) / 2:ak):Int):=by
    rw[IQ _ (by decide),show(p:Int) - 1=((p - 1:ak):Int) from (IS M).symm];rfl
   have D:(p - 1) / 2 < l.length:=by exact CF 1 0 1 0 1 0 (CH 0 0 1 0 G I) L rfl
   refine x_sq (w_Set (w_Bin (w_Bin (aM rfl (w_K (b_sub (w_K (R5 (cu rfl (n_next ?_))))))))));rw[K];refine x_sq (w_Set (w_Idx (aM rfl (aM rfl (lY H ⟨by exact JP,by exact JC (2 ^ 62) (CF 1 0 1 64 1 4611686018427387904 (CH 0 0 1 0 G I) J rfl)⟩ (v:=tv l[(p - 1) / 2]) (by rw[eD,dA,cy D];rfl) (cu rfl (n_next ?_)))))));have N:=W ((p - 1) / 2) _ (by exact CF 0 0 1 0 1 0 G I rfl) (cy D);refine x_sq (w_qIf (ht N ⟨λR=>?_,λR=>?_⟩))
   ·refine x_sq (w_Set (aM rfl (x_pIdx (aM rfl (aM rfl (sP H ⟨by exact JP,by simp;exact L,by exact JC (2 ^ 62) (FI 1 64 1 4611686018427387904 J rfl)⟩ (n_next ?_)))))));refine x_sq (w_Set (aM rfl (cu rfl (n_next ?_))));refine x_sq (x_Cont (n_cont (n_cont (l_cont ?_))));rw[eD,sR];refine A n ((p - 1) / 2) (l.set p l[(p - 1) / 2]) _ _ _ a0 (by exact TT G (CF 1 0 0 1 0 0 I O rfl)) (by exact CF 1 0 1 64 1 64 (CH 0 0 1 0 G I) J rfl) (by simp;exact D) H.set (λq x V Y=>?_) (λp' l' a b U Z T=>?_) (by exact CF 1 0 0 1 1 1 (CH 0 0 1 0 G I) O rfl) (by exact FI 2 1 1 0 X rfl)
    ·rw[jB (by exact NT (CF 1 0 1 0 1 0 (CH 1 0 0 0 V G) I rfl))]at Y;exact W q x (by exact CF 1 0 1 0 1 0 (CH 1 0 0 0 V G) I rfl) Y
    ·rw[oN];refine S p' l' a b U (by exact TT Z (CF 0 0 1 0 0 0 G I rfl)) ?_;rw[T];show _=(if s < p then _ else _);rw[aN c,cy D];show _=(if bf g new _ then _ else _);rw[aN R]
   ·refine x_nil (n_next (x_sq (x_Brk (n_brk (l_brk ?_)))));rw[same];refine S p l _ _ L (a4 _) ?_;show _=(if s < p then _ else _);rw[aN c,cy D];show _=(if bf g new _ then _ else _);rw[R];rfl
  ·have c: ¬ s < p:=λh=>jG c (i7.2 h);rw[same];refine S p l _ _ L (a4 _) ?_;cases n with
   |zero=>rfl
   |succ n=>
    show _=(if s < p then _ else _);rw[aK c]
def E9 {B:St}{g:aB}{t:DT}{p:ak}{new:Tr}{l:ah Tr}{a0:AV->St->Prop}(ht:∀{B:St} {a b c d:ax AV} {par:Tr} {QB:aB->St->Prop},f5 new par->QB (bf g new par) B->WP (t ⟨F,[],[a,b,c,ae (tv new),d,ae (tv par)]⟩) B QB E)(c0:Hp B h l)(hn:l[p]? =ae new)(hk:∀q x,q < p->l[q]? =ae x->f5 new x)(d0:p < 63)(q:a0 .none (B.set h (.list ((iE g new s p l p).map tv)))):
  Body (QH t) ⟨F,[],[ae (.ref h),ae (.int s),ae (.int p),ag,ag,ag]⟩ B a0 E:=by
 obtain J:p < l.length:=(cF.mp hn).1;refine x_sq (w_Set (w_Idx (aM rfl (aM rfl (lY c0 ⟨by exact JP,by exact JC (2 ^ 62) (FI 1 63 1 4611686018427387904 d0 rfl)⟩ (v:=tv new) (by rw[eD,dA,hn];rfl) (cu rfl (n_next ?_)))))));refine x_sq (E2 (R6 ht p p l B _ _ _ (a4 _) (by exact FI 1 63 1 64 d0 rfl) J c0 hk (λL D a b K G I=>n_next ?_) (by exact a4 _) 64 (by exact FI 1 63 1 64 d0 rfl)));obtain H':Hp (B.set h (.list (D.map tv))) h D:=c0.set;refine x_sq (w_Set (aM rfl (x_pIdx (aM rfl (aM rfl (sP H' ⟨by exact JP,by rw[aO];lia,by exact JC (2 ^ 62) (CF 0 0 1 63 1 4611686018427387904 G d0 rfl)⟩ (n_next (x_nil (r_next ?_)))))))));rw[eD,sR,oN,I];exact q
def R7 {g:aB}{p:ak}{new:Tr}{l:ah Tr}{c0:AV->St->Prop}(a0:Hp B h l)(hn:l[p]? =ae new)(hk:∀q x,q < p->l[q]? =ae x->f5 new x)(d0:p < 63)(q:c0 .none (B.set h (.list ((iE g new s p l p).map tv)))):WP (FN (k+1) (.fn (aq (if g then "_siftdown_max" else "_siftdown"))) [.ref h,.int s,.int p] []) B c0 E:=by
 cases g with
 |false=>
  refine RC (E9 (g:=az) (t:=aR .Lt (eL 3) (eL 5)) (λD q=>w_tCmp (aM rfl (aM rfl (vY D q)))) a0 hn hk d0 q)
 |true=>
  refine RD (E9 (g:=aj) (t:=aR .Lt (eL 5) (eL 3)) (λD q=>w_tCmp (aM rfl (aM rfl (vY D.symm q)))) a0 hn hk d0 q)
def v3 {g:aB}{l:ah Tr}{p:ak}:fe g 0 l p=(l,p):=rfl
def qH {g:aB}{l:ah Tr}{p:ak}:fe g (n+1) l p=(match l[2 * p+1]? with
  |none=>(l,p)
  |some a0=>match l[2 * p+2]? with
   |none=>fe g n (l.set p a0) (2 * p+1)
   |some y0=>if bf g a0 y0 then fe g n (l.set p a0) (2 * p+1)else fe g n (l.set p y0) (2 * p+2)):=rfl
def Hp.same {l:ah Tr}(a0:Hp B h l):B.set h (.list (l.map tv))=B:=by
 obtain⟨E,D⟩:=(cF.mp a0);rw[<-D,Bz]
def Hp.at {p:ak}{l:ah Tr}{c0:AV->St->Prop}(a0:Hp B h l)(hx:l[p]? =ae x)(d0:p < 4096)(q:c0 (tv x) B):WP (iw (.ref h) (.int p)) B c0 E:=
 lY a0 ⟨by exact JP,by exact JC (2 ^ 62) (FI 1 4096 1 4611686018427387904 d0 rfl)⟩ (by rw[eD,dA,hx];rfl) q
theorem R8 {g:aB}{t:DT}{n0:ak}{u1 u2 u3 u4:ax AV}(ht:∀{B:St} {i:ak} {l:ah Tr} {x y:Tr} {a b c d a0 v:ax AV} {QB:aB->St->Prop},Hp B h l->l[i]? =ae x->l[i+1]? =ae y->i < 64->f5 x y->QB (bf g x y) B->
   WP (t ⟨F,[],[ae (.ref h),a,b,c,d,ae (.int i),ae (.int ((i+1:ak):Int)),a0,v]⟩) B QB E)(d0:n0 < 60):
  ∀(m p:ak) (l:ah Tr) (B:St) (e:ax AV) (c0:FL×ah (ax AV)->St->Prop),l.length=n0->p < n0->n0<=p+m->Hp B h l->(∀i x y,2 * p < i->l[i]? =ae x->l[i+1]? =ae y->f5 x y)->
  (∀(p':ak) (l':ah Tr) (e a:ax AV),(l',p')=fe g m l p->p' < n0->l'.length=n0->c0 (.next,[ae (.ref h),ae (.int p'),ae (.int n0),u1,u2,a,e,u3,u4]) (B.set h (.list (l'.map tv))))->
  WP (iN (aR .Lt (eL 5) (eL 2)) (sq [
  aE (pL 6) (aY .Add (eL 5) (eK (.int 1))),
  bJ (jP (aR .Lt (eL 6) (eL 2)) (gp t)) [
   aE (pL 5) (eL 6)] [],
  aE (dM (eL 0) (eL 1)) (bz (eL 0) (eL 5)),
  aE (pL 1) (eL 5),
  aE (pL 5) (aY .Add (aY .Mult (eK (.int 2)) (eL 1)) (eK (.int 1)))]) (m+1) ⟨F,[],[ae (.ref h),ae (.int p),ae (.int n0),u1,u2,ae (.int ((2 * p+1:ak):Int)),e,u3,u4]⟩) B c0 E:=by
 intro m;induction m with
 |zero=>exact λp l B e c0 G O W H T U=>XX 1 0 (CH 0 0 1 0 W O) rfl
 |succ m V=>
  intros m _ V;intros _ p l B e c0 _ G O W H T U;refine E7 (w_tCmp (aM rfl (aM rfl (c_lt ⟨λc=>?_,λc=>?_⟩))))
  ·have c:2 * p+1 < n0:=i7.1 (gz c);obtain K:l[2 * p+1]? =ae (l[2 * p+1]'(by exact TT c (EG G))):=cy _;generalize l[2 * p+1]'(by exact TT c (EG G))=x at K;have A:(((2 * p+1:ak):Int)+1)=((2 * p+1+1:ak):Int):=rfl;have N:∀(q:ak) (z:Tr) (a:ax AV),2 * p < q->q < n0->l[q]? =ae z->(∀(p':ak) (l':ah Tr),(l',p')=fe g m (l.set p z) q->(l',p')=fe g (m+1) l p)->
     WP (sq [
      aE (dM (eL 0) (eL 1)) (bz (eL 0) (eL 5)),
      aE (pL 1) (eL 5),
      aE (pL 5) (aY .Add (aY .Mult (eK (.int 2)) (eL 1)) (eK (.int 1)))] ⟨F,[],[ae (.ref h),ae (.int p),ae (.int n0),u1,u2,ae (.int q),a,u3,u4]⟩) B
      (Left (λI B=>WP (iN (aR .Lt (eL 5) (eL 2)) (sq [
  aE (pL 6) (aY .Add (eL 5) (eK (.int 1))),
  bJ (jP (aR .Lt (eL 6) (eL 2)) (gp t)) [
   aE (pL 5) (eL 6)] [],
  aE (dM (eL 0) (eL 1)) (bz (eL 0) (eL 5)),
  aE (pL 1) (eL 5),
  aE (pL 5) (aY .Add (aY .Mult (eK (.int 2)) (eL 1)) (eK (.int 1)))]) (m+1) ⟨F,[],I⟩) B c0 E) c0) E:=by
    intro q z a Z M j k;refine x_sq (w_Set (w_Idx (aM rfl (aM rfl (H.at j (by exact CF 1 0 1 60 1 4096 M d0 rfl) (x_pIdx (aM rfl (aM rfl (sP H ⟨by exact JP,by rw[aO];show p < l.length;exact TT O (EG G),by exact JC (2 ^ 62) (CF 1 0 1 60 1 4611686018427387904 O d0 rfl)⟩ (n_next ?_))))))))));rw[eD,sR];refine x_sq (w_Set (aM rfl (cu rfl (n_next ?_))));refine x_sq (w_Set (w_Bin (w_Bin (w_K (aM rfl (E8 ⟨by decide,(by show q < 2 ^ 62;exact CF 1 0 1 60 1 4611686018427387904 M d0 rfl)⟩ (w_K (b_add (cu rfl (n_next (x_nil (l_next ?_))))))))))));have Y:((2:Int) * (q:Int)+1)=((2 * q+1:ak):Int):=rfl;simp only[gB,gC];rw[Y];refine V q (l.set p z) _ _ c0 (by rw[eM];exact G) M (by lia) H.set (λi x y w R S=>?_) (λp' l' e a R S X=>?_)
    ·rw[jB (by lia)]at R S;exact T i x y (by lia) R S
    ·rw[oN];exact U p' l' e a (k p' l' R) S X
   refine x_sq (w_Set (w_Bin (aM rfl (w_K (b_add (cu rfl (n_next ?_)))))));simp only[gB,gC];rw[A];refine x_sq (w_qIf (w_tAnd (w_tCmp (aM rfl (aM rfl (c_lt ⟨λD=>?_,λD=>?_⟩))))))
   ·have D:2 * p+2 < n0:=i7.1 (gz D);obtain L:l[2 * p+2]? =ae (l[2 * p+2]'(by exact TT D (EG G))):=cy _;generalize l[2 * p+2]'(by exact TT D (EG G))=y at L;refine w_tNot (ht H K L (by exact CF 3 0 1 60 2 64 D d0 rfl) (T _ x y (by exact a4 _) K L) ⟨λJ=>?_,λJ=>?_⟩)
    ·have J:bf g x y=az:=by simpa using J
     refine x_sq (w_Set (aM rfl (cu rfl (n_next (x_nil (n_next ?_))))));refine N (2 * p+2) y _ (by exact gU _) D L λp' l' h=>?_;rw[h];show _=(match l[2 * p+1]? with |none=>_ |some x=>_);rw[K];show _=(match l[2 * p+2]? with |none=>_ |some x=>_);rw[L];show _=(if _ then _ else _);rw[J];rfl
    ·have J:bf g x y=aj:=by simpa using J
     refine x_nil (n_next ?_);refine N (2 * p+1) x _ (by exact a4 _) c K λp' l' h=>?_;rw[h];show _=(match l[2 * p+1]? with |none=>_ |some x=>_);rw[K];show _=(match l[2 * p+2]? with |none=>_ |some x=>_);rw[L];show _=(if _ then _ else _);rw[J];rfl
   ·have D: ¬ 2 * p+2 < n0:=λh=>jG D (i7.2 h);obtain L:l[2 * p+2]? =ag:=rJ (by exact TT (EL G) (NL D));refine⟨λJ=>(nomatch J),λu=>x_nil (n_next ?_)⟩;refine N (2 * p+1) x _ (by exact a4 _) c K λp' l' h=>?_;rw[h];show _=(match l[2 * p+1]? with |none=>_ |some x=>_);rw[K];show _=(match l[2 * p+2]? with |none=>_ |some x=>_);rw[L]
  ·have c: ¬ 2 * p+1 < n0:=λh=>jG c (i7.2 h);rw[<-H.same];refine U p l _ _ ?_ O G;show _=(match l[2 * p+1]? with |none=>_ |some x=>_);rw[rJ (by exact TT (EL G) (NL c))]
set_option tactic.hygienic true in theorem R9 {g : aB} : ∀ (m : ak) (l : ah Tr) (p : ak) (l' : ah Tr) (p' : ak), (l', p') = fe g m l p → ∀ q x, q ≠ p' → l'[q]? = ae x → ∃ q2, q2 ≠ p ∧ l[q2]? = ae x := by
 intro n;induction n with
 |zero=>
  intro l p l' p' e q x hq hx;cases e;exact⟨q,hq,hx⟩
 |succ m ih=>
  intros m _ ih;intros _ l p l' p' _ e _ q x _ hq hx;have go:∀(c:ak) (z:Tr),c≠p->l[c]? =ae z->(l',p')=fe g m (l.set p z) c->∃q2,q2≠p/\l[q2]? =ae x:=by
   intros _ c z _ hc hz e;obtain⟨q2,h1,h2⟩:=ih _ _ _ _ e q x hq hx;by_cases h:p=q2
   ·subst h;obtain hl:p < (l.set p z).length:=(cF.mp h2).1;rw[eM]at hl;rw[me hl]at h2;cases h2;exact⟨c,hc,hz⟩
   ·rw[jB h]at h2;exact⟨q2,λh'=>h h'.symm,h2⟩
  rw[qH]at e;split at e
  ·cases e;exact⟨q,hq,hx⟩
  ·rename_i a ha;split at e
   ·exact go _ _ (by lia) ha e
   ·rename_i b hb;split at e
    ·exact go _ _ (by lia) ha e
    ·exact go _ _ (by lia) hb e
def Fb {B:St}{g:aB}{t:DT}{p:ak}{l:ah Tr}{d0:AV->St->Prop}{c0 v:ax AV}(ht:∀{B:St} {i:ak} {l:ah Tr} {x y:Tr} {a b c d c0 v:ax AV} {QB:aB->St->Prop},Hp B h l->l[i]? =ae x->l[i+1]? =ae y->i < 64->f5 x y->QB (bf g x y) B->
   WP (t ⟨FN (k+1),[],[ae (.ref h),a,b,c,d,ae (.int i),ae (.int ((i+1:ak):Int)),c0,v]⟩) B QB E)(a0:Hp B h l)(hp:p < l.length)(e0:l.length < 60)(hd:dN l)(q:d0 .none (B.set h (.list ((cN g l p).map tv)))):
  Body (QI t (.fn (aq (if g then "_siftdown_max" else "_siftdown")))) ⟨FN (k+1),[],[ae (.ref h),ae (.int p),ag,ag,ag,ag,ag,c0,v]⟩ B d0 E:=by
 obtain J:l[p]? =ae l[p]:=cy hp;generalize l[p]=new at J;refine x_sq (w_Set (w_Call (w_K (w_evs_cons (aM rfl (w_evs_nil (w_kws_nil (f_len a0 (cu rfl (n_next ?_))))))))));refine x_sq (w_Set (aM rfl (cu rfl (n_next ?_))));refine x_sq (w_Set (w_Idx (aM rfl (aM rfl (a0.at J (by exact CF 1 0 1 60 1 4096 hp e0 rfl) (cu rfl (n_next ?_)))))));refine x_sq (w_Set (w_Bin (w_Bin (w_K (aM rfl (E8 ⟨by decide,(by show p < 2 ^ 62;exact CF 1 0 1 60 1 4611686018427387904 hp e0 rfl)⟩ (w_K (b_add (cu rfl (n_next ?_))))))))));have S:((2:Int) * (p:Int)+1)=((2 * p+1:ak):Int):=rfl;simp only[gB,gC,aO];rw[S];refine x_sq (E2 (R8 ht e0 63 p l B _ _ rfl hp (by exact CF 1 60 0 0 0 63 e0 ZZ rfl) a0 (λi x y L I G=>hd i (i+1) x y (by exact NE (a4 _)) I G) (λF D e a I G M=>n_next ?_)));obtain H':Hp (B.set h (.list (D.map tv))) h D:=a0.set;refine x_sq (w_Set (aM rfl (x_pIdx (aM rfl (aM rfl (sP H' ⟨by exact JP,by rw[aO];show F < D.length;exact TT G (EG M),by exact JC (2 ^ 62) (CF 1 0 1 60 1 4611686018427387904 G e0 rfl)⟩ (n_next ?_)))))));rw[eD,sR,oN];refine x_sq (x_Expr (w_Call (w_K (w_evs_cons (aM rfl (w_evs_cons (aM rfl (w_evs_cons (aM rfl (w_evs_nil (w_kws_nil (f_fn ?_))))))))))));have qo:F < D.length:=by exact TT G (EG M)
 refine R7 (new:=new) (a0.set (l':=D.set F new)) (by rw[me qo]) (λi x L N=>?_) (by exact CF 1 0 1 60 1 63 G e0 rfl) (n_next (x_nil (r_next ?_)))
 ·rw[jB (by exact NT (L))]at N;obtain⟨R,T,K⟩:=R9 63 l p D F I i x (by exact NE (L)) N;exact hd p R new x (by lia) J K
 ·rw[oN];have O:cN g l p=iE g new p F (D.set F new) F:=by
   unfold cN;rw[J];show iE g new p (fe g 63 l p).2 ((fe g 63 l p).1.set (fe g 63 l p).2 new) (fe g 63 l p).2=_;rw[<-I]
  rw[<-O];exact q
def Fc {g:aB}{p:ak}{l:ah Tr}{c0:AV->St->Prop}(a0:Hp B h l)(hp:p < l.length)(d0:l.length < 60)(hd:dN l)(q:c0 .none (B.set h (.list ((cN g l p).map tv)))):
  WP (FN (k+2) (.fn (aq (if g then "_siftup_max" else "_siftup"))) [.ref h,.int p] []) B c0 E:=by
 cases g with
 |false=>
  refine RE (Fb (g:=az) (t:=aR .Lt (bz (eL 0) (eL 5)) (bz (eL 0) (eL 6))) (λa0 G I F D q=>?_) a0 hp d0 hd q);exact w_tCmp (w_Idx (aM rfl (aM rfl (a0.at G (by exact FI 1 64 1 4096 F rfl) (w_Idx (aM rfl (aM rfl (a0.at I (by exact FI 1 64 2 4096 F rfl) (vY D q)))))))))
 |true=>
  refine RF (Fb (g:=aj) (t:=aR .Lt (bz (eL 0) (eL 6)) (bz (eL 0) (eL 5))) (λa0 G I F D q=>?_) a0 hp d0 hd q);exact w_tCmp (w_Idx (aM rfl (aM rfl (a0.at I (by exact FI 1 64 2 4096 F rfl) (w_Idx (aM rfl (aM rfl (a0.at G (by exact FI 1 64 1 4096 F rfl) (vY D.symm q)))))))))
def Fd {g:aB}{a b:Tr}:cN g [a,b] 0=if bf g a b then [a,b]else [b,a]:=by
 unfold cN;show iE g a 0 _ _ _=_;simp only[qH,v3,IT,List.getElem?_cons_zero,List.getElem?_nil,gB,gC,sQ,vZ,Nat.mul_zero,kg,Nat.mul_one,xn,Nat.reduceSub,Nat.reduceDiv,Nat.reduceLT,jD]
theorem Ff {g:aB}{a b c:Tr}:cN g [a,b,c] 0=if bf g b c then (if bf g a b then [a,b,c]else [b,a,c])else (if bf g a c then [a,b,c]else [c,b,a]):=by
 unfold cN;show iE g a 0 _ _ _=_;cases h:bf g b c <;>simp[qH,v3,sQ,vZ,h]<;>split <;>simp_all
theorem Fg {g:aB}{a b c d:Tr}:cN g [a,b,c,d] 0=if bf g b c then (if bf g a d then (if bf g a b then [a,b,c,d]else [b,a,c,d])else [b,d,c,a])else (if bf g a c then [a,b,c,d]else [c,b,a,d]):=by
 unfold cN;show iE g a 0 _ _ _=_;cases h:bf g b c <;>cases E:bf g a d <;>cases B:bf g a b <;>cases D:bf g a c <;>simp[qH,v3,sQ,vZ,h,E,B,D]
def Fh {g:aB}{a b c d:Tr}:cN g [a,b,c,d] 1=if bf g b d then [a,b,c,d]else [a,d,c,b]:=by
 unfold cN;show iE g b 1 _ _ _=_;cases h:bf g b d <;>simp[qH,v3,sQ,vZ,h]
def sS {B:St}{a0:FL×ah (ax AV)->St->Prop}{put:DA}{U:AI}(h:WP (bx U) B (λo B=>o=ag/\a0 (.next,I) B) E):WP (forA body put (n+1) U ⟨F,O,I⟩) B a0 E:=
 zv (h.a5 λo B h=>by obtain⟨rfl,h⟩:=h;exact h)
def v5 {I:ah (ax AV)}{B:St}{a0:FL×ah (ax AV)->St->Prop}{put:DA}{U c0:AI}(h:WP (bx U) B (λo B=>o=ae (v,c0)/\WP (put v ⟨F,O,I⟩) B (λI B=>WP (body ⟨F,O,I⟩) B (Left (λI B=>WP (forA body put n c0 ⟨F,O,I⟩) B a0 E) a0) E) E) E):WP (forA body put (n+1) U ⟨F,O,I⟩) B a0 E:=
 zv (h.a5 λo B h=>by obtain⟨rfl,h⟩:=h;exact h)
def Sa {a0:FL×ah (ax AV)->St->Prop}{put:DA}{c d:Int}(h:a0 (.next,I) B):WP (forA body put (n+1) (.range c 0 d) ⟨F,O,I⟩) B a0 E:=sS (aQ ⟨rfl,h⟩)
def Sb {I:ah (ax AV)}{B:St}{a0:FL×ah (ax AV)->St->Prop}{put:DA}{m:ak}{c d:Int}(h:WP (put (.int c) ⟨F,O,I⟩) B (λI B=>WP (body ⟨F,O,I⟩) B (Left (λI B=>WP (forA body put n (.range (c+d) m d) ⟨F,O,I⟩) B a0 E) a0) E) E):
  WP (forA body put (n+1) (.range c (m+1) d) ⟨F,O,I⟩) B a0 E:=v5 (aQ ⟨rfl,h⟩)
def Sd {g:aB}{new:Tr}:∀(n:ak) (l:ah Tr) (p:ak),(iE g new s n l p).length=l.length:=by
 intro n;induction n with
 |zero=>
  intro l p;exact eM ..
 |succ n B=>
  intro l p;rw[sQ];split
  ·split
   ·split
    ·rw[B,eM]
    ·exact eM ..
   ·exact eM ..
  ·exact eM ..
def Se {g:aB}:∀(n:ak) (l:ah Tr) (p:ak),(fe g n l p).1.length=l.length:=by
 intro n;induction n with
 |zero=>
  intro l p;exact rfl
 |succ n B=>
  intro l p;rw[qH];split
  ·rfl
  ·split
   ·rw[B,eM]
   ·split <;>rw[B,eM]
def Fi {g:aB}{l:ah Tr}{p:ak}:(cN g l p).length=l.length:=by
 unfold cN;split
 ·rfl
 ·rw[Sd,eM,Se]
theorem Sf {g:aB}{l:ah Tr}{c0:AV->St->Prop}(a0:Hp B h l)(d0:l.length < 60)(hd:∀m,m<=l.length / 2->∀l2,l2.length=l.length->eW g m l2=eW g (l.length / 2) l->dN l2)(q:c0 .none (B.set h (.list ((eW g (l.length / 2) l).map tv)))):WP (FN (k+3) (.fn (aq (if g then "_heapify_max" else "heapify"))) [.ref h] []) B c0 E:=by
 have F:∀(m:ak) (l2:ah Tr) (D:St) (b:ak) (L:ah (ax AV)),L[0]? =ae (ae (.ref h))->2 < L.length->m<=l.length / 2->m < b->l2.length=l.length->eW g m l2=eW g (l.length / 2) l->D=B.set h (.list (l2.map tv))->
   WP (forA (sq [b9 (aX (eK (.fn (aq (if g then "_siftup_max" else "_siftup")))) [(eL 0),(eL 2)] [])]) (pL 2) b (.range ((m:Int) - 1) m (-1)) ⟨FN (k+2),[],L⟩) D
    (jQ (λI B=>WP (sq [] ⟨FN (k+2),[],I⟩) B (λx B=>WP (eQ x.1) B c0 E) E) (λx B=>WP (eQ x.1) B c0 E)) E:=by
  intro m;induction m with
  |zero=>
   intro l2 D b L M O R N K J G;obtain⟨b,rfl⟩:∃c,b=c+1:=⟨b - 1,by exact AN (SU) ((SW (N)))⟩;refine Sa ?_;refine n_next (x_nil (r_next ?_));rw[G,show l2=eW g (l.length / 2) l from J];exact q
  |succ m V=>
   intro l2 D b L M O R N K J G;obtain⟨b,rfl⟩:∃c,b=c+1:=⟨b - 1,by lia⟩;refine Sb ?_;have S:(((m+1:ak):Int) - 1)=(m:Int):=by show((m:Int)+1) - 1=(m:Int);exact Int.add_sub_cancel ..
   rw[S];refine cu rfl ?_;have W:Hp D h l2:=by rw[G];exact a0.set
   refine x_sq (x_Expr (w_Call (w_K (w_evs_cons (aM (v:=.ref h) (by rw[jB (by decide)];exact M) (w_evs_cons (aM (v:=.int m) (by rw[me O]) (w_evs_nil (w_kws_nil (f_fn ?_))))))))));refine Fc W (by lia) (by exact CF 0 0 1 60 1 60 (EL K) d0 rfl) (hd (m+1) R l2 K J) (n_next (x_nil (l_next ?_)));refine V (cN g l2 m) _ b _ (by rw[jB (by decide)];exact M) (by rw[eM];exact O) (by exact FI 1 0 0 0 R rfl) (by exact FI 2 1 1 0 N rfl) (by rw[Fi];exact K) J (by rw[G,oN])
 have T:Body [
 aE (pL 1) (aX (eK (.bi "len")) [(eL 0)] []),
 fy az (pL 2) (vH (iW [(aY .FloorDiv (eL 1) (eK (.int 2)))])) [
  b9 (aX (eK (.fn (aq (if g then "_siftup_max" else "_siftup")))) [(eL 0),(eL 2)] [])]] ⟨FN (k+2),[],[ae (.ref h),ag,ag,ag,ag,ag,ag]⟩ B c0 E:=by
  refine x_sq (w_Set (w_Call (w_K (w_evs_cons (aM rfl (w_evs_nil (w_kws_nil (f_len a0 (cu rfl (n_next ?_))))))))));rw[aO];have S:((l.length:Int)).fdiv 2=((l.length / 2:ak):Int):=by rw[IQ _ (by decide)];rfl
  have U:l.length / 2<=l.length:=IP ..;refine x_sq (w_For (w_iRev (w_rRange (w_evs_cons (w_Bin (aM rfl (w_K (pq ⟨by decide,by decide⟩ (w_evs_nil ?_)))))))));rw[S];refine pn (by exact KN (by decide)) (by exact JC 4096 (CF 0 0 1 60 1 4096 U d0 rfl)) ?_;rw[eD];refine w_rev ⟨rfl,?_⟩;exact F (l.length / 2) l B 128 _ rfl (by simp) (a4 _) (by exact CF 0 0 1 60 1 128 U d0 rfl) rfl rfl a0.same.symm
 cases g with
 |false=>exact RI T
 |true=>exact RJ T
def Sg {g:aB}{l:ah Tr}{t t0:Tr}{c0:AV->St->Prop}(a0:Hp B h l)(h0:l[0]? =ae t0)(d0:l.length < 60)(hd:dN (l.set 0 t))(q:c0 (tv t0) (B.set h (.list ((cN g (l.set 0 t) 0).map tv)))):WP (FN (k+3) (.fn (aq (if g then "_heapreplace_max" else "heapreplace"))) [.ref h,tv t] []) B c0 E:=by
 obtain D:0 < l.length:=(cF.mp h0).1;have T:Body [
 aE (pL 2) (bz (eL 0) (eK (.int 0))),
 aE (dM (eL 0) (eK (.int 0))) (eL 1),
 b9 (aX (eK (.fn (aq (if g then "_siftup_max" else "_siftup")))) [(eL 0),(eK (.int 0))] []),
 bL (eL 2)] ⟨FN (k+2),[],[ae (.ref h),ae (tv t),ag,ag]⟩ B c0 E:=by
  refine x_sq (w_Set (w_Idx (aM rfl (w_K (a0.at (p:=0) h0 (by exact RR 1 4096 rfl) (cu rfl (n_next ?_)))))));refine x_sq (w_Set (aM rfl (x_pIdx (aM rfl (w_K (sP a0 ⟨by decide,by rw[aO];exact D,by decide⟩ (n_next ?_)))))));rw[show(0:Int).toNat=0 from rfl,sR];refine x_sq (x_Expr (w_Call (w_K (w_evs_cons (aM rfl (w_evs_cons (w_K (w_evs_nil (w_kws_nil (f_fn ?_))))))))));refine Fc (p:=0) (a0.set (l':=l.set 0 t)) (by rw[eM];exact D) (by rw[eM];exact d0) hd (n_next ?_);rw[oN];exact x_sq (x_Ret (aM rfl (n_ret (r_ret q))))
 cases g with
 |false=>exact RG T
 |true=>exact RH T
def Fj {z:Tr}(h1:fO x y=aj)(h2:fO y z=aj):fO x z=aj:=by
 unfold fO at *;split at h1 <;>split at h2 <;>split <;>simp_all <;>lia
def Fk (a0:f5 x y)(h:fO x y=az):fO y x=aj:=by
 unfold fO at *;by_cases e:x.1=y.1
 ·rw[aN e]at h;rw[aN e.symm];have:=a0 e;have:=jG h;exact jc (by lia)
 ·rw[aK e]at h;rw[aK λB=>e B.symm];have:=jG h;exact jc (by lia)
def lZ {g:aB}{z:Tr}(h1:bf g x y=aj)(h2:bf g y z=aj):bf g x z=aj:=by
 cases g with
 |false=>exact Fj h1 h2
 |true=>exact Fj (x:=z) h2 h1
def l3 {g:aB}(a0:f5 x y)(h:bf g x y=az):bf g y x=aj:=by
 cases g with
 |false=>exact Fk a0 h
 |true=>exact Fk a0.symm h
def kW.len {g:aB}{l:ah Tr}(h:kW g l):1<=l.length/\l.length<=4:=by
 rcases l with _ |⟨_,_ |⟨_,_ |⟨_,_ |⟨_,_ |⟨_,_⟩⟩⟩⟩⟩
 ·exact h.elim
 ·exact⟨a4 _,i6 rfl⟩
 ·exact⟨i6 rfl,i6 rfl⟩
 ·exact⟨i6 rfl,i6 rfl⟩
 ·exact⟨i6 rfl,i6 rfl⟩
 ·exact h.elim
def kW.root {g:aB}{a:Tr}{l:ah Tr}(h:kW g (a :: l)):∀x∈l,bf g a x=aj:=by
 rcases l with _ |⟨b,_ |⟨c,_ |⟨d,_ |⟨_,_⟩⟩⟩⟩
 ·intro x B;cases B
 ·intro x B;rw[aJ.mp B];exact h
 ·intro x B;rcases bu.mp B with rfl |B
  ·exact h.1
  ·rw[aJ.mp B];exact h.2
 ·intro x B;rcases bu.mp B with rfl |B
  ·exact h.1
  rcases bu.mp B with rfl |B
  ·exact h.2.1
  ·rw[aJ.mp B];exact lZ h.1 h.2.2
 ·exact h.elim
def dN.get {l:ah Tr}(h:dN l)(i j:ak)(hi:l[i]? =ae x)(hj:l[j]? =ae y)(a0:i≠j:=by decide):f5 x y:=h i j x y a0 hi hj
def sT {a b c:Tr}:[c,b,a].Perm [a,b,c]:=BA [a,b,c]
def Fl {a b c d:Tr}:[b,d,c,a].Perm [a,b,c,d]:=
 (BA [a,c,d,b]).trans (.cons a (BC (l₁:=[c,d]) (l₂:=[b])))
theorem sU {g:aB}{t:Tr}{l:ah Tr}(hl:l.length<=3)(nS:∀b c d,l=[b,c,d]->bf g b d=aj)(hd:dN (t :: l)):kW g (cN g (t :: l) 0)/\(cN g (t :: l) 0).Perm (t :: l):=by
 rcases l with _ |⟨b,_ |⟨c,_ |⟨d,_ |⟨_,_⟩⟩⟩⟩
 ·exact⟨trivial,.refl _⟩
 ·rw[Fd];obtain n1:=hd.get 0 1 rfl rfl;split
  ·rename_i c;exact⟨c,.refl _⟩
  ·rename_i c;exact⟨l3 n1 (by simpa using c),.swap ..⟩
 ·rw[Ff];obtain n1:=hd.get 0 1 rfl rfl;obtain n2:=hd.get 0 2 rfl rfl;obtain n3:=hd.get 1 2 rfl rfl;split
  ·rename_i c1;split
   ·rename_i c2;exact⟨⟨c2,lZ c2 c1⟩,.refl _⟩
   ·rename_i c2;exact⟨⟨l3 n1 (by simpa using c2),c1⟩,.swap ..⟩
  ·rename_i c1;obtain c1:=l3 n3 (by simpa using c1);split
   ·rename_i c2;exact⟨⟨lZ c2 c1,c2⟩,.refl _⟩
   ·rename_i c2;exact⟨⟨c1,l3 n2 (by simpa using c2)⟩,sT⟩
 ·rw[Fg];obtain n1:=hd.get 0 1 rfl rfl;obtain n2:=hd.get 0 2 rfl rfl;obtain n3:=hd.get 1 2 rfl rfl;obtain n4:=hd.get 0 3 rfl rfl;obtain nS:=nS b c d rfl;split
  ·rename_i c1;split
   ·rename_i c2;split
    ·rename_i c3;exact⟨⟨c3,lZ c3 c1,nS⟩,.refl _⟩
    ·rename_i c3;exact⟨⟨l3 n1 (by simpa using c3),c1,c2⟩,.swap ..⟩
   ·rename_i c2;exact⟨⟨nS,c1,l3 n4 (by simpa using c2)⟩,Fl⟩
  ·rename_i c1;obtain c1:=l3 n3 (by simpa using c1);split
   ·rename_i c2;exact⟨⟨lZ c2 c1,c2,nS⟩,.refl _⟩
   ·rename_i c2;exact⟨⟨c1,l3 n2 (by simpa using c2),nS⟩,(sT (a:=t) (b:=b) (c:=c)).append_right [d]⟩
 ·exact absurd hl (by simp)
def Sh {g:aB}{t a:Tr}{l:ah Tr}(h:kW g (a :: l))(hd:dN (t :: l)):kW g (cN g (t :: l) 0)/\(cN g (t :: l) 0).Perm (t :: l):=
 sU (Hu h.len.2) (λu u u e=>by subst e;exact h.2.2) hd
theorem Si {g:aB}{l:ah Tr}(h1:1<=l.length)(h4:l.length<=4)(hd:dN l):kW g (eW g (l.length / 2) l)/\(eW g (l.length / 2) l).Perm l:=by
 rcases l with _ |⟨a,_ |⟨b,_ |⟨c,_ |⟨d,_ |⟨_,_⟩⟩⟩⟩⟩
 ·exact absurd h1 (by simp)
 ·rw[show [a].length / 2=0 from by simp];exact⟨trivial,.refl _⟩
 ·rw[show [a,b].length / 2=1 from by simp];exact sU (i6 rfl) (λu u u e=>by cases e) hd
 ·rw[show [a,b,c].length / 2=1 from by simp];exact sU (i6 rfl) (λu u u e=>by cases e) hd
 ·rw[show [a,b,c,d].length / 2=2 from by simp];show kW g (cN g (cN g [a,b,c,d] 1) 0)/\(cN g (cN g [a,b,c,d] 1) 0).Perm _;rw[Fh];obtain n1:=hd.get 1 3 rfl rfl;split
  ·rename_i c1;exact sU (a4 _) (λu u u e=>by cases e;exact c1) hd
  ·rename_i c1;obtain c1:=l3 n1 (by simpa using c1);obtain pm:[a,d,c,b].Perm [a,b,c,d]:=.cons a (BA [b,c,d]);have hd2:dN [a,d,c,b]:=by
    intro i j x y Wx hx hy;have f:∀i x,[a,d,c,b][i]? =ae x->∃k,[a,b,c,d][k]? =ae x/\k=(if i=1 then 3 else if i=3 then 1 else i):=by
     intro i x hx;rcases i with _ |_ |_ |_ |n
     ·exact⟨0,hx,rfl⟩
     ·exact⟨3,hx,rfl⟩
     ·exact⟨2,hx,rfl⟩
     ·exact⟨1,hx,rfl⟩
     ·simp at hx
    obtain⟨k,hk,ek⟩:=f i x hx;obtain⟨m,hm,em⟩:=f j y hy;refine hd k m x y ?_ hk hm;rw[ek,em];split <;>split <;>(try split)<;>(try split)<;>lia
   obtain⟨r1,r2⟩:=sU (t:=a) (l:=[d,c,b]) (a4 _) (λu u u e=>by cases e;exact c1) hd2;exact⟨r1,r2.trans pm⟩
 ·exact absurd h4 (by simp)
def Fm {t:Tr}:iF b t (x :: S)=if bg b t.1 x.1 then t :: x :: S else x :: iF b t S:=rfl
def Sj {t x:Int×AV}{S:ah (Int×AV)}:bV b t (x :: S)=if bg b t.1 x.1 then t :: x :: S else x :: bV b t S:=rfl
def zB {t:Tr}:∀{S:ah Tr},(iF b t S).map kv=bV b (kv t) (S.map kv):=by
 intro l;induction l with
 |nil=>
  exact rfl
 |cons x S B=>
  show(if bg b t.1 x.1 then t :: x :: S else x :: iF b t S).map kv=(if bg b t.1 x.1 then kv t :: kv x :: S.map kv else kv x :: bV b (kv t) (S.map kv));split
  ·rfl
  ·rw[gc,B]
def px {t:Tr}:∀{S:ah Tr},(iF b t S).Perm (t :: S):=by
 intro l;induction l with
 |nil=>
  exact .refl _
 |cons x S B=>
  rw[Fm];split
  ·exact .refl _
  ·exact(wR x B).trans (.swap ..)
def Fn {t:Tr}(h:bg b t.1 x.1=aj):bf b t x=aj:=by
 unfold bg at h;unfold bf fO;cases b with
 |false=>
  have h:=gz h;show(if t.1=x.1 then _ else _)=aj;rw[aK (by lia)];exact jc h
 |true=>
  have h:=gz h;show(if x.1=t.1 then _ else _)=aj;rw[aK (by lia)];exact jc h
def Sk {t:Tr}(h:bg b t.1 x.1=az)(hl:if b then t.2.1 < x.2.1 else x.2.1 < t.2.1):bf b x t=aj:=by
 unfold bg at h;unfold bf fO;cases b with
 |false=>
  obtain h: ¬ t.1 < x.1:=jG h;have hl:x.2.1 < t.2.1:=hl;show(if x.1=t.1 then _ else _)=aj;split
  ·exact jc hl
  ·exact jc (by lia)
 |true=>
  obtain h: ¬ x.1 < t.1:=jG h;obtain hl:t.2.1 < x.2.1:=hl;show(if t.1=x.1 then _ else _)=aj;split
  ·exact jc hl
  ·exact jc (by lia)
def Fo {t:Tr}:∀{S:ah Tr},gL b S->Later b t S->gL b (iF b t S):=by
 intro l;induction l with
 |nil=>
  intro _ _;exact BD ..
 |cons x S ih=>
  intro h hl;obtain⟨h1,h2⟩:=lG.mp h;rw[Fm];split
  ·rename_i hb;refine lG.mpr ⟨λy hy=>?_,h⟩;rcases bu.mp hy with rfl |hy
   ·exact Fn hb
   ·exact lZ (Fn hb) (h1 y hy)
  ·rename_i hb;refine lG.mpr ⟨λy hy=>?_,ih h2 λz hz=>hl z (.tail _ hz)⟩;rcases bu.mp (px.mem_iff.mp hy)with rfl |hy
   ·exact Sk (by simpa using hb) (hl x (.head _))
   ·exact h1 y hy
def v7:bf b x x=az:=by
 have:fO x x=az:=by
  unfold fO;rw[aN rfl];exact pK (Int.lt_irrefl _)
 cases b <;>exact this
def Sl {a0:ah Tr}(hs:gL b S)(ht:gL b a0)(p:S.Perm a0):S=a0:=
 List.Perm.eq_of_pairwise (λx y u u B D=>by
  have:=lZ B D;rw[v7]at this;cases this) hs ht p
def gL.dist (h:gL b S):dN S:=by
 intro i j x y B J I;have T:∀{x y:Tr},bf b x y=aj->f5 x y:=by
  intro x y h E G;unfold bf fO at h;cases b with
  |false=>
   obtain h:(if x.1=y.1 then decide (x.2.1 < y.2.1)else decide (x.1 < y.1))=aj:=h;rw[aN E,G]at h;have:=gz h
   lia
  |true=>
   obtain h:(if y.1=x.1 then decide (y.2.1 < x.2.1)else decide (y.1 < x.1))=aj:=h;rw[aN E.symm,G]at h;have:=gz h
   lia
 obtain⟨D,rfl⟩:=cF.mp J;obtain⟨H,rfl⟩:=cF.mp I;obtain F:=xo.mp h;rcases IU B with c |c
 ·exact T (F i j D H c)
 ·exact(T (F j i H D c)).symm
def dN.perm {a0:ah Tr}(h:dN S)(p:S.Perm a0):dN a0:=by
 have e:∀S:ah Tr,dN S↔S.Pairwise f5:=by
  intro S;constructor
  ·intro h;rw[xo];intro i j D E B;exact h i j _ _ (by exact NE (B)) (cy D) (cy E)
  ·intro h i j x y B H G;obtain⟨D,rfl⟩:=cF.mp H;obtain⟨E,rfl⟩:=cF.mp G;obtain F:=xo.mp h;rcases IU B with c |c
   ·exact F i j D E c
   ·exact(F j i E D c).symm
 rw[e]at h |-;exact(List.Perm.pairwise_iff (λh=>h.symm) p).mp h
def Sm {α β:Type}{a0:α->β}{lt:β->β->aB}{x:α}:∀{l:ah α},sortBy.cf lt (a0 x) (l.map a0)=(sortBy.cf (λa b=>lt (a0 a) (a0 b)) x l).map a0:=by
 intro l;induction l with
 |nil=>
  exact rfl
 |cons y l B=>
  show(if lt (a0 y) (a0 x)then a0 y :: sortBy.cf lt (a0 x) (l.map a0)else a0 x :: a0 y :: l.map a0)=(if lt (a0 y) (a0 x)then y :: sortBy.cf (λa b=>lt (a0 a) (a0 b)) x l else x :: y :: l).map a0;split
  ·rw[gc,B]
  ·rfl
def lS {α β:Type}{a0:α->β}{lt:β->β->aB}:∀{l:ah α},sortBy lt (l.map a0)=(sortBy (λa b=>lt (a0 a) (a0 b)) l).map a0:=by
 intro l;induction l with
 |nil=>
  exact rfl
 |cons x l B=>
  show sortBy.cf lt (a0 x) (sortBy lt (l.map a0))=_;rw[B,Sm];rfl
def Fp {α:Type}{lt:α->α->aB}{x:α}:∀{l:ah α},(sortBy.cf lt x l).Perm (x :: l):=by
 intro l;induction l with
 |nil=>
  exact .refl _
 |cons y l B=>
  show(if lt y x then y :: sortBy.cf lt x l else x :: y :: l).Perm _;split
  ·exact(wR y B).trans (.swap ..)
  ·exact .refl _
def Fq {α:Type}{lt:α->α->aB}:∀{l:ah α},(sortBy lt l).Perm l:=by
 intro l;induction l with
 |nil=>
  exact .refl _
 |cons _ r B=>
  exact Fp.trans (.cons _ B)
def Sn:∀{l:ah Tr},gL b l->(∀y∈l,f5 x y)->gL b (sortBy.cf (bf b) x l):=by
 intro l;induction l with
 |nil=>
  intro _ _;exact BD ..
 |cons y l ih=>
  intro h hd;obtain⟨h1,h2⟩:=lG.mp h;show gL b (if bf b y x then y :: sortBy.cf (bf b) x l else x :: y :: l);split
  ·rename_i hy;refine lG.mpr ⟨λz hz=>?_,ih h2 λz hz=>hd z (.tail _ hz)⟩;rcases bu.mp (Fp.mem_iff.mp hz)with rfl |hz
   ·exact hy
   ·exact h1 z hz
  ·rename_i hy;obtain vt:bf b x y=aj:=l3 (hd y (.head _)).symm (by simpa using hy);refine lG.mpr ⟨λz hz=>?_,h⟩;rcases bu.mp hz with rfl |hz
   ·exact vt
   ·exact lZ vt (h1 z hz)
def dN.tail {l:ah Tr}(h:dN (x :: l)):dN l:=λi j a b D E B=>h (i+1) (j+1) a b (by lia) E B
def dN.head {l:ah Tr}(h:dN (x :: l)):∀y∈l,f5 x y:=λy D=>by
 obtain⟨i,B,e⟩:=List.getElem_of_mem D;exact h 0 (i+1) x y (by exact NE (FI 0 0 1 1 ZZ rfl)) rfl (by rw[IT,cy B,e])
def So:∀{l:ah Tr},dN l->gL b (sortBy (bf b) l):=by
 intro l;induction l with
 |nil=>
  intro _;exact BE
 |cons x l D=>
  intro h;exact Sn (D h.tail) λy B=>h.head y (Fq.mem_iff.mp B)
def Fs:cX (x.1,x.2.1) (y.1,y.2.1)=fO x y:=by
 unfold cX fO;by_cases e:x.1=y.1
 ·rw[aN e];simp[e]
 ·rw[aK e];simp[e]
def Sp:rO (L.map tv)=ae (L.map kk):=by
 induction L with
 |nil=>rfl
 |cons t L B=>show(rO (L.map tv)).map _=_;rw[B];rfl
def Sq (hd:dN L):((L.map kk).map (·.1)).Nodup:=by
 rw[oM];unfold List.Nodup;rw[List.pairwise_map,xo];intro i j D E B e;have:=hd i j _ _ (by exact NE (B)) (cy D) (cy E);obtain e:(L[i].1,L[i].2.1)=(L[j].1,L[j].2.1):=e;injection e with e1 e2;exact this e1 e2
def Sr {a0:ah AV->St->Prop}(h4:L.length<=4)(hs:gL b S)(hp:L.Perm S)(q:a0 (S.map tv) B):WP (uI b (L.map tv)) B a0 E:=by
 obtain D:dN L:=hs.dist.perm hp.symm;unfold uI;refine av (dU Sp (av (bw ⟨Sq D,by rw[aO];exact h4⟩ (aQ ?_))));obtain e:(λx y:(Int×Int)×AV=>if b then cX y.1 x.1 else cX x.1 y.1)=(λx y=>if b then cX y.1 x.1 else cX x.1 y.1):=rfl;rw[lS,oM];have F:(λa c:Tr=>if b then cX (kk c).1 (kk a).1 else cX (kk a).1 (kk c).1)=bf b:=by
  funext a c
  show(if b then cX (c.1,c.2.1) (a.1,a.2.1)else cX (a.1,a.2.1) (c.1,c.2.1))=_;rw[Fs,Fs];rfl
 rw[F,Sl (So D) hs (Fq.trans hp)];exact q
def Ss:bf (!b) x y=bf b y x:=by cases b <;>rfl
def Ft {r:Tr}(h:kW (!b) (r :: L))(hs:gL b S)(hp:(r :: L).Perm S):∃S0,S=S0++[r]/\L.Perm S0:=by
 have D:S≠[]:=λe=>by rw[e]at hp;exact absurd hp.length_eq (by simp)
 have e:=BF D;generalize S.getLast D=z at e;generalize S.dropLast=S0 at e;subst e;have G:z=r:=by
  obtain E:z∈r :: L:=hp.symm.mem_iff.mp (ia _ (aJ.mpr rfl));rcases bu.mp E with e |Su
  ·exact e
  ·have F:=h.root z Su;rw[Ss]at F;have B:r∈S0++[z]:=hp.mem_iff.mp (.head _);rcases dX.mp B with B |B
   ·obtain H:=(xp.mp hs).2.2 r B z (aJ.mpr rfl);have:=lZ F H;rw[v7]at this;cases this
   ·exact(aJ.mp B).symm
 subst G;exact⟨S0,rfl,List.Perm.cons_inv (hp.trans (BC.trans (.refl _)))⟩
def Sv {t r:Tr}(h:bg b t.1 r.1=aj):∀{S:ah Tr},iF b t (S++[r])=iF b t S++[r]:=by
 intro l;induction l with
 |nil=>
  show(if bg b t.1 r.1 then _ else _)=_;rw[aN h];rfl
 |cons x S B=>
  show(if bg b t.1 x.1 then _ else x :: iF b t (S++[r]))=(if bg b t.1 x.1 then _ else _)++[r];split
  ·rfl
  ·rw[B];rfl
def Sw {t:Tr}:∀{S:ah Tr},(∀x∈S,bg b t.1 x.1=az)->iF b t S=S++[t]:=by
 intro l;induction l with
 |nil=>
  intro _;exact rfl
 |cons x S B=>
  intro h;show(if bg b t.1 x.1 then _ else x :: iF b t S)=_;rw[h x (.head _),B λy D=>h y (.tail _ D)];rfl
def Sx {t r:Tr}(h:bg b t.1 r.1=az)(hx:bf b x r=aj):bg b t.1 x.1=az:=by
 unfold bg at h |-;unfold bf fO at hx;cases b with
 |false=>
  obtain h:=jG h;obtain hx:(if x.1=r.1 then decide (x.2.1 < r.2.1)else decide (x.1 < r.1))=aj:=hx;refine pK ?_;by_cases e:x.1=r.1
  ·exact λg=>h (e ▸ g)
  ·rw[aK e]at hx;exact λg=>h (uq g (gz hx))
 |true=>
  obtain h:=jG h;obtain hx:(if r.1=x.1 then decide (r.2.1 < x.2.1)else decide (r.1 < x.1))=aj:=hx;refine pK ?_;by_cases e:r.1=x.1
  ·exact λg=>h (e ▸ g)
  ·rw[aK e]at hx;exact λg=>h (uq (gz hx) g)
def Fu {K:ah (Int×AV)}{x:Int×AV}:fz b n (K++[x])=(bV b x (fz b n K)).take n:=by
 unfold fz;rw[ux];rfl
def zC {x:Int×AV}:∀{S:ah (Int×AV)},(bV b x S).length=S.length+1:=by
 intro l;induction l with
 |nil=>
  exact rfl
 |cons y S B=>
  rw[Sj];split
  ·rfl
  ·rw[ft,B];rfl
def Sy:∀(K S:ah (Int×AV)),S.length<=n->(K.foldl (λS x=>(bV b x S).take n) S).length=min n (S.length+K.length):=by
 intro l;induction l with
 |nil=>
  intro S h;show S.length=min n (S.length+0);exact AN ((LO (h))) (MR)
 |cons x K B=>
  intro S h;show(K.foldl _ ((bV b x S).take n)).length=_;rw[B _ (by rw[er];exact ML),er,zC,ft];rcases IV n (S.length+1)with h1 |h1
  ·rw[ng (nC h1),ng (tq _ _),ng (TT (Nat.le_of_lt_succ h1) AL)]
  ·rw[tN h1,qN,Aj 1]
def Fv (K:ah (Int×AV)):(fz b n K).length=min n K.length:=by
 unfold fz;rw[Sy K [] (cZ _)];show min n (0+_)=_;rw[kg]
def kY.skip {r:Tr}{K:ah (Int×AV)}{k:Int}{e:AV}(h:kY b n (r :: L) S K)(hb:bg b k r.1=az):kY b n (r :: L) S (K++[(k,e)]):=by
 obtain⟨F,D,G,H,E⟩:=h;refine⟨F,D,G,?_,E⟩;obtain⟨I,rfl,_⟩:=Ft F D G;rw[Fu,<-H];obtain J:(k,e)=kv (k,0,e):=rfl;rw[J,<-zB,Sw (λx B=>?_)]
 ·rw[dH (l₁:=I++[r]),IW (by rw[aO];exact E)]
 ·rcases dX.mp B with B |B
  ·exact Sx (t:=(k,0,e)) hb ((xp.mp D).2.2 x B r (aJ.mpr rfl))
  ·rw[aJ.mp B];exact hb
theorem kY.swap {r:Tr}{K:ah (Int×AV)}{k o:Int}{e:AV}(h:kY b n (r :: L) S K)(hb:bg b k r.1=aj)(hl:Later b (k,o,e) S):
  dN ((k,o,e) :: L)/\∃S',kY b n (cN (!b) ((k,o,e) :: L) 0) S' (K++[(k,e)])/\∀x∈S',x=(k,o,e)\/x∈S:=by
 obtain⟨G,I,N,O,J⟩:=h;obtain⟨F,rfl,D⟩:=Ft G I N;obtain E:Later b (k,o,e) F:=λx B=>hl x (gQ _ B);have Fw:=Fo (xp.mp I).1 E;have qI:((k,o,e) :: L).Perm (iF b (k,o,e) F):=(wR _ D).trans px.symm;have H:dN ((k,o,e) :: L):=Fw.dist.perm qI.symm;obtain⟨Q,M⟩:=Sh G H;refine⟨H,iF b (k,o,e) F,⟨Q,Fw,M.trans qI,?_,?_⟩,λx B=>?_⟩
 ·rw[Fu,<-O];obtain R:(k,e)=kv (k,o,e):=rfl;rw[R,<-zB,Sv hb,dH,IW ?_];rw[aO,px.length_eq,<-J,bK];rfl
 ·rw[px.length_eq,<-J,bK];rfl
 ·rcases bu.mp (px.mem_iff.mp B)with rfl |B
  ·exact .inl rfl
  ·exact .inr (gQ _ B)
def Fr.refl (D:ak->Prop)(B:St):Fr D B B:=⟨a4 _,λu u u=>rfl⟩
def Fr.trans {a b c:St}(x:Fr D a b)(y:Fr D b c):Fr D a c:=
 ⟨dW x.len y.len,λi B E=>(y.keep i (gV B x.len) E).trans (x.keep i B E)⟩
def Fr.mono {D':ak->Prop}{a b:St}(x:Fr D a b)(h:∀i,D i->D' i):Fr D' a b:=⟨x.len,λi E F=>x.keep i E λB=>F (h i B)⟩
def Fr.get {a b:St}(x:Fr D a b)(h:a[i]? =ae o)(hd: ¬ D i):b[i]? =ae o:=by
 rw[x.keep i (cF.mp h).1 hd];exact h
def Fr.app {l:St}:Fr D B (B++l):=⟨by rw[bK];exact AL,λi E u=>lB E⟩
def Fr.set (h:D i):Fr D B (B.set i o):=⟨by rw[eM];exact a4 _,λj u E=>by
 by_cases e:i=j
 ·subst e;exact absurd h E
 ·exact jB e⟩
def Fr.old {D':ak->Prop}{a b c:St}(x:Fr D a b)(y:Fr D' b c)(h:∀i,i < a.length->D' i->D i):Fr D a c:=
 ⟨dW x.len y.len,λi B E=>(y.keep i (gV B x.len) λF=>E (h i B F)).trans (x.keep i B E)⟩
def gr {a0:AV->St->Prop}{x:aI}{c:ak}(e:O.lookup (aq x)=ae c)(e2:B[c]? =ae (.cell (ae v)))(h:a0 v B):WP (eC x ⟨F,O,I⟩) B a0 E:=EY e e2 h
def y_L {a0:AV->St->Prop}(h:a0 v B)(e:I[i]? =ae (ae v):=by wtm_at "pr"):WP (eL i ⟨F,O,I⟩) B a0 E:=EX e h
def y_pL {a0:ah (ax AV)}(h:QL a0 B)(e:I.set i (ae v)=a0:=by wtm_at "pl"):WP (pL i v ⟨F,O,I⟩) B QL E:=cu e h
def y_C {a0:AV->St->Prop}{x:aI}{c:ak}(h:a0 v B)(e:O.lookup (aq x)=ae c:=by wtm_at "cel")(e2:B[c]? =ae (.cell (ae v)):=by wtm_at "lk"):WP (eC x ⟨F,O,I⟩) B a0 E:=EY e e2 h
def y_pC {x:aI}{c:ak}{v':ax AV}(h:QL I (B.set c (.cell (ae v))))(e:O.lookup (aq x)=ae c:=by wtm_at "cel")(e2:B[c]? =ae (.cell v'):=by wtm_at "lk"):WP (pC x v ⟨F,O,I⟩) B QL E:=nY e e2 h
def x_pAttr {o:DE}{x:aI}(h:WP (o ⟨F,O,I⟩) B (ED x v I QL E) E):WP (sr o x v ⟨F,O,I⟩) B QL E:=Rn h
def x_Try {QF:FL×ah (ax AV)->St->Prop}{put:DA}{a0:aI->aB}{hd:DS}{o:ah DS}(h:WP (e ⟨F,O,I⟩) B (EH put ⟨F,O,I⟩ o F O QF E) (EI a0 (hd ⟨F,O,I⟩) QF E)):WP (sx put e a0 hd o ⟨F,O,I⟩) B QF E:=Rv h
def iJ {cs:ah (au×ak)}{a0:AV->St->Prop}{c0:bN}{e0:aB}{d0:DI}{put:DA}{L:ah (ax AV)}(hp:fc c0=aj)(hc:fM ⟨F,O,I⟩ c0.names []=ae cs)(hn:∀cs,ky c0.names cs=P.pure cs)(hL:(c0.names.map λc=>ag)=L)(h:WP (d0 ⟨F,O,I⟩) B (EJ e0 elt ifs put ⟨F,cs,L⟩ a0 E) E):WP (d9 c0 e0 d0 put ifs elt ⟨F,O,I⟩) B a0 E:=by
 subst hL;exact RA hp hc hn h
def v8 {a0:AV->St->Prop}{o:DE}{l:ah DE}(hk:l.length+ks.length < 28)(h:WP (o ⟨F,O,I⟩) B (EF F mm l ks ⟨F,O,I⟩ a0 E) E):WP (bX o mm l ks ⟨F,O,I⟩) B a0 E:=
 EZ hk (h.a5 λu u h=>⟨λc=>absurd c h.1,λu=>h.2⟩)
def y_pTup {l:ah DA}(h:WP (ji l vs Q) B QL E)(e:gd v=ae vs:=by wtm_at "pr")(hl:vs.length=l.length:=by wtm_at "pr"):WP (cx l v Q) B QL E:=vV e hl h
abbrev y_Aug {st:St}{E:aI->St->Prop}{QF:FL×ah (ax AV)->St->Prop}{rt:RT}{put:DA}{e x:DE}:=vW (Q:=rt) (B:=st) (a0:=QF) (E:=E) (e:=e) (x:=x) (put:=put) (op:=.Add) (.inl rfl)
abbrev y_Sub {st:St}{E:aI->St->Prop}{QF:FL×ah (ax AV)->St->Prop}{rt:RT}{put:DA}{e x:DE}:=vW (Q:=rt) (B:=st) (a0:=QF) (E:=E) (e:=e) (x:=x) (put:=put) (op:=.Sub) (.inr rfl)
def y_Meth {a0:AV->St->Prop}{o:DE}{l:ah DE}(h:WP (o ⟨F,O,I⟩) B (EF F mm l ks ⟨F,O,I⟩ a0 E) E)(hk:l.length+ks.length < 28:=by decide):WP (bX o mm l ks ⟨F,O,I⟩) B a0 E:=v8 hk h
def Sz {a0:AV->St->Prop}{a:fj}{b:aH}{s:bN}{c:ah (au×ak)}(e:B[i]? =ae (.lam a b s c))(h:WP (F (.ref i) args kw) B a0 E):WP (eu ⟨F,O,I⟩ (.ref i) args kw) B a0 E:=
 av (dj e h)
def SA {a0:AV->St->Prop}{s:ax ak}(e:B[i]? =ae (.iter s k))(h:E "TypeError" B):WP (eu ⟨F,O,I⟩ (.bi "len") [.ref i] []) B a0 E:=mX rfl (av (fG (av (e6 (av (eh (av (dj e (EW h)))))))))
def Fx {a0:AV->St->Prop}(e:B[i]? =ae (.list l))(h:a0 (.ref B.length) (B++[.iter (ae i) 0])):WP (eu ⟨F,O,I⟩ (.bi "iter") [.ref i] []) B a0 E:=mX rfl (av (fG (av (e6 (av (eh (av (dj e (av (eJ (aQ h)))))))))))
def SD {a0:AV->St->Prop}{s:ax ak}(e:B[i]? =ae (.iter s k))(h:a0 (.ref i) B):WP (eu ⟨F,O,I⟩ (.bi "iter") [.ref i] []) B a0 E:=mX rfl (av (fG (av (e6 (av (eh (av (dj e (aQ h)))))))))
def SE {a0:AV->St->Prop}(h:a0 (.ref B.length) (B++[.obj])):WP (eu ⟨F,O,I⟩ (.ty "object") [] []) B a0 E:=mY rfl (av (zA (av (e6 (av (eJ (aQ h)))))))
def hY {a0:b8->St->Prop}(e:B[i]? =ae (.list l))(hm:mm= .append\/mm= .extend\/mm= .pop\/mm= .sort)(h:a0 () B):WP (lJ (.ref i) mm) B a0 E:=av (dj e (bw hm h))
def jv {a0:AV->St->Prop}(e:B[i]? =ae (.list l))(hl:l.length<=4096)(h:a0 .none (B.set i (.list (l++[v])))):WP (fb F (.ref i) .append [v] []) B a0 E:=
 av (eh (av (fG (av (e6 (av (fE e (av (bw hl (av (lg (aQ h))))))))))))
def sV {n:au}{x:AV}{l:ah (au×AV)}{a0:AV×ah (au×AV)->St->Prop}(h:a0 (x,l) B):WP (p9 n ((n,x) :: l)) B a0 E:=av (bw rfl (aQ h))
def zD {a0:aB->St->Prop}(h:a0 b B):WP (uK (if b then [(aq "reverse",.bool aj)]else [])) B a0 E:=by
 cases b with
 |false=>exact h
 |true=>exact av (sV h)
def t_t {c0 a0:Prop}(h:c0):(aj=aj->c0)/\(aj=az->a0):=⟨λu=>h,λe=>absurd e (by decide)⟩
def t_f {c0 a0:Prop}(h:a0):(az=aj->c0)/\(az=az->a0):=⟨λe=>absurd e (by decide),λu=>h⟩
def tup2 {a0:AV->St->Prop}{b:AV}(h:a0 (.pair a b) B):WP (oO [a,b]) B a0 E:=h
def tup3 {a0:AV->St->Prop}{b c:AV}(h:a0 (.dB a b c) B):WP (oO [a,b,c]) B a0 E:=h
def zE (h:QB (xD a) B):WP (dQ .Is a .none) B QB E:=h
def tr_none {a0:aB->St->Prop}(h:a0 az B):WP (eE .none) B a0 E:=h
def tr_bool {a0:aB->St->Prop}(h:a0 b B):WP (eE (.bool b)) B a0 E:=h
def tr_int {i:Int}{a0:aB->St->Prop}(h:a0 (i != 0) B):WP (eE (.int i)) B a0 E:=h
def sW {s:au}{a0:aB->St->Prop}(hl:s.length<=4096)(h:a0 (s.length != 0) B):WP (eE (.str s)) B a0 E:=av (bw hl (aQ h))
def pz {a0:aB->St->Prop}(e:B[i]? =ae (.list l))(h:a0 (!l.isEmpty) B):WP (eE (.ref i)) B a0 E:=av (dj e (aQ h))
def SF {l:ah ((au ⊕ Int)×AV)}{a0:aB->St->Prop}(e:B[i]? =ae (.dict l))(h:a0 (!l.isEmpty) B):WP (eE (.ref i)) B a0 E:=av (dj e (aQ h))
def sX {a0:AV->St->Prop}{t:AV}{j:Int}(hj:0<=j/\j < 8)(e:gd t=ae l)(ev:l[j.toNat]? =ae v)(h:a0 v B):WP (iw t (.int j)) B a0 E:=by
 cases t with
 |ref i=>exact nomatch e
 |_=>exact av (w_strict (av (bw hj (av (dU e (dU ev h))))))
def lk_here {x:au}{c:ak}{l:ah (au×ak)}:rB x ((x,c) :: l)=ae c:=by rw[gx];simp
def lk_next {x y:au}{c:ak}{l:ah (au×ak)}(h:(x == y)=az)(k:rB x l=ae d):rB x ((y,c) :: l)=ae d:=by rw[gx,h];exact k
def g_last {α:Type}{B:ah α}{o:α}:(B++[o])[B.length]? =ae o:=by simp
def g_app {α:Type}{B l:ah α}{o:α}(h:B[i]? =ae o):(B++l)[i]? =ae o:=by rw[lB (cF.mp h).1];exact h
def g_ne {α:Type}{B:ah α}{o o':α}(h:j≠i)(h2:B[i]? =ae o):(B.set j o')[i]? =ae o:=by rw[jB h];exact h2
def de {α:Type}{B:ah α}{o o':α}(h:B[i]? =ae o):(B.set i o')[i]? =ae o':=me (cF.mp h).1
def ba {α:Type}{B:ah α}{o:α}(h:B[i]? =ae o):i < B.length:=(cF.mp h).1
def cC {α:Type}{B:ah α}{o o':α}(h:B[i]? =ae o)(h2:B[j]? =ae o')(a0:o≠o'):i≠j:=λe=>by subst e;rw[h]at h2;exact a0 (dp h2)
def lh {B:St}{a0:FL×ah (ax AV)->St->Prop}{put:DA}{c0:ak->ah (ax AV)->St->Prop}{U:AI}{L:ah (ax AV)}(y:Yl G U K)(hl:K.length < 128)(hG:∀k I B,c0 k I B->G B)(h0:c0 0 L B)(hs:∀k v I B,K[k]? =ae v->c0 k I B->WP (put v ⟨F,O,I⟩) B (kL body F O (Left (c0 (k+1)) a0) E) E)(he:∀I B,c0 K.length I B->a0 (.next,I) B):WP (forA body put 128 U ⟨F,O,L⟩) B a0 E:=
 Rx 128 0 U ⟨F,O,L⟩ B y (cZ _) (by exact hl) hG h0 hs he
def mU.mk {x2:ax AV}:mU [x0,x1,x2]:=⟨_,_,_,rfl⟩
def jr.mk {x2:ax AV}:jr [x0,x1,x2,x3]:=⟨_,_,_,_,rfl⟩
def lU.mk {x2:ax AV}:lU [x0,x1,x2,x3,x4]:=⟨_,_,_,_,_,rfl⟩
def l4 {B:St}{QL:ah AV->St->Prop}{put:DA}{a0:ak->ah AV->ah (ax AV)->St->Prop}{U:AI}{L:ah (ax AV)}(y:Yl G U K)(hl:K.length < 128)(hG:∀k acc I B,a0 k acc I B->G B)(h0:a0 0 [] L B)(hs:∀k v acc I B,K[k]? =ae v->a0 k acc I B->WP (put v ⟨F,O,I⟩) B (QK ifs elt F O (a0 (k+1)) acc E) E)(he:∀acc I B,a0 K.length acc I B->QL acc B):WP (cw elt ifs put 128 U ⟨F,O,L⟩ []) B QL E:=
 zx 128 0 U ⟨F,O,L⟩ B [] y (cZ _) (by exact hl) hG h0 hs he
def SG:∃a0,yW=qy az a0:=⟨_,rfl⟩
def SH:∃a0,yX=qy aj a0:=⟨_,rfl⟩
def v9 {x:AV}{a0:ax (AV×AI)->St->Prop}(h:It B U s j K)(hx:K[j]? =ae x)(q:a0 (ae (x,.obj U)) (B.set U (.iter (ae s) (j+1)))):WP (bx (.obj U)) B a0 E:=by
 refine av (dj h.1 (av (fE h.2 ?_)));rw[hx];exact av (lg (aQ q))
def zF {a0:ax (AV×AI)->St->Prop}(h:It B U s j K)(hx:K.length<=j)(q:a0 ag (B.set U (.iter ag 0))):WP (bx (.obj U)) B a0 E:=by
 refine av (dj h.1 (av (fE h.2 ?_)));rw[rJ hx];exact av (lg (aQ q))
def It.turn (h:It B U s j K):It (B.set U (.iter (ae s) k)) U s k K:=
 ⟨de h.1,g_ne (cC h.1 h.2 (by simp)) h.2⟩
def It.fr (h:It B U s j K)(a0:Fr D B H)(h1: ¬ D U)(h2: ¬ D s):It H U s j K:=⟨a0.get h.1 h1,a0.get h.2 h2⟩
def It.app {l:St}(h:It B U s j K):It (B++l) U s j K:=⟨g_app h.1,g_app h.2⟩
def Fy {I:ah (ax AV)}{B:St}{a0:ah AV->St->Prop}{put:DA}{U d0:AI}{c0:ah AV}(h:WP (bx U) B (λo B=>o=ae (v,d0)/\WP (put v ⟨F,O,I⟩) B (λI B=>mR ⟨F,O,I⟩ (λc B=>(c=aj->c0.length<=4096/\WP (elt ⟨F,O,I⟩) B (λx B=>WP (cw elt ifs put n d0 ⟨F,O,I⟩ (c0++[x])) B a0 E) E)/\
    (c=az->WP (cw elt ifs put n d0 ⟨F,O,I⟩ c0) B a0 E)) E ifs B) E) E):WP (cw elt ifs put (n+1) U ⟨F,O,I⟩ c0) B a0 E:=
 zw (h.a5 λo B h=>by obtain⟨rfl,h⟩:=h;exact h)
def wa {B:St}{a0:ah AV->St->Prop}{put:DA}{U:AI}{c0:ah AV}(h:WP (bx U) B (λo B=>o=ag/\a0 c0 B) E):WP (cw elt ifs put (n+1) U ⟨F,O,I⟩ c0) B a0 E:=
 zw (h.a5 λo B h=>by obtain⟨rfl,h⟩:=h;exact h)
def qJ {a0:aB->St->Prop}(h:a0 aj B):mR Q a0 E [] B:=h
def zG:∀{V:ah Int} {K:ah AV} {i j:ak} {r:Int} {x:AV},V[j]? =ae r->K[j]? =ae x->(dh b i V K)[j]? =ae (tr b (i+j) r x):=by
 intro D;induction D with
 |nil=>
  intro _ _ _ _ _ h _;exact nomatch h
 |cons H V G=>
  intro E;cases E with
  |nil=>
   intro _ _ _ _ _ h;exact nomatch h
  |cons _ K=>
   intro i F;cases F with
   |zero=>
    intro _ _ h B;cases h;cases B;rfl
   |succ j=>
    intro r x h B;have:=G (i:=i+1) (j:=j) h B;rw[show i+(j+1)=i+1+j by lia];exact this
def sY:∀{V:ah Int} {K:ah AV} {i:ak},(dh b i V K).length=min V.length K.length:=by
 intro B;induction B with
 |nil=>
  intro K _;cases K <;>exact(IY _).symm
 |cons F V E=>
  intro D;cases D with
  |nil=>
   intro _;exact(IZ _).symm
  |cons _ K=>
   intro i;exact(bZ (· +1) E).trans (I9 ..).symm
def take_snoc {α:Type}{a0:ah α}{t:α}(h:a0[j]? =ae t):a0.take (j+1)=a0.take j++[t]:=by
 rw[AX,h];rfl
def SI:ec b i+stepI b=ec b (i+1):=by cases b <;>simp[ec,stepI]<;>lia
def SJ {a0:ax (AV×AI)->St->Prop}{c d:Int}{m:ak}{x:AV}(h:It B U s j K)(hx:K[j]? =ae x)(q:a0 (ae (.pair (.int c) x,.zip (.range (c+d) m d) (.obj U))) (B.set U (.iter (ae s) (j+1)))):WP (bx (.zip (.range c (m+1) d) (.obj U))) B a0 E:=
 av (aQ (av (v9 h hx (aQ q))))
def FA {a0:ax (AV×AI)->St->Prop}{c d:Int}(q:a0 ag B):WP (bx (.zip (.range c 0 d) (.obj U))) B a0 E:=av (aQ (aQ q))
def SK {a0:ax (AV×AI)->St->Prop}{c d:Int}{m:ak}(h:It B U s j K)(hx:K.length<=j)(q:a0 ag (B.set U (.iter ag 0))):WP (bx (.zip (.range c (m+1) d) (.obj U))) B a0 E:=
 av (aQ (av (zF h hx (aQ q))))
def jR.call {a0:AV->St->Prop}(h:jR B T)(q:WP (F T args []) B a0 E):WP (eu ⟨F,O,I⟩ T args []) B a0 E:=by
 obtain⟨i,a,e,D,G,rfl,h⟩:=h;exact Sz h q
def iX.turn {JE:St->Prop}(ko:iX F T D J JE K V)(h:J j B)(hd: ¬ D U):J j (B.set U o):=
 ko.zj j B _ h (by rw[eM];exact a4 _) λi E=>jB λe=>hd (by rw[e];exact E)
def iX.app {JE:St->Prop}{l:St}(ko:iX F T D J JE K V)(h:J j B):J j (B++l):=
 ko.zj j B _ h (by rw[bK];exact tq _ _) λi E=>lB (ko.inside j B h i E)
def SM {JE:St->Prop}{c:ak}{a0:ah AV->St->Prop}(ko:iX F T D J JE K V)(e0:∀j B,J j B->jR B T)(d0: ¬ D U)(hs: ¬ D s)(hc: ¬ D c)(hn:n<=4)(q:∀H,Fr (With D U) df H->min n K.length<=V.length->J (min n K.length) H->H[c]? =ae (.cell (ae T))->(n<=K.length->It H U s n K)->(K.length < n->H[U]? =ae (.iter ag 0))->a0 (((dh b 0 V K).take (min n K.length)).map tv) H)(e:∀H,Fr (With D U) df H->V.length < K.length->JE H->It H U s (V.length+1) K->E "AttributeError" H):
  ∀(m j c0:ak) (B:St) (x0 x1 x2 x3:ax AV),m < c0->j+m=n->j<=V.length->It B U s j K->J j B->B[c]? =ae (.cell (ae T))->Fr (With D U) df B->
  WP (cw yR [] (cx [(pL 1),(pL 2)]) c0 (.zip (.range (ec b j) m (stepI b)) (.obj U)) ⟨F,[(aq "key",c)],[x0,x1,x2,x3]⟩ (((dh b 0 V K).take j).map tv)) B a0 E:=by
 intro m;induction m with
 |zero=>
  intro j c0 B x0 x1 x2 x3 f hj W N w G z;cases c0 with
  |zero=>exact XX 1 0 (CH 1 0 0 0 f ZZ) rfl
  |succ c0=>
   refine wa (FA ⟨rfl,?_⟩);obtain X:=ko.le;have:j=n:=by exact AN ((EL hj)) ((EG hj))
   subst this;have e1:min j K.length=j:=by exact AN (ML) ((LN (TT W ko.le)))
   have:=q B z;rw[e1]at this;exact this W w G (λv=>N) λh=>by exact XX 1 0 (CH 0 0 1 0 (CH 0 0 0 0 W X) h) rfl
 |succ m ih=>
  intro j c0 B x0 x1 x2 x3 f hj W N w G z;cases c0 with
  |zero=>exact XX 1 0 (CH 1 0 0 0 f ZZ) rfl
  |succ c0=>
   obtain X:=ko.le;obtain L:∀o,Fr (With D U) B (B.set U o):=λo=>Fr.set (Or.inr rfl);obtain M:U≠c:=cC N.1 G (by simp);cases A:K[j]? with
   |none=>
    obtain Y:K.length<=j:=nu.mp A;refine wa (SK N Y ⟨rfl,?_⟩);have e1:min n K.length=j:=by exact AN (TT MR Y) (TT W (TT ko.le (LO (TT Y (TT AL (EL hj))))))
    have:=q _ (z.trans (L (.iter ag 0)));rw[e1]at this;exact this W (ko.turn w d0) (g_ne M G) (λh=>by lia) λv=>de N.1
   |some x=>
    refine Fy (SJ N A ⟨rfl,?_⟩);obtain Y:j < K.length:=(cF.mp A).1;obtain R:=N.turn (k:=j+1);obtain O:=ko.turn (o:=.iter (ae s) (j+1)) w d0;obtain Z:(B.set U (.iter (ae s) (j+1)))[c]? =ae (.cell (ae T)):=g_ne M G;obtain S:=z.trans (L (.iter (ae s) (j+1)));generalize B.set U (.iter (ae s) (j+1))=a7 at R O Z S;wtm_at "r";refine qJ ?_;refine t_t ?_;refine⟨by rw[aO,er];lia,?_⟩;unfold yR;wtm_at "r";refine(e0 _ _ O).call ((ko.call j x a7 A O).mono (λv I h=>?_) λk I h=>?_)
    ·obtain⟨r,l,rfl,u,h4⟩:=h;wtm_at "r";obtain h5:Fr (With D U) a7 I:=h4.mono λi hi=>Or.inl hi;have e3:((dh b 0 V K).take j).map tv++[.dB (.int r) (.int (ec b j)) x]=((dh b 0 V K).take (j+1)).map tv:=by
      rw[take_snoc (zG l A),dH,kg];rfl
     rw[e3,SI];exact ih (j+1) c0 I _ _ _ _ (by exact FI 2 1 1 0 f rfl) (by lia) (ba l) (R.fr h4 d0 hs) u (h4.get Z hc) (S.trans h5)
    ·obtain⟨rfl,l,h2,u⟩:=h;subst l;exact e I (S.trans (u.mono λi hi=>Or.inl hi)) Y h2 (R.fr u d0 hs)
def SN {k t:Int}(h1:I[i]? =ae (ae (.int t)))(h2:I[j]? =ae (ae (.int k)))(q:QB (bg b k t) B):
  WP ((if b then aR .Lt (eL i) (eL j)else aR .Lt (eL j) (eL i)) ⟨F,O,I⟩) B QB E:=by
 cases b with
 |false=>exact w_tCmp (aM h2 (aM h1 (c_lt q)))
 |true=>exact w_tCmp (aM h1 (aM h2 (c_lt q)))
def SO {a0:FL×ah (ax AV)->St->Prop}{o:ak}{c0:ah (ax AV)}(h1:I[i]? =ae (ae (.int (ec b o))))(hl:I.set i (ae (.int (ec b (o+1))))=c0)(q:a0 (.next,c0) B):
  WP (o9 (pL i) (eL i) (if b then .Sub else .Add) (eK (.int 1)) ⟨F,O,I⟩) B a0 E:=by
 subst hl;cases b with
 |false=>exact vW (.inl rfl) (aM h1 (w_strict (w_K (w_strict (b_add (cu rfl q))))))
 |true=>
  refine vW (.inr rfl) (aM h1 (w_strict (w_K (w_strict (b_sub (cu rfl ?_))))));have:ec aj o - 1=ec aj (o+1):=by simp[ec];lia
  rw[this];exact q
def qA.succ {o:ak}(h:qA b o S):qA b (o+1) S:=λx B=>by
 have:=h x B;cases b with
 |false=>
  have h:x.2.1 < (o:Int):=this;show x.2.1 < ((o+1:ak):Int)
  lia
 |true=>
  have h: -(o:Int) < x.2.1:=this;show -((o+1:ak):Int) < x.2.1
  lia
def SP {JE:St->Prop}{c r:ak}{a0:FL×ah (ax AV)->St->Prop}(ko:iX (FN (k0+3)) T D J JE K V)(h0:∀j B,J j B->jR B T)(e0: ¬ D U)(hs: ¬ D s)(hc: ¬ D c)(hr: ¬ D r)(f0:r≠U)(u0:r≠s)(n1:AV)(g x4 x6:ax AV)(q:∀H lL L S,Fr (With (With D U) r) df H->K.length=V.length->J K.length H->H[U]? =ae (.iter ag 0)->Hp H r L->kY b n L S (V.zip K)->lL[5]? =ae (ae (.ref r))->a0 (.next,lL) H)(e:∀H,Fr (With (With D U) r) df H->V.length < K.length->JE H->It H U s (V.length+1) K->E "AttributeError" H):
  ∀(c0 j o:ak) (B:St) (L S:ah Tr) (d0:Int) (x7 bS f Y:ax AV),K.length < c0+j->j<=V.length->It B U s j K->J j B->B[c]? =ae (.cell (ae T))->Fr (With (With D U) r) df B->
  kY b n L S ((V.zip K).take j)->Hp B r L->(L.map (·.1)).head? =ae d0->qA b o S->
  WP (forA (sq (yS b)) (pL 7) c0 (.obj U) ⟨FN (k0+3),[(aq "key",c)],[ae n1,g,ag,ae (.ref U),x4,ae (.ref r),x6,x7,ae (.int d0),ae (.int (ec b o)),ae (.fn (aq (if !b then "_heapreplace_max" else "heapreplace"))),bS,f,Y,ag,ag,ag,ag,ag,ag,ag,ag,ag,ag,ag]⟩) B a0 E:=by
 intro c0;induction c0 with
 |zero=>
  intro j o B L S d0 x7 bS f Y hm hj w hJ R hf O hp W ho;have:=ko.le;lia
 |succ c0 ih=>
  intro j o B L S d0 x7 bS f Y hm hj w hJ R hf O hp W ho;obtain o0:=ko.le;obtain X:∀o,Fr (With (With D U) r) B (B.set U o):=λo=>Fr.set (Or.inl (Or.inr rfl));obtain p0:U≠c:=cC w.1 R (by simp);obtain w0:r≠c:=cC hp R (by simp);cases hx:K[j]? with
  |none=>
   obtain hl:K.length<=j:=nu.mp hx;refine sS (zF w hl ⟨rfl,?_⟩);have e1:j=K.length:=by exact AN (TT hj o0) (hl)
   subst e1;obtain e2:(V.zip K).take K.length=V.zip K:=gA (by rw[p5];exact MR);rw[e2]at O;exact q _ _ L S (hf.trans (X (.iter ag 0))) (by exact AN (hj) (o0)) (ko.turn hJ e0) (de w.1) (g_ne (AH f0) hp) O rfl
  |some x=>
   refine v5 (v9 w hx ⟨rfl,?_⟩);obtain hl:j < K.length:=(cF.mp hx).1;obtain A:=w.turn (k:=j+1);obtain u:=ko.turn (o:=.iter (ae s) (j+1)) hJ e0;obtain r0:(B.set U (.iter (ae s) (j+1)))[c]? =ae (.cell (ae T)):=g_ne p0 R;obtain l:=hf.trans (X (.iter (ae s) (j+1)));obtain s0:Hp (B.set U (.iter (ae s) (j+1))) r L:=g_ne (AH f0) hp;generalize B.set U (.iter (ae s) (j+1))=a7 at A u r0 l s0;unfold yS;wtm_at "r";refine(h0 _ _ u).call ((ko.call j x a7 hx u).mono (λv F h=>?_) λk F h=>?_)
   ·obtain⟨N,z,rfl,h3,h4⟩:=h;wtm_at "r";obtain h5:Fr (With (With D U) r) a7 F:=h4.mono λi hi=>Or.inl (Or.inl hi);obtain m0:=l.trans h5;obtain M:Hp F r L:=h4.get s0 hr;obtain Z:=A.fr h4 e0 hs;obtain g0:=h4.get r0 hc;obtain hz:(V.zip K).take (j+1)=(V.zip K).take j++[(N,x)]:=take_snoc (uy.mpr ⟨z,hx⟩)
    match L,O,M,W with
    | [],O,M,W=>cases W
    |Q :: L,O,M,W=>
     obtain W:Q.1=d0:=dp W;subst W;refine SN rfl rfl ⟨λhb=>?_,λhb=>?_⟩
     ·obtain⟨hd,S',G,v0⟩:=O.swap (e:=x) hb (o:=ec b o) (λy m=>ho y m);wtm_at "r";refine Sg (g:=!b) (t:=(N,ec b o,x)) M rfl (by have:=O.heap.len;exact FI 0 4 1 60 this.2 rfl) hd ?_;obtain I:Hp (F.set r (.list ((cN (!b) ((N,ec b o,x) :: L) 0).map tv))) r (cN (!b) ((N,ec b o,x) :: L) 0):=M.set;show jQ _ _ _ (F.set r (.list ((cN (!b) ((N,ec b o,x) :: L) 0).map tv)));obtain i0:It (F.set r (.list ((cN (!b) ((N,ec b o,x) :: L) 0).map tv))) U s (j+1) K:=⟨g_ne f0 Z.1,g_ne u0 Z.2⟩;obtain n0:=ko.turn (U:=r) (o:=.list ((cN (!b) ((N,ec b o,x) :: L) 0).map tv)) h3 hr;obtain j0:(F.set r (.list ((cN (!b) ((N,ec b o,x) :: L) 0).map tv)))[c]? =ae (.cell (ae T)):=g_ne w0 g0;obtain l0:=m0.trans (Fr.set (D:=With (With D U) r) (i:=r) (o:=.list ((cN (!b) ((N,ec b o,x) :: L) 0).map tv)) (Or.inr rfl));generalize F.set r (.list ((cN (!b) ((N,ec b o,x) :: L) 0).map tv))=bk at I i0 n0 j0 l0;generalize cN (!b) ((N,ec b o,x) :: L) 0=L3 at I G
      match L3,I,G with
      | [],I,G=>exact G.heap.elim
      |t3 :: L3,I,G=>
      wtm_at "r";refine I.at (p:=0) rfl (by decide) ?_;unfold tv;wtm_at "r";refine SO rfl rfl ?_;simp only[gB,gC];wtm_at "r";rw[<-hz]at G;exact ih (j+1) (o+1) bk _ S' t3.1 _ _ _ _ (by lia) (ba z) i0 n0 j0 l0 G I rfl (λy m=>by
       rcases v0 y m with rfl |m
       ·cases b with
        |false=>exact i7.2 (jF o)
        |true=>exact Au (i7.2 (jF o))
       ·exact ho.succ y m)
     ·obtain G:=O.skip (e:=x) hb;rw[<-hz]at G;wtm_at "r";exact ih (j+1) o F _ S Q.1 _ _ _ _ (by lia) (ba z) Z h3 g0 m0 G M rfl ho
   ·obtain⟨rfl,z,h2,h3⟩:=h;subst z;exact e F (l.trans (h3.mono λi hi=>Or.inl (Or.inl hi))) hl h2 (A.fr h3 e0 hs)
def FC {g:aB}:∀{l:ah Tr},l.length<=4->(cN g l 0).Perm l
 | [],_=>.refl _
 | [a],_=>.refl _
 | [a,b],_=>by
  rw[Fd];split
  ·exact .refl _
  ·exact .swap ..
 | [a,b,c],_=>by
  rw[Ff];split <;>split
  ·exact .refl _
  ·exact .swap ..
  ·exact .refl _
  ·exact sT
 | [a,b,c,d],_=>by
  rw[Fg];split
  ·split
   ·split
    ·exact .refl _
    ·exact .swap ..
   ·exact Fl
  ·split
   ·exact .refl _
   ·exact(sT (a:=a) (b:=b) (c:=c)).append_right [d]
 |_ :: _ :: _ :: _ :: _ :: _,h=>by simp at h
def SQ {g:aB}{a b c d:Tr}:(cN g [a,b,c,d] 1).Perm [a,b,c,d]:=by
 rw[Fh];split
 ·exact .refl _
 ·exact .cons a (sT (a:=b) (b:=c) (c:=d))
def FD {g:aB}{m:ak}{l:ah Tr}(h:l.length<=4)(h2:m<=l.length / 2):(eW g m l).Perm l:=by
 rcases m with _ |_ |_ |m
 ·exact .refl _
 ·exact FC h
 ·have B:l.length=4:=by lia
  rcases l with _ |⟨a,_ |⟨b,_ |⟨c,_ |⟨d,_ |⟨_,_⟩⟩⟩⟩⟩
  ·cases B
  ·cases B
  ·cases B
  ·cases B
  ·exact(FC (by rw[Fi];exact a4 _)).trans SQ
  ·simp at B
 ·lia
def SR {g:aB}{l:ah Tr}(h4:l.length<=4)(hd:dN l):∀m,m<=l.length / 2->∀l2,l2.length=l.length->eW g m l2=eW g (l.length / 2) l->dN l2:=by
 intro m G l2 F E;obtain B:=FD (g:=g) (m:=m) (l:=l2) (by exact TT (EL F) h4) (by lia);obtain D:=FD (g:=g) (m:=l.length / 2) (l:=l) h4 (a4 _);rw[E]at B;exact hd.perm (D.symm.trans B)
def SX:∀(ys S:ah (Int×AV)),S.length+ys.length<=n->ys.foldl (λS x=>(bV b x S).take n) S=ys.foldl (λS x=>bV b x S) S:=by
 intro l;induction l with
 |nil=>
  intro S _;exact rfl
 |cons y ys B=>
  intro S h;rw[ft]at h;show ys.foldl _ ((bV b y S).take n)=ys.foldl _ (bV b y S);rw[gA (by rw[zC];lia)];exact B _ (by rw[zC];lia)
def wb (h:ys.length<=n):fz b n ys=ys.foldl (λS x=>bV b x S) []:=SX ys [] (by simpa using h)
def SY:fz b (min n ys.length) ys=fz b n ys:=by
 by_cases h:n<=ys.length
 ·rw[ng h]
 ·rw[tN (by exact FI 1 0 0 0 (NG h) rfl),wb (a4 _),wb (by exact FI 1 0 0 0 (NG h) rfl)]
def view:∀(j:ak),j<=V.length->V.length<=K.length->∃S,gL b S/\((dh b 0 V K).take j).Perm S/\S.map kv=((V.zip K).take j).foldl (λS x=>bV b x S) []/\qA b j S:=by
 intro O;induction O with
 |zero=>
  intro _ _;exact⟨[],BE,.refl _,rfl,λu h=>nomatch h⟩
 |succ j M=>
  intro h D;obtain⟨S,I,J,N,G⟩:=M (by exact FI 1 0 0 0 h rfl) D;obtain E:=cy (show j < V.length by exact h);obtain H:=cy (show j < K.length by exact TT h D);obtain F:=take_snoc (zG (b:=b) (i:=0) E H);obtain L:(V.zip K).take (j+1)=(V.zip K).take j++[(V[j],K[j])]:=take_snoc (uy.mpr ⟨E,H⟩);rw[kg]at F;refine⟨iF b (tr b j V[j] K[j]) S,Fo I (λy B=>G y B),?_,?_,?_⟩
  ·rw[F];exact(BC.trans (J.cons _)).trans px.symm
  ·rw[L,ux,zB,N];rfl
  ·intro y B;rcases bu.mp (px.mem_iff.mp B)with rfl |B
   ·cases b with
    |false=>exact i7.2 (jF j)
    |true=>exact Au (i7.2 (jF j))
   ·exact G.succ y B
def S2 (h1:1<=n)(h4:n<=4)(hn:n<=V.length)(a0:V.length<=K.length):dN ((dh b 0 V K).take n)/\∃S,kY b n (eW (!b) (((dh b 0 V K).take n).length / 2) ((dh b 0 V K).take n)) S ((V.zip K).take n)/\qA b n S:=by
 obtain⟨S,E,D,I,H⟩:=view (b:=b) n hn a0;have B:((dh b 0 V K).take n).length=n:=by rw[er,sY];lia
 obtain F:dN ((dh b 0 V K).take n):=E.dist.perm D.symm;obtain⟨G,J⟩:=Si (g:=!b) (by rw[B];exact h1) (by rw[B];exact h4) F;refine⟨F,S,⟨G,E,J.trans D,?_,by rw[<-D.length_eq,B]⟩,H⟩;rw[I,wb (by rw[er];exact ML)]
theorem S3 {lt:Int->Int->aB}{x y:Int×AV}(hl:lt=bg b):∀{l:ah (Int×AV)},sortBy.cf (λp q=>lt p.1 q.1) x (bV b y l)=bV b y (sortBy.cf (λp q=>lt p.1 q.1) x l):=by
 intro G;induction G with
 |nil=>
  subst hl;show(if bg b y.1 x.1 then y :: [x]else x :: [y])=(if bg b y.1 x.1 then y :: [x]else x :: [y]);rfl
 |cons c l E=>
  intros c l _ E;obtain E:=E;subst hl;show sortBy.cf _ x (if bg b y.1 c.1 then y :: c :: l else c :: bV b y l)=bV b y (if bg b c.1 x.1 then c :: sortBy.cf _ x l else x :: c :: l);by_cases B:bg b y.1 c.1=aj <;>by_cases D:bg b c.1 x.1=aj
  ·rw[aN B,aN D];have F:bg b y.1 x.1=aj:=by
    unfold bg at *;cases b <;>simp at * <;>lia
   show(if bg b y.1 x.1 then y :: (if bg b c.1 x.1 then c :: sortBy.cf _ x l else x :: c :: l)else x :: y :: c :: l)=(if bg b y.1 c.1 then y :: c :: sortBy.cf _ x l else c :: bV b y (sortBy.cf _ x l));rw[aN F,aN D,aN B]
  ·rw[aN B,aK D];show(if bg b y.1 x.1 then y :: (if bg b c.1 x.1 then c :: sortBy.cf _ x l else x :: c :: l)else x :: y :: c :: l)=(if bg b y.1 x.1 then y :: x :: c :: l else x :: (if bg b y.1 c.1 then y :: c :: l else c :: bV b y l));rw[aK D,aN B]
  ·rw[aK B,aN D];show(if bg b c.1 x.1 then c :: sortBy.cf _ x (bV b y l)else x :: c :: bV b y l)=(if bg b y.1 c.1 then y :: c :: sortBy.cf _ x l else c :: bV b y (sortBy.cf _ x l));rw[aN D,aK B,E]
  ·rw[aK B,aK D];have F: ¬ bg b y.1 x.1=aj:=by
    unfold bg at *;cases b <;>simp at * <;>lia
   show(if bg b c.1 x.1 then c :: sortBy.cf _ x (bV b y l)else x :: c :: bV b y l)=(if bg b y.1 x.1 then y :: x :: c :: l else x :: (if bg b y.1 c.1 then y :: c :: l else c :: bV b y l));rw[aK D,aK F,aK B]
def S4 {lt:Int->Int->aB}{x:Int×AV}(hl:lt=bg b):∀(ys l:ah (Int×AV)),ys.foldl (λS x=>bV b x S) (sortBy.cf (λp q=>lt p.1 q.1) x l)=sortBy.cf (λp q=>lt p.1 q.1) x (ys.foldl (λS x=>bV b x S) l):=by
 intro l;induction l with
 |nil=>
  intro _;exact rfl
 |cons y ys B=>
  intro l;show ys.foldl _ (bV b y (sortBy.cf _ x l))=_;rw[<-S3 hl,B];rfl
def S5 {lt:Int->Int->aB}(hl:lt=bg b):∀(ys:ah (Int×AV)),sortBy (λp q=>lt p.1 q.1) ys=ys.foldl (λS x=>bV b x S) []:=by
 intro l;induction l with
 |nil=>
  exact rfl
 |cons y ys B=>
  show sortBy.cf _ y (sortBy _ ys)=ys.foldl _ (bV b y []);rw[B,<-S4 hl ys];rfl
def S6:∀(ys:ah (Int×AV)) (p:Int×AV),ys.foldl (λS x=>(bV b x S).take 1) [p]=[iY b ys p]:=by
 intro B;induction B with
 |nil=>
  intro p;exact rfl
 |cons y ys D=>
  intro p;show ys.foldl _ ((if bg b y.1 p.1 then y :: [p]else p :: [y]).take 1)=_;have:(if bg b y.1 p.1 then y :: [p]else p :: [y]).take 1=[if bg b y.1 p.1 then y else p]:=by split <;>rfl
  rw[this,D];rfl
def zH {a0:AV->St->Prop}(hG:Gv w B A s K)(q:∀U l,It (B++l) U s 0 K->(w=aj->U=A)->(w=az->U=B.length)->a0 (.ref U) (B++l)):WP (eu ⟨F,O,I⟩ (.bi "iter") [.ref A] []) B a0 E:=by
 cases w with
 |true=>
  obtain hG:It B A s 0 K:=hG;refine SD hG.1 ?_;have:=q A [] (by rw[fU];exact hG) (λu=>rfl) (λh=>nomatch h);rw[fU]at this;exact this
 |false=>
  obtain⟨rfl,h⟩:s=A/\B[A]? =ae (.list K):=hG;exact Fx h (q B.length _ ⟨g_last,g_app h⟩ (λh=>nomatch h) λu=>rfl)
def S7 {a0:AV->St->Prop}{r:ak}(hp:Hp B r L)(h4:L.length<=4)(hs:gL b S)(c0:L.Perm S)(q:a0 .none (B.set r (.list (S.map tv)))):
  WP (fb F (.ref r) .sort [] (if b then [(aq "reverse",.bool aj)]else [])) B a0 E:=by
 exact av (eh (av (zA (av (zD (av (fE hp (av (Sr (b:=b) h4 hs c0 (av (lg (aQ q))))))))))))
def S8 {a0:ah (au×AV)->St->Prop}(q:a0 (if b then [(aq "reverse",.bool aj)]else []) B):
  WP (fW (if b then [(aq "reverse",(eK (.bool aj)))]else []) ⟨F,O,I⟩) B a0 E:=by
 cases b with
 |false=>exact w_kws_nil q
 |true=>exact w_kws_cons (w_K (w_kws_nil q))
theorem S9 {B:St}{a0:AV->St->Prop}{r:ak}(hp:Hp B r L)(hH:kY b n L S ys)(hl:I[5]? =ae (ae (.ref r)))(q:a0 (.ref B.length) (B.set r (.list (S.map tv))++[.list ((fz b n ys).map (·.2))])):
  WP (sq [b9 (bX (eL 5) .sort [] (if b then [(aq "reverse",(eK (.bool aj)))]else [])),
   bL (d9 (eH [(".0",.local),("k",.local),("order",.local),("elem",.local)]) aj (iA (eL 5)) (cx [(pL 1),(pL 2),(pL 3)]) [] (eL 3))] ⟨F,O,I⟩) B (λx B=>WP (eQ x.1) B a0 E) E:=by
 refine x_sq (x_Expr (v8 (by cases b <;>decide) (aM hl ⟨(λh=>nomatch h.2),hY hp (.inr (.inr (.inr rfl))) (w_evs_nil (S8 (S7 hp hH.heap.len.2 hH.sorted hH.perm (n_next ?_))))⟩)));obtain J:Hp (B.set r (.list (S.map tv))) r S:=hp.set;refine x_sq (x_Ret (iJ (cs:=[]) (L:=[ag,ag,ag,ag]) (by decide +kernel) rfl (λu=>rfl) rfl (w_iA (aM hl (fh J ⟨rfl,?_⟩)))));refine l4 (G:=λH=>H=B.set r (.list (S.map tv))) (a0:=λk D I H=>D=(S.map (·.2.2)).take k/\H=B.set r (.list (S.map tv))/\jr I) (K:=S.map tv)
  (Yl.gM λH e=>by rw[e];exact J) (by have:=hH.heap.len;have:=hH.perm.length_eq;rw[aO];lia) (λu u u u h=>h.2.1) ⟨rfl,rfl,jr.mk⟩ ?_ ?_
 ·intros _ k v D U H _ G R;obtain⟨rfl,rfl,M⟩:=R;obtain (⟨X,Y,W,V,rfl⟩):=M;rw[dA]at G;cases K:S[k]? with
  |none=>rw[K]at G;cases G
  |some t=>
   intros t _ K;rw[K]at G;cases G;unfold tv;wtm_at "r";refine qJ ?_;refine t_t ?_;refine⟨by have:=hH.heap.len;have:=hH.perm.length_eq;rw[er,aO];lia,?_⟩;wtm_at "r";refine⟨?_,rfl,jr.mk⟩;exact(take_snoc (by rw[dA,K];rfl)).symm
 ·rintro D _ H ⟨rfl,rfl,-⟩;rw[aO];rw[gA (by rw[aO];exact a4 _)];have N:S.length<=4:=by have:=hH.heap.len;have:=hH.perm.length_eq;lia
  refine bp (by rw[aO];exact FI 0 4 0 4096 N rfl) (n_ret (r_ret ?_));have T:S.map (·.2.2)=(fz b n ys).map (·.2):=by rw[<-hH.sel,oM];rfl
  rw[T,eM];exact q
def Ta {a0:AV->St->Prop}(h:I[i]? =ae (ae (.int n)))(q:a0 (.int (ec b n)) B):WP ((if b then iV (eL i)else eL i) ⟨F,O,I⟩) B a0 E:=by
 cases b with
 |false=>exact aM h q
 |true=>exact w_Neg (aM h (w_strict q))
def Tb {a0:AS->St->Prop}(h:I[i]? =ae (ae (.int n)))(h4:n<=4)(q:a0 (.range (ec b 0) n (stepI b)) B):
  WP (iW (if b then [(eK (.int 0)),(iV (eL i)),(iV (eK (.int 1)))]else [(eL i)]) ⟨F,O,I⟩) B a0 E:=by
 cases b with
 |false=>exact w_rRange (w_evs_cons (aM h (w_evs_nil (pn (by lia) (by lia) (by rw[eD];exact q)))))
 |true=>exact w_rRange (w_evs_cons (w_K (w_evs_cons (w_Neg (aM h (w_strict (w_evs_cons (w_Neg (w_K (w_strict (w_evs_nil (E4 (by lia) (by lia) (by rw[HP,eD];exact q)))))))))))))
def Tc {a0:ax (AV×AI)->St->Prop}(h:B[U]? =ae (.iter ag k))(q:a0 ag B):WP (bx (.obj U)) B a0 E:=av (dj h (aQ q))
def js.of {m:ak}(h1:w=aj->U=A)(hi:qz B U s m K)(hl:w=az->s=A/\B[A]? =ae (.list K)):js w B A s m K:=by
 cases w with
 |true=>rw[<-h1 rfl];exact hi
 |false=>exact hl rfl
theorem Td {B:St}{JE:St->Prop}{c:ak}(ko:iX (FN (k0+3)) T D J JE K V)(n0:∀j B,J j B->jR B T)(P0: ¬ D A)(hs: ¬ D s)(hc: ¬ D c)(h2:2<=n)(h4:n<=4)(hx:K≠[])(c1:K.length<=64)(hJ:J 0 B)(hG:Gv w B A s K)(f1:B[c]? =ae (.cell (ae T))):
  WP (sq (qx b) ⟨FN (k0+3),[(aq "key",c)],[ae (.int n),ae (.ref A),ag,x3,ag,x5,x6,ag,ag,ag,ag,ag,ag,ag,ag,ag,ag,ag,ag,ag,ag,ag,ag,ag,ag]⟩) B
   (λx H=>WP (eQ x.1) H (pe b n D J w A s K V B) (mV D JE w A s K V B)) (mV D JE w A s K V B):=by
 unfold qx;wtm_at "r";refine zH hG ?_;intros _ U l _ m f K0;obtain d1:∀i,D i->i < B.length:=ko.inside 0 B hJ;have G0: ¬ D U:=by
  cases w with
  |true=>rw[f rfl];exact P0
  |false=>rw[K0 rfl];exact λh=>by have:=d1 _ h;exact XX 1 0 this rfl
 have u0:∀i,i < B.length->With D U i->DG D w A i:=λi hi h=>by
  rcases h with h |h
  ·exact .inl h
  ·cases w with
   |true=>exact .inr ⟨rfl,h.trans (f rfl)⟩
   |false=>have:=K0 rfl;exact XX 1 0 (CH 1 0 0 0 (CH 1 0 0 0 hi (EG this)) (EG h)) rfl
 have L0:J 0 (B++l):=ko.app hJ;have N0:(B++l)[c]? =ae (.cell (ae T)):=g_app f1;have g0:Fr (DG D w A) B (B++l):=Fr.app;obtain Z:B.length<=(B++l).length:=g0.len;have O:w=az->s=A:=λe=>by subst e;exact hG.1
 generalize B++l=a7 at m L0 N0 g0 Z;obtain h1:K.length≠0:=λh=>hx (nv.mp h);obtain I0:=ko.le;wtm_at "r";refine iJ (cs:=[(aq "key",c)]) (L:=[ag,ag,ag,ag]) (by decide +kernel) (by kernel_rfl) (λv=>by kernel_rfl) rfl ?_;wtm_at "r";refine Tb rfl h4 ?_;wtm_at "r";refine vX m.1 ⟨rfl,?_⟩;refine SM (b:=b) ko n0 G0 hs hc (n:=n) (df:=a7) h4 ?_ ?_ n 0 128 a7 ag ag ag ag (by exact FI 0 4 1 128 h4 rfl) (by lia) (cZ _) m L0 N0 (Fr.refl _ _)
 ·intros _ F _ Q u a0 R0 c0 Q0;have o0:1<=min n K.length:=by lia
  have j0:min n K.length<=4:=by exact TT ML h4
  have C0:F[s]? =ae (.list K):=Q.get m.2 (λh=>by
   rcases h with h |h
   ·exact hs h
   ·exact cC m.1 m.2 (by simp) h.symm)
  obtain y0:U < F.length:=gV (ba m.1) Q.len;obtain⟨hd,S0,N,a1⟩:=S2 (b:=b) (K:=K) o0 j0 u I0;have E0:fz b (min n K.length) (V.zip K)=fz b n (V.zip K):=by
   by_cases e:n<=K.length
   ·rw[ng e]
   ·rw[<-SY (n:=n),p5,show min V.length K.length=K.length by lia]
  obtain w0:n<=K.length->n=min n K.length:=λh=>by exact AN ((LN (h))) (ML)
  obtain J0:K.length < n->min n K.length=K.length:=λh=>by lia
  generalize min n K.length=p at *;have d0:((dh b 0 V K).take p).length=p:=by rw[er,sY];lia
  generalize (dh b 0 V K).take p=E at *;refine bp (by rw[aO];exact CF 0 0 0 4 0 4096 (EL d0) j0 rfl) ?_;have e0:Hp (F++[.list (E.map tv)]) F.length E:=g_last;obtain b1:J p (F++[.list (E.map tv)]):=ko.app a0;have B0:(F++[.list (E.map tv)])[c]? =ae (.cell (ae T)):=g_app R0;have f0:Fr (DG D w A) B (F++[.list (E.map tv)]):=(g0.old Q u0).trans Fr.app;have s0: ¬ D F.length:=λh=>by have:=ko.inside _ _ a0 _ h;exact XX 1 0 this rfl
  have h0:F.length≠U:=by exact NT (y0)
  have X:F.length≠s:=by have:=ba C0;exact NT (this)
  have A0:n<=K.length->It (F++[.list (E.map tv)]) U s n K:=λh=>(c0 h).app;obtain U0:K.length < n->(F++[.list (E.map tv)])[U]? =ae (.iter ag 0):=λh=>g_app (Q0 h);have O0:(F++[.list (E.map tv)])[s]? =ae (.list K):=g_app C0;have e1:B.length<=F.length:=by have:=Q.len;exact TT Z this
  generalize F.length=r at *;generalize F++[.list (E.map tv)]=bk at *;wtm_at "r";have V0:(E.map tv).isEmpty=az:=by
   cases E with
   |nil=>rw[<-d0]at o0;exact absurd o0 (by decide)
   |cons=>rfl
  refine pz e0 ?_;rw[V0];refine t_f ?_;wtm_at "r";refine Sf (g:=!b) e0 (by exact CF 0 0 0 4 1 60 (EL d0) j0 rfl) (SR (by exact TT (EL d0) j0) hd) ?_;have R:Hp (bk.set r (.list ((eW (!b) (E.length / 2) E).map tv))) r (eW (!b) (E.length / 2) E):=e0.set;have M0:=ko.turn (U:=r) (o:=.list ((eW (!b) (E.length / 2) E).map tv)) b1 s0;obtain Y0:r≠c:=cC e0 B0 (by simp);obtain T0:(bk.set r (.list ((eW (!b) (E.length / 2) E).map tv)))[c]? =ae (.cell (ae T)):=g_ne Y0 B0;have z0:Fr (With (With D U) r) bk (bk.set r (.list ((eW (!b) (E.length / 2) E).map tv))):=Fr.set (.inr rfl);have l0:n<=K.length->It (bk.set r (.list ((eW (!b) (E.length / 2) E).map tv))) U s n K:=λh=>⟨g_ne h0 (A0 h).1,g_ne X (A0 h).2⟩;have W:K.length < n->(bk.set r (.list ((eW (!b) (E.length / 2) E).map tv)))[U]? =ae (.iter ag 0):=λh=>g_ne h0 (U0 h);obtain g1:(bk.set r (.list ((eW (!b) (E.length / 2) E).map tv)))[s]? =ae (.list K):=g_ne X O0;have m0:∀i,i < B.length->With (With D U) r i->DG D w A i:=λi hi h=>by
   rcases h with h |h
   ·exact u0 i hi h
   ·exact XX 1 0 (CH 0 0 1 0 (CH 0 0 0 0 e1 (EG h)) hi) rfl
  generalize bk.set r (.list ((eW (!b) (E.length / 2) E).map tv))=cO at *;generalize eW (!b) (E.length / 2) E=L at *;wtm_at "r"
  match L,R,N with
  | [],R,N=>exact N.heap.elim
  |t0 :: L,R,N=>
  refine R.at (p:=0) rfl (by decide) (w_K (sX (by decide) rfl rfl ?_));wtm_at "r";refine Ta rfl ?_;wtm_at "r";have F0:∀(G:St) (I:ah (ax AV)) (L S:ah Tr),Fr (With (With D U) r) bk G->K.length=V.length->J K.length G->G[U]? =ae (.iter ag 0)->Hp G r L->kY b p L S (V.zip K)->I[5]? =ae (ae (.ref r))->
    WP (sq [b9 (bX (eL 5) .sort [] (if b then [(aq "reverse",(eK (.bool aj)))]else [])),
   bL (d9 (eH [(".0",.local),("k",.local),("order",.local),("elem",.local)]) aj (iA (eL 5)) (cx [(pL 1),(pL 2),(pL 3)]) [] (eL 3))] ⟨FN (k0+3),[(aq "key",c)],I⟩) G
   (λx H=>WP (eQ x.1) H (pe b n D J w A s K V B) (mV D JE w A s K V B)) (mV D JE w A s K V B):=by
   intro G I L S M Y z i0 p0 r0 k;refine S9 p0 r0 k ⟨⟨G.length,rfl,?_,?_⟩,Y,?_,?_,?_⟩
   ·have:=M.len;have:=f0.len;exact TT f0.len M.len
   ·rw[<-E0];exact(by simp:∀o:AO,(G.set r (.list (S.map tv))++[o])[G.length]? =ae o) _
   ·exact ko.app (ko.turn z s0)
   ·exact(f0.old (M.trans (Fr.set (i:=r) (.inr rfl))) m0).trans Fr.app
   ·refine js.of (U:=U) f (.inr ⟨g_app (g_ne h0 i0),a4 _⟩) λe=>⟨O e,?_⟩;rw[<-O e];refine g_app (g_ne X ?_);refine M.get O0 λh=>?_;rcases h with (h |h) |h
    ·exact hs h
    ·have:=ba i0;exact cC m.1 m.2 (by simp) h.symm
    ·exact X h.symm
  by_cases hn:n<=K.length
  ·have l0:=l0 hn;obtain Z0:n=p:=w0 hn;subst Z0;refine vX l0.1 ⟨rfl,?_⟩;refine SP ko n0 G0 hs hc s0 h0 X (n:=n) (df:=bk) (.int n) (ae (.ref A)) ag x6 (λG I L S M Y z i0 p0 r0 k=>n_next (F0 G I L S M Y z i0 p0 r0 k)) (λG M v0 z H0=>?_) 128 n n cO _ S0 t0.1 _ _ _ _ (by exact CF 0 64 128 0 1 0 c1 AL rfl) u l0 M0 T0 z0 N R rfl a1;refine⟨rfl,v0,z,f0.old M m0,js.of (U:=U) f (.inl H0) λe=>⟨O e,?_⟩⟩;rw[<-O e];exact H0.2
  ·have W:=W (by exact(NG hn));obtain W0:p=K.length:=J0 (by exact(NG hn));subst W0;refine vX W ⟨rfl,?_⟩;refine sS (Tc W ⟨rfl,n_next (F0 cO _ _ S0 z0 (by exact AN (u) (I0)) M0 W R ?_ rfl)⟩);rw[gA (by rw[p5];exact MR)]at N;exact N
 ·intros _ F _ Q v0 a0 c0;refine⟨rfl,v0,a0,g0.old Q u0,js.of (U:=U) f (.inl c0) λe=>⟨O e,?_⟩⟩;rw[<-O e];exact c0.2
def zI {b:AV}{x y:hZ}(h1:a8 8 B a=ae x)(h2:a8 8 B b=ae y)(q:QB (bY x y) B):WP (lI a b) B QB E:=by
 refine av (w_get ?_);rw[h1,h2];exact q
def mZ {a b:Int}(q:QB (a == b) B):WP (dQ .Eq (.int a) (.int b)) B QB E:=by
 show WP (lI (.int a) (.int b)) B QB E;exact zI (x:=.int a) (y:=.int b) rfl rfl (by rw[bY];exact q)
def drop_cons {α:Type}{a0:ah α}{t:α}(h:a0[j]? =ae t):a0.drop j=t :: a0.drop (j+1):=by
 obtain⟨B,rfl⟩:=cF.mp h;exact oA B
def Te {JE:St->Prop}{a0:AV->St->Prop}{p0:Int×AV}{d:AV}(ko:iX F T D J JE K V)(d0: ¬ D U)(hs: ¬ D s)(q:∀H,Fr (With D U) df H->K.length=V.length->J K.length H->H[U]? =ae (.iter ag 0)->H[s]? =ae (.list K)->a0 (iY b ((V.zip K).drop 1) p0).2 H)(e:∀H,Fr (With D U) df H->V.length < K.length->JE H->It H U s (V.length+1) K->E "AttributeError" H):
  ∀(c0 j:ak) (B:St) (p:Int×AV),K.length < c0+j->j<=V.length->It B U s j K->J j B->Fr (With D U) df B->iY b ((V.zip K).drop j) p=iY b ((V.zip K).drop 1) p0->
  WP (oR F T d b c0 (.obj U) (ae p)) B a0 E:=by
 intro n;induction n with
 |zero=>
  intro j B p hm w G l u O;have:=ko.le;lia
 |succ c0 m=>
  rintro j B ⟨k,v⟩ hm w G l u O;obtain R:=ko.le;obtain I:∀o,Fr (With D U) B (B.set U o):=λo=>Fr.set (Or.inr rfl);cases W:K[j]? with
  |none=>
   have Z:K.length<=j:=nu.mp W;refine av (zF G Z (aQ ?_));have e1:j=K.length:=by exact AN (TT w R) (Z)
   subst e1;have f:iY b ((V.zip K).drop K.length) (k,v)=(k,v):=by
    rw[kh (by rw[p5];exact MR)];rfl
   rw[f]at O;have:=q _ (u.trans (I (.iter ag 0))) (by exact AN (w) (R)) (ko.turn l d0) (de G.1) (g_ne (cC G.1 G.2 (by simp)) G.2);rw[<-O]at this;exact this
  |some x=>
   refine av (v9 G W ?_);obtain Z:j < K.length:=(cF.mp W).1;have M:=G.turn (k:=j+1);obtain S:=ko.turn (o:=.iter (ae s) (j+1)) l d0;have N:=u.trans (I (.iter (ae s) (j+1)));generalize B.set U (.iter (ae s) (j+1))=a7 at M S N;refine av ((ko.call j x a7 W S).mono (λv2 L h=>?_) λk2 L h=>?_)
   ·obtain⟨r,X,rfl,Y,z⟩:=h;refine av (w_strict ?_);obtain hz:(V.zip K)[j]? =ae (r,x):=uy.mpr ⟨X,W⟩;rw[drop_cons hz]at O;exact m (j+1) L _ (by lia) (ba X) (M.fr z d0 hs) Y (N.trans (z.mono λi A=>Or.inl A)) O
   ·obtain⟨rfl,X,h2,Y⟩:=h;subst X;exact e L (N.trans (Y.mono λi A=>Or.inl A)) Z h2 (M.fr Y d0 hs)
def Tf {JE:St->Prop}(ko:iX F T D J JE K V)(e:∀H,Fr D df H->V.length < K.length->JE H->E "AttributeError" H):
  ∀(ys:ah AV) (j:ak) (B:St) (a0:ah (Int×AV)->St->Prop),(∀H,Fr D df H->K.length=V.length->J K.length H->a0 ((V.zip K).drop j) H)->K.drop j=ys->j<=V.length->J j B->Fr D df B->WP (nH F T ys) B a0 E:=by
 intro l;induction l with
 |nil=>
  intro j B a0 q L Y X O;have M:=ko.le;have R:K.length<=j:=pW.mp L;have Z:j=K.length:=by exact AN (TT Y M) (R)
  subst Z;have:=q B O (by exact AN (Y) (M)) X;rw[kh (by rw[p5];exact MR)]at this;exact aQ this
 |cons y ys w=>
  intro j B a0 q L Y X O;have R:j < K.length:=by
   rcases IV j K.length with h |h
   ·exact h
   ·rw[kh h]at L;cases L
  have N:=cy R;rw[drop_cons N]at L;injection L with I W;rw[I]at N;refine av ((ko.call j y B N X).mono (λo G h=>?_) λk2 G h=>?_)
  ·obtain⟨r,I,rfl,U,k⟩:=h;refine av (w_strict (av (w (j+1) G _ (λS z b u=>?_) W (ba I) U (O.trans k))));have:=q S z b u;have A:(V.zip K)[j]? =ae (r,y):=uy.mpr ⟨I,N⟩;rw[drop_cons A]at this;exact sN this
  ·obtain⟨rfl,I,W,U⟩:=h;exact e G (O.trans U) (by exact CF 0 0 1 0 1 0 (EL I) R rfl) W
def zJ {a0:b8->St->Prop}(h:jR B T)(q:a0 () B):WP (isCallable T) B a0 E:=by
 obtain⟨i,a,e,D,F,rfl,h⟩:=h;exact av (eh (av (dj h (aQ q))))
theorem Tg {B:St}{d:AV}{a0:AV->St->Prop}(h:jR B T)(q:WP (bx (.obj U)) B (λo B=>∃v c0,o=ae (v,c0)/\WP (F T [v] []) B (λr B=>∃i,r= .int i/\WP (oR F T d b 64 c0 (ae (i,v))) B a0 E) E) E):
  WP (eu ⟨F,O,I⟩ (.bi (if b then "max" else "min")) [.ref U] [(aq "default",d),(aq "key",T)]) B a0 E:=by
 refine mX (b:=.best b) (by cases b <;>rfl) (av (fG (av (sV (av (sV (av (e6 (av (eh (av (zJ h (av (q.a5 λo B h=>?_))))))))))))));obtain⟨v,c0,rfl,h⟩:=h;refine av (h.a5 λr B h=>?_);obtain⟨i,rfl,h⟩:=h;exact av (w_strict h)
def Th:∀(l:ah (Int×AV)) (p:Int×AV),iY b l p∈p :: l:=by
 intro B;induction B with
 |nil=>
  intro p;exact .head _
 |cons x l D=>
  intro p;show iY b l (if bg b x.1 p.1 then x else p)∈_;have:=D (if bg b x.1 p.1 then x else p);rcases bu.mp this with h |h
  ·rw[h];split
   ·exact .tail _ (.head _)
   ·exact .head _
  ·exact .tail _ (.tail _ h)
def Ti {b c:AV}{o:ak}(q:QB az B):WP (dQ .Is (.dB a b c) (.ref o)) B QB E:=q
theorem Tj {b:aB}{B:St}{JE:St->Prop}{c:ak}{a0:FL×ah (ax AV)->St->Prop}(ko:iX (FN (k0+3)) T D J JE K V)(c0:∀j B,J j B->jR B T)(j0: ¬ D A)(hs: ¬ D s)(hx:K≠[])(o0:K.length<=64)(ht:∀x∈K,∃a b c,x=AV.dB a b c)(hJ:J 0 B)(hG:Gv w B A s K)(v0:B[c]? =ae (.cell (ae T)))(q:∀v I H,pe b 1 D J w A s K V B v H->a0 (.ret v,I) H):
  WP (sq (yT b) ⟨FN (k0+3),[(aq "key",c)],[ae (.int 1),ae (.ref A),ag,ag,ag,ag,ag,ag,ag,ag,ag,ag,ag,ag,ag,ag,ag,ag,ag,ag,ag,ag,ag,ag,ag]⟩) B a0 (mV D JE w A s K V B):=by
 unfold yT;wtm_at "r";refine zH hG ?_;intros _ U l _ hI N f;have u0:∀i,D i->i < B.length:=ko.inside 0 B hJ;have O: ¬ D U:=by
  cases w with
  |true=>rw[N rfl];exact j0
  |false=>rw[f rfl];exact λh=>by have:=u0 _ h;exact XX 1 0 this rfl
 have X:∀i,i < B.length->With D U i->DG D w A i:=λi R h=>by
  rcases h with h |h
  ·exact .inl h
  ·cases w with
   |true=>exact .inr ⟨rfl,h.trans (N rfl)⟩
   |false=>have:=f rfl;exact XX 1 0 (CH 1 0 0 0 (CH 1 0 0 0 R (EG this)) (EG h)) rfl
 have d0:J 0 (B++l):=ko.app hJ;have i0:(B++l)[c]? =ae (.cell (ae T)):=g_app v0;have g0:Fr (DG D w A) B (B++l):=Fr.app;have F:w=az->s=A:=λe=>by subst e;exact hG.1
 generalize B++l=a7 at hI d0 i0 g0;have u:K.length≠0:=λh=>hx (nv.mp h);have w0:=ko.le;wtm_at "r";refine SE ?_;have W:It (a7++[AO.obj]) U s 0 K:=hI.app;have S:J 0 (a7++[AO.obj]):=ko.app d0;have n0:(a7++[AO.obj])[c]? =ae (.cell (ae T)):=g_app i0;have E:Fr (DG D w A) B (a7++[AO.obj]):=g0.trans Fr.app;generalize a7++[AO.obj]=bF at W S n0 E;wtm_at "r";refine Tg (c0 _ _ S) ?_;have h0:=cy (show 0 < K.length by exact(NU u (ZZ)));refine v9 W h0 ⟨_,_,rfl,?_⟩;have Z:=W.turn (k:=0+1);have o:=ko.turn (o:=.iter (ae s) (0+1)) S O;have G:Fr (With D U) bF (bF.set U (.iter (ae s) (0+1))):=Fr.set (.inr rfl);generalize bF.set U (.iter (ae s) (0+1))=bk at Z o G;refine(ko.call 0 _ bk h0 o).mono (λv2 k h=>?_) λk2 k h=>?_
 ·obtain⟨r,z,rfl,h3,m⟩:=h;refine⟨r,rfl,?_⟩;have hz:(V.zip K)[0]? =ae (r,K[0]):=uy.mpr ⟨z,h0⟩;refine Te ko O hs (df:=k) (p0:=(r,K[0])) (λf0 M e0 Y m0 l0=>?_) (λf0 M r0 Y L=>?_) 64 (0+1) k _ (by exact FI 0 64 1 65 o0 rfl) (ba z) (Z.fr m O hs) h3 (Fr.refl _ _) rfl
  ·have p0:fz b 1 (V.zip K)=[iY b ((V.zip K).drop 1) (r,K[0])]:=by
    have e1:V.zip K=(r,K[0]) :: (V.zip K).drop 1:=by
     have:=drop_cons hz
     rwa [mv]at this
    rw[e1];exact S6 _ _
   have hm:(iY b ((V.zip K).drop 1) (r,K[0])).2∈K:=by
    have hm:=Th (b:=b) ((V.zip K).drop 1) (r,K[0]);have s0:iY b ((V.zip K).drop 1) (r,K[0])∈V.zip K:=by
     rcases bu.mp hm with h |h
     ·rw[h];exact cD hz
     ·exact w6 h
    exact(rC (a:=(iY b ((V.zip K).drop 1) (r,K[0])).1) (b:=(iY b ((V.zip K).drop 1) (r,K[0])).2) s0).2
   obtain⟨a1,a2,a3,ha⟩:=ht _ hm;rw[ha];wtm_at "r";refine Ti ?_;wtm_at "r";refine bp (by simp) ?_;refine q _ _ _ ⟨⟨f0.length,rfl,?_,?_⟩,e0,ko.app Y,?_,js.of (U:=U) N (.inr ⟨g_app m0,a4 _⟩) λe=>⟨F e,by rw[<-F e];exact g_app l0⟩⟩
   ·have:=E.len;have:=G.len;have:=m.len;have:=M.len;exact CF 0 0 0 0 0 0 (CH 0 0 0 0 (CH 0 0 0 0 E.len G.len) m.len) M.len rfl
   ·rw[p0];show _=ae (AO.list [(iY b ((V.zip K).drop 1) (r,K[0])).2]);rw[ha];exact g_last
   ·exact(E.old ((G.trans (m.mono λi R=>.inl R)).trans M) X).trans Fr.app
  ·exact⟨rfl,r0,Y,E.old ((G.trans (m.mono λi R=>.inl R)).trans M) X,js.of (U:=U) N (.inl L) λe=>⟨F e,by rw[<-F e];exact L.2⟩⟩
 ·obtain⟨rfl,z,h2,h3⟩:=h;have L:=Z.fr h3 O hs;exact⟨rfl,by exact CF 0 0 1 0 1 0 (EL z) (NU u (ZZ)) rfl,h2,E.old (G.trans (h3.mono λi R=>.inl R)) X,js.of (U:=U) N (.inl (by rw[z];exact L)) λe=>⟨F e,by rw[<-F e];exact L.2⟩⟩
def Tn {B:St}{a0:AV->St->Prop}(e:B[A]? =ae (.list l))(h4:l.length<=4)(h:jR B T)(q:WP (nH F T l) B (λks B=>WP (cz ((sortBy (λx y=>bg b x.1 y.1) ks).map (·.2))) B a0 E) E):
  WP (eu ⟨F,O,I⟩ (.bi "sorted") [.ref A] (if b then [(aq "key",T),(aq "reverse",.bool aj)]else [(aq "key",T)])) B a0 E:=by
 cases b with
 |false=>exact mX (b:=.sorted) rfl (av (fG (av (sV (av (zD (b:=az) (av (eh (av (fE e (av (bw h4 (av (zJ h (av (q.a5 λks B h=>h))))))))))))))))
 |true=>exact mX (b:=.sorted) rfl (av (fG (av (sV (av (zD (b:=aj) (av (eh (av (fE e (av (bw h4 (av (zJ h (av (q.a5 λks B h=>h))))))))))))))))
def To {c:ak}{a0:ah (au×AV)->St->Prop}(c0:B[c]? =ae (.cell (ae T)))(q:a0 (if b then [(aq "key",T),(aq "reverse",.bool aj)]else [(aq "key",T)]) B):
  WP (fW (if b then [(aq "key",(eC "key")),(aq "reverse",(eK (.bool aj)))]else [(aq "key",(eC "key"))]) ⟨F,[(aq "key",c)],I⟩) B a0 E:=by
 cases b with
 |false=>exact w_kws_cons (gr lk_here c0 (w_kws_nil q))
 |true=>exact w_kws_cons (gr lk_here c0 (w_kws_cons (w_K (w_kws_nil q))))
def zK {a0:ax Int->St->Prop}(h:a0 ag B):WP (oP ag) B a0 E:=h
def zL {j:Int}{a0:ax Int->St->Prop}(h:a0 (ae j) B):WP (oP (ae (.int j))) B a0 E:=h
def FE {r:ah AV}{a b:ax Int}{a0:AV->St->Prop}(g:nG a=aj/\nG b=aj)(hl:l.length<=4096)(hr:(l.take (ix l.length l.length b)).drop (ix 0 l.length a)=r)(q:a0 (.ref B.length) (B++[.list r])):WP (uG l a b) B a0 E:=by
 subst hr;exact av (bw g (bp (by rw[Ja,er];exact TT SB (TT MR hl)) q))
def zM {m:ak}(hm:m < 2 ^ 62):nG (ae (m:Int))=aj:=by
 unfold nG;rw[cW];exact⟨jc (wy m),jc (by lia)⟩
def FF {m:ak}{α:Type}{l:ah α}:l.take (min m l.length)=l.take m:=by
 by_cases h:m<=l.length
 ·rw[ng h]
 ·rw[tN (by exact FI 1 0 0 0 (NG h) rfl),gA (a4 _),gA (by exact FI 1 0 0 0 (NG h) rfl)]
def FG {m:ak}{a0:AV->St->Prop}(e:B[i]? =ae (.list l))(hl:l.length<=4096)(hm:m < 2 ^ 62)(q:a0 (.ref B.length) (B++[.list (l.take m)])):WP (kq (.ref i) ag (ae (.int m))) B a0 E:=by
 obtain F:(m:Int).toNat=m:=eD m;obtain D:=zM hm;clear hm;generalize (m:Int)=j at *;subst F;exact av (zK (av (zL (av (fE e (FE ⟨rfl,D⟩ hl FF q))))))
def Tp {I:ah (ax AV)}{B:St}{JE:St->Prop}{c:ak}{a0:FL×ah (ax AV)->St->Prop}(ko:iX F T D J JE K V)(c0:∀j B,J j B->jR B T)(hs: ¬ D A)(h4:n<=4)(hn:K.length<=n)(d0:I[0]? =ae (ae (.int n)))(e0:I[1]? =ae (ae (.ref A)))(hJ:J 0 B)(hG:B[A]? =ae (.list K))(f0:B[c]? =ae (.cell (ae T)))(q:∀v I H,pe b n D J az A A K V B v H->a0 (.ret v,I) H):
  WP (bL (yU b) ⟨F,[(aq "key",c)],I⟩) B a0 (mV D JE az A A K V B):=by
 unfold yU;refine x_Ret (w_Slice (w_Call (w_K (w_evs_cons (aM e0 (w_evs_nil (To f0 (Tn hG (by exact TT hn h4) (c0 _ _ hJ) ?_))))))));obtain R:∀i,D i->DG D az A i:=λi h=>.inl h;refine Tf ko (df:=B) (λH L M S=>⟨rfl,M,S,L.mono R,rfl,L.get hG hs⟩) K 0 B _ (λH L E O=>?_) rfl (cZ _) hJ (Fr.refl _ _);rw[mv,S5 (b:=b) (lt:=bg b) rfl];have N:(V.zip K).length=K.length:=by rw[p5];exact AN (MR) ((LO ((EL E))))
 rw[<-wb (n:=n) (by exact TT (EL N) hn)];have G:((fz b n (V.zip K)).map (·.2)).length<=n:=by rw[aO,Fv];exact ML
 refine bp (by exact CF 0 0 0 4 0 4096 G h4 rfl) (w_optE_none (w_optE_some (aM d0 (FG g_last (by exact CF 0 0 0 4 0 4096 G h4 rfl) (by exact FI 0 4 1 4611686018427387904 h4 rfl) ?_))));refine q _ _ _ ⟨⟨_,rfl,?_,?_⟩,E,ko.app (ko.app O),((L.mono R).trans Fr.app).trans Fr.app,rfl,g_app (g_app (L.get hG hs))⟩
 ·rw[bK];have:=L.len;exact TT this AL
 ·rw[gA G];exact g_last
def Tq {a0:AS->St->Prop}(h:I[i]? =ae (ae (.int z)))(h4:z<=0)(h5: -4<=z)(q:a0 (.range 0 0 (stepI b)) B):
  WP (iW (if b then [(eK (.int 0)),(iV (eL i)),(iV (eK (.int 1)))]else [(eL i)]) ⟨F,O,I⟩) B a0 E:=by
 cases b with
 |false=>
  refine w_rRange (w_evs_cons (aM h (w_evs_nil (pn (by lia) (by lia) ?_))));rw[show z.toNat=0 by lia];exact q
 |true=>
  refine w_rRange (w_evs_cons (w_K (w_evs_cons (w_Neg (aM h (w_strict (w_evs_cons (w_Neg (w_K (w_strict (w_evs_nil (E4 (by lia) (by lia) ?_))))))))))));rw[show(- -z).toNat=0 by lia];exact q
def Ts {JE:St->Prop}{c:ak}(ko:iX (FN (k0+3)) T D J JE K V)(hz:z<=0)(a0: -4<=z)(hJ:J 0 B)(hG:Gv w B A s K):
  WP (sq (qx b) ⟨FN (k0+3),[(aq "key",c)],[ae (.int z),ae (.ref A),ag,x3,ag,x5,x6,ag,ag,ag,ag,ag,ag,ag,ag,ag,ag,ag,ag,ag,ag,ag,ag,ag,ag]⟩) B
   (λx H=>WP (eQ x.1) H (vR J B) E) E:=by
 unfold qx;wtm_at "r";refine zH hG λU l I F G=>?_;wtm_at "r";refine iJ (cs:=[(aq "key",c)]) (L:=[ag,ag,ag,ag]) (by decide +kernel) (by kernel_rfl) (λu=>by kernel_rfl) rfl ?_;wtm_at "r";refine Tq rfl hz a0 ?_;wtm_at "r";refine vX I.1 ⟨rfl,wa (FA ⟨rfl,?_⟩)⟩;refine bp (by simp) ?_;wtm_at "r";refine pz g_last ?_;refine t_t ?_;wtm_at "r";exact⟨⟨_,rfl,by rw[bK];exact AL,g_last⟩,ko.app (ko.app hJ),Fr.app.trans Fr.app⟩
theorem Tt {b:aB}{B:St}{JE:St->Prop}{c0:AV->St->Prop}(ko:iX (FN (k0+3)) T D J JE K V)(d0:∀j B,J j B->jR B T)(f0: ¬ D A)(hs: ¬ D s)(hx:K≠[])(g0:K.length<=64)(ht:∀x∈K,∃a b c,x=AV.dB a b c)(hz: -1<=z)(n0:z<=4)(hJ:J 0 B)(hG:Gv w B A s K)(q0:z<=0->∀v H,vR J B v H->c0 v H)(q1:0 < z->∀v H,pe b z.toNat D J w A s K V B v H->c0 v H)(e1:0 < z->∀k H,mV D JE w A s K V B k H->E k H):
  WP (FN (k0+4) (.fn (aq (if b then "nlargest" else "nsmallest"))) [.int z,.ref A] [(aq "key",T)]) B c0 E:=by
 have l0: ¬ D B.length:=λh=>by have:=ko.inside 0 B hJ _ h;exact XX 1 0 this rfl
 have l:(B++[AO.cell (ae T)])[B.length]? =ae (.cell (ae T)):=g_last;have S:J 0 (B++[AO.cell (ae T)]):=ko.app hJ;have O:∀D',Fr D' B (B++[AO.cell (ae T)]):=λD'=>Fr.app;have N:Gv w (B++[AO.cell (ae T)]) A s K:=by
  cases w with
  |true=>exact It.app hG
  |false=>exact⟨hG.1,g_app hG.2⟩
 have m0:K.length≠0:=λh=>hx (nv.mp h);have R:∀{n v H},pe b n D J w A s K V (B++[AO.cell (ae T)]) v H->pe b n D J w A s K V B v H:=λq=>by
  obtain⟨⟨r,M,U,u⟩,m,o,h6,h7⟩:=q;exact⟨⟨r,M,dW (O (λy=>dm)).len U,u⟩,m,o,(O _).trans h6,h7⟩
 have G:∀{k H},mV D JE w A s K V (B++[AO.cell (ae T)]) k H->mV D JE w A s K V B k H:=λq=>by
  obtain⟨M,U,u,m,o⟩:=q;exact⟨M,U,u,(O _).trans m,o⟩
 have Z:∀{v H},vR J (B++[AO.cell (ae T)]) v H->vR J B v H:=λq=>by
  obtain⟨⟨r,M,U,u⟩,m,o⟩:=q;exact⟨⟨r,M,dW (O (λy=>dm)).len U,u⟩,m,(O _).trans o⟩
 obtain⟨i0,a0,e0,o0,p0,hk,-⟩:=d0 _ _ hJ;generalize f:B++[AO.cell (ae T)]=a7 at *;have W:∀F,Body (qy b F) ⟨FN (k0+3),[(aq "key",B.length)],[ae (.int z),ae (.ref A),ag,ag,ag,ag,ag,ag,ag,ag,ag,ag,ag,ag,ag,ag,ag,ag,ag,ag,ag,ag,ag,ag,ag]⟩ a7 c0 E:=by
  intro F;unfold qy;have j0:∀X,z≠1->WP (sq (qx b) ⟨FN (k0+3),[(aq "key",B.length)],[ae (.int z),ae (.ref A),ag,ag,ag,ag,X,ag,ag,ag,ag,ag,ag,ag,ag,ag,ag,ag,ag,ag,ag,ag,ag,ag,ag]⟩) a7 (λx B=>WP (eQ x.1) B c0 E) E:=by
   intro X L;by_cases h0:z<=0
   ·exact(Ts (D:=D) ko h0 (by lia) S N).a5 λx H h=>h.a5 λv H h=>q0 h0 v H (Z h)
   ·have Y:z=((z.toNat:ak):Int):=by lia
    have:=Td (b:=b) (n:=z.toNat) (x3:=ag) (x5:=ag) (x6:=X) ko d0 f0 hs l0 (by lia) (by lia) hx g0 S N l;rw[<-Y]at this;exact this.mono (λx H h=>h.mono (λv H h=>q1 (by lia) v H (R h)) λk H h=>e1 (by lia) k H (G h)) λk H h=>e1 (by lia) k H (G h)
  have cont:∀X,z≠1->WP (sq (yV b F) ⟨FN (k0+3),[(aq "key",B.length)],[ae (.int z),ae (.ref A),ag,ag,ag,ag,X,ag,ag,ag,ag,ag,ag,ag,ag,ag,ag,ag,ag,ag,ag,ag,ag,ag,ag]⟩) a7 (λx B=>WP (eQ x.1) B c0 E) E:=by
   intro X L;unfold yV;wtm_at "r";refine zE ?_;subst hk;refine t_f ?_;wtm_at "r";exact j0 X L
  wtm_at "r";refine mZ ⟨λM=>?_,λM=>?_⟩
  ·have M:z=1:=eq_of_beq M;subst M;refine(Tj (b:=b) (a0:=jQ _ _) ko d0 f0 hs hx g0 ht S N l (λv I H h=>n_ret (r_ret (q1 (by lia) v H (R h))))).mono (λy y h=>h) λk H h=>e1 (by lia) k H (G h)
  ·have L:z≠1:=Jb M;wtm_at "r";cases w with
   |true=>
    have hI:It a7 A s 0 K:=N;refine SA hI.1 ⟨rfl,?_⟩;wtm_at "r";exact cont _ L
   |false=>
    obtain⟨rfl,FH⟩:s=A/\a7[A]? =ae (.list K):=N;refine f_len FH ?_;wtm_at "r";refine⟨λU=>?_,λU=>?_⟩
    ·have U:(K.length:Int)<=z:=gz U;have Y:z=((z.toNat:ak):Int):=by lia
     refine x_sq ((Tp (n:=z.toNat) (c:=B.length) ko d0 hs (by lia) (by lia) (by rw[<-Y];rfl) rfl S FH l (λv I H h=>n_ret (n_ret (n_ret (r_ret (q1 (by lia) v H (R h))))))).mono (λy y h=>h) λk H h=>e1 (by lia) k H (G h))
    ·wtm_at "r";exact cont _ L
 cases b with
 |false=>
  obtain⟨F,hK⟩:=SG;exact RX (by rw[hK,f];exact W F)
 |true=>
  obtain⟨F,hK⟩:=SH;exact RY (by rw[hK,f];exact W F)
def Tu:(qB.all λmods=>modS.all λs=>(mods.contains s || pg mods s) == (jt s).any λx=>mods.contains x)=aj:=by decide +kernel
def Tv:(pf.all λds=>sC.all λs=>sD ds s == (k5 s).any λx=>ds.contains x)=aj:=by decide +kernel
def FJ:(qB.all λmods=>mods.length<=3 && mods.all λx=>x.length<=8)=aj:=by decide +kernel
def FO:(pf.all λmods=>mods.length<=3 && mods.all λx=>x.length<=8)=aj:=by decide +kernel
def Tw:(modS.all λs=>(aU s (sO ".")).length<=3 && s.length<=8 && cY s && ((dz 4).all λk=>pF (sO ".") ((aU s (sO ".")).take k)) && ((jt s).all cY)
 && decide ((m6 s (l7 s (sO ".") 0 s.length (s.length+1)) (sO ".").length).length<=4096))=aj:=by decide +kernel
def Tz:(sC.all λs=>(aU s (sO "/")).length<=4 && s.length<=16 && cY s && ((dz 5).all λk=>pF (sO "/") ((aU s (sO "/")).take k)) && ((k5 s).all cY)
 && decide ((m6 s (l7 s (sO "/") 0 s.length (s.length+1)) (sO "/").length).length<=4096))=aj:=by decide +kernel
def TA:((qB++pf).all λl=>l.all cY)=aj:=by decide +kernel
def TB (h:fA r):r.1.length<=3/\∀x∈r.1,x.length<=8:=by
 have:=bW.mp FJ _ h.1;simp only[cW,fu,bW]at this;exact this
def FP (h:fA r):r.2.length<=3/\∀x∈r.2,x.length<=8:=by
 have:=bW.mp FO _ h.2;simp only[cW,fu,bW]at this;exact this
def FQ {l:ah (au×AV)}{a0:ak×ah (au×AV)->St->Prop}(h1:B[i]? =ae (.inst d))(h2:B[d]? =ae (.bc l))(q:a0 (d,l) B):WP (uH i) B a0 E:=av (dj h1 (av (dj h2 (aQ q))))
def zN {a0:AV->St->Prop}{a:ak}{l:ah (au×AV)}{x:aI}(h1:B[a]? =ae (.inst d))(h2:B[d]? =ae (.bc l))(hx:sO x∈p7)(hl:l.lookup (sO x)=ae v)(hv:xE v=aj)(q:a0 v B):WP (mB (.ref a) (aq x)) B a0 E:=
 av (bw hx (av (eh (av (FQ h1 h2 (av (dU hl (av (bw hv (aQ q))))))))))
def TC {g:ak}{D:ah ((au ⊕ Int)×AV)}{x:AV}{k:au ⊕ Int}(h:B[g]? =ae (.dict D))(hk:gF x=ae k)(q:QB (eF D k).isSome B):WP (dQ .In x (.ref g)) B QB E:=
 av (dj h (av (dU hk (aQ q))))
def TF {l:ah au}{x:AV}(hk:keyOk x=aj)(q:QB (inSet l x) B):WP (dQ .In x (.cL l)) B QB E:=av (bw hk (aQ q))
def TG {a0:AV->St->Prop}{g:ak}{D:ah ((au ⊕ Int)×AV)}{x:AV}{k:au ⊕ Int}(h:B[g]? =ae (.dict D))(hk:gF x=ae k)(hv:eF D k=ae v)(q:a0 v B):WP (iw (.ref g) x) B a0 E:=
 av (dj h (av (dU hk (dU hv q))))
def sZ {g:ak}{D:ah ((au ⊕ Int)×AV)}{x:AV}{k:au ⊕ Int}{a0:b8->St->Prop}(h:B[g]? =ae (.dict D))(hk:gF x=ae k)(hl:D.length<=64)(q:a0 () (B.set g (.dict (putD D k v)))):WP (oQ (.ref g) x v) B a0 E:=
 av (eh (av (dj h (av (dU hk (av (bw hl (lg q))))))))
def zO {a0:AV->St->Prop}{x y:au}(hl:x.length+y.length<=4096)(q:a0 (.str (x++y)) B):WP (gf .Add (.str x) (.str y)) B a0 E:=av (bw rfl (av (qG (av (bw hl (aQ q))))))
def FR {a0:AV->St->Prop}{x y:au}(q:a0 (.bool (pE x y)) B):WP (fb F (.str x) .startswith [.str y] []) B a0 E:=av (qG (av (fG (av (e6 (av (qG (aQ q))))))))
def nZ {x:au}{a0:b8->St->Prop}(h:mm= .startswith\/mm= .split\/mm= .join)(q:a0 () B):WP (lJ (.str x) mm) B a0 E:=bw h q
def fB.mods {a0:AV->St->Prop}{a g:ak}{D:ah ((au ⊕ Int)×AV)}(h:fB B a d dd g r D)(q:a0 (.cL r.1) B):WP (mB (.ref a) (aq "_mods")) B a0 E:=
 zN h.inst h.bc (by decide +kernel) (by kernel_rfl) rfl q
def fB.TH {a0:AV->St->Prop}{a g:ak}{D:ah ((au ⊕ Int)×AV)}(h:fB B a d dd g r D)(q:a0 (.ref dd) B):WP (mB (.ref a) (aq "_dirs")) B a0 E:=
 zN h.inst h.bc (by decide +kernel) (by kernel_rfl) rfl q
def fB.pA {a0:AV->St->Prop}{a g:ak}{D:ah ((au ⊕ Int)×AV)}(h:fB B a d dd g r D)(q:a0 (.ref g) B):WP (mB (.ref a) (aq "_ignore")) B a0 E:=
 zN h.inst h.bc (by decide +kernel) (by kernel_rfl) rfl q
def TJ {l l':ah au}{a0:au->aB}(h:l'.Perm l):l'.any a0=l.any a0:=by
 rw[qY];simp only[uw];exact⟨λ⟨x,B,D⟩=>⟨x,h.mem_iff.mp B,D⟩,λ⟨x,B,D⟩=>⟨x,h.mem_iff.mpr B,D⟩⟩
def FT {α:Type}{l:ah α}{x:α}{a0:α->aB}(hx:l[k]? =ae x)(h:(l.take k).any a0=az)(hf:a0 x=az):(l.take (k+1)).any a0=az:=by
 rw[take_snoc hx,BG,h]
 simpa using hf
def eg.str (h:eg m):EK m:=by
 rcases h with h |⟨s,-,h⟩
 ·exact .inl h
 ·exact .inr ⟨s,h⟩
def f9.str (h:f9 m):EM m:=by
 rcases h with h |⟨s,-,h⟩
 ·exact .inl h
 ·exact .inr ⟨s,h⟩
theorem zP {a0:AV->St->Prop}{a g:ak}{D:ah ((au ⊕ Int)×AV)}{T:au ⊕ Int}(h:fB B a d dd g r D)(hl:D.length<=64)(hm:EK m)(hp:EM p)(hr:fA r)(hk:gF m=ae T)(q1:∀v,eF D T=ae v->a0 v B)(q2:eF D T=ag->(m= .int 7->r.1=[])->a0 (.int (b2i (dv r p m))) (B.set g (.dict (putD D T (.int (b2i (dv r p m)))))))(e:eF D T=ag->m= .int 7->r.1≠[]->E "AttributeError" B):
  WP (FN (k+1) (.fn (aq "_Ignore.names")) [.ref a,p,m] []) B a0 E:=by
 have V:=TB hr;have S:=FP hr;have Z:keyOk m=aj:=by
  rcases hm with rfl |⟨s,rfl⟩<;>rfl
 refine RQ ?_;unfold zb;wtm_at "r";refine h.pA (TC h.dict hk ⟨λc=>?_,λc=>?_⟩)
 ·obtain⟨v,K⟩:=Bx.mp c;wtm_at "r";refine h.pA ?_;wtm_at "r";refine TG h.dict hk K ?_;wtm_at "r";exact q1 v K
 have J:eF D T=ag:=by
  cases w:eF D T with
  |none=>rfl
  |some v=>rw[w]at c;cases c
 wtm_at "r";refine h.mods (TF Z ⟨λM=>?_,λM=>?_⟩)
 ·have R:dv r p m=aj:=by
   rcases hm with rfl |⟨s,rfl⟩
   ·cases M
   ·have M:r.1.contains s=aj:=M;show((r.1.contains s || pg r.1 s) || qC r.2 p)=aj;rw[M];rfl
  wtm_at "r";refine h.pA ?_;wtm_at "r";refine sZ h.dict hk hl ?_;wtm_at "r";rw[R]at q2;refine q2 J λl=>?_;subst l;cases M
 wtm_at "r";refine h.mods (Rz ?_);intros _ W _ F;refine⟨rfl,?_⟩;have cont:(m= .int 7->r.1=[])->sE r.1 m=az->∀N,WP (sq [
 bJ (aR .Is (eL 1) (eK .none)) [
  aE (dM (iD (eL 0) "_ignore") (eL 2)) (eK (.int 1)),
  bL (eK (.int 1))] [],
 fy az (pL 4) (iA (iD (eL 0) "_dirs")) [
  bJ (tV (bX (eL 1) .startswith [(aY .Add (eL 4) (eK (vS "/")))] [])) [
   aE (dM (iD (eL 0) "_ignore") (eL 2)) (eK (.int 1)),
   bL (eK (.int 1))] []],
 aE (dM (iD (eL 0) "_ignore") (eL 2)) (eK (.int 0)),
 bL (eK (.int 0))] ⟨FN k,[],[ae (.ref a),ae p,ae m,N,ag,ag]⟩) B (λx B=>WP (eQ x.1) B a0 E) E:=by
  intro j u;intros _ N;have R:dv r p m=qC r.2 p:=by unfold dv;rw[u];rfl
  have q2:=q2 J j;wtm_at "r";refine zE ?_;rcases hp with rfl |⟨ps,rfl⟩
  ·refine t_t ?_;wtm_at "r";refine h.pA ?_;wtm_at "r";refine sZ h.dict hk hl ?_;wtm_at "r";rw[R]at q2;exact q2
  ·refine t_f ?_;have R:dv r (.str ps) m=sD r.2 ps:=R;rw[R]at q2;wtm_at "r";refine h.TH (fh h.fP ⟨rfl,?_⟩);refine lh (G:=λH=>H=B) (c0:=λk2 I H=>H=B/\(r.2.take k2).any (λx=>pE ps (x++sO "/"))=az/\∃X,I=[ae (.ref a),ae (.str ps),ae m,N,X,ag]) (K:=r.2.map .str)
    (Yl.gM λH e=>by rw[e];exact h.fP) (by rw[aO];exact FI 0 3 1 128 S.1 rfl) (λz z z h=>h.1) ⟨rfl,rfl,_,rfl⟩ ?_ ?_
   ·rintro k2 v _ H K ⟨rfl,G,X,rfl⟩;rw[dA]at K;cases L:r.2[k2]? with
    |none=>rw[L]at K;cases K
    |some x=>
     rw[L]at K;cases K;have A:=S.2 x (cD L);wtm_at "r";refine⟨(λh=>nomatch h.1),nZ (.inl rfl) ?_⟩;wtm_at "r";refine zO (by have:(aq "/").length=1:=(by decide +kernel);lia) ?_;wtm_at "r";refine FR ?_;wtm_at "r";refine⟨λO=>?_,λO=>?_⟩
     ·wtm_at "r";refine h.pA ?_;wtm_at "r";refine sZ h.dict hk hl ?_;wtm_at "r";have:sD r.2 ps=aj:=uw.mpr ⟨x,cD L,O⟩;rw[this]at q2;exact q2
     ·wtm_at "r";exact⟨rfl,FT L G O,_,rfl⟩
   ·rintro _ H ⟨rfl,G,X,rfl⟩;rw[aO,j7]at G;wtm_at "r";refine h.pA ?_;wtm_at "r";refine sZ h.dict hk hl ?_;wtm_at "r";have:sD r.2 ps=az:=G;rw[this]at q2;exact q2
 rcases hm with rfl |⟨s,rfl⟩
 ·-- the number 7
  match W,F with
  | [],F=>
   refine sS (aQ ⟨rfl,n_next ?_⟩);exact cont (λz=>F.symm.eq_nil) rfl _
  |y :: W,F=>
   refine v5 (aQ ⟨rfl,?_⟩);refine cu rfl (x_sq (w_qIf (w_tV (EZ (l:=[(aY .Add (eL 3) (eK (vS ".")))]) (ks:=[]) (by decide) (aM (v:=.int 7) rfl ⟨λz=>e J rfl (λh=>?_),λh=>absurd ⟨rfl,rfl⟩ h⟩)))));rw[h]at F;exact absurd F.eq_nil (by simp)
 ·refine lh (G:=λz=>eN) (c0:=λk2 I H=>H=B/\(W.take k2).any (λx=>pE s (x++sO "."))=az/\∃N,I=[ae (.ref a),ae p,ae (.str s),N,ag,ag]) (K:=W.map .str)
    Yl.set (by rw[aO,F.length_eq];exact FI 0 3 1 128 V.1 rfl) (λz z z z=>trivial) ⟨rfl,rfl,_,rfl⟩ ?_ ?_
  ·rintro k2 v _ H K ⟨rfl,G,N,rfl⟩;rw[dA]at K;cases L:W[k2]? with
   |none=>rw[L]at K;cases K
   |some x=>
    rw[L]at K;cases K;have U:=F.mem_iff.mp (cD L);have A:=V.2 x U;wtm_at "r";refine⟨(λh=>nomatch h.1),nZ (.inl rfl) ?_⟩;wtm_at "r";refine zO (by have:(aq ".").length=1:=(by decide +kernel);lia) ?_;wtm_at "r";refine FR ?_;wtm_at "r";refine⟨λO=>?_,λO=>?_⟩
    ·wtm_at "r";refine h.pA ?_;wtm_at "r";refine sZ h.dict hk hl ?_;wtm_at "r";have:dv r p (.str s)=aj:=by
      have Y:pg r.1 s=aj:=uw.mpr ⟨x,U,O⟩;show((r.1.contains s || pg r.1 s) || qC r.2 p)=aj;rw[Y,ry];rfl
     rw[this]at q2;exact q2 J (λh=>nomatch h)
    ·wtm_at "r";exact⟨rfl,FT L G O,_,rfl⟩
  ·rintro _ H ⟨rfl,G,N,rfl⟩;rw[aO,j7,TJ F]at G;refine n_next (cont (λh=>nomatch h) ?_ _);have Y:pg r.1 s=az:=G;have M:r.1.contains s=az:=M;show(r.1.contains s || pg r.1 s)=az;rw[Y,M];rfl
def wc {n:aS}{m':AV}:dw (n++[(m,p)]) m'=(dw n m').or (if m=m' then ae p else ag):=by
 unfold dw;rw[Jc];cases B:n.find? (λq=>decide (q.1=m'))with
 |some q=>rfl
 |none=>
  by_cases e:m=m'
  ·simp[e]
  ·simp[e]
def getD_snoc {D:ah ((au ⊕ Int)×AV)}{k k':au ⊕ Int}(h:eF D k=ag):eF (putD D k v) k'=if k=k' then ae v else eF D k':=by
 have B:D.any (λp=>p.1=k)=az:=by
  unfold eF at h;rw[Ba,List.find?_eq_none]at h;rw[HL];exact λx E=>h x E
 unfold putD;rw[B];show eF (D++[(k,v)]) k'=_;unfold eF;rw[Jc];by_cases e:k=k'
 ·subst e;unfold eF at h;rw[Ba]at h;rw[h];simp
 ·rw[aK e];cases F:D.find? (λp=>decide (p.1=k'))with
  |some q=>rfl
  |none=>simp[e]
def TK {m':AV}{k:au ⊕ Int}(h:gF m=ae k)(h':gF m'=ae k):m=m':=by
 cases m <;>cases h <;>cases m' <;>cases h' <;>rfl
def TL {D:ah ((au ⊕ Int)×AV)}{k:au ⊕ Int}:(putD D k v).length<=D.length+1:=by
 unfold putD;split
 ·rw[aO];exact gU _
 ·rw[bK];simp
def k6.old {n:aS}{D:ah ((au ⊕ Int)×AV)}{q:AV}(h:k6 r n D)(hm:eg m)(hp:f9 p)(hf:dw n m=ae q):k6 r (n++[(m,p)]) D:=by
 obtain⟨K,J,H,I⟩:=h;have T:∀B,dw (n++[(m,p)]) B=dw n B:=by
  intro B;rw[wc];by_cases e:m=B
  ·subst e;rw[hf];rfl
  ·rw[aK e];cases dw n B <;>rfl
 refine⟨by rw[bK];simp;lia,λB k F G=>by rw[T];exact J B k F G,λq E=>?_,λh=>by rw[T];exact I h⟩;rcases dX.mp E with E |E
 ·exact H q E
 ·rw[aJ.mp E];exact⟨hp,hm⟩
theorem k6.new {n:aS}{D:ah ((au ⊕ Int)×AV)}{k:au ⊕ Int}(h:k6 r n D)(hm:eg m)(hp:f9 p)(hk:gF m=ae k)(h7:m= .int 7->r.1=[])(hf:dw n m=ag):
  k6 r (n++[(m,p)]) (putD D k (.int (b2i (dv r p m)))):=by
 obtain⟨N,I,K,L⟩:=h;have J:eF D k=ag:=by rw[I m k hm hk,hf];rfl
 refine⟨by have:=TL (D:=D) (k:=k) (v:=.int (b2i (dv r p m)));rw[bK];simp;lia,λH G F B=>?_,λq E=>?_,λh=>?_⟩
 ·rw[getD_snoc J,wc];by_cases e:m=H
  ·subst e;have:k=G:=by rw[hk]at B;exact dp B
   rw[aN this,aN rfl,hf];rfl
  ·have: ¬ k=G:=λM=>e (TK hk (by rw[M];exact B));rw[aK this,aK e,I H G F B];cases dw n H <;>rfl
 ·rcases dX.mp E with E |E
  ·exact K q E
  ·rw[aJ.mp E];exact⟨hp,hm⟩
 ·rw[wc,L h];by_cases e:m= .int 7
  ·exact absurd (h7 e) h
  ·rw[aK e];rfl
def wd {g:ak}(h:B[g]? =ae o):B.set g o=B:=by
 obtain⟨E,D⟩:=cF.mp h;rw[<-D,Bz]
def FU {a0:AV->St->Prop}{a g:ak}{D:ah ((au ⊕ Int)×AV)}{n:aS}(h:fB B a d dd g r D)(ok:k6 r n D)(hl:n.length<=60)(hm:eg m)(hp:f9 p)(hr:fA r)(q:∀D',(m= .int 7->r.1=[])->k6 r (n++[(m,p)]) D'->a0 (.int (b2i (dv r ((dw n m).getD p) m))) (B.set g (.dict D')))(e:m= .int 7->r.1≠[]->E "AttributeError" B):
  WP (FN (k+1) (.fn (aq "_Ignore.names")) [.ref a,p,m] []) B a0 E:=by
 have I:∃T,gF m=ae T:=by
  rcases hm with rfl |⟨s,-,rfl⟩
  ·exact⟨_,rfl⟩
  ·exact⟨_,rfl⟩
 obtain⟨T,I⟩:=I;have G:=ok.get m T hm I;refine zP h (by have:=ok.len;lia) hm.str hp.str hr I (λv N=>?_) (λL H=>?_) λu H J=>e H J
 ·rw[N]at G;cases F:dw n m with
  |none=>rw[F]at G;cases G
  |some M=>
   rw[F]at G;have G:v= .int (b2i (dv r M m)):=dp G;have:=q D (λH=>by
    cases K:r.1 with
    |nil=>rfl
    |cons x l=>
     have:=ok.EN (by rw[K];simp);rw[H,this]at F;cases F) (ok.old hm hp F)
   rw[F,wd h.dict]at this;rw[G];exact this
 ·rw[L]at G;cases F:dw n m with
  |some M=>rw[F]at G;cases G
  |none=>
   have:=q _ H (ok.new hm hp I H F);rw[F]at this;exact this
def bG.dict:∀{B:St} {X:ah eY} {M:ah Rd} {ns:ah aS} {q:eY},bG B X M ns->q∈X->∃D,B[q.g]? =ae (.dict D)
 |_,[],_,_,_,_,hq=>nomatch hq
 |_,_ :: _,[],_,_,h,_=>h.elim
 |_,_ :: _,_ :: _,[],_,h,_=>h.elim
 |_,q :: X,r :: M,n :: ns,q',h,hq=>by
  rcases bu.mp hq with rfl |hq
  ·obtain⟨⟨D,E,-⟩,-⟩:=h;exact⟨D,E.dict⟩
  ·exact bG.dict h.2 hq
def bG.n5 {ns:ah aS}(h:bG B X M ns)(hi:B[i]? =ae o)(ho:∀D,o≠ .dict D): ¬ gs X i:=by
 rintro⟨q,hq,rfl⟩;obtain⟨D,E⟩:=h.dict hq;rw[hi]at E;exact ho D (dp E)
def fB.fr {P:ak->Prop}{a g:ak}{D:ah ((au ⊕ Int)×AV)}(h:fB B a d dd g r D)(a0:Fr P B H)(h1: ¬ P a)(h2: ¬ P d)(h3: ¬ P dd)(h4: ¬ P g):fB H a d dd g r D:=
 ⟨a0.get h.inst h1,a0.get h.bc h2,a0.get h.fP h3,a0.get h.dict h4⟩
def bG.fr {P:ak->Prop}(a0:Fr P B H):∀{X:ah eY} {M:ah Rd} {ns:ah aS},bG B X M ns->(∀q∈X,¬ P q.a/\¬ P q.d/\¬ P q.dd/\¬ P q.g)->bG H X M ns
 | [],[],[],_,_=>trivial
 |_ :: _,[],_,h,_=>h.elim
 |_ :: _,_ :: _,[],h,_=>h.elim
 | [],_ :: _,_,h,_=>h.elim
 | [],[],_ :: _,h,_=>h.elim
 |q :: X,r :: M,n :: ns,⟨⟨D,h1,h2⟩,h3⟩,hp=>
  have:=hp q (.head _)
  ⟨⟨D,h1.fr a0 this.1 this.2.1 this.2.2.1 this.2.2.2,h2⟩,bG.fr a0 h3 λE F=>hp E (.tail _ F)⟩
def bG.at:∀{B:St} {X:ah eY} {M:ah Rd} {ns:ah aS} {q:eY},bG B X M ns->q∈X->∃r D,fB B q.a q.d q.dd q.g r D:=by
 intro J K;induction K generalizing J with
 |nil=>
  intro _ _ _ _ E;exact nomatch E
 |cons q X I=>
  intro F;cases F with
  |nil=>
   intro _ _ h _;exact h.elim
  |cons r M=>
   intro H;cases H with
   |nil=>
    intro _ h _;exact h.elim
   |cons n ns=>
    intro L h E;rcases bu.mp E with rfl |E
    ·obtain⟨⟨D,G,-⟩,-⟩:=h;exact⟨r,D,G⟩
    ·exact I h.2 E
def bG.other {ns:ah aS}{g:ak}{D0 D':ah ((au ⊕ Int)×AV)}(h:bG B X M ns)(hg:B[g]? =ae (.dict D0))(a0:∀q∈X,q.g≠g):bG (B.set g (.dict D')) X M ns:=
 bG.fr (P:=λi=>i=g) (Fr.set rfl) h λq F=>by
  obtain⟨r,D,E⟩:=h.at F;exact⟨cC E.inst hg (by simp),cC E.bc hg (by simp),cC E.fP hg (by simp),a0 q F⟩
def TM {a:ak}{l:ah (au×AV)}{a0:b8->St->Prop}(h1:B[a]? =ae (.inst d))(h2:B[d]? =ae (.bc l))(h3:(l.lookup (aq "names")).isNone=aj)(q:a0 () B):WP (lJ (.ref a) .names) B a0 E:=
 av (dj h1 (av (dj h2 (bw ⟨rfl,h3⟩ q))))
def we {a:ak}{a0:AV->St->Prop}(q:WP (F (.fn (aq "_Ignore.names")) (.ref a :: args) []) B a0 E):WP (fb F (.ref a) .names args []) B a0 E:=av (eh (av (e6 q)))
def fB.has {a g:ak}{D:ah ((au ⊕ Int)×AV)}{a0:b8->St->Prop}(h:fB B a d dd g r D)(q:a0 () B):WP (lJ (.ref a) .names) B a0 E:=TM h.inst h.bc (by kernel_rfl) q
def zQ {x:AV}{a0:ax (AV×AI)->St->Prop}(h:B[s]? =ae (.list K))(hx:K[j]? =ae x)(q:a0 (ae (x,.list (ae s) (j+1))) B):WP (bx (.list (ae s) j)) B a0 E:=by
 refine av (fE h ?_);rw[hx];exact aQ q
def FV {a0:ax (AV×AI)->St->Prop}(h:B[s]? =ae (.list K))(hx:K[j]? =ag)(q:a0 ag B):WP (bx (.list (ae s) j)) B a0 E:=by
 refine av (fE h ?_);rw[hx];exact aQ q
def TN {p:AV}{c0 ct:ak}{rl:ah AV}{pl:AV}(hm:eg m)(hp:f9 p):∀(X:ah eY) (M:ah Rd) (ns:ah aS) (j d0:ak) (B:St) (e0:ah AV) (x0 x1 x2:ax AV) (a0:ah AV->St->Prop) (E:aI->St->Prop),
  (∀r∈M,fA r)->(∀n∈ns,n.length<=60)->bG B X M ns->X.Pairwise (λp q=>p.g≠q.g)->B[c0]? =ae (.list rl)->rl.drop j=X.map (λq=>.ref q.a)->X.length < d0->e0.length+X.length<=4096->B[ct]? =ae (.cell (ae (.dB p m pl)))->
  (∀(il:ah Int) H,(b7 M ns m p).1=ae il.sum->il.length=X.length->bG H X M (b7 M ns m p).2->Fr (gs X) B H->a0 (e0++il.map .int) H)->
  (∀H,(b7 M ns m p).1=ag->bG H X M (b7 M ns m p).2->Fr (gs X) B H->E "AttributeError" H)->
  WP (cw zk [] (pL 1) d0 (.list (ae c0) j) ⟨FN (k+1),[(aq "thing",ct)],[x0,x1,x2]⟩ e0) B a0 E:=by
 intro X;induction X with
 |nil=>
  intro M ns j d0 B e0 x0 x1 x2 a0 E w A h I O N U hl b q e;rcases d0 with _ |d0
  ·exact XX 1 0 (CH 1 0 0 0 U ZZ) rfl
  rcases M with _ |⟨_,_⟩
  ·rcases ns with _ |⟨_,_⟩
   ·refine wa (FV O (rJ (pW.mp N)) ⟨rfl,?_⟩);have:=q [] B rfl rfl trivial (Fr.refl _ _);rw[ub,fU]at this;exact this
   ·exact h.elim
  ·exact h.elim
 |cons q0 X ih=>
  intro M ns j d0 B e0 x0 x1 x2 a0 E w A h I O N U hl b q e;rcases d0 with _ |d0
  ·exact XX 1 0 (CH 1 0 0 0 U ZZ) rfl
  rcases M with _ |⟨r,M⟩
  ·exact h.elim
  rcases ns with _ |⟨n,ns⟩
  ·exact h.elim
  have h0:=h;obtain⟨⟨D,F,h2⟩,h3⟩:=h;have hj:rl[j]? =ae (.ref q0.a):=by
   have:(rl.drop j)[0]? =ae (.ref q0.a):=by rw[N];rfl
   rwa [xq,xr]at this
  have oY:rl.drop (j+1)=X.map (λq=>.ref q.a):=by
   have:=drop_cons hj;rw[this]at N;injection N
  have qo:e0.length+(X.length+1)<=4096:=hl;have zR:X.length+1 < d0+1:=U;obtain⟨V,o⟩:=lG.mp I;refine Fy (zQ O hj ⟨rfl,?_⟩);wtm_at "r";refine qJ ?_;refine t_t ?_;refine⟨by exact TT AL hl,?_⟩;unfold zk;wtm_at "r";refine⟨(λh=>nomatch h.2),F.has ?_⟩;wtm_at "r";refine sX (by decide) rfl rfl ?_;wtm_at "r";refine sX (by decide) rfl rfl ?_;wtm_at "r";refine we (FU F h2 (A n (.head _)) hm hp (w r (.head _)) (λJ h7 T=>?_) λe7 u=>?_)
  ·have K:b7 (r :: M) (n :: ns) m p=((b7 M ns m p).1.map λi=>b2i (dv r ((dw n m).getD p) m)+i,(n++[(m,p)]) :: (b7 M ns m p).2):=aK λc=>c.2 (h7 c.1);have l:Fr (gs (q0 :: X)) B (B.set q0.g (.dict J)):=Fr.set ⟨q0,.head _,rfl⟩;have FW:∀q∈X,q.g≠q0.g:=λq S=>(V q S).symm;have wg:=h3.other (D':=J) F.dict FW;have wh:fB (B.set q0.g (.dict J)) q0.a q0.d q0.dd q0.g r J:=
    ⟨g_ne (cC F.dict F.inst (by simp)) F.inst,g_ne (cC F.dict F.bc (by simp)) F.bc,g_ne (cC F.dict F.fP (by simp)) F.fP,de F.dict⟩
   have G:∀{H:St},Fr (gs X) (B.set q0.g (.dict J)) H->fB H q0.a q0.d q0.dd q0.g r J/\Fr (gs (q0 :: X)) B H:=λf=>
    ⟨wh.fr f (wg.n5 wh.inst (by simp)) (wg.n5 wh.bc (by simp)) (wg.n5 wh.fP (by simp)) (λ⟨q,S,e⟩=>FW q S e.symm),l.trans (f.mono λi ⟨q,S,e⟩=>⟨q,.tail _ S,e⟩)⟩
   refine ih M ns (j+1) d0 _ _ _ _ _ a0 E (λr Y=>w r (.tail _ Y)) (λn z=>A n (.tail _ z)) wg o (g_ne (cC F.dict O (by simp)) O) oY (by exact FI 2 1 1 0 zR rfl) (by rw[bK,uz];lia) (g_ne (cC F.dict b (by simp)) b) (λil H Z W L f=>?_) λH Z L f=>?_
   ·have:=q (b2i (dv r ((dw n m).getD p) m) :: il) H (by rw[K,Z];rfl) (by rw[ft,W];rfl) (by rw[K];exact⟨⟨J,(G f).1,T⟩,L⟩) (G f).2;rw[j2];exact this
   ·exact e H (by rw[K,Z];rfl) (by rw[K];exact⟨⟨J,(G f).1,T⟩,L⟩) (G f).2
  ·have K:b7 (r :: M) (n :: ns) m p=(ag,n :: ns):=aN ⟨e7,u⟩;exact e B (by rw[K]) (by rw[K];exact h0) (Fr.refl _ _)
def TP:(mQ.map λd=>cE d.2.2 40 d.2.1)=ae sF:=by kernel_rfl
theorem TQ {cR cA:ak}{t:AV}{a:fj}{e:aH}{sc:bN}{a0:AV->St->Prop}(hl:mQ=ae (a,e,sc))(h:B[i]? =ae (.lam a e sc [(sO "readers",cR),(sO "asks",cA)]))(q:WP (sF ⟨FN k,[(sO "thing",B.length),(sO "readers",cR),(sO "asks",cA)],[ag,ag,ag,ag]⟩) (B++[.cell (ae t)]) a0 E):WP (FN (k+1) (.ref i) [t] []) B a0 E:=by
 have F:(mQ.map λd=>P.guard (fc d.2.2=aj)>>=λu=>P.opt (fX d.1 [t] [])>>=λb=>cP (FN k) d.2.2 [(sO "readers",cR),(sO "asks",cA)] b)
  =ae (P.alloc (.cell ag)>>=λi=>kr (sO "thing") t ⟨FN k,[(sO "thing",i),(sO "readers",cR),(sO "asks",cA)],[ag,ag,ag,ag]⟩>>=λI=>P.pure ⟨FN k,[(sO "thing",i),(sO "readers",cR),(sO "asks",cA)],I⟩):=by kernel_rfl
 have D:=TP;rw[hl]at F D;have F:=dp F;have D:cE sc 40 e=sF:=dp D;have H:WP (P.guard (fc sc=aj)>>=λu=>P.opt (fX a [t] [])>>=λb=>cP (FN k) sc [(sO "readers",cR),(sO "asks",cA)] b) B (λQ B=>WP (sF Q) B a0 E) E:=by
  have TR:(P.guard (fc sc=aj)>>=λu=>P.opt (fX a [t] [])>>=λb=>cP (FN k) sc [(sO "readers",cR),(sO "asks",cA)] b)=_:=F;rw[TR];exact av (eJ (av (nY (x:="thing") (v':=ag) lk_here By (by rw[zy];exact aQ q))))
 show WP (P.load i>>=λo=>match o with
  |.lam a e sc cs=>P.guard (fc sc=aj)>>=λu=>P.opt (fX a [t] [])>>=λb=>cP (FN k) sc cs b>>=λQ=>cE sc 40 e Q
  |_=>P.fail) B a0 E
 refine av (dj h ?_);show WP (P.guard (fc sc=aj)>>=λu=>P.opt (fX a [t] [])>>=λb=>cP (FN k) sc [(sO "readers",cR),(sO "asks",cA)] b>>=λQ=>cE sc 40 e Q) B a0 E;have G:(P.guard (fc sc=aj)>>=λu=>P.opt (fX a [t] [])>>=λb=>cP (FN k) sc [(sO "readers",cR),(sO "asks",cA)] b>>=λQ=>cE sc 40 e Q)
  =((P.guard (fc sc=aj)>>=λu=>P.opt (fX a [t] [])>>=λb=>cP (FN k) sc [(sO "readers",cR),(sO "asks",cA)] b)>>=λQ=>cE sc 40 e Q):=by
  unfold P.guard;cases fX a [t] []<;>split <;>rfl
 rw[G,D];exact av H
def Good.mono {x:eO}{ns:ah aS}(G:Good x M ns as B)(h:∀i,eZ x i->H[i]? =B[i]?):Good x M ns as H:=by
 obtain⟨J,Q,K,L,⟨a,e,R,S,W⟩,N⟩:=G;refine⟨by rw[h _ (.inl rfl)];exact J,by rw[h _ (.inr (.inl rfl))];exact Q,by rw[h _ (.inr (.inr (.inl rfl)))];exact K,by rw[h _ (.inr (.inr (.inr (.inl rfl))))];exact L,
  ⟨a,e,R,S,by rw[h _ (.inr (.inr (.inr (.inr (.inl rfl)))))];exact W⟩,?_⟩
 have T:∀(X:ah eY) (M:ah Rd) (ns:ah aS),(∀q∈X,q∈x.qs)->bG B X M ns->bG H X M ns:=by
  intro X;induction X with
  |nil=>intro M ns _ h;match M,ns,h with | [],[],h=>exact trivial
  |cons q X O=>
   intro M ns F U
   match M,ns,U with
   |r :: M,n :: ns,⟨⟨D,ha,hb⟩,hc⟩=>
    obtain f:∀i,(i=q.a\/i=q.d\/i=q.dd\/i=q.g)->H[i]? =B[i]? :=λi I=>h i (.inr (.inr (.inr (.inr (.inr ⟨q,F q (.head _),I⟩)))));exact⟨⟨D,⟨by rw[f _ (.inl rfl)];exact ha.inst,by rw[f _ (.inr (.inl rfl))];exact ha.bc,by rw[f _ (.inr (.inr (.inl rfl)))];exact ha.fP,by rw[f _ (.inr (.inr (.inr rfl)))];exact ha.dict⟩,hb⟩,O M ns (λV E=>F V (.tail _ E)) hc⟩
 exact T _ _ _ (λu h=>h) N
def Good.app {x:eO}{ns:ah aS}{l:St}(G:Good x M ns as B):Good x M ns as (B++l)/\∀i,eZ x i->i < B.length:=by
 have F:∀i,eZ x i->i < B.length:=by
  intro i E;rcases E with rfl |rfl |rfl |rfl |rfl |⟨q,hq,E⟩
  ·exact ba G.cA
  ·exact ba G.A
  ·exact ba G.cR
  ·exact ba G.R
  ·obtain⟨_,_,_,_,h⟩:=G.lm;exact ba h
  ·obtain⟨r,D,h⟩:=G.jS.at hq;rcases E with rfl |rfl |rfl |rfl
   ·exact ba h.inst
   ·exact ba h.bc
   ·exact ba h.fP
   ·exact ba h.dict
 exact⟨G.mono λi E=>lB (F i E),F⟩
def zS {x:eO}(h:gs x.qs i):eZ x i:=by
 obtain⟨q,B,rfl⟩:=h;exact .inr (.inr (.inr (.inr (.inr ⟨q,B,.inr (.inr (.inr rfl))⟩))))
def Good.rd {x:eO}{ns c0:ah aS}(G:Good x M ns as B)(a0:Fr (gs x.qs) B H)(h:bG H x.qs M c0):Good x M c0 as H:=by
 obtain⟨a,e,E,F,D⟩:=G.lm;exact⟨a0.get G.cA (G.jS.n5 G.cA (by simp)),a0.get G.A (G.jS.n5 G.A (by simp)),a0.get G.cR (G.jS.n5 G.cR (by simp)),a0.get G.R (G.jS.n5 G.R (by simp)),⟨a,e,E,F,a0.get D (G.jS.n5 D (by simp))⟩,h⟩
def Good.ask {x:eO}{ns:ah aS}{a0:ah AV}(ok:x.Ok)(G:Good x M ns as B):Good x M ns a0 (B.set x.A (.list a0)):=by
 obtain⟨a,e,I,J,E⟩:=G.lm;refine⟨g_ne (cC G.A G.cA (by simp)) G.cA,de G.A,g_ne (cC G.A G.cR (by simp)) G.cR,g_ne ok.ar G.R,⟨a,e,I,J,g_ne (cC G.A E (by simp)) E⟩,?_⟩;refine bG.fr (P:=λi=>i=x.A) (Fr.set rfl) G.jS λq H=>?_;obtain⟨r,D,F⟩:=G.jS.at H;exact⟨cC F.inst G.A (by simp),cC F.bc G.A (by simp),λh=>ok.ad q H h.symm,cC F.dict G.A (by simp)⟩
def vw:∀{l:ah Int},intsOf (l.map .int)=ae l:=by
 intro l;induction l with
 |nil=>
  exact rfl
 |cons x l B=>
  show(intsOf (l.map .int)).map (x :: ·)=_;rw[B];rfl
def FX {l:ah Int}{a0:AV->St->Prop}(h:B[i]? =ae (.list (l.map .int)))(q:a0 (.int l.sum) B):WP (eu ⟨F,O,I⟩ (.bi "sum") [.ref i] []) B a0 E:=by
 exact mX rfl (av (fG (av (e6 (av (eh (av (fE h (av (dU vw (aQ q)))))))))))
def TS {x:eO}{ns:ah aS}{pl:AV}{c0:AV->St->Prop}(ok:x.Ok)(G:Good x M ns as B)(hm:eg m)(hp:f9 p)(hr:∀r∈M,fA r)(hn:∀n∈ns,n.length<=60)(hq:x.qs.length<=60)(has:as.length<=4096)(q:∀s H,(b7 M ns m p).1=ae s->Good x M (b7 M ns m p).2 (as++[pl]) H->Fr (eZ x) B H->c0 (.int s) H)(e:∀H,(b7 M ns m p).1=ag->Good x M (b7 M ns m p).2 (as++[pl]) H->Fr (eZ x) B H->E "AttributeError" H):
  WP (FN (k+2) (.ref x.lm) [.dB p m pl] []) B c0 E:=by
 obtain⟨z,b,A,w,S⟩:=G.lm;refine TQ w S ?_;obtain L:(B++[AO.cell (ae (.dB p m pl))])[B.length]? =ae (.cell (ae (.dB p m pl))):=g_last;obtain I:Good x M ns as (B++[AO.cell (ae (.dB p m pl))]):=G.app.1;obtain j:Fr (eZ x) B (B++[AO.cell (ae (.dB p m pl))]):=Fr.app;generalize W:B.length=ct at *;generalize B++[AO.cell (ae (.dB p m pl))]=a7 at *;unfold sF;obtain o:=I.cA;obtain Y:=I.cR;wtm_at "r";refine⟨(λh=>nomatch h.2),hY I.A (.inl rfl) ?_⟩;wtm_at "r";refine sX (by decide) rfl rfl ?_;wtm_at "r";refine jv I.A has ?_;obtain J:=I.ask ok (a0:=as++[pl]);obtain U:(a7.set x.A (.list (as++[pl])))[ct]? =ae (.cell (ae (.dB p m pl))):=g_ne (cC I.A L (by simp)) L;obtain V:Fr (eZ x) B (a7.set x.A (.list (as++[pl]))):=j.trans (Fr.set (.inr (.inl rfl)));generalize a7.set x.A (.list (as++[pl]))=bF at *;obtain Y:=J.cR;wtm_at "r";refine iJ (cs:=[(aq "thing",ct)]) (L:=[ag,ag,ag]) (by decide +kernel) (by kernel_rfl) (λv=>by kernel_rfl) rfl ?_;wtm_at "r";refine fh J.R ⟨rfl,?_⟩;refine TN (pl:=pl) hm hp x.qs M ns 0 128 bF [] ag ag ag _ _ hr hn J.jS ok.sep J.R rfl (by exact FI 0 60 1 128 hq rfl) (by simp;exact FI 0 60 0 4096 hq rfl) U (λK D T O F f=>?_) λD T F f=>?_
 ·obtain X:=J.rd f F;obtain Z:=V.trans (f.mono λi N=>zS N);rw[mu];refine bp (by rw[aO];exact CF 0 0 0 60 0 4096 (EL O) hq rfl) ?_;obtain u:=(X.app (l:=[AO.list (K.map .int)])).1;obtain l:Fr (eZ x) B (D++[AO.list (K.map .int)]):=Z.trans Fr.app;obtain R:(D++[AO.list (K.map .int)])[D.length]? =ae (AO.list (K.map .int)):=g_last;generalize D++[AO.list (K.map .int)]=cO at *;wtm_at "r";refine FX R ?_;wtm_at "r";refine bp (by simp) ?_;wtm_at "r";refine lY g_last (by decide) rfl ?_;exact q _ _ T u.app.1 (l.trans Fr.app)
 ·exact e D T (J.rd f F) (V.trans (f.mono λi N=>zS N))
def s7 {ns:ah aS}{t:Thing}{i:Int}(h:(b7 M ns t.2.1 t.1).1=ae i):bM M ns (t :: R)=(i :: (bM M (b7 M ns t.2.1 t.1).2 R).1,(bM M (b7 M ns t.2.1 t.1).2 R).2):=by
 rw[bM];rw[show b7 M ns t.2.1 t.1=(ae i,(b7 M ns t.2.1 t.1).2) from qZ h rfl]
def s8 {ns:ah aS}{t:Thing}(h:(b7 M ns t.2.1 t.1).1=ag):bM M ns (t :: R)=([],(b7 M ns t.2.1 t.1).2):=by
 rw[bM];rw[show b7 M ns t.2.1 t.1=(ag,(b7 M ns t.2.1 t.1).2) from qZ h rfl]
def wi:∀{ns:ah aS} {R:ah Thing},(bM M ns R).1.length<=R.length:=by
 intro ns l;induction l generalizing ns with
 |nil=>
  exact a4 _
 |cons t R B=>
  cases h:(b7 M ns t.2.1 t.1).1 with
  |none=>rw[s8 h];exact cZ _
  |some i=>rw[s7 h];exact Az B
def TU {b:ak}:∀{M:ah Rd} {ns:ah aS},(∀n∈ns,n.length<=b)->∀n∈(b7 M ns m p).2,n.length<=b+1:=by
 intro F;induction F with
 |nil=>
  intro E;cases E with
  |nil=>
   intro _ _ B;exact nomatch B
  |cons _ _=>
   intro _ _ B;exact nomatch B
 |cons r M G=>
  intro E;cases E with
  |nil=>
   intro _ _ B;exact nomatch B
  |cons n ns=>
   intro h D B;have B:D∈(if m= .int 7/\r.1≠[]then ((ag:ax Int),n :: ns)else ((b7 M ns m p).1.map λi=>b2i (dv r ((dw n m).getD p) m)+i,(n++[(m,p)]) :: (b7 M ns m p).2)).2:=B;split at B
   ·exact xt (h D B)
   ·rcases bu.mp B with rfl |B
    ·rw[bK];have:=h n (.head _);simp;exact this
    ·exact G (λn B=>h n (.tail _ B)) D B
def TV {x:eO}(ok:x.Ok)(hr:∀r∈M,fA r)(hq:x.qs.length<=60)(ht:∀t∈R,iG t)(hb:b0+R.length<=60)(has:gE.length+R.length<=4096):
  iX (FN (k+2)) (.ref x.lm) (eZ x) (KJ x M dI gE R b0) (EO x M dI gE R) (R.map tA) (bM M dI R).1 where
 call j y B hy:=by
  rintro⟨ns,G,ha,hn,hj⟩;rw[dA]at hy;cases E:R[j]? with
  |none=>rw[E]at hy;cases hy
  |some t=>
   rw[E]at hy;cases hy;have S:=ba E;obtain⟨U,T⟩:=ht t (cD E);have K:gE++gq (R.take (j+1))=(gE++gq (R.take j))++[.int t.2.2]:=by
    rw[take_snoc E];unfold gq;rw[dH,<-j2];rfl
   rw[drop_cons E]at ha;have L:(gE++gq (R.take j)).length<=4096:=by
    unfold gq;rw[bK,aO,er];lia
   refine TS ok G T U hr (λn I=>by have:=hn n I;lia) hq L (λs H N O f=>?_) λH N O f=>?_
   ·rw[s7 N]at ha;have D:s :: (bM M (b7 M ns t.2.1 t.1).2 (R.drop (j+1))).1=(bM M dI R).1.drop j:=(lF ha).1;have F:(bM M (b7 M ns t.2.1 t.1).2 (R.drop (j+1))).2=(bM M dI R).2:=(lF ha).2;have J:(bM M dI R).1[j]? =ae s:=by
     have:((bM M dI R).1.drop j)[0]? =ae s:=by rw[<-D];rfl
     rwa [xq,xr]at this
    refine⟨s,J,rfl,⟨_,by rw[K];exact O,?_,λn I=>?_,ba J⟩,f⟩
    ·rw[drop_cons J]at D;injection D with _ D;exact qZ D F
    ·have:=TU hn n I;lia
   ·rw[s8 N]at ha;have D:[]=(bM M dI R).1.drop j:=(lF ha).1;have F:(b7 M ns t.2.1 t.1).2=(bM M dI R).2:=(lF ha).2;have Q:(bM M dI R).1.length=j:=by have:=pW.mp D.symm;exact AN (this) (hj)
    refine⟨rfl,Q,?_,f⟩;unfold EO;rw[Q,K,<-F];exact O
 zj j B H:=by
  rintro⟨ns,G,h⟩ _ J;exact⟨ns,G.mono J,h⟩
 QJ B H G _ J:=Good.mono G J
 inside j B:=by
  rintro⟨ns,G,h⟩ i hi;exact(G.app (l:=[])).2 i hi
 le:=by rw[aO];exact wi
def TX {x:eO}(j:ak)(B:St)(h:KJ x M dI gE R b0 j B):jR B (.ref x.lm):=by
 obtain⟨ns,G,h⟩:=h;obtain⟨a,e,D,F,E⟩:=G.lm;exact⟨_,a,e,D,_,rfl,E⟩
def TY {x:eO}(G:Good x M dI gE B)(hb:∀n∈dI,n.length<=b0):KJ x M dI gE R b0 0 B:=
 ⟨dI,by unfold gq;rw[uj,ub,fU];exact G,by rw[mv,mv],hb,cZ _⟩
def yK {x:eO}(h:KJ x M dI gE R b0 R.length B):Good x M (bM M dI R).2 (gE++gq R) B:=by
 obtain⟨ns,G,h,-⟩:=h;rw[kh (a4 _)]at h;have:ns=(bM M dI R).2:=(lF h).2;rw[<-this];rw[j7]at G;exact G
def Ex.g (h:Ex B H)(hi:B[i]? =ae o):H[i]? =ae o:=Fr.get h hi id
def Ex.any (h:Ex B H):Fr D B H:=Fr.mono h λu h=>h.elim
def Ex.n6 (h:Ex B H)(hi:B.length<=i):Ex B (H.set i o):=Fr.old h (Fr.set (D:=λj=>j=i) rfl) λj D e=>by exact XX 1 0 (CH 0 0 1 0 (CH 0 0 0 0 hi (EG e)) D) rfl
def l5 {s:au}(h:cY s=aj):a8 n B (.str s)=ae (.str s):=by
 have e:a8 n B (.str s)=if cY s then ae (.str s)else ag:=by cases n <;>rfl
 rw[e,aN h]
def zT:∀{l:ah au},(∀s∈l,cY s=aj)->c8 (a8 n B) (l.map .str)=ae (l.map .str):=by
 intro l;induction l with
 |nil=>
  intro _;exact rfl
 |cons s l F=>
  intro h;obtain D:a8 n B (.str s)=ae (.str s):=l5 (h s (.head _));show(match a8 n B (.str s),c8 (a8 n B) (l.map .str)with |some d,ae ds=>ae (d :: ds) |_,_=>bq)=_;rw[D,F λs E=>h s (.tail _ E)];rfl
def qK {i:Int}:a8 n B (.int i)=ae (.int i):=by cases n <;>rfl
def zU:∀{l:ah Int},c8 (a8 n B) (l.map .int)=ae (l.map .int):=by
 intro l;induction l with
 |nil=>
  exact rfl
 |cons i l D=>
  show(match a8 n B (.int i),c8 (a8 n B) (l.map .int)with |some d,ae ds=>ae (d :: ds) |_,_=>bq)=_;rw[qK,D];rfl
def l6 {ds:ah hZ}(h:B[i]? =ae (.list l))(hd:c8 (a8 n B) l=ae ds):a8 (n+1) B (.ref i)=ae (.list ds):=by
 show((B[i]?.bind listOf).bind λl=>(c8 (a8 n B) l).map Jd)=_;rw[h];show(c8 (a8 n B) l).map Jd=_;rw[hd];rfl
def s9 {b:AV}{x y:hZ}(h1:a8 8 B a=ae x)(h2:a8 8 B b=ae y)(q:QB (!bY x y) B):WP (dQ .NotEq a b) B QB E:=by
 show WP (lI a b>>=λc=>tm (!c)) B QB E;exact av (zI h1 h2 (sN q))
def w_eq {b:AV}{x y:hZ}(h1:a8 8 B a=ae x)(h2:a8 8 B b=ae y)(q:QB (bY x y) B):WP (dQ .Eq a b) B QB E:=by
 show WP (lI a b) B QB E;exact zI h1 h2 q
def zV {ds:ah hZ}(h:B[i]? =ae (.list l))(hd:c8 (a8 7 B) l=ae ds)(hj:B[j]? =ae (.list []))(q:QB (!l.isEmpty) B):WP (dQ .NotEq (.ref i) (.ref j)) B QB E:=by
 refine s9 (l6 h hd) (l6 hj (ds:=[]) rfl) ?_;have:bY (.list ds) (.list [])=l.isEmpty:=by
  rw[bY];cases l with
  |nil=>cases hd;rw[lH];rfl
  |cons x l=>
   have:c8 (a8 7 B) (x :: l)=(match a8 7 B x,c8 (a8 7 B) l with |some d,ae ds=>ae (d :: ds) |_,_=>bq):=rfl;rw[this]at hd;cases D:a8 7 B x with
   |none=>rw[D]at hd;cases hd
   |some d=>
    rw[D]at hd;cases F:c8 (a8 7 B) l with
    |none=>rw[F]at hd;cases hd
    |some G=>rw[F]at hd;cases hd;rw[lH];rfl
 rw[this];exact q
def FY {l:ah au}{s:au}(h:B[i]? =ae (.list (l.map .str)))(hs:cY s=aj)(hl:∀s∈l,cY s=aj)(q:QB (l.contains s) B):WP (dQ .In (.str s) (.ref i)) B QB E:=by
 refine av (dj h ?_);show WP (xC (.str s) (l.map .str)) B QB E;refine av (w_get ?_);obtain D:a8 8 B (.str s)=ae (.str s):=l5 hs;rw[D,zT hl];refine aQ ?_;have e:((l.map PyData.str).any λy=>bY y (.str s))=l.contains s:=by
  rw[List.any_map,List.contains_eq_any_beq]
  congr 1
  funext x
  show bY (.str x) (.str s)=_;rw[bY];rw[qY,bU,bU];exact eq_comm
 rw[e];exact q
def m_split {a0:AV->St->Prop}{s c:au}(hc:(c.length == 0)=az)(hl:s.length<=4096)(hp:(m6 s (l7 s c 0 s.length (s.length+1)) c.length).length<=4096)(c0:(aU s c).length<=4096)(q:a0 (.ref B.length) (B++[.list ((aU s c).map .str)])):WP (fb F (.str s) .split [.str c] []) B a0 E:=
 av (qG (av (fG (av (e6 (av (qG (av (bw ⟨hc,hl,hp⟩ (bp (by rw[aO];exact c0) q))))))))))
def so:∀{l:ah au},strsOf (l.map .str)=ae l:=by
 intro l;induction l with
 |nil=>
  exact rfl
 |cons x l B=>
  show(strsOf (l.map .str)).map (x :: ·)=_;rw[B];rfl
def zW {a0:AV->St->Prop}{s:au}{l:ah au}(h:B[i]? =ae (.list (l.map .str)))(hj:pF s l=aj)(q:a0 (.str (jx s l)) B):WP (fb F (.str s) .join [.ref i] []) B a0 E:=
 av (qG (av (fG (av (e6 (av (eh (av (fE h (av (dU so (av (bw hj (aQ q))))))))))))))
def wj:∀{n k:ak} {c:Int} {v:AV},(mS 1 n c)[k]? =ae v->v= .int (c+k)/\k < n:=by
 intro B;induction B with
 |zero=>
  intro _ _ _ h;exact nomatch h
 |succ n E=>
  intro D;cases D with
  |zero=>
   intro c v h;cases h;exact⟨by simp,Bk _⟩
  |succ k=>
   intro c v h;obtain⟨F,G⟩:=E (k:=k) (c:=c+1) h;refine⟨?_,by exact FI 1 0 2 1 G rfl⟩;rw[F];congr 1;lia
def qL {d:Int}:∀{n:ak} {c:Int},(mS d n c).length=n:=by
 intro n;induction n with
 |zero=>
  intro _;exact rfl
 |succ n B=>
  intro c;show(mS d n (c+d)).length+1=_;rw[B]
def wk {a0:AV->St->Prop}(e:B[i]? =ae (.list l))(hl:l.length<=4096)(hz:z=k)(hk:k<=8192)(q:a0 (.ref B.length) (B++[.list (l.take k)])):WP (kq (.ref i) ag (ae (.int z))) B a0 E:=by
 subst hz;exact FG e hl (by exact FI 0 8192 1 4611686018427387904 hk rfl) q
def FZ (h:fA r):(∀s∈r.1,cY s=aj)/\∀s∈r.2,cY s=aj:=by
 have:=bW.mp TA;exact⟨bW.mp (this _ (gQ _ h.1)),bW.mp (this _ (ia _ h.2))⟩
theorem zX {s:au}(h:s∈modS):vT s (sO ".") 3 (jt s):=by
 have:=bW.mp Tw s h;simp only[cW,fu,bW,nx]at this;obtain⟨⟨⟨⟨⟨E,I⟩,F⟩,G⟩,D⟩,H⟩:=this;exact⟨E,by exact FI 0 8 0 16 I rfl,F,λk B=>G k (by exact FI 0 3 1 4 B rfl),D,H⟩
theorem F3 {s:au}(h:s∈sC):vT s (sO "/") 4 (k5 s):=by
 have:=bW.mp Tz s h;simp only[cW,fu,bW,nx]at this;obtain⟨⟨⟨⟨⟨E,I⟩,F⟩,G⟩,D⟩,H⟩:=this;exact⟨E,by exact I,F,λk B=>G k (by exact FI 0 4 1 5 B rfl),D,H⟩
def TZ {s:au}(h:fA r)(hs:s∈modS):sE r.1 (.str s)=(jt s).any λx=>r.1.contains x:=by
 have:=bW.mp (bW.mp Tu _ h.1) s hs;exact eq_of_beq this
def T4 {s:au}(h:fA r)(hs:s∈sC):qC r.2 (.str s)=(k5 s).any λx=>r.2.contains x:=by
 have:=bW.mp (bW.mp Tv _ h.2) s hs;exact eq_of_beq this
def T5 {α:Type}{l:ah α}{a0:α->aB}:(!(l.filter a0).isEmpty)=l.any a0:=by
 rw[qY];simp[uw,uc,Je]
def te {α:Type}{l:ah α}{x:α}{a0:α->aB}(hx:l[k]? =ae x):(l.take (k+1)).filter a0=(l.take k).filter a0++(if a0 x then [x]else []):=by
 rw[take_snoc hx,List.filter_append]
 congr 1
 by_cases h:a0 x
 ·rw[aN h,Jf h];rfl
 ·rw[aK h,Jg h];rfl
def qM {a0:aB->St->Prop}{t:DT}(h:WP (t Q) B a0 E):mR Q a0 E [t] B:=h
theorem T6 {a0:ah AV->St->Prop}{c pi:ak}{s:au}(fs:vT s (sO ".") 3 (jt s))(hc:B[c]? =ae (.cell (ae (.ref pi))))(hp:B[pi]? =ae (.list ((aU s (sO ".")).map .str)))(q:∀H,Ex B H->a0 ((jt s).map .str) H):
  WP (cw (bX (eK (vS ".")) .join [(fx (eC "parts") ag (ae (aY .Add (eL 1) (eK (.int 1)))))] []) [] (pL 1) 128 (.range 0 (aU s (sO ".")).length 1) ⟨F,[(aq "parts",c)],[ag,ag,ag]⟩ []) B a0 E:=by
 obtain D:=fs.len;refine l4 (G:=λu=>eN) (a0:=λj J I H=>J=((jt s).take j).map .str/\Ex B H/\mU I) (K:=mS 1 (aU s (sO ".")).length 0)
  Yl.range (by rw[qL];exact FI 0 3 1 128 D rfl) (λu u u u u=>trivial) ⟨rfl,Fr.refl _ _,mU.mk⟩ ?_ ?_
 ·intros _ j v J O H _ N M;obtain⟨rfl,G,L⟩:=M;obtain (⟨T,U,S,rfl⟩):=L;obtain⟨rfl,K⟩:=wj N;obtain T7:=G.g hc;obtain qI:=G.g hp;wtm_at "r";refine qJ ?_;refine t_t ?_;refine⟨by rw[aO,er];exact TT ML (CF 1 0 0 3 0 4096 K D rfl),?_⟩;wtm_at "r";refine⟨(λh=>nomatch h.1),nZ (.inr (.inr rfl)) ?_⟩;wtm_at "r";refine wk (k:=j+1) qI (by rw[aO];exact FI 0 3 0 4096 D rfl) (by lia) (by exact CF 1 0 0 3 1 8192 K D rfl) ?_;wtm_at "r";rw[<-rK];refine zW g_last (fs.join _ (by exact TT K D)) ?_;refine⟨?_,G.trans Fr.app,mU.mk⟩;have R:(jt s)[j]? =ae (jx (sO ".") ((aU s (sO ".")).take (j+1))):=by
   unfold jt;rw[dA,Jh K];rfl
  rw[take_snoc R,dH];rfl
 ·rintro J I H ⟨rfl,G,-⟩;rw[qL,gA (by unfold jt;rw[aO,wW];exact a4 _)];exact q H G
theorem T8 {a0:ah AV->St->Prop}{c ai:ak}{L c0:ah au}(hL:L.length<=16)(e0:∀x∈L,cY x=aj)(d0:∀x∈c0,cY x=aj)(hc:B[c]? =ae (.cell (ae (.ref mi))))(hm:B[mi]? =ae (.list (c0.map .str)))(ha:B[ai]? =ae (.list (L.map .str)))(q:a0 ((L.filter λx=>c0.contains x).map .str) B):
  WP (cw (eL 1) [(aR .In (eL 1) (eC "modules"))] (pL 1) 128 (.list (ae ai) 0) ⟨F,[(aq "modules",c)],[ag,ag,ag]⟩ []) B a0 E:=by
 refine l4 (G:=λH=>H=B) (a0:=λj D I H=>D=((L.take j).filter λx=>c0.contains x).map .str/\H=B/\mU I) (K:=L.map .str)
  (Yl.gM λH e=>by rw[e];exact ha) (by rw[aO];exact FI 0 16 1 128 hL rfl) (λu u u u h=>h.2.1) ⟨rfl,rfl,mU.mk⟩ ?_ ?_
 ·intros _ j v D R H _ J O;obtain⟨rfl,rfl,N⟩:=O;obtain (⟨T,U,S,rfl⟩):=N;rw[dA]at J;cases G:L[j]? with
  |none=>rw[G]at J;cases J
  |some x=>
   intros x _ G;rw[G]at J;cases J;wtm_at "r";refine qM ?_;wtm_at "r";refine FY hm (e0 x (cD G)) d0 ⟨λK=>?_,λK=>?_⟩
   ·refine⟨?_,?_⟩
    ·rw[aO];have:=pG (λx=>c0.contains x) (L.take j);rw[er]at this;exact TT this (CF 0 0 0 16 0 4096 MR hL rfl)
    ·wtm_at "r";refine⟨?_,rfl,mU.mk⟩;rw[te G,aN K,dH];rfl
   ·refine⟨?_,rfl,mU.mk⟩;rw[te G,aK (by rw[K];simp),fU]
 ·rintro D I H ⟨rfl,rfl,-⟩;rw[aO,j7];exact q
theorem T9 {a0:ah AV->St->Prop}{c cd pi:ak}{s:au}{c0:ah au}(fs:vT s (sO "/") 4 (k5 s))(d0:∀x∈c0,cY x=aj)(hc:B[c]? =ae (.cell (ae (.ref pi))))(hp:B[pi]? =ae (.list ((aU s (sO "/")).map .str)))(e0:B[cd]? =ae (.cell (ae (.ref di))))(hd:B[di]? =ae (.list (c0.map .str)))(q:∀H (l:ah Int),Ex B H->(!l.isEmpty)=(k5 s).any (λx=>c0.contains x)->l.length<=16->a0 (l.map .int) H):
  WP (cw (eL 1) [(aR .In (bX (eK (vS "/")) .join [(fx (eC "steps") ag (ae (eL 1)))] []) (eC "directories"))] (pL 1) 128 (.range 0 (aU s (sO "/")).length 1) ⟨F,[(aq "steps",c),(aq "directories",cd)],[ag,ag,ag,ag]⟩ []) B a0 E:=by
 obtain D:=fs.len;refine l4 (G:=λy=>eN) (a0:=λj L I H=>(∃l:ah Int,L=l.map .int/\(!l.isEmpty)=((k5 s).take j).any (λx=>c0.contains x)/\l.length<=j)/\Ex B H/\jr I) (K:=mS 1 (aU s (sO "/")).length 0)
  Yl.range (by rw[qL];exact FI 0 4 1 128 D rfl) (λy y y y y=>trivial) ⟨⟨[],rfl,rfl,a4 _⟩,Fr.refl _ _,jr.mk⟩ ?_ ?_
 ·intros _ j v L Z H _ Y V;obtain⟨S,K,W⟩:=V;obtain (⟨w,k,u,A,rfl⟩):=W;obtain (⟨l,rfl,O,J⟩):=S;obtain⟨rfl,R⟩:=wj Y;obtain T7:=K.g hc;obtain qI:=K.g hp;wtm_at "r";refine qM ?_;wtm_at "r";refine⟨(λh=>nomatch h.1),nZ (.inr (.inr rfl)) ?_⟩;wtm_at "r";refine wk (k:=j) qI (by rw[aO];exact FI 0 4 0 4096 D rfl) (by lia) (by exact CF 1 0 0 4 0 8192 R D rfl) ?_;wtm_at "r";rw[<-rK];refine zW g_last (fs.join _ (by exact CF 1 0 0 4 0 4 R D rfl)) ?_;obtain G:Ex B (H++[AO.list (((aU s (sO "/")).take j).map .str)]):=K.trans Fr.app;obtain Wy:=G.g e0;obtain oY:=G.g hd;have X:(k5 s)[j]? =ae (jx (sO "/") ((aU s (sO "/")).take j)):=by
   unfold k5;rw[dA,Jh R];rfl
  wtm_at "r";refine FY oY (fs.EP _ (cD X)) d0 ⟨λN=>?_,λN=>?_⟩
  ·refine⟨by rw[aO];exact TT J (CF 1 0 0 4 0 4096 R D rfl),?_⟩;wtm_at "r";refine⟨⟨l++[0+(j:Int)],by rw[dH];rfl,?_,by simp;exact J⟩,G,jr.mk⟩;obtain N:c0.contains (jx (sO "/") ((aU s (sO "/")).take j))=aj:=N;rw[take_snoc X,BG,pN,N];simp
  ·refine⟨⟨l,rfl,?_,by exact FI 0 0 0 1 J rfl⟩,G,jr.mk⟩;obtain N:c0.contains (jx (sO "/") ((aU s (sO "/")).take j))=az:=N;rw[take_snoc X,BG,pN,N,O];simp
 ·intros _ L I H _ T;obtain⟨U,K,-⟩:=T;obtain (⟨l,rfl,O,J⟩):=U;rw[qL]at O J;rw[gA (by unfold k5;rw[aO,wW];exact a4 _)]at O;exact q H l K O (by exact CF 0 0 0 4 0 16 J D rfl)
theorem Ua {a0:AV->St->Prop}(hr:fA r)(hm:eg m)(hp:f9 p)(e0:B[mi]? =ae (.list (r.1.map .str)))(m0:B[di]? =ae (.list (r.2.map .str)))(q:∀H,Ex B H->a0 (.bool (dv r p m)) H):WP (FN (k+1) (.fn (aq "_law_to_be_left_out")) [p,m,.ref mi,.ref di] []) B a0 E:=by
 obtain T:=FZ hr;refine RZ ?_;obtain hM:(B++[AO.cell (ae (.ref mi)),.cell (ae (.ref di)),.cell ag,.cell ag])[B.length]? =ae (.cell (ae (.ref mi))):=qF;obtain o:(B++[AO.cell (ae (.ref mi)),.cell (ae (.ref di)),.cell ag,.cell ag])[B.length+1]? =ae (.cell (ae (.ref di))):=i5;obtain hP:(B++[AO.cell (ae (.ref mi)),.cell (ae (.ref di)),.cell ag,.cell ag])[B.length+2]? =ae (.cell ag):=i5;obtain hS:(B++[AO.cell (ae (.ref mi)),.cell (ae (.ref di)),.cell ag,.cell ag])[B.length+3]? =ae (.cell ag):=i5;obtain W:Ex B (B++[AO.cell (ae (.ref mi)),.cell (ae (.ref di)),.cell ag,.cell ag]):=Fr.app;generalize B++[AO.cell (ae (.ref mi)),.cell (ae (.ref di)),.cell ag,.cell ag]=a7 at *;have cont:∀(D:St) (ai:ak) (L:ah au) (x5:ax AV),Ex B D->D[B.length]? =ae (.cell (ae (.ref mi)))->D[B.length+1]? =ae (.cell (ae (.ref di)))->D[B.length+3]? =ae (.cell ag)->D[ai]? =ae (.list (L.map .str))->
   L.length<=16->(∀x∈L,cY x=aj)->sE r.1 m=L.any (λx=>r.1.contains x)->
   WP (sq [bJ (nV (aR .Is (eL 0) (eK .none)) (aR .NotEq (d9 (eH [(".0",.local),("name",.local),("modules",.free)]) az (iA (eL 4)) (pL 1) [(aR .In (eL 1) (eC "modules"))] (eL 1)) (eList []))) [
  bL (eK (.bool aj))] [],
 aE (pC "steps") (bX (eL 0) .split [(eK (vS "/"))] []),
 bL (lT .NotEq (d9 (eH [(".0",.local),("k",.local),("directories",.free),("steps",.free)]) az (iS (iW [(aX (eK (.bi "len")) [(eC "steps")] [])])) (pL 1) [(aR .In (bX (eK (vS "/")) .join [(fx (eC "steps") ag (ae (eL 1)))] []) (eC "directories"))] (eL 1)) (eList []))]
   ⟨FN k,[(aq "steps",B.length+3),(aq "parts",B.length+2),(aq "directories",B.length+1),(aq "modules",B.length)],[ae p,ae m,ag,ag,ae (.ref ai),x5,ag,ag,ag]⟩) D (λx B=>WP (eQ x.1) B a0 E) E:=by
  intros _ D ai L x5 _ W hM o hS R hL j X;wtm_at "r";refine zE ?_;rcases hp with rfl |⟨ps,F4,rfl⟩
  ·refine t_t ?_;wtm_at "r";have:dv r .none m=aj:=by unfold dv qC;rw[ry]
   rw[this]at q;exact q _ W
  ·refine t_f ?_;obtain I:=F3 F4;wtm_at "r";refine iJ (cs:=[(aq "modules",B.length)]) (L:=[ag,ag,ag]) (by decide +kernel) (by kernel_rfl) (λv=>by kernel_rfl) rfl ?_;wtm_at "r";refine fh R ⟨rfl,T8 hL j T.1 hM (W.g e0) R ?_⟩;obtain g0:(L.filter λx=>r.1.contains x).length<=L.length:=pG _ _;refine bp (by rw[aO];exact CF 0 0 0 16 0 4096 g0 hL rfl) ?_;wtm_at "r";refine bp (by simp) ?_;refine zV (g_app g_last) (zT λs b=>j s ((A7.mp b).1)) g_last ?_;have e1:(!((L.filter λx=>r.1.contains x).map AV.str).isEmpty)=sE r.1 m:=by
    rw[X,<-T5,BH]
   rw[e1];obtain z:Ex B (D++[AO.list ((L.filter λx=>r.1.contains x).map .str)]++[AO.list []]):=(W.trans Fr.app).trans Fr.app;obtain i0:(D++[AO.list ((L.filter λx=>r.1.contains x).map .str)]++[AO.list []])[B.length+1]? =ae (.cell (ae (.ref di))):=g_app (g_app o);obtain A:(D++[AO.list ((L.filter λx=>r.1.contains x).map .str)]++[AO.list []])[B.length+3]? =ae (.cell ag):=g_app (g_app hS);generalize D++[AO.list ((L.filter λx=>r.1.contains x).map .str)]++[AO.list []]=bk at *;refine⟨λc1=>?_,λc1=>?_⟩
   ·wtm_at "r";have:dv r (.str ps) m=aj:=by unfold dv;rw[c1];rfl
    rw[this]at q;exact q _ z
   ·have O:dv r (.str ps) m=(k5 ps).any λx=>r.2.contains x:=by
     unfold dv;rw[c1,T4 hr F4];rfl
    rw[O]at q;obtain F:=I.len;wtm_at "r";refine⟨(λh=>nomatch h.1),nZ (.inr (.inl rfl)) ?_⟩;wtm_at "r";refine m_split (by decide +kernel) (by have:=I.short;exact FI 0 16 0 4096 this rfl) I.parts (dW F (by decide)) ?_;obtain c0:(bk++[AO.list ((aU ps (sO "/")).map .str)])[B.length+3]? =ae (.cell ag):=g_app A;wtm_at "r";obtain K:Ex B ((bk++[AO.list ((aU ps (sO "/")).map .str)]).set (B.length+3) (.cell (ae (.ref bk.length)))):=Ex.n6 (z.trans Fr.app) (by exact RR 0 3 rfl);obtain M:((bk++[AO.list ((aU ps (sO "/")).map .str)]).set (B.length+3) (.cell (ae (.ref bk.length))))[B.length+3]? =ae (.cell (ae (.ref bk.length))):=de c0;obtain N:((bk++[AO.list ((aU ps (sO "/")).map .str)]).set (B.length+3) (.cell (ae (.ref bk.length))))[B.length+1]? =ae (.cell (ae (.ref di))):=g_ne (by exact NT (gU _)) (g_app i0);obtain J:((bk++[AO.list ((aU ps (sO "/")).map .str)]).set (B.length+3) (.cell (ae (.ref bk.length))))[bk.length]? =ae (.list ((aU ps (sO "/")).map .str)):=g_ne (by have:=ba A;exact NE (this)) g_last;generalize (bk++[AO.list ((aU ps (sO "/")).map .str)]).set (B.length+3) (.cell (ae (.ref bk.length)))=dZ at *;refine iJ (cs:=[(aq "steps",B.length+3),(aq "directories",B.length+1)]) (L:=[ag,ag,ag,ag]) (by decide +kernel) (by kernel_rfl) (λv=>by kernel_rfl) rfl ?_;wtm_at "r";refine f_len J ?_;wtm_at "r";rw[aO];refine pn (by exact KN (by decide)) (by exact JC 4096 (FI 0 4 1 4096 I.len rfl)) ?_;rw[eD];wtm_at "r";refine⟨rfl,T9 I T.2 M J N (K.g m0) λY l G hl j0=>?_⟩;refine bp (by rw[aO];exact FI 0 16 0 4096 j0 rfl) ?_;wtm_at "r";refine bp (by simp) ?_;refine zV (g_app g_last) zU g_last ?_;rw[BH,hl];wtm_at "r";exact q _ (((K.trans G).trans Fr.app).trans Fr.app)
 unfold zc;wtm_at "r";refine bp (by simp) ?_;obtain S:(a7++[AO.list []])[B.length]? =ae (.cell (ae (.ref mi))):=g_app hM;obtain U:(a7++[AO.list []])[B.length+1]? =ae (.cell (ae (.ref di))):=g_app o;obtain Z:(a7++[AO.list []])[B.length+2]? =ae (.cell ag):=g_app hP;obtain w:(a7++[AO.list []])[B.length+3]? =ae (.cell ag):=g_app hS;obtain V:Ex B (a7++[AO.list []]):=W.trans Fr.app;obtain d0:(a7++[AO.list []])[a7.length]? =ae (.list []):=g_last;generalize a7++[AO.list []]=D at *;wtm_at "r";rcases hm with rfl |⟨s,b,rfl⟩
 ·refine s9 qK qK ?_;have:(!bY (.int 7) (.int 7))=az:=by rw[bY];rfl
  rw[this];refine t_f (x_nil (n_next ?_));exact cont D a7.length [] ag V S U w d0 (cZ _) (λv h=>nomatch h) rfl
 ·obtain I:=zX b;obtain h1:a8 8 D (.str s)=ae (.str s):=l5 I.ok;refine s9 h1 qK ?_;have:(!bY (.str s) (.int 7))=aj:=by rw[bY];rfl
  rw[this];refine t_t ?_;obtain F:=I.len;wtm_at "r";refine⟨(λh=>nomatch h.1),nZ (.inr (.inl rfl)) ?_⟩;wtm_at "r";refine m_split (by decide +kernel) (by have:=I.short;exact FI 0 16 0 4096 this rfl) I.parts (dW F (by decide)) ?_;obtain f0:(D++[AO.list ((aU s (sO ".")).map .str)])[B.length+2]? =ae (.cell ag):=g_app Z;obtain h0:=ba Z;wtm_at "r";obtain K:Ex B ((D++[AO.list ((aU s (sO ".")).map .str)]).set (B.length+2) (.cell (ae (.ref D.length)))):=Ex.n6 (V.trans Fr.app) (by exact RR 0 2 rfl);obtain l0:((D++[AO.list ((aU s (sO ".")).map .str)]).set (B.length+2) (.cell (ae (.ref D.length))))[B.length+2]? =ae (.cell (ae (.ref D.length))):=de f0;obtain f:((D++[AO.list ((aU s (sO ".")).map .str)]).set (B.length+2) (.cell (ae (.ref D.length))))[B.length]? =ae (.cell (ae (.ref mi))):=g_ne (by exact NT (gU _)) (g_app S);obtain N:((D++[AO.list ((aU s (sO ".")).map .str)]).set (B.length+2) (.cell (ae (.ref D.length))))[B.length+1]? =ae (.cell (ae (.ref di))):=g_ne (by exact NT (a4 _)) (g_app U);obtain M:((D++[AO.list ((aU s (sO ".")).map .str)]).set (B.length+2) (.cell (ae (.ref D.length))))[B.length+3]? =ae (.cell ag):=g_ne (by exact NE (a4 _)) (g_app w);obtain J:((D++[AO.list ((aU s (sO ".")).map .str)]).set (B.length+2) (.cell (ae (.ref D.length))))[D.length]? =ae (.list ((aU s (sO ".")).map .str)):=g_ne (by exact NE (h0)) g_last;generalize (D++[AO.list ((aU s (sO ".")).map .str)]).set (B.length+2) (.cell (ae (.ref D.length)))=dZ at *;refine iJ (cs:=[(aq "parts",B.length+2)]) (L:=[ag,ag,ag]) (by decide +kernel) (by kernel_rfl) (λv=>by kernel_rfl) rfl ?_;wtm_at "r";refine f_len J ?_;wtm_at "r";rw[aO];refine pn (by exact KN (by decide)) (by exact JC 4096 (FI 0 3 1 4096 I.len rfl)) ?_;rw[eD];wtm_at "r";refine⟨rfl,T6 I l0 J λY G=>?_⟩;have u:(jt s).length<=16:=by unfold jt;rw[aO,wW];exact dW F (by decide)
  refine bp (by rw[aO];exact FI 0 16 0 4096 u rfl) ?_;refine cu rfl (n_next (x_nil (n_next ?_)));exact cont _ Y.length (jt s) ag ((K.trans G).trans Fr.app) (g_app (G.g f)) (g_app (G.g N)) (g_app (G.g M)) g_last u I.EP (TZ hr b)
def dO.fr (a0:Fr D B H):∀{is:ah ak} {ns:ah aS},dO B is ns->(∀i∈is,¬ D i)->dO H is ns:=by
 intro F;induction F with
 |nil=>
  intro E;cases E with
  |nil=>
   intro _ _;exact trivial
  |cons _ _=>
   intro h _;exact h.elim
 |cons i is G=>
  intro E;cases E with
  |nil=>
   intro h _;exact h.elim
  |cons n ns=>
   rintro⟨h1,h2⟩ hd;exact⟨a0.get h1 (hd i (.head _)),G h2 λj I=>hd j (.tail _ I)⟩
def ff.fr (a0:Fr D B H):∀{X:ah (ak×ak)} {M:ah Rd},ff B X M->(∀q∈X,¬ D q.1/\¬ D q.2)->ff H X M:=by
 intro F;induction F with
 |nil=>
  intro E;cases E with
  |nil=>
   intro _ _;exact trivial
  |cons _ _=>
   intro h _;exact h.elim
 |cons q X G=>
  intro E;cases E with
  |nil=>
   intro h _;exact h.elim
  |cons r M=>
   rintro⟨h1,h2⟩ hd;exact⟨⟨a0.get h1.1 (hd q (.head _)).1,a0.get h1.2 (hd q (.head _)).2⟩,G h2 λj I=>hd j (.tail _ I)⟩
def dO.at:∀{B:St} {is:ah ak} {ns:ah aS} {i:ak},dO B is ns->i∈is->∃n,B[i]? =ae (.list (nA n)):=by
 intro J E;induction E generalizing J with
 |nil=>
  intro _ _ _ h;exact nomatch h
 |cons i is G=>
  intro F;cases F with
  |nil=>
   intro _ h _;exact h.elim
  |cons n ns=>
   rintro j ⟨H,I⟩ D;rcases bu.mp D with rfl |D
   ·exact⟨n,H⟩
   ·exact(G I) D
def F5 (h:eg m):∃d,a8 8 B m=ae d/\(m= .int 7/\d= .int 7\/∃s,m= .str s/\d= .str s):=by
 rcases h with rfl |⟨s,hs,rfl⟩
 ·exact⟨_,qK,.inl ⟨rfl,rfl⟩⟩
 ·exact⟨.str s,l5 (zX hs).ok,.inr ⟨s,rfl,rfl⟩⟩
theorem F6 {b:AV}(ha:eg a)(hb:eg b)(q:QB (decide (a=b)) B):WP (dQ .Eq a b) B QB E:=by
 obtain⟨x,G,D⟩:=F5 (B:=B) ha;obtain⟨y,F,H⟩:=F5 (B:=B) hb;refine w_eq G F ?_;have:bY x y=decide (a=b):=by
  rcases D with ⟨rfl,rfl⟩ |⟨s,rfl,rfl⟩<;>rcases H with ⟨rfl,rfl⟩ |⟨t,rfl,rfl⟩
  ·rw[bY,jc rfl];rfl
  ·rw[bY,pK (λh=>nomatch h)]
  ·rw[bY,pK (λh=>nomatch h)]
  ·rw[bY];rw[qY,bU,decide_eq_true_iff];exact⟨λh=>by rw[h],λh=>by injection h⟩
 rw[this];exact q
theorem Ub {c ai:ak}{n:aS}{a0:ah AV->St->Prop}(hl:n.length<=100)(hn:∀q∈n,eg q.1)(hm:eg m)(hc:B[c]? =ae (.cell (ae m)))(ha:B[ai]? =ae (.list (nA n)))(q:a0 ((n.filter λq=>decide (q.1=m)).map (·.2)) B):
  WP (cw (eL 2) [(aR .Eq (eL 1) (eC "module"))] (cx [(pL 1),(pL 2)]) 128 (.list (ae ai) 0) ⟨F,[(aq "module",c)],[ag,ag,ag,ag]⟩ []) B a0 E:=by
 refine l4 (G:=λH=>H=B) (a0:=λj D I H=>D=((n.take j).filter λq=>decide (q.1=m)).map (·.2)/\H=B/\jr I) (K:=nA n)
  (Yl.gM λH e=>by rw[e];exact ha) (by unfold nA;rw[aO];exact FI 0 100 1 128 hl rfl) (λu u u u h=>h.2.1) ⟨rfl,rfl,jr.mk⟩ ?_ ?_
 ·intros _ j v D N H _ G M;obtain⟨rfl,rfl,L⟩:=M;obtain (⟨S,T,R,O,rfl⟩):=L;unfold nA at G;rw[dA]at G;cases J:n[j]? with
  |none=>rw[J]at G;cases G
  |some x=>
   intros x _ J;rw[J]at G;cases G;wtm_at "r";refine qM ?_;wtm_at "r";refine F6 (hn x (cD J)) hm ⟨λK=>?_,λK=>?_⟩
   ·refine⟨?_,?_⟩
    ·rw[aO];have:=pG (λq:AV×AV=>decide (q.1=m)) (n.take j);rw[er]at this;exact TT this (CF 0 0 0 100 0 4096 MR hl rfl)
    ·wtm_at "r";refine⟨?_,rfl,jr.mk⟩;rw[te J,aN K,dH];rfl
   ·refine⟨?_,rfl,jr.mk⟩;rw[te J,aK (by rw[K];simp),fU]
 ·rintro D I H ⟨rfl,rfl,-⟩;unfold nA;rw[aO,j7];exact q
def Uc {n:aS}:(((n++[(m,p)]).filter λq=>decide (q.1=m)).map (·.2))[0]? =ae ((dw n m).getD p):=by
 have h:dw (n++[(m,p)]) m=ae ((dw n m).getD p):=by
  rw[wc,aN rfl];cases dw n m <;>rfl
 rw[<-h];unfold dw;rw[dA,<-List.head?_eq_getElem?,List.head?_filter]
def Ud {l:ah au}(h:B[i]? =ae (.list (l.map .str)))(hl:∀s∈l,cY s=aj)(hj:B[j]? =ae (.list []))(q:QB (!l.isEmpty) B):WP (dQ .NotEq (.ref i) (.ref j)) B QB E:=
 zV h (zT hl) hj (by rw[BH];exact q)
def Ue {t:ak}{ys:ah AV}{x y:AV}{a0:ax (AV×AI)->St->Prop}(h:B[s]? =ae (.list K))(hx:K[j]? =ae x)(h':B[t]? =ae (.list ys))(hy:ys[k]? =ae y)(q:a0 (ae (.pair x y,.zip (.list (ae s) (j+1)) (.list (ae t) (k+1)))) B):
  WP (bx (.zip (.list (ae s) j) (.list (ae t) k))) B a0 E:=av (zQ h hx (av (zQ h' hy (aQ q))))
def Ug {b:AI}{a0:ax (AV×AI)->St->Prop}(h:B[s]? =ae (.list K))(hx:K[j]? =ag)(q:a0 ag B):WP (bx (.zip (.list (ae s) j) b)) B a0 E:=av (FV h hx (aQ q))
def F7 {α β:Type}{l:ah α}{a0:β->α}{x:β}{K:ah β}(h:l.drop j=(x :: K).map a0):l[j]? =ae (a0 x)/\l.drop (j+1)=K.map a0:=by
 have B:l[j]? =ae (a0 x):=by
  have:(l.drop j)[0]? =ae (a0 x):=by rw[h];rfl
  rwa [xq,xr]at this
 refine⟨B,?_⟩;rw[drop_cons B]at h;injection h
def hV.snoc {n:aS}(h:hV n)(hm:eg m)(hp:f9 p):hV (n++[(m,p)]):=λq B=>by
 rcases dX.mp B with B |B
 ·exact h q B
 ·rw[aJ.mp B];exact⟨hm,hp⟩
def Uh {n:aS}(h:hV n)(hp:f9 p):f9 ((dw n m).getD p):=by
 unfold dw;cases B:n.find? (λq=>decide (q.1=m))with
 |none=>exact hp
 |some q=>exact(h q (IM B)).2
def Ui {cm:ak}{A0 o0:ah AV}(hm:eg m)(hp:f9 p)(g0 x5 x6:ax AV):∀(d0:ah ak) (a9:ah (ak×ak)) (M:ah Rd) (ns:ah aS) (j c0:ak) (B:St) (e0:Int) (x8 x9 fV bS f Y:ax AV) (a0:FL×ah (ax AV)->St->Prop) (E:aI->St->Prop),
  d0.length=a9.length->(∀r∈M,fA r)->(∀n∈ns,n.length<=60/\hV n)->dO B d0 ns->ff B a9 M->d0.Nodup->(∀i∈d0,∀q∈a9,q.1≠i/\q.2≠i)->B[NP]? =ae (.list A0)->B[LP]? =ae (.list o0)->NP∉d0->LP∉d0->
  A0.drop j=d0.map .ref->o0.drop j=a9.map pM->d0.length < c0->B[cm]? =ae (.cell (ae m))->
  (∀(s:Int) H (x8 x9 fV bS f Y:ax AV),(b7 M ns m p).1=ae s->dO H d0 (b7 M ns m p).2->Fr (· ∈d0) B H->a0 (.next,[g0,ae (.ref NP),ae (.ref LP),ae (.ref rp),ae p,x5,x6,ae (.int (e0+s)),x8,x9,fV,bS,f,Y]) H)->
  (∀H I,(b7 M ns m p).1=ag->dO H d0 (b7 M ns m p).2->Fr (· ∈d0) B H->a0 (.ret (.ref rp),I) H)->
  WP (forA (sq sz) (cx [(pL 8),(cx [(pL 9),(pL 10)])]) c0 (.zip (.list (ae NP) j) (.list (ae LP) j)) ⟨FN (k+1),[(aq "module",cm)],[g0,ae (.ref NP),ae (.ref LP),ae (.ref rp),ae p,x5,x6,ae (.int e0),x8,x9,fV,bS,f,Y]⟩) B a0 E:=by
 intro d0;induction d0 with
 |nil=>
  intro a9 M ns j c0 B e0 x8 x9 fV bS f Y a0 E L hr hn hN hL p0 J Z i0 o j0 O A hf hc q e;rcases c0 with _ |c0
  ·exact XX 1 0 (CH 1 0 0 0 hf ZZ) rfl
  rcases a9 with _ |⟨_,_⟩
  ·rcases M with _ |⟨_,_⟩
   ·rcases ns with _ |⟨_,_⟩
    ·refine sS (Ug Z (rJ (pW.mp O)) ⟨rfl,?_⟩);have:=q 0 B x8 x9 fV bS f Y rfl trivial (Fr.refl _ _);rw[BJ]at this;exact this
    ·exact hN.elim
   ·exact hL.elim
  ·simp at L
 |cons i d0 ih=>
  intro a9 M ns j c0 B e0 x8 x9 fV bS f Y a0 E L hr hn hN hL p0 J Z i0 o j0 O A hf hc q e;rcases c0 with _ |c0
  ·exact XX 1 0 (CH 1 0 0 0 hf ZZ) rfl
  rcases a9 with _ |⟨md,a9⟩
  ·simp at L
  rcases M with _ |⟨r,M⟩
  ·exact hL.elim
  rcases ns with _ |⟨n,ns⟩
  ·exact hN.elim
  have M0:=hN;obtain⟨hi,hN⟩:=hN;obtain⟨⟨w0,S0⟩,hL⟩:=hL;obtain⟨G0,O⟩:=F7 O;obtain⟨Q0,A⟩:=F7 A;have v0:=hr r (.head _);have E0:=FZ v0;obtain⟨T,z⟩:=hn n (.head _);obtain⟨N,r0⟩:=pO.mp p0;have zR:d0.length+1 < c0+1:=hf;refine v5 (Ue Z G0 i0 Q0 ⟨rfl,?_⟩);unfold pM;wtm_at "r";have cont:∀K,¬ (m= .int 7/\r.1≠[])->Ex B K->WP (sq [
   b9 (bX (eL 8) .append [(gK [(eC "module"),(eL 4)])] []),
   aE (pL 11) (bz (d9 (eH [(".0",.local),("name",.local),("where",.local),("module",.free)]) aj (iA (eL 8)) (cx [(pL 1),(pL 2)]) [(aR .Eq (eL 1) (eC "module"))] (eL 2)) (eK (.int 0))),
   bJ (tV (aX (eK (.fn (aq "_law_to_be_left_out"))) [(eL 11),(eC "module"),(eL 9),(eL 10)] [])) [
    o9 (pL 7) (eL 7) .Add (eK (.int 1))] []] ⟨FN (k+1),[(aq "module",cm)],[g0,ae (.ref NP),ae (.ref LP),ae (.ref rp),ae p,x5,x6,ae (.int e0),ae (.ref i),ae (.ref md.1),ae (.ref md.2),bS,f,Y]⟩) K
    (Left (λI B=>WP (forA (sq sz) (cx [(pL 8),(cx [(pL 9),(pL 10)])]) c0 (.zip (.list (ae NP) (j+1)) (.list (ae LP) (j+1))) ⟨FN (k+1),[(aq "module",cm)],I⟩) B a0 E) a0) E:=by
   intro K O0 U;have e1:b7 (r :: M) (n :: ns) m p=((b7 M ns m p).1.map λi=>b2i (dv r ((dw n m).getD p) m)+i,(n++[(m,p)]) :: (b7 M ns m p).2):=aK O0;have B0:=U.g hc;have W:=U.g hi;wtm_at "r";refine⟨(λh=>nomatch h.2),hY W (.inl rfl) ?_⟩;wtm_at "r";refine jv W (by unfold nA;rw[aO];exact FI 0 60 0 4096 T rfl) ?_;have I0:Fr (· ∈i :: d0) B (K.set i (.list (nA n++[.pair m p]))):=U.any.trans (Fr.set (.head _));have f0:(K.set i (.list (nA n++[.pair m p])))[cm]? =ae (.cell (ae m)):=g_ne (cC W B0 (by simp)) B0;have b:(K.set i (.list (nA n++[.pair m p])))[i]? =ae (.list (nA (n++[(m,p)]))):=by
    rw[de W];unfold nA;rw[dH];rfl
   have G:Fr (λa=>a=i) B (K.set i (.list (nA n++[.pair m p]))):=U.any.trans (Fr.set rfl);have C0:=hN.fr G λa R e=>N (e ▸ R);have T0:=hL.fr G λq hq=>J i (.head _) q (.tail _ hq);have s0:=G.get w0 (J i (.head _) md (.head _)).1;have n0:=G.get S0 (J i (.head _) md (.head _)).2;have m0:=G.get Z λe=>o (e ▸ .head _);have y0:=G.get i0 λe=>j0 (e ▸ .head _);generalize K.set i (.list (nA n++[.pair m p]))=bF at *;wtm_at "r";refine iJ (cs:=[(aq "module",cm)]) (L:=[ag,ag,ag,ag]) (by decide +kernel) (by kernel_rfl) (λy=>by kernel_rfl) rfl ?_;wtm_at "r";refine fh b ⟨rfl,Ub (by rw[bK,uz];exact FI 0 60 1 100 T rfl) (λq hq=>(z.snoc hm hp q hq).1) hm f0 b ?_⟩;have u0:=pG (λq:AV×AV=>decide (q.1=m)) (n++[(m,p)]);rw[bK (as:=n),uz]at u0;refine bp (by rw[aO];exact CF 0 1 0 60 0 4096 u0 T rfl) ?_;refine w_K (lY g_last (by decide) Uc ?_);have u:Ex bF (bF++[AO.list (((n++[(m,p)]).filter λq=>decide (q.1=m)).map (·.2))]):=Fr.app;generalize bF++[AO.list (((n++[(m,p)]).filter λq=>decide (q.1=m)).map (·.2))]=bk at *;have U0:=u.g f0;wtm_at "r";refine Ua v0 hm (Uh z hp) (u.g s0) (u.g n0) λX N0=>?_;have F:Ex bF X:=u.trans N0;have w:Fr (· ∈i :: d0) B X:=I0.trans F.any;have z0:=F.g b;have step:∀(v:Int),v=b2i (dv r ((dw n m).getD p) m)->∀V,WP (forA (sq sz) (cx [(pL 8),(cx [(pL 9),(pL 10)])]) c0 (.zip (.list (ae NP) (j+1)) (.list (ae LP) (j+1))) ⟨FN (k+1),[(aq "module",cm)],[g0,ae (.ref NP),ae (.ref LP),ae (.ref rp),ae p,x5,x6,ae (.int (e0+v)),ae (.ref i),ae (.ref md.1),ae (.ref md.2),V,f,Y]⟩) X a0 E:=by
    intro v hv V;refine ih a9 M ns (j+1) c0 X (e0+v) _ _ _ _ _ _ a0 E (by simpa using L) (λr F0=>hr r (.tail _ F0)) (λn L0=>hn n (.tail _ L0)) (C0.fr F λy y h=>h) (T0.fr F λy y=>⟨id,id⟩) r0
     (λa R q hq=>J a (.tail _ R) q (.tail _ hq)) (F.g m0) (F.g y0) (λh=>o (.tail _ h)) (λh=>j0 (.tail _ h)) O A (by exact FI 2 1 1 0 zR rfl) (F.g f0) (λs l0 y8 y9 R0 V H0 J0 R h0 D=>?_) λl0 I R h0 D=>?_
    ·have:=q (v+s) l0 y8 y9 R0 V H0 J0 (by rw[e1,R,hv];rfl) (by rw[e1];exact⟨D.get z0 N,h0⟩) (w.trans (D.mono λa R=>.tail _ R));rw[Int.add_assoc];exact this
    ·exact e l0 I (by rw[e1,R];rfl) (by rw[e1];exact⟨D.get z0 N,h0⟩) (w.trans (D.mono λa R=>.tail _ R))
   wtm_at "r";refine⟨λS=>?_,λS=>?_⟩
   ·wtm_at "r";exact step 1 (by rw[S];rfl) _
   ·wtm_at "r";have:=step 0 (by rw[S];rfl) (ae ((dw n m).getD p));rw[BJ]at this;exact this
  unfold sz;wtm_at "r";refine F6 hm (.inl rfl) ⟨λS=>?_,λS=>?_⟩
  ·have S:m= .int 7:=gz S;wtm_at "r";refine bp (by simp) ?_;refine Ud (g_app w0) E0.1 g_last ⟨λc2=>?_,λc2=>?_⟩
   ·have K0:r.1≠[]:=λh=>by rw[h]at c2;cases c2
    have e1:b7 (r :: M) (n :: ns) m p=(ag,n :: ns):=aN ⟨S,K0⟩;wtm_at "r";have hx:Ex B (B++[AO.list []]):=Fr.app;exact e _ _ (by rw[e1]) (by rw[e1];exact dO.fr hx M0 λy y h=>h) hx.any
   ·refine x_nil (n_next (cont _ (λh=>h.2 ?_) Fr.app));cases P0:r.1 with
    |nil=>rfl
    |cons x l=>rw[P0]at c2;cases c2
  ·have S:m≠ .int 7:=jG S;exact t_f (x_nil (n_next (cont B (λh=>S h.1) (Fr.refl _ _))))
def F8 {b:ak}(hm:eg m)(hp:f9 p):∀{M:ah Rd} {ns:ah aS},(∀n∈ns,n.length<=b/\hV n)->∀n∈(b7 M ns m p).2,n.length<=b+1/\hV n:=by
 intro F;induction F with
 |nil=>
  intro E;cases E with
  |nil=>
   intro _ _ B;exact nomatch B
  |cons _ _=>
   intro _ _ B;exact nomatch B
 |cons r M G=>
  intro E;cases E with
  |nil=>
   intro _ _ B;exact nomatch B
  |cons n ns=>
   intro h D B;unfold b7 at B;split at B
   ·exact⟨xt (h D B).1,(h D B).2⟩
   ·rcases bu.mp B with rfl |B
    ·have:=h n (.head _);exact⟨by rw[bK];simp;exact this.1,this.2.snoc hm hp⟩
    ·exact G (λn B=>h n (.tail _ B)) D B
def sG.mk:sG row NP LP rp [ae (.ref row),ae (.ref NP),ae (.ref LP),ae (.ref rp),x4,x5,x6,x7,x8,x9,fV,bS,f,Y]:=⟨_,_,_,_,_,_,_,_,_,_,rfl⟩
theorem F9 {ns:ah aS}{c0:ah ak}{a0:AV->St->Prop}(s0:c0.length=a9.length)(hr:∀r∈M,fA r)(ht:∀t∈R,iG t)(hn:∀n∈ns,n.length<=b0/\hV n)(hb:b0+R.length<=60)(hN:dO B c0 ns)(hL:ff B a9 M)(F0:c0.Nodup)(d0:∀i∈c0,∀q∈a9,q.1≠i/\q.2≠i)(N0:c0.length<=60)(S0:B[NP]? =ae (.list (c0.map .ref)))(P0:B[LP]? =ae (.list (a9.map pM)))(f0:B[row]? =ae (.list (R.map tA)))(o0:NP∉c0)(B0:LP∉c0)(E0:row∉c0)(q:∀H rp,dO H c0 (bM M ns R).2->Fr (· ∈c0) B H->B.length<=rp->H[rp]? =ae (.list ((bM M ns R).1.map .int))->a0 (.ref rp) H):
  WP (FN (k+2) (.fn (aq "_law_ranks")) [.ref row,.ref NP,.ref LP] []) B a0 E:=by
 refine R2 ?_;obtain v0:(B++[AO.cell ag])[B.length]? =ae (.cell ag):=g_last;obtain hx:Ex B (B++[AO.cell ag]):=Fr.app;obtain F:B.length < (B++[AO.cell ag]).length:=ba v0;generalize hc:B.length=cm at *;generalize B++[AO.cell ag]=a7 at *;unfold zd;wtm_at "r";refine bp (by simp) ?_;obtain p0:(a7++[AO.list []])[cm]? =ae (.cell ag):=g_app v0;obtain i0:Ex B (a7++[AO.list []]):=hx.trans Fr.app;obtain y0:(a7++[AO.list []])[a7.length]? =ae (.list []):=g_last;generalize a7++[AO.list []]=bF at *;generalize a7.length=rp at *;obtain h0:=i0.g f0;obtain old:∀{i o},B[i]? =ae o->i < cm:=λh=>by have:=ba h;exact TT this (EL hc)
 obtain X:∀i∈c0,i < cm:=λi A=>by obtain⟨n,h⟩:=hN.at A;exact old h
 obtain U:rp∉c0:=λh=>by have:=X _ h;exact XX 2 0 (CH 1 0 1 0 F this) rfl
 obtain w:cm∉c0:=λh=>by have:=X _ h;exact XX 1 0 this rfl
 wtm_at "r";obtain L0:(bM M ns R).1.length<=R.length:=wi;refine fh h0 ⟨rfl,?_⟩;refine lh (G:=λH=>H[row]? =ae (.list (R.map tA))) (c0:=λj I H=>(∃L,dO H c0 L/\bM M L (R.drop j)=((bM M ns R).1.drop j,(bM M ns R).2)/\∀n∈L,n.length<=b0+j/\hV n)/\j<=(bM M ns R).1.length/\H[rp]? =ae (.list (((bM M ns R).1.take j).map .int))/\(∃v,H[cm]? =ae (.cell v))/\Fr (· ∈c0) B H/\
   sG row NP LP rp I) (K:=R.map tA)
  (Yl.gM λH e=>e) (by rw[aO];exact CF 0 0 0 60 1 128 AR hb rfl) (λx x x h=>h.2.2.2.2.1.get f0 E0)
  ⟨⟨ns,hN.fr i0 λx x h=>h,by rw[mv,mv],hn⟩,cZ _,y0,⟨_,p0⟩,i0.any,sG.mk⟩ ?_ ?_
 ·intros _ j v Z0 K _ hv M0;obtain⟨I0,hj,O,Q0,l0,C0⟩:=M0;obtain (⟨x4,x5,x6,x7,x8,x9,r0,m0,f,Y,rfl⟩):=C0;obtain (⟨L,l,Z,u0⟩):=I0;obtain (⟨cv,n0⟩):=Q0;rw[dA]at hv;cases S:R[j]? with
  |none=>rw[S]at hv;cases hv
  |some t=>
   intros t _ S;rw[S]at hv;cases hv;obtain O0:=ba S;obtain⟨hp,hm⟩:=ht t (cD S);rw[drop_cons S]at Z;unfold tA;wtm_at "r";obtain b:(K.set cm (.cell (ae t.2.1)))[cm]? =ae (.cell (ae t.2.1)):=de n0;obtain V:Fr (· ∈c0) B (K.set cm (.cell (ae t.2.1))):=l0.old (Fr.set (D:=λi=>i=cm) rfl) λi A e=>by exact XX 1 0 (CH 0 0 1 0 (CH 0 0 0 0 (EL hc) (EG e)) A) rfl
   obtain e0:Fr (λi=>i=cm) K (K.set cm (.cell (ae t.2.1))):=Fr.set rfl;obtain G0:=l.fr e0 λi A e=>w (e ▸ A);obtain z:=e0.get O (by exact NT (F));generalize K.set cm (.cell (ae t.2.1))=cO at *;obtain m:=V.get S0 o0;obtain g0:=V.get P0 B0;obtain J0:=hL.fr V λq hq=>⟨λh=>(d0 _ h q hq).1 rfl,λh=>(d0 _ h q hq).2 rfl⟩;wtm_at "r";refine fh m ?_;wtm_at "r";refine fh g0 ⟨rfl,?_⟩;refine Ui hm hp (ae (.ref row)) x5 (ae (.int t.2.2)) c0 a9 M L 0 128 cO 0 x8 x9 r0 m0 f Y _ _ s0 hr (λn j0=>by have:=u0 n j0;exact⟨by lia,this.2⟩) G0 J0 F0 d0 m g0 o0 B0 rfl rfl (by exact FI 0 60 1 128 N0 rfl) b (λs T y8 y9 c1 a1 W0 Y0 h1 u D=>?_) λT I h1 u D=>?_
   ·obtain G:=D.get z U;obtain w0:=D.get b w;obtain K0:=V.trans D;rw[s7 h1]at Z;obtain J:=(lF Z).1;obtain W:=(lF Z).2;have hs:(bM M ns R).1[j]? =ae s:=by
     have:((bM M ns R).1.drop j)[0]? =ae s:=by rw[<-J];rfl
     rwa [xq,xr]at this
    rw[uA];wtm_at "r";refine⟨(λh=>nomatch h.2),hY G (.inl rfl) ?_⟩;wtm_at "r";refine jv G (by rw[aO,er];exact CF 1 0 0 60 0 4096 (CH 1 0 0 0 (CH 0 0 1 0 ML O0) AR) hb rfl) ?_;obtain N:Fr (λi=>i=rp) T (T.set rp (.list (((bM M ns R).1.take j).map .int++[.int s]))):=Fr.set rfl;have z0:(T.set rp (.list (((bM M ns R).1.take j).map .int++[.int s])))[rp]? =ae (.list (((bM M ns R).1.take (j+1)).map .int)):=by
     rw[de G,take_snoc hs,dH];rfl
    obtain V0:Fr (· ∈c0) B (T.set rp (.list (((bM M ns R).1.take j).map .int++[.int s]))):=K0.old N λi A e=>by exact XX 2 0 (CH 1 0 1 0 (CH 1 0 0 0 (CH 0 0 1 0 (EL hc) F) (EG e)) A) rfl
    obtain A0:=N.get w0 (by exact NE (F));obtain T0:=u.fr N λi A e=>U (e ▸ A);refine n_next (x_nil (l_next ⟨⟨_,T0,?_,λn j0=>?_⟩,ba hs,z0,⟨_,A0⟩,V0,sG.mk⟩))
    ·rw[drop_cons hs]at J;injection J with _ J;exact qZ J W
    ·have:=F8 hm hp u0 n j0;exact⟨by lia,this.2⟩
   ·rw[s8 h1]at Z;obtain J:=(lF Z).1;obtain W:=(lF Z).2;have hl:(bM M ns R).1.length=j:=by have:=pW.mp J.symm;exact AN (this) (hj)
    wtm_at "r";rw[W]at u;obtain G:=D.get z U;rw[gA (by exact(EL hl))]at G;exact q T rp u (V.trans D) (by exact FI 1 0 0 0 F rfl) G
 ·intros _ b1 K _ R0;obtain⟨U0,hj,O,-,l0,H0⟩:=R0;obtain (⟨x4,x5,x6,x7,x8,x9,r0,m0,f,Y,rfl⟩):=H0;obtain (⟨L,l,Z,-⟩):=U0;rw[aO]at *;rw[Il]at Z;obtain W:L=(bM M ns R).2:=(lF Z).2;wtm_at "r";rw[gA (by exact L0)]at O;rw[W]at l;exact q K rp l l0 (by exact FI 1 0 0 0 F rfl) O
def Uj (h:bf b x y=aj):bf b y x=az:=by
 cases B:bf b y x with
 |false=>rfl
 |true=>
  have:=lZ h B;rw[v7]at this;cases this
def Uk:∀{S:ah Tr} {k:ak},gL b S->S.filter (λt=>decide (fD b S t=k))=S[k]?.toList:=by
 intro l;induction l with
 |nil=>
  intro k _;exact rfl
 |cons a S G=>
  intro k h;obtain⟨E,H⟩:=lG.mp h;have F:fD b (a :: S) a=0:=by
   unfold fD;rw[List.countP_eq_zero];intro u D;rcases bu.mp D with rfl |D
   ·rw[v7];simp
   ·rw[Uj (E u D)];simp
  have B:∀t∈S,fD b (a :: S) t=fD b S t+1:=by
   intro t B;unfold fD;exact List.countP_cons_of_pos (p:=λu=>bf b u t) (E t B)
  cases k with
  |zero=>
   rw[Jf (by rw[F];rfl)];have:S.filter (λt=>decide (fD b (a :: S) t=0))=[]:=by
    rw[Je];intro t h;rw[B t h];simp
   rw[this];rfl
  |succ k=>
   rw[Jg (by rw[F];simp)];have:S.filter (λt=>decide (fD b (a :: S) t=k+1))=S.filter (λt=>decide (fD b S t=k)):=by
    apply List.filter_congr;intro t h;rw[B t h];simp
   rw[this,G H];rfl
def Ul {a0:ah Tr}(h:a0.Perm S)(hs:gL b S)(k:ak):a0.filter (λt=>decide (fD b a0 t=k))=S[k]?.toList:=by
 have e:(λt=>decide (fD b a0 t=k))=λt=>decide (fD b S t=k):=by
  funext t
  unfold fD;rw[h.countP_eq]
 rw[e];obtain B:=h.filter λt=>decide (fD b S t=k);rw[Uk hs]at B;cases D:S[k]? with
 |none=>rw[D]at B;exact B.eq_nil
 |some t=>rw[D]at B;exact List.perm_singleton.mp B
def Um {α:Type}{S:ah α}:∀{w:ak},(dz w).flatMap (λk=>S[k]?.toList)=S.take w:=by
 intro n;induction n with
 |zero=>
  exact rfl
 |succ w B=>
  rw[wV,BK,B,AX];simp
def Ga {x:Int×AV}:∀{S:ah (Int×AV)} {n:ak},(bV b x (S.take n)).take n=(bV b x S).take n
 |_,0=>by simp
 | [],n+1=>rfl
 |y :: S,n+1=>by
  show(if bg b x.1 y.1 then x :: y :: S.take n else y :: bV b x (S.take n)).take (n+1)=(if bg b x.1 y.1 then x :: y :: S else y :: bV b x S).take (n+1);split
  ·show x :: (y :: S.take n).take n=x :: (y :: S).take n
   congr 1
   cases n with
   |zero=>rfl
   |succ n=>
    show y :: (S.take (n+1)).take n=y :: S.take n;rw[List.take_take,ng (gU n)]
  ·show y :: (bV b x (S.take n)).take n=y :: (bV b x S).take n;rw[Ga]
def Un:∀(ys S:ah (Int×AV)),ys.foldl (λS x=>(bV b x S).take n) (S.take n)=(ys.foldl (λS x=>bV b x S) S).take n:=by
 intro l;induction l with
 |nil=>
  intro _;exact rfl
 |cons y ys B=>
  intro S;show ys.foldl _ ((bV b y (S.take n)).take n)=(ys.foldl _ (bV b y S)).take n;rw[Ga,B]
def Gb:fz b n ys=(ys.foldl (λS x=>bV b x S) []).take n:=by
 have:=Un (b:=b) (n:=n) ys [];rw[A9]at this;exact this
def Uo {w:ak}(hl:V.length=K.length):(dz w).flatMap (lW b (dh b 0 V K))=(fz b w (V.zip K)).map (·.2):=by
 obtain⟨S,E,D,B,-⟩:=view (b:=b) (V:=V) (K:=K) V.length (a4 _) (by exact(EL hl));rw[gA (by rw[sY];exact ML)]at D;rw[gA (by rw[p5];exact ML)]at B;have e:lW b (dh b 0 V K)=λk=>(S[k]?.toList).map (·.2.2):=by
  funext k
  unfold lW;rw[Ul D E]
 rw[e,Gb,<-B,<-rK,oM,<-Um,List.map_flatMap];rfl
theorem Up {r:Int}{x:AV}:∀{V:ah Int} {K:ah AV} {i:ak},V.length<=K.length->fD b (dh b i V K) (tr b j r x)=V.countP (λr'=>bg b r' r)+(V.take (j - i)).countP (λr'=>r' == r):=by
 intro H;induction H with
 |nil=>
  intro K i _;rw[A9];cases K <;>rfl
 |cons B V E=>
  intros B V _ E;intro I;cases I with
  |nil=>
   intro _ h;simp at h
  |cons G K=>
   intro i h;have E:=E (K:=K) (i:=i+1) (by simpa using h);have F:bf b (tr b i B G) (tr b j r x)=(bg b B r || (B == r && decide (i < j))):=by
    unfold bf fO tr bg;cases b with
    |false=>
     by_cases e:B=r
     ·simp[e]
     ·simp[e]
    |true=>
     by_cases e:B=r
     ·simp[e]
     ·have: ¬ r=B:=λh=>e h.symm;simp[e,this]
   unfold fD at E |-;show(tr b i B G :: dh b (i+1) V K).countP _=_;rw[uk,E,uk,F];by_cases D:i < j
   ·rw[show j - i=(j - (i+1))+1 from (GG (Nat.sub_pos_of_lt D)).symm,List.take_succ_cons,uk];simp only[D,decide_true,Bool.and_true];by_cases e:B=r
    ·subst e;have:bg b B B=az:=by unfold bg;cases b <;>simp
     simp[this];exact qN _ _ _
    ·have:(B == r)=az:=by simpa using e
     rw[this];simp;exact Ai _ _ _
   ·rw[show j - i=0 from Ji (og.mp D),show j - (i+1)=0 from Ji (xt (og.mp D)),uj,uj];simp only[D,decide_false,xb,A3];simp
def wm:∀{K:ah AV} {n:Int} {k:ak} {v:AV},(mT n K)[k]? =ae v->∃x,K[k]? =ae x/\v= .pair (.int (n+k)) x:=by
 intro B;induction B with
 |nil=>
  intro _ _ _ h;exact nomatch h
 |cons x K F=>
  intro n D;cases D with
  |zero=>
   intro v h;cases h;exact⟨x,rfl,by simp⟩
  |succ k=>
   intro v h;obtain⟨y,E,G⟩:=F (n:=n+1) (k:=k) h;refine⟨y,E,?_⟩;rw[G];congr 2;lia
def n7:∀{K:ah AV} {n:Int},(mT n K).length=K.length:=by
 intro l;induction l with
 |nil=>
  intro _;exact rfl
 |cons x K B=>
  intro n;show(mT (n+1) K).length+1=_;rw[B];rfl
def Uq {cg cr cj:ak}{a r:Int}(hg:O.lookup (sO "greatest")=ae cg)(hr:O.lookup (sO "ranks")=ae cr)(hj:O.lookup (sO "j")=ae cj)(h1:B[cg]? =ae (.cell (ae (.bool b))))(h2:B[cr]? =ae (.cell (ae (.ref ri))))(h3:B[cj]? =ae (.cell (ae (.int j))))(h4:B[ri]? =ae (.list (V.map .int)))(h5:V[j]? =ae r)(a0:V.length<=64)(h6:I[2]? =ae (ae (.int a)))(q:QB (bg b a r) B):
  WP (yP (tV (eC "greatest")) (aR .Gt (eL 2) (bz (eC "ranks") (eC "j"))) (aR .Lt (eL 2) (bz (eC "ranks") (eC "j"))) ⟨F,O,I⟩) B QB E:=by
 obtain D:=ba h5;refine w_tIf (w_tV (gr hg h1 (tr_bool ⟨λc=>?_,λc=>?_⟩)))
 ·subst c;exact w_tCmp (aM h6 (w_Idx (gr hr h2 (gr hj h3 (lY h4 ⟨by exact JP,by exact JC (2 ^ 62) (CF 1 0 0 64 1 4611686018427387904 D a0 rfl)⟩ (v:=.int r) (by rw[eD,dA,h5];rfl) (c_gt q))))))
 ·subst c;exact w_tCmp (aM h6 (w_Idx (gr hr h2 (gr hj h3 (lY h4 ⟨by exact JP,by exact JC (2 ^ 62) (CF 1 0 0 64 1 4611686018427387904 D a0 rfl)⟩ (v:=.int r) (by rw[eD,dA,h5];rfl) (c_lt q))))))
theorem Gc {a0:ah AV->St->Prop}{li:ak}{l:ah Int}{c0:Int->aB}{t:DT}(e0:l.length<=64)(hl:B[li]? =ae (.list (l.map .int)))(ht:∀(I:ah (ax AV)) (a:Int) (QB:aB->St->Prop),I.length=n->I[2]? =ae (ae (.int a))->QB (c0 a) B->WP (t ⟨F,cs,I⟩) B QB E)(hn:3<=n)(L:ah (ax AV))(hL:L.length=n)(q:∀d0,d0.length=l.countP c0->a0 d0 B):
  WP (cw (eL 1) [t] (cx [(pL 1),(pL 2)]) 128 (.enum 0 (.list (ae li) 0)) ⟨F,cs,L⟩ []) B a0 E:=by
 refine l4 (G:=λH=>H=B) (a0:=λj d0 I H=>d0.length=(l.take j).countP c0/\H=B/\I.length=n) (K:=mT 0 (l.map .int))
    (Yl.enum (Yl.gM λH e=>by rw[e];exact hl)) (by rw[n7,aO];exact FI 0 64 1 128 e0 rfl) (λu u u u h=>h.2.1) ⟨rfl,rfl,hL⟩ ?_ ?_
 ·intros _ j v d0 I H _ O N;obtain⟨D,rfl,K⟩:=N;obtain (⟨x,M,rfl⟩):=wm O;rw[dA]at M;cases J:l[j]? with
  |none=>rw[J]at M;cases M
  |some a=>
   intros a _ J;rw[J]at M;cases M;refine vV rfl rfl (x_put_cons (cu rfl (x_put_cons (cu rfl (x_put_nil ?_)))));have G:((I.set 1 (ae (.int (0+j)))).set 2 (ae (.int a))).length=n:=by rw[eM,eM];exact K
   refine qM (ht _ a _ G (me (by rw[eM];exact TT hn (EG K))) ⟨λc=>?_,λc=>?_⟩)
   ·refine⟨?_,?_⟩
    ·have:=BM (p:=c0) (l:=l.take j);rw[er]at this;exact CF 0 0 0 64 0 4096 (CH 0 0 0 0 (CH 0 0 0 0 (EL D) this) MR) e0 rfl
    ·refine aM (v:=.int (0+j)) (by rw[jB (by decide),me (by lia)]) ⟨?_,rfl,G⟩;rw[take_snoc J,Jj,bK,D];simp[c]
   ·refine⟨?_,rfl,G⟩;rw[take_snoc J,Jj,D];simp[c]
 ·rintro d0 I H ⟨D,rfl,-⟩;rw[n7,aO,j7]at D;exact q d0 D
def sH.mk {fp:ak}:sH row fp z [ae (.ref row),ag,ae (.int z),ag,ae (.ref fp),x5,x6,x7,x8,x9,fV,bS,f]:=⟨_,_,_,_,_,_,_,_,rfl⟩
def qD.mk {fp:ak}{w:Int}:qD row fp z w [ae (.ref row),ag,ae (.int z),ag,ae (.ref fp),ae (.int w),x6,x7,x8,x9,fV,bS,f]:=⟨_,_,_,_,_,_,_,rfl⟩
theorem Ur {a0:AV->St->Prop}(hz: -1<=z)(Z0:z<=4)(c0:K.length<=64)(hl:0 < z->V.length=K.length)(g0:B[row]? =ae (.list K))(d0:B[ri]? =ae (.list (V.map .int)))(q:∀H fp,Ex B H->B.length<=fp->H[fp]? =ae (.list ((dz z.toNat).flatMap (lW b (dh b 0 V K))))->a0 (.ref fp) H):
  WP (FN (k+1) (.fn (aq "_law_few")) [.ref row,.ref ri,.int z,.bool b] []) B a0 E:=by
 refine R3 ?_;obtain h0:(B++[AO.cell (ae (.ref ri)),.cell (ae (.bool b)),.cell ag])[B.length]? =ae (.cell (ae (.ref ri))):=qF;obtain h1:(B++[AO.cell (ae (.ref ri)),.cell (ae (.bool b)),.cell ag])[B.length+1]? =ae (.cell (ae (.bool b))):=i5;obtain h2:(B++[AO.cell (ae (.ref ri)),.cell (ae (.bool b)),.cell ag])[B.length+2]? =ae (.cell ag):=i5;obtain hx:Ex B (B++[AO.cell (ae (.ref ri)),.cell (ae (.bool b)),.cell ag]):=Fr.app;obtain f0:=ba h2;generalize B++[AO.cell (ae (.ref ri)),.cell (ae (.bool b)),.cell ag]=a7 at *;unfold ze;wtm_at "r";refine bp (by simp) ?_;obtain G0:Ex B (a7++[AO.list []]):=hx.trans Fr.app;obtain C0:(a7++[AO.list []])[B.length]? =ae (.cell (ae (.ref ri))):=g_app h0;obtain E0:(a7++[AO.list []])[B.length+1]? =ae (.cell (ae (.bool b))):=g_app h1;obtain J0:(a7++[AO.list []])[B.length+2]? =ae (.cell ag):=g_app h2;obtain M0:(a7++[AO.list []])[a7.length]? =ae (.list []):=g_last;generalize a7++[AO.list []]=bF at *;generalize a7.length=fp at *;wtm_at "r";refine pn (by lia) (by lia) ?_;wtm_at "r";refine⟨rfl,?_⟩;have F0:(dh b 0 V K).length<=64:=by rw[sY];exact TT MR c0
 obtain I0:∀k,(lW b (dh b 0 V K) k).length<=64:=λk=>by
  unfold lW;rw[aO];exact dW (pG _ _) F0
 have w0:∀w,((dz w).flatMap (lW b (dh b 0 V K))).length<=w * 64:=by
  intro w;induction w with
  |zero=>simp
  |succ w ih=>
   rw[wV,BK,bK];have:=I0 w;simp only[List.flatMap_cons,List.flatMap_nil,fU]
   lia
 refine lh (G:=λy=>eN) (c0:=λw I H=>H[fp]? =ae (.list ((dz w).flatMap (lW b (dh b 0 V K))))/\H[B.length]? =ae (.cell (ae (.ref ri)))/\H[B.length+1]? =ae (.cell (ae (.bool b)))/\(∃v,H[B.length+2]? =ae (.cell v))/\Ex B H/\
   sH row fp z I) (K:=mS 1 z.toNat 0)
  Yl.range (by rw[qL];lia) (λy y y y=>trivial) ⟨M0,C0,E0,⟨_,J0⟩,G0,sH.mk⟩ ?_ ?_
 ·intros _ w v Y0 A0 _ hv Q0;obtain⟨l,V0,O0,L0,m,T0⟩:=Q0;obtain (⟨x5,x6,x7,x8,x9,r0,l0,f,rfl⟩):=T0;obtain (⟨cv,H0⟩):=L0;obtain⟨rfl,hw⟩:=wj hv;obtain G:=hl (by lia);obtain v0:=m.g g0;wtm_at "r";refine fh v0 ⟨rfl,?_⟩;refine lh (G:=λH=>H[row]? =ae (.list K)) (c0:=λj I H=>H[fp]? =ae (.list ((dz w).flatMap (lW b (dh b 0 V K))++(((dh b 0 V K).take j).filter λt=>decide (fD b (dh b 0 V K) t=w)).map (·.2.2)))/\H[B.length]? =ae (.cell (ae (.ref ri)))/\H[B.length+1]? =ae (.cell (ae (.bool b)))/\(∃v,H[B.length+2]? =ae (.cell v))/\Ex B H/\
   qD row fp z (0+w) I) (K:=mT 0 K)
    (Yl.enum (Yl.gM λH e=>e)) (by rw[n7];exact FI 0 64 1 128 c0 rfl) (λy y y h=>h.2.2.2.2.1.g g0) ⟨by rw[uj,HH,ub,fU];exact l,V0,O0,⟨_,H0⟩,m,qD.mk⟩ ?_ ?_
  ·intros _ j v a1 R _ hv N0;obtain⟨U,o0,p0,R0,u0,W0⟩:=N0;obtain (⟨x6,x7,x8,x9,r0,l0,f,rfl⟩):=W0;obtain (⟨cv,o⟩):=R0;obtain (⟨x,z0,rfl⟩):=wm hv;obtain hj:=ba z0;obtain s0:=cy (show j < V.length by exact TT hj (EG G));obtain hT:=zG (b:=b) (i:=0) s0 z0;rw[kg]at hT;obtain e0:=Up (b:=b) (r:=V[j]'(by exact TT hj (EG G))) (x:=x) (j:=j) (V:=V) (K:=K) (i:=0) (by exact(EL G));rw[Nat.sub_zero]at e0;generalize V[j]'(by exact TT hj (EG G))=r at *;wtm_at "r";obtain J:Ex B (R.set (B.length+2) (.cell (ae (.int (0+j))))):=Ex.n6 u0 (by exact RR 0 2 rfl);obtain Y:Fr (λi=>i=B.length+2) R (R.set (B.length+2) (.cell (ae (.int (0+j))))):=Fr.set rfl;obtain O:(R.set (B.length+2) (.cell (ae (.int (0+j)))))[B.length+2]? =ae (.cell (ae (.int (0+j)))):=de o;obtain S:=Y.get o0 (by exact NE (gU _));obtain u:=Y.get p0 (by exact NE (a4 _));obtain P0:=Y.get U (cC U o (by simp));generalize R.set (B.length+2) (.cell (ae (.int (0+j))))=dZ at *;rw[uA]at O;wtm_at "r";refine iJ (cs:=[(aq "ranks",B.length),(aq "j",B.length+2),(aq "greatest",B.length+1)]) (L:=[ag,ag,ag,ag,ag,ag]) (by decide +kernel) (by kernel_rfl) (λy=>by kernel_rfl) rfl ?_;wtm_at "r";refine fh (J.g d0) ⟨rfl,Gc (n:=6) (c0:=λa=>bg b a r) (by exact TT (EL G) c0) (J.g d0) (λI a QB y h qq=>Uq (by wtm_at "cel") (by wtm_at "cel") (by wtm_at "cel") u S O (J.g d0) s0 (by exact TT (EL G) c0) h qq) (by decide) _ rfl λM j0=>?_⟩;obtain U0:=BM (p:=λa=>bg b a r) (l:=V);refine bp (by exact CF 0 0 0 64 0 4096 (CH 0 0 0 0 (CH 0 0 0 0 (EL j0) U0) (EL G)) c0 rfl) ?_;obtain W:Ex dZ (dZ++[AO.list M]):=Fr.app;obtain n0:(dZ++[AO.list M])[dZ.length]? =ae (.list M):=g_last;generalize dZ++[AO.list M]=fS at *;generalize dZ.length=i8 at *;obtain S0:=W.g S;obtain K0:=W.g O;wtm_at "r";refine iJ (cs:=[(aq "ranks",B.length),(aq "j",B.length+2)]) (L:=[ag,ag,ag,ag,ag]) (by decide +kernel) (by kernel_rfl) (λy=>by kernel_rfl) rfl ?_;wtm_at "r";refine wk (k:=j) (W.g (J.g d0)) (by rw[aO];exact CF 0 0 0 64 0 4096 (EL G) c0 rfl) rfl (by exact CF 1 0 0 64 0 8192 hj c0 rfl) ?_;wtm_at "r";rw[<-rK];obtain T:Ex fS (fS++[AO.list ((V.take j).map .int)]):=Fr.app;obtain B0:(fS++[AO.list ((V.take j).map .int)])[fS.length]? =ae (.list ((V.take j).map .int)):=g_last;generalize fS++[AO.list ((V.take j).map .int)]=dk at *;generalize fS.length=i9 at *;refine fh B0 ⟨rfl,Gc (n:=5) (c0:=λa=>a == r) (by rw[er];exact TT ML (CF 1 0 0 64 0 64 hj c0 rfl)) B0 (λI a QB y h qq=>?_) (by decide) _ rfl λF X=>?_⟩
   ·refine w_tCmp (aM h (w_Idx (gr (by wtm_at "cel") (T.g S0) (gr (by wtm_at "cel") (T.g K0) (lY (T.g (W.g (J.g d0))) ⟨by exact JP,by exact JC (2 ^ 62) (CF 1 0 0 64 1 4611686018427387904 hj c0 rfl)⟩ (v:=.int r) (by rw[eD,dA,s0];rfl) (mZ qq))))))
   obtain i0:=BM (p:=λa:Int=>a == r) (l:=V.take j);rw[er]at i0;refine bp (by exact CF 1 0 0 64 0 4096 (CH 0 0 1 0 (CH 0 0 0 0 (CH 0 0 0 0 (EL X) i0) ML) hj) c0 rfl) ?_;obtain y0:Ex dk (dk++[AO.list F]):=Fr.app;obtain m0:(dk++[AO.list F])[dk.length]? =ae (.list F):=g_last;obtain Z:=y0.g (T.g n0);generalize dk++[AO.list F]=gu at *;generalize dk.length=Wz at *;obtain D:Ex dZ gu:=(W.trans T).trans y0;wtm_at "r";refine f_len Z ?_;wtm_at "r";refine f_len m0 ?_;wtm_at "r";refine mZ ?_;have N:((dh b 0 V K).take (j+1)).filter (λt=>decide (fD b (dh b 0 V K) t=w))=((dh b 0 V K).take j).filter (λt=>decide (fD b (dh b 0 V K) t=w))++(if M.length+F.length=w then [tr b j r x]else []):=by
    rw[te hT,e0,<-j0,<-X];simp
   obtain L:=D.g P0;refine⟨λc=>?_,λc=>?_⟩
   ·have c:M.length+F.length=w:=by have:=eq_of_beq c;lia
    rw[aN c]at N;wtm_at "r";refine⟨(λh=>nomatch h.2),hY L (.inl rfl) ?_⟩;wtm_at "r";refine jv L ?_ ?_
    ·rw[bK,aO];obtain h1:=w0 w;obtain h2:=pG (λt=>decide (fD b (dh b 0 V K) t=w)) ((dh b 0 V K).take j);rw[er]at h2;have:w<=4:=by lia
     have:w * 64<=256:=by lia
     exact TT (SS (TT h1 this) (TT h2 (TT ML (TT (nC hj) c0)))) (by decide)
    have A:B.length<=fp:=by exact FI 3 0 0 0 f0 rfl
    refine n_next (x_nil (n_next (x_nil (l_next ?_))));refine⟨?_,?_,?_,⟨ae (.int j),?_⟩,Ex.n6 (J.trans D) A,qD.mk⟩
    ·rw[N,dH,<-j2];exact de L
    ·exact g_ne (cC L (D.g S) (by simp)) (D.g S)
    ·exact g_ne (cC L (D.g u) (by simp)) (D.g u)
    ·exact g_ne (cC L (D.g O) (by simp)) (D.g O)
   ·obtain c: ¬ M.length+F.length=w:=λh=>by
     have:=Jb c;lia
    rw[aK c,fU]at N;wtm_at "r";exact⟨by rw[N];exact L,D.g S,D.g u,⟨_,D.g O⟩,J.trans D,qD.mk⟩
  ·rintro _ R ⟨U,o0,p0,o,u0,x6,x7,x8,x9,r0,l0,f,rfl⟩;rw[n7,gA (by rw[sY];exact MR)]at U;refine n_next (x_nil (l_next ⟨?_,o0,p0,o,u0,sH.mk⟩));rw[U,wV,BK];simp[lW]
 ·rintro _ A0 ⟨l,-,-,-,m,x5,x6,x7,x8,x9,r0,l0,f,rfl⟩;rw[qL]at l;wtm_at "r";exact q A0 fp m (by exact FI 3 0 0 0 f0 rfl) l
def Gd {a b:au}(ha:cY a=aj)(hb:cY b=aj)(q:QB (a == b) B):WP (dQ .Eq (.str a) (.str b)) B QB E:=w_eq (l5 ha) (l5 hb) (by rw[bY];exact q)
def zY {a b:au}(ha:cY a=aj)(hb:cY b=aj)(q:QB (!(a == b)) B):WP (dQ .NotEq (.str a) (.str b)) B QB E:=s9 (l5 ha) (l5 hb) (by rw[bY];exact q)
def zZ {a0:AV->St->Prop}{s:au}{lo hi:ax AV}{a b:ax Int}(hl:s.length<=4096)(ha:oP lo=P.pure a)(hb:oP hi=P.pure b)(q:a0 (.str (lr s a b)) B):WP (kq (.str s) lo hi) B a0 E:=by
 unfold kq;rw[ha,hb];exact av (bw hl (aQ q))
def Us {a0:AV->St->Prop}{t:AV}(h:gd t=ae l)(q:a0 (.int l.length) B):WP (eu ⟨F,O,I⟩ (.bi "len") [t] []) B a0 E:=by
 refine mX rfl (av (fG (av (e6 ?_))));rw[h];exact aQ q
def Ut {a0:AV->St->Prop}{s:au}(q:a0 (.ty "str") B):WP (eu ⟨F,O,I⟩ (.ty "type") [.str s] []) B a0 E:=mY rfl (av (fG (av (e6 (aQ q)))))
def Uu {a0:AV->St->Prop}{i:Int}(q:a0 (.ty "int") B):WP (eu ⟨F,O,I⟩ (.ty "type") [.int i] []) B a0 E:=mY rfl (av (fG (av (e6 (aQ q)))))
def Ge {a b:aI}(q:QB (a == b) B):WP (dQ .Is (.ty a) (.ty b)) B QB E:=q
def Uv {a0:AV->St->Prop}(e:B[i]? =ae (.list l))(hv:l.getLast? =ae v)(q:a0 v (B.set i (.list l.dropLast))):WP (fb F (.ref i) .pop [] []) B a0 E:=
 av (eh (av (zA (av (e6 (av (fE e (av (dU hv (av (lg (aQ q))))))))))))
def Gf {a0:AV->St->Prop}(e:B[i]? =ae (.list l))(hl:0 < l.length)(hv:l[l.length - 1]? =ae v)(q:a0 v B):WP (iw (.ref i) (.int (-1))) B a0 E:=by
 refine av (dj e (av (w_strict (av (bw (by decide) (dU ?_ q))))));rw[aK (by decide),show(-1+(l.length:Int))=((l.length - 1:ak):Int) from (Int.add_comm _ _).trans (IS hl).symm,aN JP];exact hv
def Uw:lX.all ER=aj:=by decide +kernel
theorem Ux {s:au}(h:s∈lX):NF s:=by
 have:=bW.mp Uw s h;unfold ER at this;simp only[cW,fu,bW,w7,bU]at this;obtain⟨⟨⟨⟨⟨⟨⟨⟨⟨⟨F,M⟩,G⟩,H⟩,E⟩,L⟩,K⟩,J⟩,I⟩,D⟩,B⟩:=this;exact⟨F,M,G,H,E,L,K,J,I,D,B⟩
def Uy {s:au}{a0:AV->St->Prop}(q:a0 (.str (aq "")) B):WP (FN (k+1) (.fn (aq "_kind")) [a,.str s] []) B a0 E:=by
 refine RK ?_;unfold yY;wtm_at "r";refine Ut ?_;wtm_at "r";refine Ge ?_;refine t_t ?_;wtm_at "r";exact q
def Uz {s:au}{a0:AV->St->Prop}(c0:NF s)(q:a0 (.dB (vS "") (vS "/") (.str (bT s))) B):WP (FN (k+1) (.fn (aq "_splitroot")) [.str s] []) B a0 E:=by
 have D:cY (sO "/")=aj:=by decide +kernel
 obtain F:=c0.len;refine RN ?_;unfold y3;wtm_at "r";refine zZ (a:=ag) (b:=ae 1) (by exact FI 0 100 0 4096 F rfl) rfl rfl ?_;rw[c0.s1];wtm_at "r";refine zY D D ?_;rw[IH];refine t_f ?_;wtm_at "r";refine zZ (a:=ae 1) (b:=ae 2) (by exact FI 0 100 0 4096 F rfl) rfl rfl ?_;wtm_at "r";refine zY c0.QM D ?_;rw[c0.s2];refine t_t ?_;wtm_at "r";refine zZ (a:=ae 1) (b:=ag) (by exact FI 0 100 0 4096 F rfl) rfl rfl ?_;wtm_at "r";exact q
def UA {kw:ak}{b c:AV}{s:au}{a0:AV->St->Prop}(hk:B[kw]? =ae (.dict []))(q:a0 (.str s) B):WP (FN (k+2) (.fn (aq "_c_path")) [a,b,c,.one (.str s),.ref kw] []) B a0 E:=by
 refine RM ?_;unfold yZ;wtm_at "r";refine Us rfl ?_;wtm_at "r";refine mZ ?_;refine t_t ?_;wtm_at "r";refine SF hk ?_;refine t_t ?_;wtm_at "r";refine sX (by decide) rfl rfl ?_;wtm_at "r";refine Uy ?_;wtm_at "r";refine sW (by decide +kernel) ?_;rw[show(aq "").length=0 by decide +kernel];refine t_f ?_;wtm_at "r";exact q
def UB:(lX.all λs=>decide (0 < (iH s).length) && decide ((iH s).length<=100))=aj:=by decide +kernel
def UC {nc:ah au}{c x:au}(h:x∈dx nc c):x∈nc\/x=c:=by
 unfold dx at h;split at h
 ·exact .inl h
 ·split at h
  ·rcases dX.mp h with h |h
   ·exact .inl h
   ·exact .inr (aJ.mp h)
  ·exact .inl (List.dropLast_subset _ h)
def UD {nc:ah au}{c:au}:(dx nc c).length<=nc.length+1:=by
 unfold dx;split
 ·exact gU _
 ·split
  ·simp
  ·rw[List.length_dropLast];exact dW (GF _ _) (gU _)
theorem UE {ni:ak}{nc:ah au}{c:au}{a0:FL×ah (ax AV)->St->Prop}(hn:B[ni]? =ae (.list (nc.map .str)))(hc:cY c=aj)(e0:c.length<=100)(d0:∀x∈nc,cY x=aj)(hl:nc.length<=100)(q:∀c0,(c0= .next\/c0= .cont)->a0 (c0,[x0,ae (vS "/"),ae (vS "."),ae (vS ".."),x4,ae (vS "/"),x6,ae (.ref ni),ae (.str c),x9]) (B.set ni (.list ((dx nc c).map .str)))):
  WP (sq y4 ⟨F,[],[x0,ae (vS "/"),ae (vS "."),ae (vS ".."),x4,ae (vS "/"),x6,ae (.ref ni),ae (.str c),x9]⟩) B a0 E:=by
 have T:cY (sO ".")=aj:=by decide +kernel
 have O:cY (sO "..")=aj:=by decide +kernel
 unfold y4;wtm_at "r";refine sW (by exact FI 0 100 0 4096 e0 rfl) ?_;have skip:(c.length == 0 || c == sO ".")=aj->dx nc c=nc:=λh=>by unfold dx;rw[aN h]
 by_cases S:c.length=0
 ·have U:(c.length == 0)=aj:=by rw[S];rfl
  show vQ _ _ _ _ (!(c.length != 0)) _;rw[show(!(c.length != 0))=aj by rw[S];rfl];refine t_t ?_;refine t_t ?_;wtm_at "r";have:=q .cont (.inr rfl);rw[skip (by rw[U];rfl),wd hn]at this;exact this
 have U:(c.length == 0)=az:=by simpa using S
 show vQ _ _ _ _ (!(c.length != 0)) _;rw[show(!(c.length != 0))=az by simpa using S];refine t_f ?_;wtm_at "r";refine Gd hc T ⟨λM=>?_,λM=>?_⟩
 ·wtm_at "r";have:=q .cont (.inr rfl);rw[skip (by have M:(c == sO ".")=aj:=M;rw[M,ry]),wd hn]at this;exact this
 have R:(c.length == 0 || c == sO ".")=az:=by
  obtain M:(c == sO ".")=az:=M;rw[U,M];rfl
 wtm_at "r";have app:dx nc c=nc++[c]->WP (sq [b9 (bX (eL 7) .append [(eL 8)] [])] ⟨F,[],[x0,ae (vS "/"),ae (vS "."),ae (vS ".."),x4,ae (vS "/"),x6,ae (.ref ni),ae (.str c),x9]⟩) B a0 E:=by
  intro e;wtm_at "r";refine⟨(λh=>nomatch h.2),hY hn (.inl rfl) ?_⟩;wtm_at "r";refine jv hn (by rw[aO];exact FI 0 100 0 4096 hl rfl) ?_;have:=q .next (.inl rfl);rw[e,dH]at this;exact n_next (x_nil this)
 have J:∀{y H},a0 y H->jQ (λI B=>WP (sq [] ⟨F,[],I⟩) B a0 E) a0 y H:=λ{y H} h=>by
  obtain⟨c0,l⟩:=y;cases c0 <;>exact h
 refine zY hc O ⟨λK=>?_,λK=>?_⟩
 ·refine t_t ((app ?_).a5 λu u h=>J h);unfold dx;have K:(!(c == sO ".."))=aj:=K;rw[R,K];rfl
 have K:(!(c == sO ".."))=az:=K;wtm_at "r";refine sW (by decide +kernel) ?_;rw[show((aq "/").length != 0)=aj by decide +kernel];refine t_f ?_;refine t_f ?_;wtm_at "r";refine pz hn ?_
 match nc,hn,d0,hl,q,skip,app with
 | [],hn,d0,hl,q,skip,app=>
  refine t_f ?_;wtm_at "r";refine pz hn ?_;refine t_f ?_;have:=q .next (.inl rfl);have e:dx [] c=[]:=by
   unfold dx;rw[R,K];rfl
  rw[e,wd hn]at this;exact x_nil (n_next (x_nil (J this)))
 |a :: nc,hn,d0,hl,q,skip,app=>
  refine t_t ?_;wtm_at "r";have D:=List.getLast?_eq_some_getLast (show a :: nc≠[] by simp);obtain L:=List.getLast_mem (show a :: nc≠[] by simp);generalize (a :: nc).getLast (by simp)=z at D L;have G:((a :: nc).map AV.str)[((a :: nc).map AV.str).length - 1]? =ae (.str z):=by
   rw[aO,dA,<-List.getLast?_eq_getElem?,D];rfl
  refine Gf hn (by simp) G ?_;wtm_at "r";refine Gd (d0 z L) O ⟨λN=>?_,λN=>?_⟩
  ·refine(app ?_).a5 λu u h=>J h;have N:(z == sO "..")=aj:=N;unfold dx;rw[R,K,D,eq_of_beq N];simp
  ·wtm_at "r";refine pz hn ?_;refine t_t ?_;wtm_at "r";refine⟨(λh=>nomatch h.2),hY hn (.inr (.inr (.inl rfl))) ?_⟩;wtm_at "r";refine Uv hn (by rw[List.getLast?_map,D];rfl) ?_;have:=q .next (.inl rfl);have e:dx (a :: nc) c=(a :: nc).dropLast:=by
    obtain N:(z == sO "..")=az:=N;unfold dx;rw[R,K,D];have:(ae z == ae (sO ".."))=az:=N;rw[this];simp
   rw[e,List.map_dropLast]at this;exact n_next (x_nil (n_next (x_nil (J this))))
def bj.app {l:St}(h:bj B)(hl:l.all (λo=>!jj o)=aj):bj (B++l):=by
 unfold bj at *;rw[List.all_append,h,hl];rfl
def bj.set (h:bj B)(ho:jj o=az):bj (B.set i o):=by
 unfold bj at *;rw[bW]at *;intro x D;rcases Jk D with D |rfl
 ·exact h x D
 ·rw[ho];rfl
def sI.mk {ni:ak}:sI ni [x0,ae (vS "/"),ae (vS "."),ae (vS ".."),x4,ae (vS "/"),x6,ae (.ref ni),x8,x9]:=⟨_,_,_,_,_,rfl⟩
theorem UG {s:au}{a0:AV->St->Prop}(hs:s∈lX)(q:∀H,Ex B H->(bj B->bj H)->a0 (.str (iH s)) H):WP (FN (k+2) (.fn (aq "_normpath")) [.str s] []) B a0 E:=by
 obtain f:=Ux hs;obtain Z:=bW.mp UB s hs;simp only[cW,fu]at Z;obtain h1:=f.pos;obtain h2:=f.len;refine RO ?_;unfold za;wtm_at "r";refine sW (by exact FI 0 100 0 4096 h2 rfl) ?_;rw[show(s.length != 0)=aj by simp;lia];refine t_f ?_;wtm_at "r";refine Uz f ?_;wtm_at "r";obtain h3:=f.ES;obtain m:=f.QN;refine⟨(λh=>nomatch h.1),nZ (.inr (.inl rfl)) ?_⟩;wtm_at "r";refine m_split (by decide +kernel) (by exact FI 0 100 0 4096 h3 rfl) f.parts (dW m (by decide)) ?_;obtain Y:Ex B (B++[AO.list ((aU (bT s) (aq "/")).map .str)]):=Fr.app;obtain U:(B++[AO.list ((aU (bT s) (aq "/")).map .str)])[B.length]? =ae (.list ((aU (bT s) (aq "/")).map .str)):=g_last;obtain c0:bj B->bj (B++[AO.list ((aU (bT s) (aq "/")).map .str)]):=λh=>h.app rfl;generalize B++[AO.list ((aU (bT s) (aq "/")).map .str)]=a7 at *;wtm_at "r";refine bp (by simp) ?_;obtain l:Ex B (a7++[AO.list []]):=Y.trans Fr.app;obtain O:(a7++[AO.list []])[B.length]? =ae (.list ((aU (bT s) (aq "/")).map .str)):=g_app U;obtain b:(a7++[AO.list []])[a7.length]? =ae (.list []):=g_last;obtain T:=ba U;obtain u:bj B->bj (a7++[AO.list []]):=λh=>(c0 h).app rfl;generalize a7++[AO.list []]=bF at *;generalize a7.length=ni at *;wtm_at "r";refine fh O ⟨rfl,?_⟩;refine lh (G:=λH=>H[B.length]? =ae (.list ((aU (bT s) (aq "/")).map .str))) (c0:=λj I H=>H[ni]? =ae (.list ((((aU (bT s) (sO "/")).take j).foldl dx []).map .str))/\H[B.length]? =ae (.list ((aU (bT s) (aq "/")).map .str))/\Ex B H/\(bj B->bj H)/\
   (∀x∈((aU (bT s) (sO "/")).take j).foldl dx [],cY x=aj)/\(((aU (bT s) (sO "/")).take j).foldl dx []).length<=j/\sI ni I) (K:=(aU (bT s) (aq "/")).map .str)
  (Yl.gM λH e=>e) (by rw[aO];exact wL m (by decide)) (λy y y h=>h.2.1) ⟨b,O,l,u,(λy h=>nomatch h),a4 _,_,_,_,_,_,rfl⟩ ?_ ?_
 ·intros _ j v e0 J _ R A;obtain⟨F,o,K,G,N,M,V⟩:=A;obtain (⟨x0,x4,x6,x8,x9,rfl⟩):=V;rw[dA]at R;cases L:(aU (bT s) (aq "/"))[j]? with
  |none=>rw[L]at R;cases R
  |some c=>
   intros c _ L;rw[L]at R;cases R;obtain⟨hc,w⟩:=f.QO c (cD L);obtain hj:j < (aU (bT s) (sO "/")).length:=ba L;refine cu rfl ?_;obtain z:(aU (bT s) (sO "/")).take (j+1)=(aU (bT s) (sO "/")).take j++[c]:=take_snoc L;refine UE F hc w N (by exact TT M (CF 1 0 0 10 0 100 hj m rfl)) λfl hf=>?_;rw[show dx (((aU (bT s) (sO "/")).take j).foldl dx []) c=((aU (bT s) (sO "/")).take (j+1)).foldl dx [] by rw[z,ux];rfl];have D:(J.set ni (.list ((((aU (bT s) (sO "/")).take (j+1)).foldl dx []).map .str)))[ni]? =ae (.list ((((aU (bT s) (sO "/")).take (j+1)).foldl dx []).map .str))/\(J.set ni (.list ((((aU (bT s) (sO "/")).take (j+1)).foldl dx []).map .str)))[B.length]? =ae (.list ((aU (bT s) (aq "/")).map .str))/\Ex B (J.set ni (.list ((((aU (bT s) (sO "/")).take (j+1)).foldl dx []).map .str)))/\
    (∀x∈((aU (bT s) (sO "/")).take (j+1)).foldl dx [],cY x=aj)/\(((aU (bT s) (sO "/")).take (j+1)).foldl dx []).length<=j+1:=by
    refine⟨de F,g_ne (by exact NT (T)) o,Ex.n6 K (by exact FI 1 0 0 0 T rfl),?_,?_⟩
    ·intros _ x _ S;rw[z,ux]at S;rcases UC S with h |rfl
     ·exact N x h
     ·exact hc
    ·rw[z,ux];exact dW UD (by exact FI 0 0 1 1 M rfl)
   rcases hf with rfl |rfl
   ·exact⟨D.1,D.2.1,D.2.2.1,(λh=>(G h).set rfl),D.2.2.2.1,D.2.2.2.2,sI.mk⟩
   ·exact⟨D.1,D.2.1,D.2.2.1,(λh=>(G h).set rfl),D.2.2.2.1,D.2.2.2.2,sI.mk⟩
 ·intros _ d0 J _ W;obtain⟨F,-,K,G,-,-,X⟩:=W;obtain (⟨x0,x4,x6,x8,x9,rfl⟩):=X;rw[aO,show(aU (bT s) (sO "/")).take (aU (bT s) (aq "/")).length=aU (bT s) (sO "/") from j7]at F;wtm_at "r";refine⟨(λh=>nomatch h.1),nZ (.inr (.inr rfl)) ?_⟩;wtm_at "r";refine zW F f.join ?_;have h6:(aq "/").length<=1:=by decide +kernel
  refine zO (dW (GI h6 f.QP) (by decide)) ?_;wtm_at "r";obtain e:aq "/"++jx (aq "/") ((aU (bT s) (sO "/")).foldl dx [])=iH s:=rfl;rw[e];obtain h7:(iH s).length<=4096:=dW Z.2 (by decide)
  with_reducible refine sW h7 ?_
  rw[show((iH s).length != 0)=aj from qU.mpr (Nat.pos_iff_ne_zero.mp Z.1)];refine t_t ?_;wtm_at "r";exact q _ K G
def UH {a0:AV->St->Prop}(h:Body sy ⟨FN k,[],[ae (.one v),ae (.ref B.length),ag,ag]⟩ (B++[.dict []]) a0 E):WP (FN (k+1) (.fn (aq "normpath")) [v] []) B a0 E:=by
 obtain F:∀i,((defOf jL).map λd=>cP (FN k) d.2.2 [] [(aq "args",.one v),(aq "kwargs",.ref i)])=ae (P.pure ⟨FN k,[],[ae (.one v),ae (.ref i),ag,ag]⟩):=λi=>by kernel_rfl
 obtain e:(defOf jL).map (λq=>ew (cS q.2.2 20) q.2.1)=ae (sq sy):=Rb;have G:FN (k+1) (.fn (aq "normpath")) [v] []=oV (FN k) [v] []:=by kernel_rfl
 rw[G];unfold oV;cases D:defOf jL with
 |none=>rw[D]at e;cases e
 |some d=>
  rw[D]at e;obtain e:ew (cS d.2.2 20) d.2.1=sq sy:=dp e;refine av (eJ (av ?_));have:=F B.length;rw[D]at this;have this:=dp this;rw[show cP (FN k) d.2.2 [] [(aq "args",.one v),(aq "kwargs",.ref B.length)]=_ from this];refine aQ (av ?_);show WP (ew (cS d.2.2 20) d.2.1 _) _ _ _;rw[e];exact h
def UI {s:au}{a0:AV->St->Prop}(hs:s∈lX)(q:∀H,Ex B H->(bj B->bj H)->a0 (.str (iH s)) H):WP (FN (k+3) (.fn (aq "normpath")) [.str s] []) B a0 E:=by
 refine UH ?_;unfold sy;wtm_at "r";refine UA g_last ?_;wtm_at "r";refine UG hs λH D F=>?_;wtm_at "r";exact q _ (Fr.app.trans D) λh=>F (h.app rfl)
def z9 {l:ah (au×AV)}{x:aI}{a0:b8->St->Prop}(h1:B[i]? =ae (.inst d))(h2:B[d]? =ae (.bc l))(hx:sO x∈p7)(hl:l.length<=64)(q:a0 () (B.set d (.bc (putField l (sO x) v)))):WP (p8 (.ref i) (aq x) v) B a0 E:=
 av (bw hx (av (eh (av (FQ h1 h2 (av (bw hl (lg q))))))))
def UJ {a0:AV->St->Prop}(q:a0 (.cL []) B):WP (eu ⟨F,O,I⟩ (.ty "set") [] []) B a0 E:=mY rfl (av (e6 (aQ q)))
def UK {a0:AV->St->Prop}{l:ah au}(h:B[i]? =ae (.list (l.map .str)))(hn:l.Nodup/\l.length<=3)(q:a0 (.cL l) B):WP (eu ⟨F,O,I⟩ (.ty "set") [.ref i] []) B a0 E:=
 mY rfl (av (e6 (av (fG (av (eh (av (fE h (av (dU so (av (bw hn (aQ q)))))))))))))
def UL {a0:AV->St->Prop}{b:AV}(h:Body vI ⟨FN k,[],[ae (.ref (B.length+1)),ae a,ae b,ag]⟩ (B++[.bc [],.inst B.length]) (λv c0=>v= .none/\a0 (.ref (B.length+1)) c0) E):WP (FN (k+1) (.fn (aq "_Ignore")) [a,b] []) B a0 E:=by
 have G:FN (k+1) (.fn (aq "_Ignore")) [a,b] []=qf (FN k) [a,b] []:=by kernel_rfl
 obtain F:∀i,FN (k+1) (.fn (aq "_Ignore.__init__")) [.ref i,a,b] []=lO (FN k) nL [.ref i,a,b] []:=λi=>by kernel_rfl
 rw[G];refine av (eJ (av (eJ (av ?_))));rw[<-F];rw[j2,bK];refine(RP (k:=k) (E:=E) h).a5 λr c0 D=>?_;obtain⟨rfl,D⟩:=D;exact aQ D
def UM:(pf.all λds=>decide (ds.map iH=ds))=aj:=by decide +kernel
def UN:(qB.all λl=>decide (l.Nodup) && decide (l.length<=3))=aj:=by decide +kernel
def UO:k6 r [] D0 where
 len:=a4 _
 get m T hm hk:=by
  rcases hm with rfl |⟨s,hs,rfl⟩
  ·cases hk;rfl
  ·cases hk;have:(modS.all λs=>decide (eF D0 (.inl s)=ag))=aj:=by decide +kernel
   exact gz (bW.mp this s hs)
 ok q hq:=nomatch hq
 EN _:=rfl
theorem UP {ds:ah au}{a0:ah AV->St->Prop}(d0:∀s∈ds,s∈lX)(hl:ds.length<=3)(c0:B[di]? =ae (.list (ds.map .str)))(q:∀H,Ex B H->(bj B->bj H)->a0 ((ds.map iH).map .str) H):
  WP (cw (aX (eK (.fn (aq "normpath"))) [(eL 1)] []) [] (pL 1) 128 (.list (ae di) 0) ⟨FN (k+3),[],[ag,ag,ag]⟩ []) B a0 E:=by
 refine l4 (G:=λH=>H[di]? =ae (.list (ds.map .str))) (a0:=λj F I H=>F=((ds.take j).map iH).map .str/\Ex B H/\(bj B->bj H)/\∃S T R,I=[S,T,R]) (K:=ds.map .str)
  (Yl.gM λH e=>e) (by rw[aO];exact FI 0 3 1 128 hl rfl) (λu u u u h=>h.2.1.g c0) ⟨rfl,Fr.refl _ _,id,_,_,_,rfl⟩ ?_ ?_
 ·intros _ j v F U H _ J N;obtain⟨rfl,O,G,L⟩:=N;obtain (⟨S,T,R,rfl⟩):=L;rw[dA]at J;cases D:ds[j]? with
  |none=>rw[D]at J;cases J
  |some c=>
   intros c _ D;rw[D]at J;cases J;refine cu rfl (qJ (t_t ⟨by rw[aO,aO,er];exact CF 0 0 0 3 0 4096 MR hl rfl,?_⟩));wtm_at "r";refine UI (d0 c (cD D)) λV K M=>⟨?_,O.trans K,(λh=>M (G h)),_,_,_,rfl⟩;rw[take_snoc D,dH,dH];rfl
 ·rintro F _ H ⟨rfl,O,G,-⟩;rw[aO,j7];exact q H O G
def UQ {a0:AV->St->Prop}{mods:ah au}(c0:B[mi]? =ae (.list (mods.map .str)))(d0:mods.Nodup/\mods.length<=3)(hl:I[1]? =ae (ae (.ref mi)))(q:a0 (.cL mods) B):
  WP (gJ (gp (tV (eL 1))) (aX (eK (.ty "set")) [] []) (aX (eK (.ty "set")) [(eL 1)] []) ⟨F,[],I⟩) B a0 E:=by
 refine w_If (w_tNot (w_tV (aM hl (pz c0 ⟨λc=>?_,λc=>?_⟩))))
 ·cases mods with
  |nil=>exact w_Call (w_K (w_evs_nil (w_kws_nil (UJ q))))
  |cons x l=>cases c
 ·exact w_Call (w_K (w_evs_cons (aM hl (w_evs_nil (w_kws_nil (UK c0 d0 q))))))
def UR {a0:AV->St->Prop}{ds:ah au}(c0:B[di]? =ae (.list (ds.map .str)))(e0:∀s∈ds,s∈lX)(d0:ds.length<=3)(hl:I[2]? =ae (ae (.ref di)))(q:∀H dd,Ex B H->(bj B->bj H)->B.length<=dd->H[dd]? =ae (.list ((ds.map iH).map .str))->a0 (.ref dd) H):
  WP (gJ (gp (tV (eL 2))) (eList []) (d9 (eH [(".0",.local),("d",.local),("normpath",.globalImplicit)]) az (iA (eL 2)) (pL 1) [] (aX (eK (.fn (aq "normpath"))) [(eL 1)] [])) ⟨FN (k+3),[],I⟩) B a0 E:=by
 refine w_If (w_tNot (w_tV (aM hl (pz c0 ⟨λc=>?_,λc=>?_⟩))))
 ·cases ds with
  |nil=>exact w_List (w_evs_nil (bp (by simp) (q _ _ Fr.app (λh=>h.app rfl) (a4 _) g_last)))
  |cons x l=>cases c
 ·refine iJ (cs:=[]) (L:=[ag,ag,ag]) (by decide +kernel) (by kernel_rfl) (λu=>by kernel_rfl) rfl ?_;refine w_iA (aM hl (fh c0 ⟨rfl,UP e0 d0 c0 λH F D=>?_⟩));exact bp (by rw[aO,aO];exact FI 0 3 0 4096 d0 rfl) (q _ _ (F.trans Fr.app) (λh=>(D h).app rfl) F.len g_last)
def w_dict {a0:AV->St->Prop}(q:a0 (.ref B.length) (B++[.dict D0])):WP (Ek (vS "<string>") (.int 1) Q) B a0 E:=
 av (dU rfl (av (dU rfl (av (dU rfl (av (eJ (aQ q))))))))
def Gg {mods ds:ah au}{a0:AV->St->Prop}(hm:mods∈qB)(c0:∀s∈ds,s∈lX)(hl:ds.length<=3)(e0:B[mi]? =ae (.list (mods.map .str)))(i0:B[di]? =ae (.list (ds.map .str)))(q:∀H i d dd g,Ex B H->(bj B->bj H)->B.length<=i->B.length<=d->B.length<=dd->B.length<=g->fB H i d dd g (mods,ds.map iH) D0->a0 (.ref i) H):
  WP (FN (k+4) (.fn (aq "_Ignore")) [.ref mi,.ref di] []) B a0 E:=by
 obtain X:=bW.mp UN mods hm;simp only[cW,fu]at X;refine UL ?_;obtain W:(B++[AO.bc [],.inst B.length])[B.length]? =ae (.bc []):=qF;obtain T:(B++[AO.bc [],.inst B.length])[B.length+1]? =ae (.inst B.length):=i5;obtain Y:Ex B (B++[AO.bc [],.inst B.length]):=Fr.app;obtain h0:bj B->bj (B++[AO.bc [],.inst B.length]):=λh=>h.app rfl;generalize B++[AO.bc [],.inst B.length]=a7 at *;unfold vI;refine x_sq (w_Set (UQ (Y.g e0) X rfl (x_pAttr (aM rfl (z9 T W (by decide +kernel) (by decide) (n_next ?_))))));obtain N:Fr (λj=>j=B.length) a7 (a7.set B.length (.bc (putField [] (sO "_mods") (.cL mods)))):=Fr.set rfl;obtain Z:Ex B (a7.set B.length (.bc (putField [] (sO "_mods") (.cL mods)))):=Ex.n6 Y (a4 _);obtain S:(a7.set B.length (.bc (putField [] (sO "_mods") (.cL mods))))[B.length]? =ae (.bc [(sO "_mods",.cL mods)]):=de W;obtain M:=N.get T (by exact NT (a4 _));obtain d0:bj B->bj (a7.set B.length (.bc (putField [] (sO "_mods") (.cL mods)))):=λh=>(h0 h).set rfl;generalize a7.set B.length (.bc (putField [] (sO "_mods") (.cL mods)))=bF at *;refine x_sq (w_Set (UR (Z.g i0) c0 hl rfl λF dd J V L g0=>x_pAttr (aM rfl (z9 (J.g M) (J.g S) (by decide +kernel) (by simp) (n_next ?_)))));obtain I:=ba M;obtain o:∀v,putField [(sO "_mods",.cL mods)] (sO "_dirs") v=[(sO "_mods",.cL mods),(sO "_dirs",v)]:=λv=>by kernel_rfl
 rw[o];obtain G:Fr (λj=>j=B.length) F (F.set B.length (.bc [(sO "_mods",.cL mods),(sO "_dirs",.ref dd)])):=Fr.set rfl;obtain j0:Ex B (F.set B.length (.bc [(sO "_mods",.cL mods),(sO "_dirs",.ref dd)])):=Ex.n6 (Z.trans J) (a4 _);obtain b:(F.set B.length (.bc [(sO "_mods",.cL mods),(sO "_dirs",.ref dd)]))[B.length]? =ae (.bc [(sO "_mods",.cL mods),(sO "_dirs",.ref dd)]):=de (J.g S);obtain A:=G.get (J.g M) (by exact NT (a4 _));obtain u:=G.get g0 (by exact NT (CF 2 0 0 0 1 0 I L rfl));obtain f:bj B->bj (F.set B.length (.bc [(sO "_mods",.cL mods),(sO "_dirs",.ref dd)])):=λh=>(V (d0 h)).set rfl;generalize F.set B.length (.bc [(sO "_mods",.cL mods),(sO "_dirs",.ref dd)])=cO at *;refine x_sq (w_Set (w_dict ?_));obtain l:(cO++[AO.dict D0])[B.length+1]? =ae (.inst B.length):=g_app A;obtain U:(cO++[AO.dict D0])[B.length]? =ae (.bc [(sO "_mods",.cL mods),(sO "_dirs",.ref dd)]):=g_app b;obtain z:Ex B (cO++[AO.dict D0]):=j0.trans Fr.app;obtain w:(cO++[AO.dict D0])[cO.length]? =ae (.dict D0):=g_last;obtain R:(cO++[AO.dict D0])[dd]? =ae (.list ((ds.map iH).map .str)):=g_app u;obtain K:=ba A;obtain m:bj B->bj (cO++[AO.dict D0]):=λh=>(f h).app rfl;generalize cO++[AO.dict D0]=dZ at *;generalize cO.length=g at *;refine x_pAttr (aM rfl (z9 l U (by decide +kernel) (by simp) (n_next ?_)));obtain O:∀v,putField [(sO "_mods",.cL mods),(sO "_dirs",.ref dd)] (sO "_ignore") v=[(sO "_mods",.cL mods),(sO "_dirs",.ref dd),(sO "_ignore",v)]:=λv=>by kernel_rfl
 rw[O];obtain D:Fr (λj=>j=B.length) dZ (dZ.set B.length (.bc [(sO "_mods",.cL mods),(sO "_dirs",.ref dd),(sO "_ignore",.ref g)])):=Fr.set rfl;obtain f0:Ex B (dZ.set B.length (.bc [(sO "_mods",.cL mods),(sO "_dirs",.ref dd),(sO "_ignore",.ref g)])):=Ex.n6 z (a4 _);refine x_nil (r_next ⟨rfl,?_⟩);exact q _ (B.length+1) B.length dd g f0 (λh=>(m h).set rfl) (by exact gU _) (a4 _) (by exact CF 2 0 0 0 0 0 I L rfl) (by exact FI 2 0 0 0 K rfl) ⟨D.get l (by exact NT (a4 _)),de U,D.get R (by exact NT (CF 2 0 0 0 1 0 I L rfl)),D.get w (by exact NT (FI 2 0 1 0 K rfl))⟩
def bG.one {q:eY}{n:aS}(h:bG B [q] [r] [n]):∃D,fB B q.a q.d q.dd q.g r D/\k6 r n D:=h.1
def bG.get:∀{B:St} {X:ah eY} {M:ah Rd} {ns:ah aS} {k:ak} {q:eY},bG B X M ns->X[k]? =ae q->∃r n,M[k]? =ae r/\ns[k]? =ae n/\bG B [q] [r] [n]:=by
 intro I J;induction J generalizing I with
 |nil=>
  intro _ _ _ _ _ D;exact nomatch D
 |cons q X H=>
  intro E;cases E with
  |nil=>
   intro _ _ _ h _;exact h.elim
  |cons r M=>
   intro G;cases G with
   |nil=>
    intro _ _ h _;exact h.elim
   |cons n ns=>
    intro F;cases F with
    |zero=>
     intro K h D;cases D;exact⟨r,n,rfl,rfl,h.1,trivial⟩
    |succ k=>
     intro K h D;exact H (k:=k) h.2 D
def bG.US {g:ak}{D0:ah ((au ⊕ Int)×AV)}{ns:ah aS}(h:bG B X M ns)(hg:B[g]? =ae (.dict D0))(c0:∀q∈X,q.g≠g)(a0:Fr (λi=>i=g) B H):bG H X M ns:=
 bG.fr a0 h λq F=>by
  obtain⟨r,D,E⟩:=h.at F;exact⟨cC E.inst hg (by simp),cC E.bc hg (by simp),cC E.fP hg (by simp),c0 q F⟩
def bG.upd:∀{B H:St} {X:ah eY} {M:ah Rd} {ns:ah aS} {k:ak} {q:eY} {r:Rd} {n':aS},bG B X M ns->X[k]? =ae q->M[k]? =ae r->X.Pairwise (λp q=>p.g≠q.g)->Fr (λi=>i=q.g) B H->bG H [q] [r] [n']->bG H X M (ns.set k n'):=by
 intro B H U;induction U generalizing B H with
 |nil=>
  intro _ _ _ _ _ _ _ E _ _ _ _;exact nomatch E
 |cons q X T=>
  intro S;cases S with
  |nil=>
   intro _ _ _ _ _ h _ _ _ _ _;exact h.elim
  |cons r M=>
   intro Y;cases Y with
   |nil=>
    intro _ _ _ _ h _ _ _ _ _;exact h.elim
   |cons n ns=>
    intro W;cases W with
    |zero=>
     intro N R n' h E I K f L;cases E;cases I;obtain⟨⟨D,G,-⟩,J⟩:=h;exact⟨L.1,J.US G.dict (λp V=>((lG.mp K).1 p V).symm) f⟩
    |succ k=>
     intro N R n' h E I K f L;obtain E:X[k]? =ae N:=E;obtain I:M[k]? =ae R:=I;obtain A:=h;obtain⟨⟨D,G,O⟩,J⟩:=h;obtain⟨Z,F⟩:=J.dict (cD E);obtain Q:=(lG.mp K).1 N (cD E);exact⟨⟨D,G.fr f (cC G.inst F (by simp)) (cC G.bc F (by simp)) (cC G.fP F (by simp)) Q,O⟩,(T J) E I (lG.mp K).2 f L⟩
def dO.get:∀{B:St} {is:ah ak} {ns:ah aS} {k i:ak},dO B is ns->is[k]? =ae i->∃n,ns[k]? =ae n/\dO B [i] [n]:=by
 intro J E;induction E generalizing J with
 |nil=>
  intro _ _ _ _ D;exact nomatch D
 |cons i is I=>
  intro F;cases F with
  |nil=>
   intro _ _ h _;exact h.elim
  |cons n ns=>
   intro H;cases H with
   |zero=>
    intro G h D;cases D;exact⟨n,rfl,h.1,trivial⟩
   |succ k=>
    intro G h D;exact I (k:=k) h.2 D
def dO.upd:∀{B H:St} {is:ah ak} {ns:ah aS} {k i:ak} {n':aS},dO B is ns->is[k]? =ae i->is.Nodup->Fr (· ∈[i]) B H->dO H [i] [n']->dO H is (ns.set k n'):=by
 intro B H L;induction L generalizing B H with
 |nil=>
  intro _ _ _ _ _ D _ _ _;exact nomatch D
 |cons i is K=>
  intro I;cases I with
  |nil=>
   intro _ _ _ h _ _ _ _;exact h.elim
  |cons n ns=>
   intro J;cases J with
   |zero=>
    intro G n' h D E f F;cases D;refine⟨F.1,h.2.fr f λj M e=>?_⟩;rw[aJ]at e;subst e;exact(pO.mp E).1 M
   |succ k=>
    intro G n' h D E f F;obtain D:is[k]? =ae G:=D;refine⟨f.get h.1 λe=>?_,(K h.2) D (pO.mp E).2 f F⟩;rw[aJ]at e;subst e;exact(pO.mp E).1 (cD D)
def ff.get:∀{B:St} {X:ah (ak×ak)} {M:ah Rd} {k:ak} {q:ak×ak},ff B X M->X[k]? =ae q->∃r,M[k]? =ae r/\ff B [q] [r]:=by
 intro J E;induction E generalizing J with
 |nil=>
  intro _ _ _ _ D;exact nomatch D
 |cons q X I=>
  intro F;cases F with
  |nil=>
   intro _ _ h _;exact h.elim
  |cons r M=>
   intro G;cases G with
   |zero=>
    intro H h D;cases D;exact⟨r,rfl,h.1,trivial⟩
   |succ k=>
    intro H h D;exact I (k:=k) h.2 D
def Gh {n:aS}(h: ¬ (m= .int 7/\r.1≠[])):jT r n m=([b2i (dv r ((dw n m).getD .none) m)],[n++[(m,.none)]]):=by
 have B:b7 [r] [n] m .none=(ae (b2i (dv r ((dw n m).getD .none) m)+0),[n++[(m,.none)]]):=aK h;unfold jT;rw[s7 (i:=b2i (dv r ((dw n m).getD .none) m)+0) (by rw[B]),B];rw[BJ];rfl
def Gi {n:aS}(h:m= .int 7/\r.1≠[]):jT r n m=([],[n]):=by
 obtain B:b7 [r] [n] m .none=(ag,[n]):=aN h;unfold jT;rw[s8 (by rw[B]),B]
def UT {x:eY}{n:aS}{a0:AV->St->Prop}(h:bG B [x] [r] [n])(hl:n.length<=60)(hm:eg m)(hr:fA r)(q:∀H i,bG H [x] [r] (jT r n m).2->Fr (λi=>i=x.g) B H->B.length<=i->H[i]? =ae (.list ((jT r n m).1.map .int))->a0 (.ref i) H):
  WP (FN (k+2) (.fn (aq "_law_says")) [.ref x.a,m] []) B a0 E:=by
 have U:=h;obtain⟨D,F,S⟩:=h.one;refine RU ?_;unfold zf;wtm_at "r";refine⟨(λh=>nomatch h.2),F.has ?_⟩;wtm_at "r";refine we (FU F S hl hm (.inl rfl) hr (λI R M=>?_) λT L=>?_)
 ·have J:jT r n m=_:=Gh λc=>c.2 (R c.1);rw[J]at q;have O:Fr (λi=>i=x.g) B (B.set x.g (.dict I)):=Fr.set rfl;have K:bG (B.set x.g (.dict I)) [x] [r] [n++[(m,.none)]]:=
   ⟨⟨I,⟨g_ne (cC F.dict F.inst (by simp)) F.inst,g_ne (cC F.dict F.bc (by simp)) F.bc,g_ne (cC F.dict F.fP (by simp)) F.fP,de F.dict⟩,M⟩,trivial⟩
  have G:B.length<=(B.set x.g (.dict I)).length:=O.len;generalize B.set x.g (.dict I)=bF at *;wtm_at "r";refine Uu ?_;wtm_at "r";refine Ge ?_;refine t_t ?_;wtm_at "r";refine bp (by simp) ?_;refine n_ret (r_ret ?_);have N:Ex bF (bF++[AO.list [.int (b2i (dv r ((dw n m).getD .none) m))]]):=Fr.app;exact q _ _ (K.fr N λu u=>⟨id,id,id,id⟩) (O.trans Fr.app) G g_last
 ·have J:jT r n m=_:=Gi ⟨T,L⟩;rw[J]at q;refine⟨rfl,?_⟩;wtm_at "r";refine bp (by simp) ?_;refine n_ret (r_ret ?_);have N:Ex B (B++[AO.list []]):=Fr.app;exact q _ _ (U.fr N λu u=>⟨id,id,id,id⟩) Fr.app (a4 _) g_last
def UU {l:ah Int}{a0:AV->St->Prop}(h:Body vP ⟨FN 11,dc,ae (.gW l) :: zm⟩ [.cell ag,.cell ag,.cell ag,.cell ag,.cell ag] a0 E):WP (FN 12 (.fn (aq "law")) [.gW l] []) [] a0 E:=
 fF (c0:=P.alloc (.cell ag)>>=λa=>P.alloc (.cell ag)>>=λb=>P.alloc (.cell ag)>>=λc=>P.alloc (.cell ag)>>=λd=>P.alloc (.cell ag)>>=λe=>P.pure ⟨FN 11,[(sO "readers",e),(sO "asks",d),(sO "wish",c),(sO "k",b),(sO "total",a)],ae (.gW l) :: zm⟩) Rk (by decide +kernel) (by kernel_rfl)
  (av (eJ (av (eJ (av (eJ (av (eJ (av (eJ (aQ h)))))))))))
def wo {a0:FL×ah (ax AV)->St->Prop}:∀{l1 l2:ah DS} {I:ah (ax AV)} {B:St},WP (sq l1 ⟨F,O,I⟩) B (jQ (λc0 B=>WP (sq l2 ⟨F,O,c0⟩) B a0 E) a0) E->WP (sq (l1++l2) ⟨F,O,I⟩) B a0 E:=by
 intro G;induction G with
 |nil=>
  intro l2 I B h;exact h
 |cons s l1 D=>
  intro l2 I B h;refine x_sq ?_;have h:WP (s ⟨F,O,I⟩>>=λx=>match x with
   |(.next,I)=>sq l1 { (⟨F,O,I⟩:RT)with loc:=I }
   |x=>P.pure x) B (jQ (λc0 B=>WP (sq l2 ⟨F,O,c0⟩) B a0 E) a0) E:=h
  refine P.mono _ (λr H x=>?_) h;cases r with
  |err k=>exact x
  |ok y=>
   obtain⟨f,c0⟩:=y;cases f with
   |next=>exact D (l2:=l2) x
   |brk=>exact x
   |cont=>exact x
   |ret v=>exact x
def UW {a b:Int}{a0:AV->St->Prop}(g:0<=b/\b<=60/\a.natAbs < 2 ^ 62)(h:a0 (.int (a ^ b.toNat)) B):WP (gf .Pow (.int a) (.int b)) B a0 E:=av (w_strict (av (bw g (aQ h))))
def UX {l':ah AV}{a0:AV->St->Prop}(h:B[i]? =ae (.list l))(h':B[j]? =ae (.list l'))(hl:(l++l').length<=4096)(q:a0 (.ref B.length) (B++[.list (l++l')])):WP (gf .Add (.ref i) (.ref j)) B a0 E:=
 av (bw rfl (av (eh (av (fE h (av (fE h' (bp hl q))))))))
def Gj {l:ah Int}{a0:AV->St->Prop}(q:a0 (.ref B.length) (B++[.list ((l.take 6).map .int)])):WP (kq (.gW l) ag (ae (.int 6))) B a0 E:=by
 refine av (zK (av (zL (av (bw ⟨rfl,zM (m:=6) (by decide)⟩ ?_)))));show WP (cz ((l.map AV.int).take (min 6 (l.map AV.int).length))) B a0 E;rw[FF,<-rK];exact bp (by rw[aO,er];exact dW (tn _ _) (by decide)) q
def UY {a0:AV->St->Prop}(hn:bj B)(q:∀a e sc,mQ=ae (a,e,sc)->a0 (.ref B.length) (B++[.lam a e sc [(sO "readers",4),(sO "asks",3)]])):WP (Em mQ ⟨F,dc,I⟩) B a0 E:=by
 obtain G:∀F I,(mQ.map λd=>fM ⟨F,dc,I⟩ d.2.2.names [])=ae (ae [(sO "readers",4),(sO "asks",3)]):=λF I=>by kernel_rfl
 cases D:mQ with
 |none=>have:=G F I;rw[D]at this;cases this
 |some d=>
  obtain⟨a,e,sc⟩:=d;have:=G F I;rw[D]at this;have this:fM ⟨F,dc,I⟩ sc.names []=_:=dp this;exact av (w_get (av (bw hn (av (dU this (av (eJ (aQ (q a e sc D)))))))))
def cl_readers:dc.lookup (aq "readers")=ae 4:=by kernel_rfl
def cl_asks:dc.lookup (aq "asks")=ae 3:=by kernel_rfl
def cl_wish:dc.lookup (aq "wish")=ae 2:=by kernel_rfl
def cl_k:dc.lookup (aq "k")=ae 1:=by kernel_rfl
def cl_total:dc.lookup (aq "total")=ae 0:=by kernel_rfl
def Gk {c:ak}{c0 x:Int}(hc:O.lookup (sO "total")=ae c)(ht:B[c]? =ae (.cell (ae (.int c0))))(he:∀a0:AV->St->Prop,a0 (.int x) B->WP (e ⟨F,O,I⟩) B a0 E)(hx:0<=x/\x<=20)(q:∀b,QB b B):
  WP (aR .Eq (aY .Mod (aY .FloorDiv (eC "total") (aY .Pow (eK (.int 2)) e)) (eK (.int 2))) (eK (.int 1)) ⟨F,O,I⟩) B QB E:=by
 have D:∀n:Fin 21,0 < (2:Int) ^ n.val/\(2:Int) ^ n.val < 2 ^ 29:=by decide +kernel
 refine w_tCmp (w_Bin (w_Bin (gr hc ht (w_Bin (w_K (he _ (UW ⟨hx.1,by lia,by decide⟩ (pq (D ⟨x.toNat,by lia⟩) (w_K (pv (by decide) (w_K (mZ (q _)))))))))))))
theorem Gl {li:ak}{x y z:au}{t:DT}{a0:ah AV->St->Prop}(hl:B[li]? =ae (.list [.str x,.str y,.str z]))(ht:∀(I:ah (ax AV)) (i:ak) (QB:aB->St->Prop),i < 3->I[1]? =ae (ae (.int i))->(∀b,QB b B)->WP (t ⟨F,cs,I⟩) B QB E)(q:∀sub,sub∈subs x y z->a0 (sub.map .str) B):
  WP (cw (eL 2) [t] (cx [(pL 1),(pL 2)]) 128 (.enum 0 (.list (ae li) 0)) ⟨F,cs,[ag,ag,ag,ag,ag]⟩ []) B a0 E:=by
 refine l4 (G:=λH=>H=B) (a0:=λj D I H=>(∃sub,sub∈zo [x,y,z] j/\D=sub.map .str/\sub.length<=j)/\H=B/\lU I) (K:=mT 0 ([x,y,z].map .str))
  (Yl.enum (Yl.gM λH e=>by rw[e];exact hl)) (by rw[n7];simp) (λa a a a h=>h.2.1) ⟨⟨[],.head _,rfl,a4 _⟩,rfl,lU.mk⟩ ?_ ?_
 ·intros _ j v D T H _ S O;obtain⟨M,rfl,N⟩:=O;obtain (⟨X,Y,W,V,U,rfl⟩):=N;obtain (⟨sub,L,rfl,G⟩):=M;obtain (⟨u,J,rfl⟩):=wm S;rw[dA]at J;cases K:[x,y,z][j]? with
  |none=>rw[K]at J;cases J
  |some w=>
   intros w _ K;rw[K]at J;cases J;have R:j < 3:=ba K;wtm_at "r";refine qM (ht _ j _ R (by rw[uA];rfl) λb=>⟨λa=>?_,λa=>?_⟩)
   ·refine⟨by rw[aO];exact CF 0 0 1 3 0 4096 G R rfl,?_⟩;wtm_at "r";refine⟨⟨sub++[w],?_,by rw[dH];rfl,by simp;exact G⟩,rfl,lU.mk⟩;refine ia _ (mx.mpr ⟨sub,L,?_⟩);rw[K];rfl
   ·exact⟨⟨sub,gQ _ L,rfl,by exact FI 0 0 0 1 G rfl⟩,rfl,lU.mk⟩
 ·rintro D I H ⟨⟨sub,L,rfl,-⟩,rfl,-⟩;rw[n7]at L;exact q sub L
def ff.snoc:∀{B:St} {X:ah (ak×ak)} {M:ah Rd} {q:ak×ak} {r:Rd},ff B X M->B[q.1]? =ae (.list (r.1.map .str))->B[q.2]? =ae (.list (r.2.map .str))->ff B (X++[q]) (M++[r]):=by
 intro I G;induction G generalizing I with
 |nil=>
  intro D;cases D with
  |nil=>
   intro _ _ _ E F;exact⟨⟨E,F⟩,trivial⟩
  |cons _ _=>
   intro _ _ h _ _;exact h.elim
 |cons K J H=>
  intro D;cases D with
  |nil=>
   intro _ _ h _ _;exact h.elim
  |cons _ _=>
   intro _ _ h E F;exact⟨h.1,(H h.2) E F⟩
def ff.len:∀{B:St} {X:ah (ak×ak)} {M:ah Rd},ff B X M->X.length=M.length:=by
 intro G E;induction E generalizing G with
 |nil=>
  intro D;cases D with
  |nil=>
   intro _;exact rfl
  |cons _ _=>
   intro h;exact h.elim
 |cons I H F=>
  intro D;cases D with
  |nil=>
   intro h;exact h.elim
  |cons _ _=>
   intro h;rw[ft,ft,(F h.2)]
def ff.lt:∀{B:St} {X:ah (ak×ak)} {M:ah Rd},ff B X M->∀q∈X,q.1 < B.length/\q.2 < B.length:=by
 intro I E;induction E generalizing I with
 |nil=>
  intro _ _ _ D;exact nomatch D
 |cons q X H=>
  intro F;cases F with
  |nil=>
   intro h _ _;exact h.elim
  |cons r M=>
   intro h G D;rcases bu.mp D with rfl |D
   ·exact⟨ba h.1.1,ba h.1.2⟩
   ·exact(H h.2) G D
def UZ {l:ah Int}{a0:AV->St->Prop}(hl:I[0]? =ae (ae (.gW l)))(q:∀H n1 (nums:ah Int),Ex B H->(bj B->bj H)->B.length<=n1->H[n1]? =ae (.list (nums.map .int))->1<=nums.length/\nums.length<=16->a0 (.ref n1) H):
  WP (aY .Add (fx (eL 0) ag (ae (eK (.int 6)))) (eList [(eK (.int 1728)),(eK (.int 1466)),(eK (.int 48)),(eK (.int 34)),(eK (.int 41)),(eK (.int 787)),(eK (.int 42)),(eK (.int 1536)),(eK (.int 55)),(eK (.int 33))]) ⟨F,O,I⟩) B a0 E:=by
 have G:(l.take 6).length<=6:=by rw[er];exact ML
 refine w_Bin (w_Slice (aM hl (w_optE_none (w_optE_some (w_K (Gj ?_))))));wtm_at "r";refine bp (by simp) ?_;refine UX (l:=(l.take 6).map .int) (l':=[1728,1466,48,34,41,787,42,1536,55,33].map .int) (g_app g_last) g_last (by rw[bK,aO,aO];simp;exact FI 0 6 0 4086 ML rfl) ?_;rw[<-dH];refine q _ _ _ ((Fr.app.trans Fr.app).trans Fr.app) (λD=>((D.app rfl).app rfl).app rfl) ?_ g_last ?_
 ·rw[bK,bK];exact TT AL AL
 ·rw[bK];simp;exact ML
def U2 {l:ah Int}{a0:AV->St->Prop}(hl:I[0]? =ae (ae (.gW l)))(q:∀H c0,Ex B H->(bj B->bj H)->a0 (.int c0) H):
  WP (aY .Add (aX (eK (.bi "sum")) [(fx (eL 0) ag (ae (eK (.int 6))))] []) (eK (.int 84104)) ⟨F,O,I⟩) B a0 E:=by
 refine w_Bin (w_Call (w_K (w_evs_cons (w_Slice (aM hl (w_optE_none (w_optE_some (w_K (Gj ?_)))))))));refine w_evs_nil (w_kws_nil (FX g_last (w_K (b_add ?_))));exact q _ _ Fr.app λh=>h.app rfl
theorem U3 {l:ah Int}{a0:FL×ah (ax AV)->St->Prop}(q:∀H n1 LP a9 M c0 x5 x6,zp H n1 LP a9 M c0->a9.length=3->a0 (.next,[ae (.gW l),ae (.ref n1),ag,ae (.ref LP),ag,x5,x6,ag,ag,ag,ag,ag,ag,ag,ag,ag,ag,ag,ag,ag,ag,ag,ag,ag,ag,ag,ag,ag,ag,ag,ag,ag,ag,ag,ag,ag,ag,ag,ag,ag,ag,ag,ag]) H):
  WP (sq sA ⟨FN 11,dc,ae (.gW l) :: zm⟩) [.cell ag,.cell ag,.cell ag,.cell ag,.cell ag] a0 E:=by
 show WP (sq sA ⟨FN 11,dc,[ae (.gW l),ag,ag,ag,ag,ag,ag,ag,ag,ag,ag,ag,ag,ag,ag,ag,ag,ag,ag,ag,ag,ag,ag,ag,ag,ag,ag,ag,ag,ag,ag,ag,ag,ag,ag,ag,ag,ag,ag,ag,ag,ag,ag]⟩) _ a0 E;obtain h0:([.cell ag,.cell ag,.cell ag,.cell ag,.cell ag]:St)[0]? =ae (.cell ag):=rfl;obtain h1:([.cell ag,.cell ag,.cell ag,.cell ag,.cell ag]:St)[1]? =ae (.cell ag):=rfl;obtain h2:([.cell ag,.cell ag,.cell ag,.cell ag,.cell ag]:St)[2]? =ae (.cell ag):=rfl;obtain h3:([.cell ag,.cell ag,.cell ag,.cell ag,.cell ag]:St)[3]? =ae (.cell ag):=rfl;obtain h4:([.cell ag,.cell ag,.cell ag,.cell ag,.cell ag]:St)[4]? =ae (.cell ag):=rfl;obtain hn:bj [.cell ag,.cell ag,.cell ag,.cell ag,.cell ag]:=rfl;generalize ([.cell ag,.cell ag,.cell ag,.cell ag,.cell ag]:St)=B at *;obtain Y:=ba h4;unfold sA;refine x_sq (w_Set (UZ rfl ?_));intros _ s1 n1 c0 _ b1 K0 f0 E0 T0;refine cu rfl (n_next ?_);simp only[gB,gC];refine x_sq (w_Set (U2 rfl ?_));intros _ O T _ d0 r0;obtain U:Ex B O:=b1.trans d0;obtain e1:bj O:=r0 (K0 hn);obtain m0:=d0.g E0;obtain H0:=U.g h0;wtm_at "r";obtain F:Fr (λi=>i=0) O (O.set 0 (.cell (ae (.int T)))):=Fr.set rfl;obtain O0:bj (O.set 0 (.cell (ae (.int T)))):=e1.set rfl;obtain m1:(O.set 0 (.cell (ae (.int T))))[0]? =ae (.cell (ae (.int T))):=de H0;obtain a1:=F.get (U.g h1) (by decide);obtain J0:=F.get (U.g h2) (by decide);obtain U0:=F.get (U.g h3) (by decide);obtain F0:=F.get (U.g h4) (by decide);obtain W:=F.get m0 (by exact NT (CF 5 0 0 0 1 0 Y f0 rfl));obtain u1:=F.len;obtain t1:=U.len;generalize O.set 0 (.cell (ae (.int T)))=bk at *;refine bp (by simp) ?_;wtm_at "r";refine bp (by simp) ?_;refine fh g_last ⟨rfl,?_⟩;obtain i1:(bk++[AO.list []]++[AO.list ([.int 0,.int 6,.int 12])])[bk.length]? =ae (.list []):=g_app g_last;obtain y0:(bk++[AO.list []]++[AO.list ([.int 0,.int 6,.int 12])])[(bk++[AO.list []]).length]? =ae (.list [.int 0,.int 6,.int 12]):=g_last;obtain V:Ex bk (bk++[AO.list []]++[AO.list ([.int 0,.int 6,.int 12])]):=Fr.app.trans Fr.app;obtain S0:bj (bk++[AO.list []]++[AO.list ([.int 0,.int 6,.int 12])]):=(O0.app rfl).app rfl;have f:bk.length < (bk++[AO.list []]).length:=by rw[bK];simp
 generalize (bk++[AO.list []]).length=ki at *;generalize bk++[AO.list []]++[AO.list ([.int 0,.int 6,.int 12])]=cO at *;obtain I0:=V.g m1;obtain L0:=V.g a1;obtain l1:=V.g J0;obtain R0:=V.g U0;obtain W0:=V.g F0;obtain e0:=V.g W;obtain X:=ba W;have K:5<=bk.length:=by exact CF 5 0 1 0 5 0 (CH 5 0 0 0 Y f0) X rfl
 generalize bk.length=LP at *;refine lh (G:=λH=>H[ki]? =ae (.list [.int 0,.int 6,.int 12])) (c0:=λj I H=>H[ki]? =ae (.list [.int 0,.int 6,.int 12])/\H[0]? =ae (.cell (ae (.int T)))/\(∃a9 M,zp H n1 LP a9 M c0/\a9.length=j)/\ki < H.length/\∃x5 x6,I=[ae (.gW l),ae (.ref n1),ag,ae (.ref LP),ag,x5,x6,ag,ag,ag,ag,ag,ag,ag,ag,ag,ag,ag,ag,ag,ag,ag,ag,ag,ag,ag,ag,ag,ag,ag,ag,ag,ag,ag,ag,ag,ag,ag,ag,ag,ag,ag,ag]) (K:=[.int 0,.int 6,.int 12])
  (Yl.gM λH e=>e) (by decide) (λy y y h=>h.1) ⟨y0,I0,⟨[],[],⟨⟨_,L0⟩,l1,R0,W0,e0,T0,i1,trivial,(λy h=>nomatch h),(λy h=>nomatch h),⟨K,by exact TT Y f0⟩,X,S0⟩,rfl⟩,ba y0,_,_,rfl⟩ ?_ ?_
 ·intros _ j v r1 L _ m c1;obtain⟨z0,G0,V0,o1,j1⟩:=c1;obtain (⟨x5,x6,rfl⟩):=j1;obtain (⟨a9,M,A,b⟩):=V0;obtain⟨kk,rfl,WA,WB⟩:∃kk:Int,v= .int kk/\0<=kk/\kk<=12:=by
   match j,m with
   | 0,m=>cases m;exact⟨0,rfl,by decide,by decide⟩
   | 1,m=>cases m;exact⟨6,rfl,by decide,by decide⟩
   | 2,m=>cases m;exact⟨12,rfl,by decide,by decide⟩
  obtain j0:=ba m;obtain j0:j < 3:=j0;obtain⟨cv,Y0⟩:=A.c1;wtm_at "r";obtain F:Fr (λi=>i=1) L (L.set 1 (.cell (ae (.int kk)))):=Fr.set rfl;obtain i0:(L.set 1 (.cell (ae (.int kk))))[1]? =ae (.cell (ae (.int kk))):=de Y0;obtain l0:=F.get G0 (by decide);obtain f1:bj (L.set 1 (.cell (ae (.int kk)))):=A.EU.set rfl;obtain z:=F.len;generalize L.set 1 (.cell (ae (.int kk)))=fS at *;refine iJ (cs:=[(aq "total",0),(aq "k",1)]) (L:=[ag,ag,ag,ag,ag]) (by decide +kernel) (by kernel_rfl) (λy=>by kernel_rfl) rfl ?_;wtm_at "r";refine bp (by simp) ?_;wtm_at "r";obtain w:Ex fS (fS++[AO.list [vS "a",vS "a.b",vS "b"]]):=Fr.app;obtain d1:bj (fS++[AO.list [vS "a",vS "a.b",vS "b"]]):=f1.app rfl;obtain A0:(fS++[AO.list [vS "a",vS "a.b",vS "b"]])[fS.length]? =ae (.list [vS "a",vS "a.b",vS "b"]):=g_last;generalize fS++[AO.list [vS "a",vS "a.b",vS "b"]]=dk at *;refine fh A0 ⟨rfl,Gl A0 (λI i QB hi g0 qq=>Gk (by wtm_at "cel") (w.g l0) (x:=kk+i) (λa0 S=>?_) (by lia) qq) λmods u=>?_⟩
  ·exact w_Bin (gr (by wtm_at "cel") (w.g i0) (aM g0 (b_add S)))
  obtain B0:=(bW.mp FJ mods u);simp only[cW,fu]at B0;refine bp (by rw[aO];exact FI 0 3 0 4096 B0.1 rfl) ?_;obtain u0:Ex fS (dk++[AO.list (mods.map .str)]):=w.trans Fr.app;obtain N0:bj (dk++[AO.list (mods.map .str)]):=d1.app rfl;obtain M0:(dk++[AO.list (mods.map .str)])[dk.length]? =ae (.list (mods.map .str)):=g_last;obtain p0:=w.len;generalize dk++[AO.list (mods.map .str)]=gu at *;wtm_at "r";refine iJ (cs:=[(aq "total",0),(aq "k",1)]) (L:=[ag,ag,ag,ag,ag]) (by decide +kernel) (by kernel_rfl) (λy=>by kernel_rfl) rfl ?_;wtm_at "r";refine bp (by simp) ?_;wtm_at "r";obtain o:Ex fS (gu++[AO.list [vS "/l",vS "/l/a",vS "/w"]]):=u0.trans Fr.app;obtain P0:bj (gu++[AO.list [vS "/l",vS "/l/a",vS "/w"]]):=N0.app rfl;obtain v0:(gu++[AO.list [vS "/l",vS "/l/a",vS "/w"]])[gu.length]? =ae (.list [vS "/l",vS "/l/a",vS "/w"]):=g_last;obtain Q0:(gu++[AO.list [vS "/l",vS "/l/a",vS "/w"]])[dk.length]? =ae (.list (mods.map .str)):=g_app M0;obtain q1:=u0.len;obtain s0:=o.len;generalize gu++[AO.list [vS "/l",vS "/l/a",vS "/w"]]=fT at *;refine fh v0 ⟨rfl,Gl v0 (λI i QB hi g0 qq=>Gk (by wtm_at "cel") (o.g l0) (x:=kk+3+i) (λa0 S=>?_) (by lia) qq) λG k=>?_⟩
  ·exact w_Bin (w_Bin (gr (by wtm_at "cel") (o.g i0) (w_K (b_add (aM g0 (b_add S))))))
  obtain o0:=(bW.mp FO G k);simp only[cW,fu]at o0;refine bp (by rw[aO];exact FI 0 3 0 4096 o0.1 rfl) ?_;obtain Z:Ex fS (fT++[AO.list (G.map .str)]):=o.trans Fr.app;obtain w0:bj (fT++[AO.list (G.map .str)]):=P0.app rfl;obtain C0:(fT++[AO.list (G.map .str)])[fT.length]? =ae (.list (G.map .str)):=g_last;obtain n0:(fT++[AO.list (G.map .str)])[dk.length]? =ae (.list (mods.map .str)):=g_app Q0;generalize fT++[AO.list (G.map .str)]=Aa at *;obtain J:Fr (λi=>i=1) L Aa:=F.trans Z.any;obtain N:=J.get A.lp (by have:=A.fQ;exact NT (FI 5 0 2 0 K rfl));obtain R:=ba A.lp;wtm_at "r";refine⟨(λh=>nomatch h.2),hY N (.inl rfl) ?_⟩;wtm_at "r";refine jv N (by rw[aO];exact CF 0 0 1 3 0 4096 (EL b) j0 rfl) ?_;obtain D:Fr (λi=>i=LP) Aa (Aa.set LP (.list (a9.map pM++[.pair (.ref dk.length) (.ref fT.length)]))):=Fr.set rfl;refine n_next (x_nil (l_next ⟨?_,D.get (Z.g l0) (by exact NE (FI 5 0 1 0 K rfl)),⟨a9++[(dk.length,fT.length)],M++[(mods,G)],?_,by rw[bK,b];rfl⟩,?_,_,_,rfl⟩))
  ·exact D.get (J.get z0 (by exact NT (CF 5 0 1 0 2 0 K f rfl))) (by exact NT (f))
  ·refine⟨⟨_,D.get (Z.g i0) (by exact NE (FI 5 0 2 0 K rfl))⟩,D.get (J.get A.c2 (by exact NT (a4 _))) (by exact NE (FI 5 0 3 0 K rfl)),D.get (J.get A.c3 (by exact NT (gU _))) (by exact NE (FI 5 0 4 0 K rfl)),D.get (J.get A.c4 (by exact NT (RR 2 4 rfl))) (by exact NE (K)),D.get (J.get A.num (by have:=A.fQ;exact NT (FI 5 0 2 0 this.2 rfl))) ?_,A.nl,?_,?_,?_,?_,A.fQ,A.ET,w0.set rfl⟩
   ·have:=A.ET;exact NE (X)
   ·rw[de N,dH];rfl
   ·refine ff.snoc ((A.at_.fr J λq S=>?_).fr D λq S=>?_) (D.get n0 (by exact NT (TT R (TT z p0)))) (D.get C0 (by exact NT (TT R (TT z s0))))
    ·exact⟨NT (CF 5 0 1 0 2 0 A.fQ.1 (A.low q S).1 rfl),NT (CF 5 0 1 0 2 0 A.fQ.1 (A.low q S).2 rfl)⟩
    ·have:=A.low q S;exact⟨NT (this.1),NT (this.2)⟩
   ·intro r hr;rcases dX.mp hr with hr |hr
    ·exact A.ok r hr
    ·rw[aJ.mp hr];exact⟨u,k⟩
   ·intro q S;rcases dX.mp S with S |S
    ·exact A.low q S
    ·rw[aJ.mp S];exact⟨by show LP < dk.length;exact TT R (TT z p0),by show LP < fT.length;exact TT R (TT z s0)⟩
  ·have:=D.len;have:=J.len;exact TT o1 (TT this JB)
 ·intros _ v1 L _ Z0;obtain⟨-,-,g1,-,p1⟩:=Z0;obtain (⟨x5,x6,rfl⟩):=p1;obtain (⟨a9,M,A,b⟩):=g1;exact n_next (x_nil (q L n1 LP a9 M c0 x5 x6 A b))
def bG.snoc:∀{B:St} {X:ah eY} {M:ah Rd} {ns:ah aS} {q:eY} {r:Rd} {n:aS},bG B X M ns->bG B [q] [r] [n]->bG B (X++[q]) (M++[r]) (ns++[n]):=by
 intro I G;induction G generalizing I with
 |nil=>
  intro D;cases D with
  |nil=>
   intro E;cases E with
   |nil=>
    intro _ _ _ _ h;exact h
   |cons _ _=>
    intro _ _ _ h _;exact h.elim
  |cons _ _=>
   intro _ _ _ _ h _;exact h.elim
 |cons K J H=>
  intro D;cases D with
  |nil=>
   intro _ _ _ _ h _;exact h.elim
  |cons _ _=>
   intro E;cases E with
   |nil=>
    intro _ _ _ h _;exact h.elim
   |cons _ _=>
    intro _ _ _ h F;exact⟨h.1,(H h.2) F⟩
def bG.ex {ns:ah aS}(h:bG B X M ns)(a0:Ex B H):bG H X M ns:=h.fr a0 λu u=>⟨id,id,id,id⟩
def bG.lt {ns:ah aS}{q:eY}(h:bG B X M ns)(hq:q∈X):q.g < B.length:=by
 obtain⟨D,h⟩:=h.dict hq;exact ba h
def U4:(pf.all λds=>ds.all λs=>lX.contains s)=aj:=by decide +kernel
theorem U5 {a0:ah AV->St->Prop}(d0:B[LP]? =ae (.list (a9.map pM)))(c0:ff B a9 M)(e0:∀r∈M,fA r)(hl:a9.length<=60)(q:∀H X,Ex B H->(bj B->bj H)->bG H X M (M.map λc=>[])->X.Pairwise (λp q=>p.g≠q.g)->(∀q∈X,Behind B.length q)->X.length=a9.length->a0 (X.map λq=>.ref q.a) H):
  WP (cw (aX (eK (.fn (aq "_Ignore"))) [(eL 1),(eL 2)] []) [] (cx [(pL 1),(pL 2)]) 128 (.list (ae LP) 0) ⟨FN (k+4),[],[ag,ag,ag,ag]⟩ []) B a0 E:=by
 obtain g0:=c0.len;refine l4 (G:=λH=>H[LP]? =ae (.list (a9.map pM))) (a0:=λj N I H=>(∃X:ah eY,N=X.map (λq=>.ref q.a)/\bG H X (M.take j) ((M.take j).map λx=>[])/\X.Pairwise (λp q=>p.g≠q.g)/\(∀q∈X,Behind B.length q)/\X.length=j)/\Ex B H/\(bj B->bj H)/\∃x0 x1 x2 x3,I=[x0,x1,x2,x3]) (K:=a9.map pM)
  (Yl.gM λH e=>e) (by rw[aO];exact FI 0 60 1 128 hl rfl) (λx x x x h=>h.2.1.g d0) ⟨⟨[],rfl,trivial,BE,(λx h=>nomatch h),rfl⟩,Fr.refl _ _,id,_,_,_,_,rfl⟩ ?_ ?_
 ·intros _ j v N l0 H _ V z;obtain⟨Z,S,O,h0⟩:=z;obtain (⟨x0,x1,x2,x3,rfl⟩):=h0;obtain (⟨X,rfl,R,Y,T,F⟩):=Z;rw[dA]at V;cases G:a9[j]? with
  |none=>rw[G]at V;cases V
  |some md=>
   intros md _ G;rw[G]at V;cases V;obtain hj:=ba G;obtain (⟨r,hr,f⟩):=c0.get G;obtain⟨⟨i0,o⟩,-⟩:=f;have K:=e0 r (cD hr);obtain A:=FP K;obtain l:r.2.map iH=r.2:=gz (bW.mp UM r.2 K.2);obtain u:∀s∈r.2,s∈lX:=λs Y=>AB.mp (bW.mp (bW.mp U4 r.2 K.2) s Y);unfold pM;wtm_at "r";refine qJ ?_;refine t_t ?_;refine⟨by rw[aO];exact TT (EL F) (CF 1 0 0 60 0 4096 hj hl rfl),?_⟩;wtm_at "r";refine Gg K.1 u A.1 (S.g i0) (S.g o) λj0 i d dd g U W hi hd f0 hg L=>?_;rw[l]at L;obtain J:=S.len;refine⟨⟨X++[⟨i,d,dd,g⟩],by rw[dH];rfl,?_,?_,?_,by rw[bK,F];rfl⟩,S.trans U,λh=>W (O h),_,_,_,_,rfl⟩
   ·rw[take_snoc hr,dH];exact(R.ex U).snoc ⟨⟨D0,L,UO⟩,trivial⟩
   ·rw[xp];refine⟨Y,BD ..,λa ha b T=>?_⟩;rw[aJ.mp T];have:=R.lt ha;show a.g≠g;exact NE (TT this hg)
   ·intro q' D;rcases dX.mp D with D |D
    ·exact T q' D
    ·rw[aJ.mp D];exact⟨by show B.length<=i;exact TT J hi,by show B.length<=d;exact TT J hd,by show B.length<=dd;exact TT J f0,by show B.length<=g;exact TT J hg⟩
 ·intros _ N m0 H _ w;obtain⟨m,S,O,-⟩:=w;obtain (⟨X,rfl,R,Y,T,F⟩):=m;rw[aO]at R F;rw[gA (by exact(EG g0))]at R;exact q H X S O R Y T F
def U6 {a g:ak}(h:fB B a d dd g ([],[sO "/w"]) D0)(hl:I[7]? =ae (ae (.ref a)))(q:∀H D,Ex (B.set g (.dict D)) H->(bj B->bj H)->QB az H):
  WP (aR .NotEq (eList [(bX (eL 7) .names [(eK (vS "/w/q.py")),(eK (vS "q"))] []),(bX (eL 7) .names [(eK (vS "/wx/q.py")),(eK (vS "r"))] [])]) (eList [(eK (.int 1)),(eK (.int 0))]) ⟨FN (k+1),dc,I⟩) B QB E:=by
 have J:fA ([],[sO "/w"]):=by
  constructor
  ·exact .head _
  ·have:(pf.contains [sO "/w"])=aj:=by decide +kernel
   exact AB.mp this
 have O:eF D0 (.inl (sO "q"))=ag:=by decide +kernel
 have K:eF (putD D0 (.inl (sO "q")) (.int (b2i (dv ([],[sO "/w"]) (vS "/w/q.py") (vS "q"))))) (.inl (sO "r"))=ag:=by decide +kernel
 have M:b2i (dv ([],[sO "/w"]) (vS "/w/q.py") (vS "q"))=1:=by decide +kernel
 have N:b2i (dv ([],[sO "/w"]) (vS "/wx/q.py") (vS "r"))=0:=by decide +kernel
 refine w_tCmp (w_List (w_evs_cons (v8 (by decide) (aM hl ⟨(λh=>nomatch h.2),h.has ?_⟩))));wtm_at "r";refine we (zP (T:=.inl (sO "q")) h (by decide) (.inr ⟨_,rfl⟩) (.inr ⟨_,rfl⟩) J rfl (λv G=>?_) (λu u=>?_) λu e u=>nomatch e)
 ·rw[O]at G;cases G
 rw[M];have R:fB (B.set g (.dict (putD D0 (.inl (sO "q")) (.int 1)))) a d dd g ([],[sO "/w"]) (putD D0 (.inl (sO "q")) (.int 1)):=
  ⟨g_ne (cC h.dict h.inst (by simp)) h.inst,g_ne (cC h.dict h.bc (by simp)) h.bc,g_ne (cC h.dict h.fP (by simp)) h.fP,de h.dict⟩
 obtain S:bj B->bj (B.set g (.dict (putD D0 (.inl (sO "q")) (.int 1)))):=λL=>L.set rfl;obtain F:∀D,(B.set g (.dict (putD D0 (.inl (sO "q")) (.int 1)))).set g (.dict D)=B.set g (.dict D):=λD=>oN ..;generalize B.set g (.dict (putD D0 (.inl (sO "q")) (.int 1)))=bF at *;refine w_evs_cons (v8 (by decide) (aM hl ⟨(λh=>nomatch h.2),R.has ?_⟩));wtm_at "r";refine we (zP (T:=.inl (sO "r")) R (by decide +kernel) (.inr ⟨_,rfl⟩) (.inr ⟨_,rfl⟩) J rfl (λv G=>?_) (λu u=>?_) λu e u=>nomatch e)
 ·rw[M]at K;rw[K]at G;cases G
 rw[N,F];obtain Q:bj B->bj (B.set g (.dict (putD (putD D0 (.inl (sO "q")) (.int 1)) (.inl (sO "r")) (.int 0)))):=λL=>L.set rfl;wtm_at "r";refine bp (by simp) ?_;wtm_at "r";refine bp (by simp) ?_;refine s9 (l6 (ds:=[.int 1,.int 0]) (g_app g_last) (zU (l:=[1,0]))) (l6 (ds:=[.int 1,.int 0]) g_last (zU (l:=[1,0]))) ?_;rw[show(!bY (.list [.int 1,.int 0]) (.list [.int 1,.int 0]))=az by simp[bY,lH]];exact q _ _ (Fr.app.trans Fr.app) λL=>((Q L).app rfl).app rfl
theorem U7 {n1:ak}{d0:ah Int}{a0:FL×ah (ax AV)->St->Prop}(c0:zp B n1 LP a9 M d0)(h3:a9.length=3)(q:∀H x x7,EV B.length H x n1 LP a9 M d0->a0 (.next,[x0,ae (.ref n1),ag,ae (.ref LP),ag,x5,x6,x7,ae (.ref x.lm),ag,ag,ag,ag,ag,ag,ag,ag,ag,ag,ag,ag,ag,ag,ag,ag,ag,ag,ag,ag,ag,ag,ag,ag,ag,ag,ag,ag,ag,ag,ag,ag,ag,ag]) H):
  WP (sq vJ ⟨FN 11,dc,[x0,ae (.ref n1),ag,ae (.ref LP),ag,x5,x6,ag,ag,ag,ag,ag,ag,ag,ag,ag,ag,ag,ag,ag,ag,ag,ag,ag,ag,ag,ag,ag,ag,ag,ag,ag,ag,ag,ag,ag,ag,ag,ag,ag,ag,ag,ag]⟩) B a0 E:=by
 obtain⟨cv,T0⟩:=c0.c1;have m:=ba c0.lp;have J0:=ba c0.num;have J:=ba c0.c4;unfold vJ;wtm_at "r";refine iJ (cs:=[]) (L:=[ag,ag,ag,ag]) (by decide +kernel) (by kernel_rfl) (λv=>by kernel_rfl) rfl ?_;wtm_at "r";refine fh c0.lp ⟨rfl,U5 c0.lp c0.at_ c0.ok (by exact FI 0 3 0 60 (EL h3) rfl) ?_⟩;intros _ O X _ o0 B0 hq hs hb i0;refine bp (by rw[aO];exact CF 0 0 0 3 0 4096 (EL i0) (EL h3) rfl) ?_;have e0:Ex B (O++[AO.list (X.map λq=>.ref q.a)]):=o0.trans Fr.app;have O0:bj (O++[AO.list (X.map λq=>.ref q.a)]):=(B0 c0.EU).app rfl;have I0:bG (O++[AO.list (X.map λq=>.ref q.a)]) X M (M.map λv=>[]):=hq.ex Fr.app;have N0:(O++[AO.list (X.map λq=>.ref q.a)])[O.length]? =ae (.list (X.map λq=>.ref q.a)):=g_last;have w:=o0.len;generalize O++[AO.list (X.map λq=>.ref q.a)]=bF at *;generalize Y0:O.length=R at *;have L0:=e0.g c0.c4;wtm_at "r";have S:Fr (λi=>i=4) bF (bF.set 4 (.cell (ae (.ref R)))):=Fr.set rfl;have y0:(bF.set 4 (.cell (ae (.ref R))))[4]? =ae (.cell (ae (.ref R))):=de L0;have E0:bj (bF.set 4 (.cell (ae (.ref R)))):=O0.set rfl;have l:Fr (λi=>i=4) B (bF.set 4 (.cell (ae (.ref R)))):=e0.any.trans S;have j0:bG (bF.set 4 (.cell (ae (.ref R)))) X M (M.map λv=>[]):=I0.fr S λq G=>by
  have:=hb q G;obtain⟨j,z,h3,h4⟩:=this;exact⟨NT (TT J j),⟨NT (TT J z),⟨NT (TT J h3),NT (TT J h4)⟩⟩⟩
 have h0:=S.get N0 (by exact NT (TT J w));generalize bF.set 4 (.cell (ae (.ref R)))=bk at *;refine bp (by simp) ?_;wtm_at "r";refine bp (by simp) ?_;wtm_at "r";have l0:Ex bk (bk++[AO.list []]++[AO.list [vS "/l/../w//"]]):=Fr.app.trans Fr.app;have H0:bj (bk++[AO.list []]++[AO.list [vS "/l/../w//"]]):=(E0.app rfl).app rfl;refine Gg (mods:=[]) (ds:=[sO "/l/../w//"]) (.head _) (λs hs=>by rw[aJ.mp hs];exact .tail _ (.tail _ (.tail _ (.head _)))) (by decide) (g_app g_last) g_last ?_;intros _ w0 a d dd g _ z0 k ha hd W0 hg r0;have hw:[sO "/l/../w//"].map iH=[sO "/w"]:=by decide +kernel
 rw[hw]at r0;have k:=k H0;have n0:Ex bk w0:=l0.trans z0;have V0:=l0.len;have p0:=l.len;refine cu rfl (n_next ?_);simp only[gB,gC];refine x_sq (w_qIf (U6 r0 rfl ?_));intros _ F D _ A0 u;refine t_f (x_nil (n_next ?_));have S0:Fr (λi=>i=g) w0 F:=(Fr.set (D:=λi=>i=g) rfl).trans A0.any;have Y:Ex bk F:=n0.old S0 λi hi e=>by exact XX 3 0 (CH 2 0 1 0 (CH 1 0 1 0 (CH 0 0 1 0 (CH 0 0 0 0 hg (EG e)) hi) LJ) LJ) rfl
 have u:=u k;wtm_at "r";refine bp (by simp) ?_;have V:Ex bk (F++[AO.list []]):=Y.trans Fr.app;have M0:bj (F++[AO.list []]):=u.app rfl;have Q0:(F++[AO.list []])[F.length]? =ae (.list []):=g_last;have N:=Y.len;generalize F++[AO.list []]=dk at *;have K0:=V.g (l.get c0.c3 (by decide));wtm_at "r";have K:Fr (λi=>i=3) dk (dk.set 3 (.cell (ae (.ref F.length)))):=Fr.set rfl;have F0:(dk.set 3 (.cell (ae (.ref F.length))))[3]? =ae (.cell (ae (.ref F.length))):=de K0;have C0:bj (dk.set 3 (.cell (ae (.ref F.length)))):=M0.set rfl;have f0:=K.get Q0 (by exact NT (CF 5 0 0 0 4 0 (CH 5 0 0 0 J p0) N rfl));have G0:=K.get (V.g h0) (by exact NT (CF 5 0 0 0 4 0 J w rfl));have R0:=K.get (V.g y0) (by decide);have P0:bG (dk.set 3 (.cell (ae (.ref F.length)))) X M (M.map λv=>[]):=(j0.ex V).fr K λq G=>by
  obtain⟨j,z,h3,h4⟩:=hb q G
  lia
 have m0:Fr (λi=>i=3\/i=4) B (dk.set 3 (.cell (ae (.ref F.length)))):=((l.trans V.any).mono λi h=>.inr h).trans (K.mono λi h=>.inl h);generalize dk.set 3 (.cell (ae (.ref F.length)))=gu at *;refine UY C0 ?_;intros _ b f o _ g0;have W:Ex gu (gu++[AO.lam b f o [(sO "readers",4),(sO "asks",3)]]):=Fr.app;have Z:(gu++[AO.lam b f o [(sO "readers",4),(sO "asks",3)]])[gu.length]? =ae (.lam b f o [(sO "readers",4),(sO "asks",3)]):=g_last;have U:Fr (λi=>i=3\/i=4) B (gu++[AO.lam b f o [(sO "readers",4),(sO "asks",3)]]):=m0.trans Fr.app;have I:=ba Z;generalize gu++[AO.lam b f o [(sO "readers",4),(sO "asks",3)]]=fT at *;have L:=ba f0;have u0:=m0.len;wtm_at "r";have v0:∀q∈X,q.a < bk.length/\q.d < bk.length/\q.dd < bk.length/\q.g < bk.length:=λq G=>by
  obtain⟨r,D',h⟩:=j0.at G;exact⟨ba h.inst,ba h.bc,ba h.fP,ba h.dict⟩
 have U0:=Y.len;have s0:=ba h0;have T:=q fT ⟨3,F.length,4,R,gu.length,X⟩ (ae (.ref a)) ⟨⟨W.g F0,W.g f0,W.g R0,W.g G0,⟨b,f,o,g0,Z⟩,P0.ex W⟩,⟨hs,by show F.length≠R;exact NT (TT s0 N),λq G=>by
   have:=(v0 q G).2.2.1;show F.length≠q.dd;exact NT (TT this N)⟩,?_,by rw[<-h3];exact i0,⟨_,U.get T0 (by decide)⟩,U.get c0.c2 (by decide),U.get c0.num (by have:=c0.fQ;exact NO (NT (FI 5 0 4 0 c0.fQ.2 rfl)) (NT (c0.fQ.2))),c0.nl,U.get c0.lp (by have:=c0.fQ;exact NO (NT (FI 5 0 4 0 c0.fQ.1 rfl)) (NT (c0.fQ.1))),c0.at_.fr U λq G=>by exact⟨NO (NT (CF 5 0 1 0 4 0 c0.fQ.1 (c0.low q G).1 rfl)) (NT (CF 5 0 1 0 5 0 c0.fQ.1 (c0.low q G).1 rfl)),NO (NT (CF 5 0 1 0 4 0 c0.fQ.1 (c0.low q G).2 rfl)) (NT (CF 5 0 1 0 5 0 c0.fQ.1 (c0.low q G).2 rfl))⟩,c0.ok,λq' G=>?_,?_,U.len,rfl,rfl⟩
 ·exact T
 ·rintro i (rfl |rfl |rfl |rfl |rfl |⟨q',G,hi⟩)
  ·exact .inl rfl
  ·exact .inr (.inr (by show B.length<=F.length/\F.length < _;exact⟨TT p0 N,CF 1 0 1 0 1 0 L I rfl⟩))
  ·exact .inr (.inl rfl)
  ·exact .inr (.inr ⟨by exact w,by exact CF 2 0 1 0 1 0 (CH 1 0 1 0 (CH 1 0 0 0 s0 N) L) I rfl⟩)
  ·exact .inr (.inr (by show B.length<=gu.length/\gu.length < _;exact⟨u0,I⟩))
  ·obtain⟨j,z,h3,h4⟩:=hb q' G;obtain⟨k1,k2,k3,k4⟩:=v0 q' G;rcases hi with rfl |rfl |rfl |rfl
   ·exact .inr (.inr (by exact⟨j,CF 2 0 1 0 1 0 (CH 1 0 1 0 (CH 1 0 0 0 k1 N) L) I rfl⟩))
   ·exact .inr (.inr (by exact⟨z,CF 2 0 1 0 1 0 (CH 1 0 1 0 (CH 1 0 0 0 k2 N) L) I rfl⟩))
   ·exact .inr (.inr (by exact⟨h3,CF 2 0 1 0 1 0 (CH 1 0 1 0 (CH 1 0 0 0 k3 N) L) I rfl⟩))
   ·exact .inr (.inr (by exact⟨h4,CF 2 0 1 0 1 0 (CH 1 0 1 0 (CH 1 0 0 0 k4 N) L) I rfl⟩))
 ·have j:=c0.low q' G;have z:=c0.at_.lt q' G;exact⟨TT c0.fQ.1 (nC j.1),TT c0.fQ.1 (nC j.2),z⟩
 ·have:=c0.fQ;exact⟨this.1,⟨this.2,⟨m,J0⟩⟩⟩
def hW.fr (a0:Fr D B H):∀{is:ah ak} {ns:ah (ah Thing)},hW B is ns->(∀i∈is,¬ D i)->hW H is ns:=by
 intro F;induction F with
 |nil=>
  intro E;cases E with
  |nil=>
   intro _ _;exact trivial
  |cons _ _=>
   intro h _;exact h.elim
 |cons i is G=>
  intro E;cases E with
  |nil=>
   intro h _;exact h.elim
  |cons n ns=>
   rintro⟨h1,h2⟩ hd;exact⟨a0.get h1 (hd i (.head _)),G h2 λj I=>hd j (.tail _ I)⟩
def hW.snoc:∀{B:St} {is:ah ak} {ns:ah (ah Thing)} {i:ak} {n:ah Thing},hW B (is++[i]) (ns++[n])↔hW B is ns/\B[i]? =ae (.list (n.map tA)):=by
 intro B F;induction F generalizing B with
 |nil=>
  intro D;cases D with
  |nil=>
   intro i n;exact⟨λh=>⟨trivial,h.1⟩,λh=>⟨h.2,trivial⟩⟩
  |cons G ns=>
   intro i n;exact⟨λh=>by cases ns <;>exact h.2.elim,λh=>h.1.elim⟩
 |cons H is E=>
  intro D;cases D with
  |nil=>
   intro i n;exact⟨λh=>by cases is <;>exact h.2.elim,λh=>h.1.elim⟩
  |cons G ns=>
   intro i n;constructor
   ·rintro⟨h1,h2⟩;have:=E.mp h2;exact⟨⟨h1,this.1⟩,this.2⟩
   ·rintro⟨⟨h1,h2⟩,h3⟩;exact⟨h1,E.mpr ⟨h2,h3⟩⟩
def hW.len:∀{B:St} {is:ah ak} {ns:ah (ah Thing)},hW B is ns->is.length=ns.length:=by
 intro G E;induction E generalizing G with
 |nil=>
  intro D;cases D with
  |nil=>
   intro _;exact rfl
  |cons _ _=>
   intro h;exact h.elim
 |cons I H F=>
  intro D;cases D with
  |nil=>
   intro h;exact h.elim
  |cons _ _=>
   intro h;rw[ft,ft,(F h.2)]
def hW.get:∀{B:St} {is:ah ak} {ns:ah (ah Thing)} {k i:ak},hW B is ns->is[k]? =ae i->∃n,ns[k]? =ae n/\B[i]? =ae (.list (n.map tA)):=by
 intro J E;induction E generalizing J with
 |nil=>
  intro _ _ _ _ D;exact nomatch D
 |cons i is I=>
  intro F;cases F with
  |nil=>
   intro _ _ h _;exact h.elim
  |cons n ns=>
   intro H;cases H with
   |zero=>
    intro G h D;cases D;exact⟨n,rfl,h.1⟩
   |succ k=>
    intro G h D;exact I (k:=k) h.2 D
def Ab {a:ah (ah Thing)}{t:ah Thing}:total (a++[t])=total a+t.length:=by
 unfold total;rw[dH,Jl];simp
def U8 (h:R∈bR):R.length<=total bR:=by
 induction bR with
 |nil=>cases h
 |cons a l B=>
  obtain e:total (a :: l)=a.length+total l:=rfl;rcases bu.mp h with rfl |h
  ·exact TT AL (EG e)
  ·have:=B h;exact TT this (TT AR (EG e))
def Ac {x n:Int}(hn:0 < n):0<=x.fmod n/\x.fmod n < n:=⟨Int.fmod_nonneg_of_pos x hn,Int.fmod_lt_of_pos x hn⟩
def pick {j:Int}{P:AV->Prop}{a0:AV->St->Prop}(h:B[i]? =ae (.list l))(hj:0<=j/\j < l.length)(hl:l.length<=16)(hP:∀v∈l,P v)(q:∀v,P v->a0 v B):WP (iw (.ref i) (.int j)) B a0 E:=by
 have D:j.toNat < l.length:=by lia
 exact lY h ⟨hj.1,by lia⟩ (cy D) (q _ (hP _ (pZ D)))
def Gm (h:∀R∈bR,R≠[]):bR.length<=total bR:=by
 induction bR with
 |nil=>exact cZ _
 |cons a l D=>
  obtain E:a.length≠0:=λe=>h a (.head _) (nv.mp e);have:=D λR B=>h R (.tail _ B);obtain e:total (a :: l)=a.length+total l:=rfl;rw[ft];lia
theorem U9 {RW OD:ak}{c0:ah ak}{d0:ah Int}{a0:FL×ah (ax AV)->St->Prop}(C:LawC b0 B RW OD c0 bR d0 j)(hj:j < 16)(g0:b0<=B.length)(q:∀H ip lp U lt U',QR b0 H RW OD ip lp U lt U' j->Fr (λi=>b0<=i) B H->a0 (.next,[x0,x1,ag,x3,ag,x5,x6,x7,x8,ae (.ref RW),ae (.ref OD),ae (.int j),ae (.int z),Y,ag,ag,ag,ag,ag,ag,ag,ag,ag,ag,ag,ag,ag,ag,ag,ag,ag,ag,ag,ag,ag,ag,ag,ag,ag,ag,ag,ag,ag]) H):
  WP (zg ⟨F,dc,[x0,x1,ag,x3,ag,x5,x6,x7,x8,ae (.ref RW),ae (.ref OD),ae (.int j),ae (.int z),Y,ag,ag,ag,ag,ag,ag,ag,ag,ag,ag,ag,ag,ag,ag,ag,ag,ag,ag,ag,ag,ag,ag,ag,ag,ag,ag,ag,ag,ag]⟩) B a0 E:=by
 have N:=C.at_.len;obtain X:=Gm λR W=>(C.ok R W).1;have K:=C.iI;have M:=C.qE;have app:WP (sq [b9 (bX (eL 9) .append [(eList [])] []),b9 (bX (eL 10) .append [(aY .FloorDiv (eL 12) (eK (.int 96)))] [])] ⟨F,dc,[x0,x1,ag,x3,ag,x5,x6,x7,x8,ae (.ref RW),ae (.ref OD),ae (.int j),ae (.int z),Y,ag,ag,ag,ag,ag,ag,ag,ag,ag,ag,ag,ag,ag,ag,ag,ag,ag,ag,ag,ag,ag,ag,ag,ag,ag,ag,ag,ag,ag]⟩) B a0 E:=by
  obtain S:=ba C.od;obtain w:=ba C.ju;wtm_at "r";refine⟨(λh=>nomatch h.2),hY C.ju (.inl rfl) ?_⟩;wtm_at "r";refine bp (by simp) ?_;have L:Ex B (B++[AO.list []]):=Fr.app;obtain f0:(B++[AO.list []])[B.length]? =ae (.list []):=g_last;generalize A:B++[AO.list []]=a7 at *;have h0:a7.length=B.length+1:=by rw[<-A,bK];rfl
  wtm_at "r";refine jv (L.g C.ju) (by rw[aO];exact CF 0 0 1 16 0 4096 (CH 0 0 0 0 (CH 0 0 0 0 (EL N) X) (EL K)) hj rfl) ?_;have G:Fr (λi=>i=RW) a7 (a7.set RW (.list (c0.map .ref++[.ref B.length]))):=Fr.set rfl;have Z:(a7.set RW (.list (c0.map .ref++[.ref B.length])))[RW]? =ae (.list ((c0++[B.length]).map .ref)):=by
   rw[de (L.g C.ju),dH];rfl
  have J:=G.get (L.g C.od) (by exact NT (M.2));generalize a7.set RW (.list (c0.map .ref++[.ref B.length]))=bF at *;refine n_next ?_;wtm_at "r";refine⟨(λh=>nomatch h.2),hY J (.inl rfl) ?_⟩;wtm_at "r";refine pq (by decide) ?_;wtm_at "r";refine jv J (by rw[aO];have:=C.len;exact CF 0 0 1 16 0 4096 (CH 0 0 0 0 (CH 0 0 0 0 (CH 0 0 0 0 (EG this) (EL N)) X) (EL K)) hj rfl) ?_;have D:Fr (λi=>i=OD) bF (bF.set OD (.list (d0.map .int++[.int (z.fdiv 96)]))):=Fr.set rfl;have u:Fr (λi=>i=RW\/i=OD) B (bF.set OD (.list (d0.map .int++[.int (z.fdiv 96)]))):=(L.any.trans (G.mono λi h=>.inl h)).trans (D.mono λi h=>.inr h);refine n_next (x_nil (q _ c0 B.length bR [] (d0++[z.fdiv 96]) ⟨?_,?_,?_,?_,?_,C.ok,(λv h=>nomatch h),by simpa using K,?_,?_,M⟩ (u.mono λi h=>by lia)))
  ·exact D.get Z (by exact NE (M.2))
  ·rw[de J,dH];rfl
  ·exact C.at_.fr u λi T=>by have:=C.low i T;lia
  ·exact D.get (G.get f0 (by exact NT (w))) (by exact NT (S))
  ·rw[bK,C.len];rfl
  ·rw[tF];refine⟨C.nd,by simp,λa ha b hb=>?_⟩;rw[aJ.mp hb];obtain⟨k,hk⟩:=Jm ha;obtain⟨n,-,h⟩:=C.at_.get hk;have:=ba h;exact NE (this)
  ·intro i T;rcases dX.mp T with T |T
   ·exact C.low i T
   ·rw[aJ.mp T];exact⟨g0,S⟩
 obtain i0:∀{y H},a0 y H->jQ (λI B=>WP (sq [] ⟨F,dc,I⟩) B a0 E) a0 y H:=λ{y H} h=>by
  obtain⟨f,l⟩:=y;cases f <;>exact h
 unfold zg;wtm_at "r";refine mZ ⟨λc1=>?_,λc1=>?_⟩
 ·exact t_t app
 ·obtain e0:j≠0:=λe=>by
   subst e;cases c1
  wtm_at "r";refine pq (by decide) ?_;wtm_at "r";refine pv (by decide) ?_;wtm_at "r";refine mZ ⟨λc2=>app,λc2=>?_⟩;refine x_nil ?_;have V:c0≠[]:=λe=>by
   subst e;have:bR=[]:=nv.mp N.symm;subst this;exact e0 K.symm
  have O:bR≠[]:=λe=>by
   subst e;exact V (nv.mp N)
  have m:=BF V;have o:=BF O;generalize c0.dropLast=ip at m;generalize c0.getLast V=lp at m;generalize bR.dropLast=U at o;generalize bR.getLast O=lt at o;subst m o;obtain⟨h1,h2⟩:=hW.snoc.mp C.at_;exact q B ip lp U lt d0 ⟨C.ju,C.od,h1,h2,by have:=C.len;rw[bK]at this;exact this,λR W=>C.ok R (gQ _ W),(C.ok lt (ia _ (.head _))).2,by rw[<-Ab];exact K,C.nd,C.low,M⟩ (Fr.refl _ _)
def Gn:∀v∈[vS "a",vS "a.b",vS "ab",vS "b.a",vS "a",vS "a.b",vS "ab",.int 7],eg v:=by
 intro v B;simp only[bu,pP,tX]at B;rcases B with rfl |rfl |rfl |rfl |rfl |rfl |rfl |rfl
 ·exact .inr ⟨_,.head _,rfl⟩
 ·exact .inr ⟨_,.tail _ (.head _),rfl⟩
 ·exact .inr ⟨_,.tail _ (.tail _ (.head _)),rfl⟩
 ·exact .inr ⟨_,.tail _ (.tail _ (.tail _ (.head _))),rfl⟩
 ·exact .inr ⟨_,.head _,rfl⟩
 ·exact .inr ⟨_,.tail _ (.head _),rfl⟩
 ·exact .inr ⟨_,.tail _ (.tail _ (.head _)),rfl⟩
 ·exact .inl rfl
def Va:∀v∈[vS "/l/x.py",vS "/l/a/x.py",vS "/w/x.py",.none],f9 v:=by
 intro v B;simp only[bu,pP,tX]at B;rcases B with rfl |rfl |rfl |rfl
 ·exact .inr ⟨_,.head _,rfl⟩
 ·exact .inr ⟨_,.tail _ (.head _),rfl⟩
 ·exact .inr ⟨_,.tail _ (.tail _ (.head _)),rfl⟩
 ·exact .inl rfl
theorem Vb {n1:ak}{c0:ah Int}{a0:FL×ah (ax AV)->St->Prop}(hn:B[n1]? =ae (.list (c0.map .int)))(f0:1<=c0.length/\c0.length<=16)(q:∀H RW OD e0 bR d0 bS f Y,Ex B H->LawC B.length H RW OD e0 bR d0 c0.length->a0 (.next,[x0,ae (.ref n1),ag,x3,ag,x5,x6,x7,x8,ae (.ref RW),ae (.ref OD),bS,f,Y,ag,ag,ag,ag,ag,ag,ag,ag,ag,ag,ag,ag,ag,ag,ag,ag,ag,ag,ag,ag,ag,ag,ag,ag,ag,ag,ag,ag,ag]) H):
  WP (sq vK ⟨FN 11,dc,[x0,ae (.ref n1),ag,x3,ag,x5,x6,x7,x8,ag,ag,ag,ag,ag,ag,ag,ag,ag,ag,ag,ag,ag,ag,ag,ag,ag,ag,ag,ag,ag,ag,ag,ag,ag,ag,ag,ag,ag,ag,ag,ag,ag,ag]⟩) B a0 E:=by
 unfold vK;wtm_at "r";refine bp (by simp) ?_;wtm_at "r";refine bp (by simp) ?_;have k:Ex B (B++[AO.list []]++[AO.list []]):=Fr.app.trans Fr.app;have i0:(B++[AO.list []]++[AO.list []])[B.length]? =ae (.list []):=g_app g_last;have m0:(B++[AO.list []]++[AO.list []])[(B++[AO.list []]).length]? =ae (.list []):=g_last;have w:B.length < (B++[AO.list []]).length:=by rw[bK];simp
 generalize (B++[AO.list []]).length=OD at *;generalize B++[AO.list []]++[AO.list []]=a7 at *;wtm_at "r";refine fh (k.g hn) ⟨rfl,?_⟩;refine lh (G:=λH=>H[n1]? =ae (.list (c0.map .int))) (c0:=λj I H=>(∃e0 bR d0,LawC B.length H B.length OD e0 bR d0 j)/\Ex B H/\∃bS f Y,I=[x0,ae (.ref n1),ag,x3,ag,x5,x6,x7,x8,ae (.ref B.length),ae (.ref OD),bS,f,Y,ag,ag,ag,ag,ag,ag,ag,ag,ag,ag,ag,ag,ag,ag,ag,ag,ag,ag,ag,ag,ag,ag,ag,ag,ag,ag,ag,ag,ag]) (K:=mT 0 (c0.map .int))
  (Yl.enum (Yl.gM λH e=>e)) (by rw[n7,aO];exact FI 0 16 1 128 f0.2 rfl) (λy y y h=>h.2.1.g hn) ⟨⟨[],[],[],⟨i0,m0,trivial,rfl,(λy h=>nomatch h),rfl,GO,(λy h=>nomatch h),⟨a4 _,w⟩⟩⟩,k,_,_,_,rfl⟩ ?_ ?_
 ·intros _ j v w0 l _ hv p0;obtain⟨l0,K,s0⟩:=p0;obtain (⟨bS,f,Y,rfl⟩):=s0;obtain (⟨e0,bR,d0,C⟩):=l0;obtain (⟨u,W,rfl⟩):=wm hv;rw[dA]at W;cases o:c0[j]? with
  |none=>rw[o]at W;cases W
  |some z=>
   intros z _ o;rw[o]at W;cases W;have hj:=ba o;rw[show(0:Int)+(j:Int)=j from uA _];refine vV rfl rfl (x_put_cons (cu rfl (x_put_cons (cu rfl (x_put_nil ?_)))));simp only[gB,gC];refine x_sq (U9 C (by exact TT hj f0.2) K.len ?_);intros _ D ip lp U lt S _ F j0;refine n_next ?_;have v0:Ex B D:=K.old j0 λi T h=>by exact XX 1 0 (CH 0 0 1 0 h T) rfl
   wtm_at "r";refine bp (by simp) ?_;have N:Ex D (D++[AO.list [vS "a",vS "a.b",vS "ab",vS "b.a",vS "a",vS "a.b",vS "ab",.int 7]]):=Fr.app;have g0:(D++[AO.list [vS "a",vS "a.b",vS "ab",vS "b.a",vS "a",vS "a.b",vS "ab",.int 7]])[D.length]? =ae (.list [vS "a",vS "a.b",vS "ab",vS "b.a",vS "a",vS "a.b",vS "ab",.int 7]):=g_last;generalize D++[AO.list [vS "a",vS "a.b",vS "ab",vS "b.a",vS "a",vS "a.b",vS "ab",.int 7]]=cO at *;wtm_at "r";refine pv (by decide) ?_;refine pick (P:=eg) g0 (by have:=Ac (x:=z) (n:=8) (by decide);simpa using this) (by simp) Gn ?_;intros _ m _ hm;have Z:=N.g F.ju;have A:=N.g F.last;wtm_at "r";refine Gf Z (by simp) (v:=.ref lp) (by rw[aO,dA,bK];simp) ?_;refine⟨(λh=>nomatch h.2),hY A (.inl rfl) ?_⟩;wtm_at "r";refine bp (by simp) ?_;have M:Ex D (cO++[AO.list [vS "/l/x.py",vS "/l/a/x.py",vS "/w/x.py",.none]]):=N.trans Fr.app;have o0:(cO++[AO.list [vS "/l/x.py",vS "/l/a/x.py",vS "/w/x.py",.none]])[cO.length]? =ae (.list [vS "/l/x.py",vS "/l/a/x.py",vS "/w/x.py",.none]):=g_last;generalize cO++[AO.list [vS "/l/x.py",vS "/l/a/x.py",vS "/w/x.py",.none]]=dZ at *;wtm_at "r";refine pq (by decide) ?_;wtm_at "r";refine pv (by decide) ?_;refine pick (P:=f9) o0 (by have:=Ac (x:=z.fdiv 8) (n:=4) (by decide);simpa using this) (by simp) Va ?_;intros _ p _ hp;wtm_at "r";have X:=F.iI;refine jv (M.g F.last) (by rw[aO];exact CF 1 0 0 16 0 4096 (CH 0 0 1 0 (CH 0 0 0 0 AR (EL X)) hj) f0.2 rfl) ?_;have O:Fr (λi=>i=lp) dZ (dZ.set lp (.list (lt.map tA++[.dB p m (.int j)]))):=Fr.set rfl;have L:Fr (λi=>i=lp) D (dZ.set lp (.list (lt.map tA++[.dB p m (.int j)]))):=M.any.trans O;have G:=F.low lp (ia _ (.head _));have b:=F.qE;have h0:=(tF.mp F.nd).2.2;refine n_next (x_nil (l_next ⟨⟨ip++[lp],U++[lt++[(p,m,(j:Int))]],S,⟨L.get F.ju (by exact NE (CF 1 0 1 0 1 0 w G.2 rfl)),L.get F.od (by exact NE (G.2)),hW.snoc.mpr ⟨F.at_.fr L λi T e=>h0 i T lp (.head _) e,?_⟩,?_,?_,?_,F.nd,F.low,b⟩⟩,v0.old L λi T e=>by exact XX 1 0 (CH 0 0 1 0 (CH 0 0 0 0 G.1 (EG e)) T) rfl,_,_,_,rfl⟩))
   ·rw[de (M.g F.last),dH];rfl
   ·rw[bK];exact F.len
   ·intro R J;rcases dX.mp J with J |J
    ·exact F.ok R J
    ·rw[aJ.mp J];refine⟨by simp,λt V=>?_⟩;rcases dX.mp V with V |V
     ·exact F.QS t V
     ·rw[aJ.mp V];exact⟨hp,hm⟩
   ·rw[Ab,bK];simp;lia
 ·intros _ y0 l _ n0;obtain⟨r0,K,u0⟩:=n0;obtain (⟨bS,f,Y,rfl⟩):=u0;obtain (⟨e0,bR,d0,C⟩):=r0;rw[n7,aO]at C;exact n_next (x_nil (q l B.length OD e0 bR d0 _ _ _ K C))
def Good.fr {x:eO}{ns:ah aS}(G:Good x M ns as B)(a0:Fr D B H)(h:∀i,eZ x i->¬ D i):Good x M ns as H:=
 G.mono λi E=>a0.keep i ((G.app (l:=[])).2 i E) (h i E)
theorem asked {x:eO}{ns:ah aS}{a0:AV->St->Prop}(d0:x.Ok)(hr:∀r∈M,fA r)(hq:x.qs.length<=60)(ht:∀t∈R,iG t)(g0:R≠[])(f0:R.length<=16)(hn:∀n∈ns,n.length<=b0)(hb:b0+R.length<=60)(has:as.length+R.length<=4096)(hz: -1<=z)(e0:z<=4)(G:Good x M ns as B)(hG:Gv w B A s (R.map tA))(c0: ¬ eZ x A)(hs: ¬ eZ x s)(q:∀v H,zq x M ns as R b z w A s B v H->v≠ .none->a0 v H)(e:∀H,zq x M ns as R b z w A s B .none H->E "AttributeError" H):
  WP (FN 11 (.fn (aq (if b then "nlargest" else "nsmallest"))) [.int z,.ref A] [(aq "key",.ref x.lm)]) B a0 E:=by
 obtain ko:=TV (k:=8) (x:=x) (M:=M) (dI:=ns) (gE:=as) (R:=R) (b0:=b0) d0 hr hq ht hb has;have F:(R.map tA).length=R.length:=aO ..;refine Tt (k0:=7) (b:=b) ko TX c0 hs (by simpa using g0) (by exact CF 0 0 0 16 0 64 (EL F) f0 rfl) (λy Y=>?_) hz e0 (TY G hn) hG (λI v H h=>?_) (λI v H h=>?_) λI k H h=>?_
 ·obtain⟨t,-,rfl⟩:=mx.mp Y;exact⟨_,_,_,rfl⟩
 ·have D:cB M ns R z=([],ns):=aK (by lia);have O:fg M ns R z=[]:=aK (by lia);obtain V:jU M ns R z w=R.map tA:=aK (by lia);obtain⟨⟨r,rfl,N,K⟩,⟨Z,j,X,-,-⟩,f⟩:=h;rw[mv,mv]at X;obtain Vc:Good x M ns as H:=G.mono λi W=>f.keep i ((G.app (l:=[])).2 i W) id;refine q _ _ ⟨by rw[D,O,fU];exact Vc,Ex.any f,⟨0,?_,λu=>by rw[V,mv],λu u=>cZ _⟩,.inr ⟨by lia,r,rfl,N,?_⟩⟩ (by simp)
  ·cases w with
   |true=>exact .inl (It.fr (D:=λu=>dm) hG f id id)
   |false=>exact⟨hG.1,f.get hG.2 id⟩
  ·rw[K];unfold nW;rw[D];rfl
 ·have D:cB M ns R z=bM M ns R:=aN I;have U:(bM M ns R).1.length=R.length:=by rw[<-h.len,F]
  have O:fg M ns R z=gq R:=by
   unfold fg;rw[aN I,D,U,gA (by exact gU _)]
  obtain⟨⟨r,rfl,N,K⟩,-,S,f,J⟩:=h;rw[F]at S J;refine q _ _ ⟨by rw[D,O];exact yK S,f,⟨R.length,J,λT=>?_,λu u=>a4 _⟩,.inr ⟨by rw[D];exact NB (DN ((EG U))),r,rfl,N,?_⟩⟩ (by simp)
  ·unfold jU;rw[aN ⟨T,I⟩,D,U,kh (by exact(EL F)),kh (by exact FI 0 0 0 1 (EL F) rfl)]
  ·rw[K];unfold nW;rw[D]
 ·have D:cB M ns R z=bM M ns R:=aN I;have O:fg M ns R z=gq (R.take ((bM M ns R).1.length+1)):=by
   unfold fg;rw[aN I,D]
  obtain⟨rfl,L,S,f,J⟩:=h;rw[F]at L;refine e _ ⟨by rw[D,O];exact S,f,⟨_,J,λT=>?_,λu u=>by exact L⟩,.inl ⟨I,by rw[D];exact L,rfl⟩⟩;unfold jU;rw[aN ⟨T,I⟩,D]
def Vd {m:ak}{a0:AV->St->Prop}(h:js w B A s m K)(hl:K.length<=4096)(hm:w=aj->qz B A s m K->m<=K.length)(q:∀H i,Fr (λj=>w=aj/\j=A) B H->B.length<=i->H[i]? =ae (.list (if w then K.drop m else K))->a0 (.ref i) H):WP (eu ⟨F,O,I⟩ (.ty "list") [.ref A] []) B a0 E:=by
 cases w with
 |false=>
  refine mY rfl (av (fG (av (e6 (av (eh (av (dj h.2 (bp hl (q _ _ Fr.app (a4 _) g_last))))))))))
 |true=>
  obtain h:qz B A s m K:=h;obtain hm:=hm rfl h;rcases h with h |⟨h1,h2⟩
  ·refine mY rfl (av (fG (av (e6 (av (eh (av (dj h.1 (av (fE h.2 (av (bw ⟨hm,hl⟩ (av (lg (bp ?_ ?_)))))))))))))))
   ·rw[Ja];exact TT SB hl
   ·exact q _ _ (Fr.trans (Fr.set ⟨rfl,rfl⟩) Fr.app) (by rw[eM];exact a4 _) g_last
  ·refine mY rfl (av (fG (av (e6 (av (eh (av (dj h1 (bp (by simp) ?_)))))))));refine q _ _ Fr.app (a4 _) ?_;rw[show(if (aj=aj)then K.drop m else K)=[] from kh h2];exact g_last
def Gp {o:Int}(h:I[19]? =ae (ae (.int o)))(q:QB (iZ o) B):WP (aR .Eq (aY .Mod (aY .FloorDiv (eL 19) (eK (.int 12))) (eK (.int 2))) (eK (.int 1)) ⟨F,dc,I⟩) B QB E:=
 w_tCmp (w_Bin (w_Bin (aM h (w_K (pq (by decide) (w_K (pv (by decide) (w_K (mZ q)))))))))
def Ve {a0:AV->St->Prop}{o:Int}(h:I[19]? =ae (ae (.int o)))(c0:I[18]? =ae (ae (.ref rp)))(hr:B[rp]? =ae (.list K))(hl:K.length<=4096)(q:∀H A s,Gv (iZ o) H A s K->Ex B H->B.length<=A->(s=A\/s=rp)->a0 (.ref A) H):
  WP (gJ (aR .Eq (aY .Mod (aY .FloorDiv (eL 19) (eK (.int 12))) (eK (.int 2))) (eK (.int 1))) (aX (eK (.bi "iter")) [(eL 18)] []) (aX (eK (.ty "list")) [(eL 18)] []) ⟨F,dc,I⟩) B a0 E:=by
 refine w_If (Gp h ⟨λc=>?_,λc=>?_⟩)
 ·refine w_Call (w_K (w_evs_cons (aM c0 (w_evs_nil (w_kws_nil (Fx hr ?_))))));rw[c]at q;exact q _ _ rp ⟨g_last,g_app hr⟩ Fr.app (a4 _) (.inr rfl)
 ·refine w_Call (w_K (w_evs_cons (aM c0 (w_evs_nil (w_kws_nil (mY rfl (av (fG (av (e6 (av (eh (av (dj hr (bp hl ?_)))))))))))))));rw[c]at q;exact q _ _ B.length ⟨rfl,g_last⟩ Fr.app (a4 _) (.inl rfl)
def Ae (h:B[2]? =ae (.cell (ae (.int z))))(hc:O.lookup (sO "wish")=ae 2)(q:QB (decide (0 < z)) B):WP (aR .Gt (eC "wish") (eK (.int 0)) ⟨F,O,I⟩) B QB E:=
 w_tCmp (gr hc h (w_K (c_gt q)))
def Vf {a0:AV->St->Prop}{ns:ah aS}{c0:ah ak}(i0:I[18]? =ae (ae (.ref row)))(h0:I[14]? =ae (ae (.ref NP)))(h3:I[3]? =ae (ae (.ref LP)))(hw:B[2]? =ae (.cell (ae (.int z))))(e0:c0.length=a9.length)(hr:∀r∈M,fA r)(ht:∀t∈R,iG t)(hn:∀n∈ns,n.length<=b0/\hV n)(hb:b0+R.length<=60)(hN:dO B c0 ns)(hL:ff B a9 M)(p0:c0.Nodup)(f0:∀i∈c0,∀q∈a9,q.1≠i/\q.2≠i)(g0:c0.length<=60)(n0:B[NP]? =ae (.list (c0.map .ref)))(j0:B[LP]? =ae (.list (a9.map pM)))(d0:B[row]? =ae (.list (R.map tA)))(m0:NP∉c0)(l0:LP∉c0)(o0:row∉c0)(q:∀H ri,dO H c0 (cB M ns R z).2->Fr (· ∈c0) B H->B.length<=ri->H[ri]? =ae (.list ((cB M ns R z).1.map .int))->a0 (.ref ri) H):
  WP (gJ (aR .Gt (eC "wish") (eK (.int 0))) (aX (eK (.fn (aq "_law_ranks"))) [(eL 18),(eL 14),(eL 3)] []) (eList []) ⟨FN 11,dc,I⟩) B a0 E:=by
 refine w_If (Ae hw cl_wish ⟨λc=>?_,λc=>?_⟩)
 ·obtain F:0 < z:=gz c;obtain D:cB M ns R z=bM M ns R:=aN F;rw[D]at q;refine w_Call (w_K (w_evs_cons (aM i0 (w_evs_cons (aM h0 (w_evs_cons (aM h3 (w_evs_nil (w_kws_nil (f_fn ?_))))))))));exact F9 e0 hr ht hn hb hN hL p0 f0 g0 n0 j0 d0 m0 l0 o0 q
 ·obtain F: ¬ 0 < z:=jG c;obtain D:cB M ns R z=([],ns):=aK F;rw[D]at q;obtain G:Ex B (B++[AO.list []]):=Fr.app;exact w_List (w_evs_nil (bp (by simp) (q _ _ (hN.fr G λu u h=>h) G.any (a4 _) g_last)))
theorem Vg {li:ak}{us:ah Thing}{QL:ah AV->St->Prop}(hl:B[li]? =ae (.list (us.map tA)))(a0:us.length<=64)(hw:B[2]? =ae (.cell (ae (.int z))))(q:QL (if 0 < z then gq us else []) B):
  WP (cw (eL 3) [(aR .Gt (eC "wish") (eK (.int 0)))] (cx [(pL 1),(pL 2),(pL 3)]) 128 (.list (ae li) 0) ⟨F,[(aq "wish",2)],[ag,ag,ag,ag,ag]⟩ []) B QL E:=by
 refine l4 (G:=λH=>H=B) (a0:=λj D I H=>D=(if 0 < z then gq (us.take j)else [])/\H=B/\lU I) (K:=us.map tA)
  (Yl.gM λH e=>by rw[e];exact hl) (by rw[aO];exact FI 0 64 1 128 a0 rfl) (λw w w w h=>h.2.1) ⟨by split <;>rfl,rfl,lU.mk⟩ ?_ ?_
 ·intros _ j v D N H _ G M;obtain⟨rfl,rfl,L⟩:=M;obtain (⟨S,U,R,Q,O,rfl⟩):=L;rw[dA]at G;cases K:us[j]? with
  |none=>rw[K]at G;cases G
  |some u=>
   intros u _ K;rw[K]at G;cases G;have T:=ba K;unfold tA;wtm_at "r";refine qM (Ae hw lk_here ⟨λc=>?_,λc=>?_⟩)
   ·have J:0 < z:=gz c;rw[aN J,aN J];refine⟨by unfold gq;rw[aO,er];exact CF 0 0 0 64 0 4096 MR a0 rfl,?_⟩;wtm_at "r";refine⟨?_,rfl,lU.mk⟩;rw[take_snoc K];unfold gq;rw[dH];rfl
   ·have J: ¬ 0 < z:=jG c;rw[aK J,aK J];exact⟨rfl,rfl,lU.mk⟩
 ·rintro D _ H ⟨rfl,rfl,-⟩;rw[aO,j7];exact q
def Vh {a0:AV->St->Prop}{m:ak}{y:Int}(e:B[i]? =ae (.list l))(hl:l.length<=4096)(hy:y=m)(hm:m<=8192)(q:a0 (.ref B.length) (B++[.list (l.drop m)])):WP (kq (.ref i) (ae (.int y)) ag) B a0 E:=by
 have F:y.toNat=m:=by rw[hy];exact eD m
 have D:nG (ae y)=aj:=by rw[hy];exact zM (by lia)
 refine av (zL (av (zK (av (fE e (FE ⟨D,rfl⟩ hl ?_ q))))));show(l.take l.length).drop (min y.toNat l.length)=l.drop m;rw[j7,F];by_cases h:m<=l.length
 ·rw[ng h]
 ·rw[tN (by exact FI 1 0 0 0 (NG h) rfl),kh (a4 _),kh (by exact FI 1 0 0 0 (NG h) rfl)]
def Vi {a0:AV->St->Prop}{ns:ah aS}{o:Int}{V:ah AV}(d0:I[18]? =ae (ae (.ref row)))(g0:I[24]? =ae (ae (.ref ri)))(i0:I[19]? =ae (ae (.int o)))(hw:B[2]? =ae (.cell (ae (.int z))))(c0:B[row]? =ae (.list (R.map tA)))(f0:B[ri]? =ae (.list V))(j0:R.length<=64)(e0:V.length=(cB M ns R z).1.length)(h0:V.length<=64)(q:∀H li,Ex B H->(B.length<=li\/li=row)->H[li]? =ae (.list (jU M ns R z (iZ o)))->a0 (.ref li) H):
  WP (gJ (jP (aR .Gt (eC "wish") (eK (.int 0))) (aR .Eq (aY .Mod (aY .FloorDiv (eL 19) (eK (.int 12))) (eK (.int 2))) (eK (.int 1)))) (fx (eL 18) (ae (aY .Add (aX (eK (.bi "len")) [(eL 24)] []) (eK (.int 1)))) ag) (eL 18) ⟨F,dc,I⟩) B a0 E:=by
 have G: ¬ (iZ o=aj/\0 < z)->WP (eL 18 ⟨F,dc,I⟩) B a0 E:=λh=>by
  have e:jU M ns R z (iZ o)=R.map tA:=aK h;rw[e]at q;exact aM d0 (q B row (Fr.refl _ _) (.inr rfl) c0)
 refine w_If (w_tAnd (Ae hw cl_wish ⟨λc=>Gp i0 ⟨λD=>?_,λD=>G λh=>absurd (D.symm.trans h.1) (by decide)⟩,λc=>t_f (G λh=>jG c h.2)⟩));obtain e:jU M ns R z (iZ o)=(R.map tA).drop ((cB M ns R z).1.length+1):=aN ⟨D,gz c⟩;rw[e]at q;refine w_Slice (aM d0 (w_optE_some (w_Bin (w_Call (w_K (w_evs_cons (aM g0 (w_evs_nil (w_kws_nil (f_len f0 (w_K (b_add (w_optE_none ?_)))))))))))));exact Vh c0 (by rw[aO];exact FI 0 64 0 4096 j0 rfl) (m:=(cB M ns R z).1.length+1) (by rw[e0];lia) (by exact CF 0 0 0 64 1 8192 (EG e0) h0 rfl) (q _ _ Fr.app (.inl (a4 _)) g_last)
def Vj {a0:AV->St->Prop}{lm:ak}(d0:I[21]? =ae (ae (.bool b)))(c0:I[22]? =ae (ae (.ref A)))(h8:I[8]? =ae (ae (.ref lm)))(hw:B[2]? =ae (.cell (ae (.int z))))(h:WP (F (.fn (aq (if b then "nlargest" else "nsmallest"))) [.int z,.ref A] [(aq "key",.ref lm)]) B a0 E):
  WP (gJ (tV (eL 21)) (aX (eK (.fn (aq "nlargest"))) [(eC "wish"),(eL 22)] [(aq "key",(eL 8))]) (aX (eK (.fn (aq "nsmallest"))) [(eC "wish"),(eL 22)] [(aq "key",(eL 8))]) ⟨F,dc,I⟩) B a0 E:=by
 refine w_If (w_tV (aM d0 (tr_bool ⟨λc=>?_,λc=>?_⟩)))
 ·subst c;exact w_Call (w_K (w_evs_cons (gr cl_wish hw (w_evs_cons (aM c0 (w_evs_nil (w_kws_cons (aM h8 (w_kws_nil (f_fn h))))))))))
 ·subst c;exact w_Call (w_K (w_evs_cons (gr cl_wish hw (w_evs_cons (aM c0 (w_evs_nil (w_kws_cons (aM h8 (w_kws_nil (f_fn h))))))))))
def Vk {a0:AV->St->Prop}{ns:ah aS}{V:ah AV}(e0:I[18]? =ae (ae (.ref row)))(d0:I[24]? =ae (ae (.ref ri)))(hw:B[2]? =ae (.cell (ae (.int z))))(c0:B[row]? =ae (.list (R.map tA)))(f0:B[ri]? =ae (.list V))(g0:V.length=(cB M ns R z).1.length)(q:a0 (.bool (nX M ns R z)) B):WP (vF (lT .Gt (eC "wish") (eK (.int 0))) (lT .Lt (aX (eK (.bi "len")) [(eL 24)] []) (aX (eK (.bi "len")) [(eL 18)] [])) ⟨F,dc,I⟩) B a0 E:=by
 refine w_And (w_Cmp (gr cl_wish hw (w_K (c_gt (tr_bool ⟨λc=>?_,λc=>?_⟩)))))
 ·refine w_Cmp (w_Call (w_K (w_evs_cons (aM d0 (w_evs_nil (w_kws_nil (f_len f0 (w_Call (w_K (w_evs_cons (aM e0 (w_evs_nil (w_kws_nil (f_len c0 (c_lt ?_)))))))))))))));obtain c:decide (0 < z)=aj:=c;have e:nX M ns R z=decide ((V.length:Int) < ((R.map tA).length:Int)):=by
   unfold nX;rw[c,Bool.true_and,g0,aO];simp
  rw[<-e];exact q
 ·obtain c:decide (0 < z)=az:=c;have e:nX M ns R z=az:=by unfold nX;rw[c];rfl
  rw[e]at q;show a0 (.bool (decide (0 < z))) B;rw[c];exact q
def Vl {ns:ah aS}(h: ¬ 0 < z):nW b M ns R z=[]:=by
 unfold nW;rw[show z.toNat=0 by lia];have:fz b 0 ((cB M ns R z).1.zip (R.map tA))=[]:=nv.mp (by rw[Fv];exact AN (ML) (ZZ));rw[this];rfl
def Vm {a0:AV->St->Prop}{ns:ah aS}(g0:I[18]? =ae (ae (.ref row)))(i0:I[24]? =ae (ae (.ref ri)))(e0:I[21]? =ae (ae (.bool b)))(d0:I[26]? =ae (ae (.bool (nX M ns R z))))(hw:B[2]? =ae (.cell (ae (.int z))))(hz: -1<=z)(f0:z<=4)(j0:R.length<=64)(c0:B[row]? =ae (.list (R.map tA)))(h0:B[ri]? =ae (.list ((cB M ns R z).1.map .int)))(q:∀v H,Ex B H->((0 < z/\(cB M ns R z).1.length < R.length/\v= .none)\/(¬ (0 < z/\(cB M ns R z).1.length < R.length)/\∃r,v= .ref r/\B.length<=r/\H[r]? =ae (.list (nW b M ns R z))))->a0 v H):
  WP (gJ (tV (eL 26)) (eK .none) (aX (eK (.fn (aq "_law_few"))) [(eL 18),(eL 24),(eC "wish"),(eL 21)] []) ⟨FN 11,dc,I⟩) B a0 E:=by
 refine w_If (w_tV (aM d0 (tr_bool ⟨λc=>?_,λc=>?_⟩)))
 ·unfold nX at c;rw[cW,fu,fu]at c;exact w_K (q _ _ (Fr.refl _ _) (.inl ⟨c.1,c.2,rfl⟩))
 ·have K: ¬ (0 < z/\(cB M ns R z).1.length < R.length):=by
   unfold nX at c;rw[Bool.and_eq_false_iff,Jn,Jn]at c
   lia
  have F:0 < z->(cB M ns R z).1.length=(R.map tA).length:=λh=>by
   have J:cB M ns R z=bM M ns R:=aN h;have:=wi (M:=M) (ns:=ns) (R:=R);rw[J]at K;rw[aO,J];lia
  refine w_Call (w_K (w_evs_cons (aM g0 (w_evs_cons (aM i0 (w_evs_cons (gr cl_wish hw (w_evs_cons (aM e0 (w_evs_nil (w_kws_nil (f_fn ?_))))))))))));refine Ur hz f0 (by rw[aO];exact j0) F c0 h0 λH N O G L=>q _ _ O (.inr ⟨K,N,rfl,G,?_⟩);rw[L];by_cases D:0 < z
  ·rw[Uo (F D)];rfl
  ·rw[Vl D,show z.toNat=0 by lia];rfl
def wq {i:Int}:∃d,(∀n B,a8 n B (.int i)=ae d)/\bY d d=aj:=⟨.int i,λu u=>qK,by rw[bY];simp⟩
def Vn (h:eg m):∃d,(∀n B,a8 n B m=ae d)/\bY d d=aj:=by
 rcases h with rfl |⟨s,hs,rfl⟩
 ·exact wq
 ·exact⟨.str s,λu u=>l5 (zX hs).ok,by rw[bY];simp⟩
def Vo (h:f9 m):∃d,(∀n B,a8 n B m=ae d)/\bY d d=aj:=by
 rcases h with rfl |⟨s,hs,rfl⟩
 ·exact⟨.none,λn B=>by cases n <;>rfl,by rw[bY]⟩
 ·exact⟨.str s,λu u=>l5 (F3 hs).ok,by rw[bY];simp⟩
def Af {a0:AV->ax hZ}{x:AV}{d:hZ}{ds:ah hZ}(h:a0 x=ae d)(k:c8 a0 l=ae ds):c8 a0 (x :: l)=ae (d :: ds):=by
 show(match a0 x,c8 a0 l with |some d,ae ds=>ae (d :: ds) |_,_=>bq)=_;rw[h,k]
def Vp {t:Thing}(h:iG t):∃d,(∀n B,a8 (n+1) B (tA t)=ae d)/\bY d d=aj:=by
 obtain⟨D,G,J⟩:=Vo h.1;obtain⟨K,L,I⟩:=Vn h.2;obtain⟨F,H,E⟩:=wq (i:=t.2.2);refine⟨.tuple [D,K,F],λn B=>?_,?_⟩
 ·show(c8 (a8 n B) [t.1,t.2.1,.int t.2.2]).map Jo=_;rw[Af (G n B) (Af (L n B) (Af (H n B) rfl))];rfl
 ·simp[bY,lH,J,I,E]
def Gq (h:∀t∈R,iG t):Flat (R.map tA):=λv B=>by
 obtain⟨t,D,rfl⟩:=mx.mp B;exact Vp (h t D)
def Vq {l:ah Int}:Flat (l.map .int):=λv D=>by
 obtain⟨t,G,rfl⟩:=mx.mp D;obtain⟨d,E,F⟩:=wq (i:=t);exact⟨d,λn B=>E _ _,F⟩
def Flat.sub {l':ah AV}(h:Flat l)(hs:∀v∈l',v∈l):Flat l':=λv B=>h v (hs v B)
def Vr {x y:Int×AV}:∀{S:ah (Int×AV)},y∈bV b x S->y=x\/y∈S:=by
 intro l;induction l with
 |nil=>
  intro h;exact .inl (aJ.mp h)
 |cons a S B=>
  intro h;unfold bV at h;split at h
  ·rcases bu.mp h with h |h
   ·exact .inl h
   ·exact .inr h
  ·rcases bu.mp h with h |h
   ·exact .inr (h ▸ .head _)
   ·rcases B h with h |h
    ·exact .inl h
    ·exact .inr (.tail _ h)
def Vs {y:Int×AV}:∀{K S:ah (Int×AV)},y∈K.foldl (λS x=>bV b x S) S->y∈K\/y∈S:=by
 intro B;induction B with
 |nil=>
  intro S h;exact .inr h
 |cons x K D=>
  intro S h;rcases D h with h |h
  ·exact .inl (.tail _ h)
  ·rcases Vr h with rfl |h
   ·exact .inl (.head _)
   ·exact .inr h
def Vt {K:ah (Int×AV)}{y:Int×AV}(h:y∈fz b n K):y∈K:=by
 rw[Gb]at h;rcases Vs (HC h)with h |h
 ·exact h
 ·cases h
def Vu {ns:ah aS}(h:∀t∈R,iG t):Flat (nW b M ns R z):=
 (Gq h).sub λv B=>by
  obtain⟨y,D,rfl⟩:=mx.mp B;exact(rC (a:=y.1) (b:=y.2) (Vt D)).2
def Vv {ns:ah aS}(h:∀t∈R,iG t):Flat (jU M ns R z w):=
 (Gq h).sub λv B=>by
  unfold jU at B;split at B
  ·exact w6 B
  ·exact B
def Gr (h:Flat l):∃ds,(∀n B,c8 (a8 (n+1) B) l=ae ds)/\lH ds ds=aj:=by
 induction l with
 |nil=>exact⟨[],λu u=>rfl,by rw[lH]⟩
 |cons v l H=>
  obtain⟨ds,E,I⟩:=H λv D=>h v (.tail _ D);obtain⟨d,F,G⟩:=h v (.head _);refine⟨d :: ds,λn B=>?_,by rw[lH,G,I];rfl⟩;show(match a8 (n+1) B v,c8 (a8 (n+1) B) l with |some d,ae ds=>ae (d :: ds) |_,_=>bq)=_;rw[E,F]
def k8.fr {w:AV}(h:k8 Z B v w)(a0:Fr D B H)(hd:∀i,Z i->¬ D i):k8 Z H v w:=by
 obtain⟨l,i,j,G,L,I,F,E,K,J⟩:=h;exact⟨l,i,j,G,L,I,F,E,a0.get K (hd i F),a0.get J (hd j E)⟩
theorem Item.fr {w:AV}(h:Item Z B v w)(a0:Fr D B H)(hd:∀i,Z i->¬ D i):Item Z H v w:=by
 rcases h with h |⟨a,a',c,c',h1,h2,h3,h4⟩
 ·exact .inl (h.fr a0 hd)
 ·exact .inr ⟨a,a',c,c',h1,h2,h3.fr a0 hd,h4.imp id λh=>h.fr a0 hd⟩
def k9.fr (a0:Fr D B H)(hd:∀i,Z i->¬ D i):∀{vs ws:ah AV},k9 Z B vs ws->k9 Z H vs ws
 | [],[],_=>trivial
 | [],_ :: _,h=>h.elim
 |_ :: _,[],h=>h.elim
 |_ :: _,_ :: _,h=>⟨h.1.fr a0 hd,h.2.fr a0 hd⟩
def k9.snoc:∀{vs ws:ah AV} {v w:AV},k9 Z B vs ws->Item Z B v w->k9 Z B (vs++[v]) (ws++[w]):=by
 intro F;induction F with
 |nil=>
  intro D;cases D with
  |nil=>
   intro _ _ _ h;exact⟨h,trivial⟩
  |cons _ _=>
   intro _ _ h _;exact h.elim
 |cons I H G=>
  intro D;cases D with
  |nil=>
   intro _ _ h _;exact h.elim
  |cons _ _=>
   intro _ _ h E;exact⟨h.1,(G h.2) E⟩
def k8.data {w:AV}(h:k8 Z B v w):∃d,(∀n,a8 (n+2) B v=ae d)/\(∀n,a8 (n+2) B w=ae d)/\bY d d=aj:=by
 obtain⟨l,i,j,E,rfl,rfl,-,-,I,H⟩:=h;obtain⟨G,D,F⟩:=Gr E;exact⟨.list G,λn=>l6 I (D n B),λn=>l6 H (D n B),by rw[bY];exact F⟩
theorem Item.data {w:AV}(h:Item Z B v w):∃d,a8 7 B v=ae d/\a8 7 B w=ae d/\bY d d=aj:=by
 rcases h with h |⟨a,a',c,c',rfl,rfl,E,h4⟩
 ·obtain⟨d,D,F,E⟩:=h.data;exact⟨d,D 5,F 5,E⟩
 ·obtain⟨H,K,L,N⟩:=E.data;have Q:∃d,a8 6 B a=ae d/\a8 6 B a'=ae d/\bY d d=aj:=by
   rcases h4 with ⟨rfl,rfl⟩ |h4
   ·exact⟨.none,rfl,rfl,by rw[bY]⟩
   ·obtain⟨d,D,F,E⟩:=h4.data;exact⟨d,D 4,F 4,E⟩
  obtain⟨G,J,M,O⟩:=Q;obtain I:∀a c,a8 6 B a=ae G->a8 6 B c=ae H->a8 7 B (.pair a c)=ae (.tuple [G,H]):=λa c D F=>by
   show(c8 (a8 6 B) [a,c]).map Jo=_;simp only[c8,D,F];rfl
  exact⟨.tuple [G,H],I _ _ J (K 4),I _ _ M (L 4),by simp[bY,lH,O,N]⟩
def k9.data:∀{vs ws:ah AV},k9 Z B vs ws->∃ds,c8 (a8 7 B) vs=ae ds/\c8 (a8 7 B) ws=ae ds/\lH ds ds=aj
 | [],[],_=>⟨[],rfl,rfl,by rw[lH]⟩
 | [],_ :: _,h=>h.elim
 |_ :: _,[],h=>h.elim
 |v :: vs,w :: ws,h=>by
  obtain⟨d,E,I,F⟩:=h.1.data;obtain⟨ds,G,D,H⟩:=h.2.data;refine⟨d :: ds,?_,?_,by rw[lH,F,H];rfl⟩
  ·show(match a8 7 B v,c8 (a8 7 B) vs with |some d,ae ds=>ae (d :: ds) |_,_=>bq)=_;rw[E,G]
  ·show(match a8 7 B w,c8 (a8 7 B) ws with |some d,ae ds=>ae (d :: ds) |_,_=>bq)=_;rw[I,D]
def Vw {a0:ak->ak}(h:∀k,k < n->a0 k<=a0 (k+1))(h1:i<=j):j<=n->a0 i<=a0 j:=by
 induction h1 with
 |refl=>exact λu=>a4 _
 |step _ D=>exact λB=>dW (D (nC B)) (h _ B)
def Gs {P:ak->Prop}(h0:P 0)(h1:P 1)(h2:P 2)(h3:P 3)(h4:P 4)(h5:P 5)(h6:P 6)(h7:P 7)(k:ak)(h:k < 8):P k:=
 k.casesAuxOn (motive:=λk=>k < 8->P k) (λu=>h0) (λk=>k.casesAuxOn (motive:=λk=>k+1 < 8->P (k+1)) (λu=>h1) λk=>k.casesAuxOn (motive:=λk=>k+2 < 8->P (k+2)) (λu=>h2) λk=>k.casesAuxOn (motive:=λk=>k+3 < 8->P (k+3)) (λu=>h3)
  λk=>k.casesAuxOn (motive:=λk=>k+4 < 8->P (k+4)) (λu=>h4) λk=>k.casesAuxOn (motive:=λk=>k+5 < 8->P (k+5)) (λu=>h5) λk=>k.casesAuxOn (motive:=λk=>k+6 < 8->P (k+6)) (λu=>h6) λk=>k.casesAuxOn (motive:=λk=>k+7 < 8->P (k+7)) (λu=>h7)
  λk h=>absurd h (og.mpr (GH 8 k))) h
def Ad.Ok.c {a:Ad}(a0:a.Ok)(i j:ak)(h:(l9 i j && l9 j 8)=aj):a.at i<=a.at j:=by
 rw[cW,p6,p6]at h;exact Vw (a0:=a.at) (Gs a0.bs.1 a0.bs.2.1 a0.bs.2.2 a0.ord.1 (nC a0.ord.2.1) (nC a0.ord.2.2.1) (nC a0.ord.2.2.2.1) (nC a0.ord.2.2.2.2)) h.1 h.2
def Ad.Ok.t {a:Ad}(a0:a.Ok)(i j:ak)(h:(l9 4 i && l9 (i+1) j && l9 j 8)=aj):a.at i < a.at j:=by
 rw[cW,cW,p6,p6,p6]at h;refine gV ?_ (a0.c (i+1) j (by rw[cW,p6,p6];exact⟨h.1.2,h.2⟩));exact Gs (P:=λk=>4<=k->a.at k < a.at (k+1)) (λh=>absurd h (by decide)) (λh=>absurd h (by decide)) (λh=>absurd h (by decide)) (λh=>absurd h (by decide)) (λu=>a0.ord.2.1) (λu=>a0.ord.2.2.1) (λu=>a0.ord.2.2.2.1) (λu=>a0.ord.2.2.2.2) i (gV h.1.2 h.2) h.1.1
def Ad.Ok.pB {a:Ad}(a0:a.Ok)(h:i < a.bD\/a.NP<=i):i∉a.cQ:=λD=>by have:=a0.cQ i D;exact(h).elim (λB=>XX 1 0 (CH 0 0 1 0 this.1 B) rfl) (λB=>XX 1 0 (CH 0 0 1 0 B this.2) rfl)
def LS.fr {a:Ad}(c0:a.Ok)(S:LS a B)(a0:Fr D B H)(hd:∀i,i < a.bE->D i->a.iy i):LS a H:=by
 obtain⟨N,U,O,Q,L,V,R⟩:=S;obtain Y:=c0.ord;obtain X:=c0.lp;obtain Z:=c0.rows;obtain W:=c0.bs;obtain T:∀i,i < a.bE->¬ a.iy i->¬ D i:=λi E M h=>M (hd i E h);have K:∀{i},a.NP < i->(i < a.bA\/(a.bB<=i/\i < a.bD)\/i=a.NP)->dm:=λE h=>h.elim (λh=>dP _ (wK (gV h (c0.c 1 4 rfl)) E)) λh=>h.elim (λh=>dP _ (wK (gV h.2 (c0.c 3 4 rfl)) E)) λh=>dP _ (wL (EL h) E);have F:∀i,5<=i->(i < a.bA\/(a.bB<=i/\i < a.bD)\/i=a.NP)->¬ D i:=λi L h=>T i (by exact(h).elim (λJ=>TT J (c0.c 1 8 rfl)) (λJ=>(J).elim (λI=>TT I.2 (c0.c 3 8 rfl)) (λI=>CF 0 0 1 0 1 0 (EL I) (c0.t 4 8 rfl) rfl))) λM=>by
  rcases M with g |g |g |g |g |g
  ·exact XX 6 5 (CH 5 0 1 5 L g) rfl
  ·exact h.elim (λh=>dP _ (gV h g.1)) λh=>h.elim (λh=>dP _ (gV g.2 h.1)) λh=>dP _ (gV g.2 (TT (c0.c 2 4 rfl) (EG h)))
  ·have:=c0.cQ i g;exact h.elim (λh=>dP _ (gV h (TT (c0.c 1 3 rfl) this.1))) λh=>h.elim (λh=>dP _ (gV h.2 this.1)) λh=>dP _ (gV this.2 (EG h))
  ·exact K (gV (c0.t 4 5 rfl) (EG g)) h
  ·exact K (gV (c0.t 4 6 rfl) (EG g)) h
  ·exact K (gV (c0.t 4 7 rfl) (EG g)) h
 exact⟨a0.get N (F _ (by exact c0.lp.1) (by exact .inl (c0.lp.2))),U.fr a0 λq G=>⟨F _ (by have:=c0.a9 q G;exact this.1) (by have:=c0.a9 q G;exact .inl (this.2.1)),F _ (by have:=c0.a9 q G;exact this.2.2.1) (by have:=c0.a9 q G;exact .inl (this.2.2.2))⟩,a0.get O (F _ (by exact TT (c0.c 0 2 rfl) c0.rows.1) (by exact .inr (.inl (⟨c0.rows.1,c0.rows.2.1⟩)))),a0.get Q (F _ (by exact TT (c0.c 0 2 rfl) c0.rows.2.2.1) (by exact .inr (.inl (⟨c0.rows.2.2.1,c0.rows.2.2.2⟩)))),
  L.fr a0 λi E=>F _ (by have:=c0.fR i E;exact TT (c0.c 0 2 rfl) this.1) (by have:=c0.fR i E;exact .inr (.inl (⟨this.1,this.2⟩))),a0.get V (F _ (by exact(c0.c 0 4 rfl)) (by exact .inr (.inr (AN (a4 _) (a4 _))))),dW R a0.len⟩
def Gu:∀{R:ah Thing} {ns:ah aS} {b:ak},(∀t∈R,iG t)->(∀n∈ns,n.length<=b/\hV n)->∀n∈(bM M ns R).2,n.length<=b+R.length/\hV n:=by
 intro H;induction H with
 |nil=>
  intro ns b _ G;exact λn h=>G n h
 |cons t R I=>
  intro ns b E G;have F:=F8 (M:=M) (E t (.head _)).2 (E t (.head _)).1 G;cases h:(b7 M ns t.2.1 t.1).1 with
  |none=>
   rw[s8 h];exact λn B=>⟨dW (F n B).1 (by rw[ft];lia),(F n B).2⟩
  |some i=>
   rw[s7 h];intro n B;have:=I (λt D=>E t (.tail _ D)) F n B;exact⟨by rw[ft];lia,this.2⟩
def Vx {ns:ah aS}{b:ak}(ht:∀t∈R,iG t)(hn:∀n∈ns,n.length<=b/\hV n):∀n∈(cB M ns R z).2,n.length<=b+R.length/\hV n:=by
 unfold cB;split
 ·exact Gu ht hn
 ·exact λn h=>⟨by have:=(hn n h).1;exact TT this AL,(hn n h).2⟩
def Vy {ns:ah aS}:(cB M ns R z).1.length<=R.length:=by
 unfold cB;split
 ·exact wi
 ·exact cZ _
def Vz {ns:ah aS}:(fg M ns R z).length<=R.length:=by
 unfold fg;split
 ·unfold gq;rw[aO,er];exact MR
 ·exact cZ _
def Flat.VB {ns:ah aS}(h:Flat as):Flat (as++fg M ns R z):=λv D=>by
 rcases dX.mp D with D |D
 ·exact h v D
 ·unfold fg at D;split at D
  ·obtain⟨t,G,rfl⟩:=mx.mp D;obtain⟨d,E,F⟩:=wq (i:=t.2.2);exact⟨d,λn B=>E _ _,F⟩
  ·cases D
def VC {a0:AV->St->Prop}{l':ah AV}(h:B[i]? =ae (.list l))(h':B[j]? =ae (.list l'))(c0:i≠j/\l.length<=4096/\l'.length<=4096)(q:a0 .none (B.set i (.list (l++l')))):WP (fb F (.ref i) .extend [.ref j] []) B a0 E:=
 av (eh (av (fG (av (e6 (av (eh (av (fE h (av (fE h' (av (bw c0 (av (lg (aQ q))))))))))))))))
theorem VD {J0:ax AV}{H0:ax AV}{E0:ax AV}{a:Ad}{ns:ah aS}{o:Int}{c0:FL×ah (ax AV)->St->Prop}(d0:a.Ok)(a0:QT a df B ns as W u rp R b z (iZ o) A s v)(l1:∀n∈ns,n.length<=b0/\hV n)(O1:as.length<=b0)(z1:Flat as)(U0:b0+R.length<=60)(n1:W.length<=100)(p1:u.length<=100)(ht:∀t∈R,iG t)(hz: -1<=z)(w1:z<=4)(q:∀H t d J0 H0 E0,LM a H (cB a.rs ns R z).2 (as++fg a.rs ns R z) (W++[t]) (u++[d]) (b0+R.length)->Fr a.iy df H->c0 (.next,[x0,x1,ag,ae (.ref a.LP),ag,x5,x6,x7,ae (.ref a.x.lm),ae (.ref a.RW),ae (.ref a.OD),bS,f,Y,ae (.ref a.NP),ae (.ref a.TD),ae (.ref a.DU),ae (.ref a.ON),ae (.ref rp),ae (.int o),ag,ae (.bool b),ae (.ref A),ae v,J0,H0,E0,ag,ag,ag,ag,ag,ag,ag,ag,ag,ag,ag,ag,ag,ag,ag,ag]) H):
  WP (sq vL ⟨FN 11,dc,[x0,x1,ag,ae (.ref a.LP),ag,x5,x6,x7,ae (.ref a.x.lm),ae (.ref a.RW),ae (.ref a.OD),bS,f,Y,ae (.ref a.NP),ae (.ref a.TD),ae (.ref a.DU),ae (.ref a.ON),ae (.ref rp),ae (.int o),ag,ae (.bool b),ae (.ref A),ae v,J0,H0,E0,ag,ag,ag,ag,ag,ag,ag,ag,ag,ag,ag,ag,ag,ag,ag,ag]⟩) B c0 E:=by
 obtain o1:=d0.ord;obtain o2:=d0.lp;obtain o3:=d0.rows;obtain o4:=d0.bs;obtain w:=d0.fR rp a0.QU;obtain o6:=a0.hX;obtain t1:=a0.ls.long;obtain j1:=Vy (M:=a.rs) (R:=R) (ns:=ns) (z:=z);obtain A0:=Vz (M:=a.rs) (R:=R) (ns:=ns) (z:=z);obtain V0:a.TD∉a.cQ:=d0.pB (by exact .inr (FI 1 0 0 0 (d0.t 4 5 rfl) rfl));obtain Q0:a.DU∉a.cQ:=d0.pB (by exact .inr (FI 1 0 0 0 (d0.t 4 6 rfl) rfl));obtain b1:a.ON∉a.cQ:=d0.pB (by exact .inr (FI 1 0 0 0 (d0.t 4 7 rfl) rfl));obtain (⟨m,y1,u1,v1⟩):=a0.left;have O:R.length<=60:=by exact TT AR U0
 unfold vL;wtm_at "r";refine⟨(λh=>nomatch h.2),hY a0.td (.inl rfl) ?_⟩;wtm_at "r";refine Vd y1 (by rw[aO];exact FI 0 60 0 4096 O rfl) (λh1 h2=>by rw[aO];exact v1 h1 h2) ?_;intros _ l li _ h0 g0 u0;have u0:l[li]? =ae (.list (jU a.rs ns R z (iZ o))):=by
  rw[u0];by_cases hw:iZ o=aj
  ·rw[aN hw,u1 hw]
  ·rw[aK hw];unfold jU;rw[aK λh=>hw h.1]
 obtain h0:Fr (λj=>j=A) B l:=h0.mono λj h=>h.2;obtain B0:=h0.get a0.td (by exact NE (TT (d0.t 5 8 rfl) a0.hX.1));obtain I1:=ba u0;obtain E1:=h0.len;wtm_at "r";refine jv B0 (by exact FI 0 100 0 4096 n1 rfl) ?_;obtain X:Fr (λi=>i=a.TD) l (l.set a.TD (.list (W++[.pair v (.ref li)]))):=Fr.set rfl;obtain N0:(l.set a.TD (.list (W++[.pair v (.ref li)])))[a.TD]? =ae (.list (W++[.pair v (.ref li)])):=de B0;generalize l.set a.TD (.list (W++[.pair v (.ref li)]))=bF at *;obtain V:Fr (λi=>i=A\/i=a.TD) B bF:=(h0.mono λi h=>.inl h).trans (X.mono λi h=>.inr h);obtain Y0:=X.get u0 (by exact NT (TT (d0.t 5 8 rfl) (TT a0.ls.long g0)));obtain L1:=X.len;obtain K:LS a bF:=a0.ls.fr d0 V λi F h=>by
  rcases h with h |h
  ·exact XX 1 0 (CH 0 0 1 0 (CH 0 0 0 0 a0.hX.1 (EG h)) F) rfl
  ·exact .inr (.inr (.inr (.inl h)))
 obtain m1:=a0.pj.fr V λi F h=>by have:=d0.cQ i F;exact(a0.val).elim (λI=>(h).elim (λD=>XX 2 0 (CH 1 0 1 0 (CH 1 0 0 0 (CH 1 0 0 0 (d0.t 4 8 rfl) a0.hX.1) (EG D)) this.2) rfl) (λD=>XX 2 0 (CH 1 0 1 0 (CH 1 0 0 0 (d0.t 4 5 rfl) (EG D)) this.2) rfl)) (λI=>(h).elim (λD=>XX 2 0 (CH 1 0 1 0 (CH 1 0 0 0 (CH 1 0 0 0 (d0.t 4 8 rfl) a0.hX.1) (EG D)) this.2) rfl) (λD=>XX 2 0 (CH 1 0 1 0 (CH 1 0 0 0 (d0.t 4 5 rfl) (EG D)) this.2) rfl))
 obtain f0:=V.get a0.row (by exact NO (NE (TT w.2 (TT (d0.c 3 8 rfl) a0.hX.1))) (NE (TT w.2 (d0.c 3 5 rfl))));obtain d1:=V.get a0.c2 (by exact NO (NE (CF 5 0 0 0 3 0 (d0.c 0 8 rfl) a0.hX.1 rfl)) (NE (FI 5 0 3 0 (d0.c 0 5 rfl) rfl)));refine n_next ?_;refine x_sq (w_Set (Vf (b0:=b0) rfl rfl rfl d1 (d0.nl.trans d0.ml.symm) d0.zr ht l1 U0 m1 K.at_ d0.nd (λi F q hq=>by exact⟨NE (TT (d0.a9 q hq).2.1 (TT (d0.c 1 3 rfl) (d0.cQ i F).1)),NE (TT (d0.a9 q hq).2.2.2 (TT (d0.c 1 3 rfl) (d0.cQ i F).1))⟩) (by rw[d0.nl];decide) K.np K.lp f0 (d0.pB (by exact .inr (a4 _))) (d0.pB (by exact .inl (TT d0.lp.2 (d0.c 1 3 rfl)))) (d0.pB (by exact .inl (w.2))) ?_));intros _ S ri _ r1 G s1 C0;refine cu rfl (n_next ?_);simp only[gB,gC];obtain U:∀i∈a.cQ,a.bD<=i/\i < a.NP:=d0.cQ;obtain e1:∀{i},i < a.bD\/a.NP<=i->i∉a.cQ:=d0.pB;obtain m0:=G.get f0 (e1 (by exact .inl (w.2)));obtain S0:=G.get d1 (e1 (by exact .inl (FI 5 0 3 0 (d0.c 0 3 rfl) rfl)));obtain C1:=ba C0;obtain F1:=G.len;wtm_at "r";obtain i0:=G.get (V.get a0.on (by exact NO (NE (TT (d0.t 7 8 rfl) a0.hX.1)) (NT ((d0.t 5 7 rfl))))) b1;refine⟨(λh=>nomatch h.2),hY i0 (.inr (.inl rfl)) ?_⟩;wtm_at "r";refine iJ (cs:=[(aq "wish",2)]) (L:=[ag,ag,ag,ag,ag]) (by decide +kernel) (by kernel_rfl) (λy=>by kernel_rfl) rfl ?_;wtm_at "r";refine f_len C0 ?_;wtm_at "r";refine wk (k:=(cB a.rs ns R z).1.length+1) m0 (by rw[aO];exact FI 0 60 0 4096 O rfl) (by rw[aO];lia) (by exact CF 0 0 0 60 1 8192 j1 O rfl) ?_;rw[<-rK];obtain v0:Ex S (S++[AO.list ((R.take ((cB a.rs ns R z).1.length+1)).map tA)]):=Fr.app;obtain O0:(S++[AO.list ((R.take ((cB a.rs ns R z).1.length+1)).map tA)])[S.length]? =ae (.list ((R.take ((cB a.rs ns R z).1.length+1)).map tA)):=g_last;generalize S++[AO.list ((R.take ((cB a.rs ns R z).1.length+1)).map tA)]=cO at *;refine fh O0 ⟨rfl,Vg O0 (by rw[er];exact CF 0 0 0 60 0 64 MR O rfl) (v0.g S0) ?_⟩;rw[show(if 0 < z then gq (R.take ((cB a.rs ns R z).1.length+1))else [])=fg a.rs ns R z from rfl];refine bp (by exact CF 0 0 0 60 0 4096 A0 O rfl) ?_;obtain s0:Ex S (cO++[AO.list (fg a.rs ns R z)]):=v0.trans Fr.app;obtain q1:(cO++[AO.list (fg a.rs ns R z)])[cO.length]? =ae (.list (fg a.rs ns R z)):=g_last;obtain H1:=v0.len;generalize cO++[AO.list (fg a.rs ns R z)]=dZ at *;wtm_at "r";refine VC (s0.g i0) q1 ⟨by exact NE (CF 1 0 0 0 1 0 (CH 1 0 0 0 (CH 1 0 0 0 (d0.t 7 8 rfl) K.long) G.len) v0.len rfl),by lia,by exact CF 0 0 0 60 0 4096 A0 O rfl⟩ ?_;obtain p0:Fr (λi=>i=a.ON) dZ (dZ.set a.ON (.list (as++fg a.rs ns R z))):=Fr.set rfl;obtain P0:(dZ.set a.ON (.list (as++fg a.rs ns R z)))[a.ON]? =ae (.list (as++fg a.rs ns R z)):=de (s0.g i0);obtain K1:=s0.len;generalize dZ.set a.ON (.list (as++fg a.rs ns R z))=fS at *;obtain L:Fr (λi=>i=a.ON) S fS:=s0.any.trans p0;obtain Z:=L.get m0 (by exact NE (TT w.2 (d0.c 3 7 rfl)));obtain K0:=L.get S0 (by exact NE (FI 5 0 3 0 (d0.c 0 7 rfl) rfl));obtain n0:=L.get C0 (by exact NT (TT (d0.t 7 8 rfl) (TT K.long s1)));obtain J1:=p0.len;refine n_next ?_;refine x_sq (w_Set (Vi rfl rfl rfl K0 Z n0 (by exact FI 0 60 0 64 O rfl) (aO ..) (by rw[aO];exact CF 0 0 0 60 0 64 j1 O rfl) ?_));intros _ P1 lj _ J M0 R0;refine cu rfl (n_next ?_);simp only[gB,gC];refine x_sq (w_Set (Vk rfl rfl (J.g K0) (J.g Z) (J.g n0) (aO ..) (cu rfl (n_next ?_))));simp only[gB,gC];obtain o0:=L.get (G.get (V.get a0.du (by exact NO (NE (TT (d0.t 6 8 rfl) a0.hX.1)) (NT ((d0.t 5 6 rfl))))) Q0) (by exact NE ((d0.t 6 7 rfl)));wtm_at "r";refine⟨(λh=>nomatch h.2),hY (J.g o0) (.inl rfl) ?_⟩;refine w_evs_cons (w_Tup (w_evs_cons (Vm rfl rfl rfl rfl (J.g K0) hz w1 (by exact FI 0 60 0 64 O rfl) (J.g Z) (J.g n0) ?_)));intros _ v' j0 _ W0 g1;wtm_at "r";obtain k:Ex fS j0:=J.trans W0;refine jv (k.g o0) (by exact FI 0 100 0 4096 p1 rfl) ?_;obtain T:Fr (λi=>i=a.DU) j0 (j0.set a.DU (.list (u++[.pair v' (.ref lj)]))):=Fr.set rfl;obtain T0:(j0.set a.DU (.list (u++[.pair v' (.ref lj)])))[a.DU]? =ae (.list (u++[.pair v' (.ref lj)])):=de (k.g o0);obtain D1:=k.len;generalize j0.set a.DU (.list (u++[.pair v' (.ref lj)]))=fT at *;obtain z0:Fr (λi=>i=a.DU) fS fT:=k.any.trans T;obtain y0:Fr (λi=>i=a.ON\/i=a.DU) S fT:=(L.mono λi h=>.inl h).trans (z0.mono λi h=>.inr h);obtain r0:Fr (λi=>i∈a.cQ\/i=a.ON\/i=a.DU) bF fT:=(G.mono λi h=>.inl h).trans (y0.mono λi h=>.inr h);obtain e0:Fr (λi=>(i=A\/i=a.TD)\/i∈a.cQ\/i=a.ON\/i=a.DU) B fT:=(V.mono λi h=>.inl h).trans (r0.mono λi h=>.inr h);obtain l0:∀i,((i=A\/i=a.TD)\/i∈a.cQ\/i=a.ON\/i=a.DU)->i=A\/a.iy i:=λi h=>by
  rcases h with (h |h) |h |h |h
  ·exact .inl h
  ·exact .inr (.inr (.inr (.inr (.inl h))))
  ·exact .inr (.inr (.inr (.inl h)))
  ·exact .inr (.inr (.inr (.inr (.inr (.inr h)))))
  ·exact .inr (.inr (.inr (.inr (.inr (.inl h)))))
 obtain M1:∀i,i < a.bE->¬ a.iy i->¬ ((i=A\/i=a.TD)\/i∈a.cQ\/i=a.ON\/i=a.DU):=λi F hm h=>by
  rcases l0 i h with h |h
  ·exact XX 1 0 (CH 0 0 1 0 (CH 0 0 0 0 a0.hX.1 (EG h)) F) rfl
  ·exact hm h
 obtain N:∀{i},a.bE<=i->a.Fz i:=λ{i} F hm=>by
  rcases hm with h |h |h |h |h |h
  ·exact XX 6 5 (CH 5 0 1 5 (CH 5 0 0 0 (d0.c 0 8 rfl) F) h) rfl
  ·exact XX 1 0 (CH 0 0 1 0 (CH 0 0 0 0 (d0.c 2 8 rfl) F) h.2) rfl
  ·have:=U i h;exact XX 2 0 (CH 1 0 1 0 (CH 1 0 0 0 (d0.t 4 8 rfl) F) this.2) rfl
  ·exact XX 1 0 (CH 1 0 0 0 (CH 1 0 0 0 (d0.t 5 8 rfl) F) (EL h)) rfl
  ·exact XX 1 0 (CH 1 0 0 0 (CH 1 0 0 0 (d0.t 6 8 rfl) F) (EL h)) rfl
  ·exact XX 1 0 (CH 1 0 0 0 (CH 1 0 0 0 (d0.t 7 8 rfl) F) (EL h)) rfl
 obtain a1:a.Fz rp:=λhm=>by
  rcases hm with h |h |h |h |h |h
  ·exact XX 6 5 (CH 5 0 1 5 (CH 5 0 0 0 (d0.c 0 2 rfl) w.1) h) rfl
  ·exact XX 1 0 (CH 0 0 1 0 w.1 h.2) rfl
  ·have:=U _ h;exact XX 1 0 (CH 0 0 1 0 this.1 w.2) rfl
  ·exact XX 1 0 (CH 0 0 1 0 (CH 0 0 0 0 (d0.c 3 5 rfl) (EG h)) w.2) rfl
  ·exact XX 1 0 (CH 0 0 1 0 (CH 0 0 0 0 (d0.c 3 6 rfl) (EG h)) w.2) rfl
  ·exact XX 1 0 (CH 0 0 1 0 (CH 0 0 0 0 (d0.c 3 7 rfl) (EG h)) w.2) rfl
 obtain L0:∀i,eZ a.x i->¬ ((i=A\/i=a.TD)\/i∈a.cQ\/i=a.ON\/i=a.DU):=λi F h=>by
  obtain h1:=d0.foot i F;rcases h with (h |h) |h |h |h
  ·exact(h1).elim (λI=>XX 5 3 (CH 5 0 0 3 (CH 5 0 0 0 (CH 5 0 0 0 (d0.c 0 8 rfl) a0.hX.1) (EG h)) (EL I)) rfl) (λI=>(I).elim (λD=>XX 5 4 (CH 5 0 0 4 (CH 5 0 0 0 (CH 5 0 0 0 (d0.c 0 8 rfl) a0.hX.1) (EG h)) (EL D)) rfl) (λD=>XX 1 0 (CH 0 0 1 0 (CH 0 0 0 0 (CH 0 0 0 0 (d0.c 2 8 rfl) a0.hX.1) (EG h)) D.2) rfl))
  ·exact(h1).elim (λI=>XX 5 3 (CH 5 0 0 3 (CH 5 0 0 0 (d0.c 0 5 rfl) (EG h)) (EL I)) rfl) (λI=>(I).elim (λD=>XX 5 4 (CH 5 0 0 4 (CH 5 0 0 0 (d0.c 0 5 rfl) (EG h)) (EL D)) rfl) (λD=>XX 1 0 (CH 0 0 1 0 (CH 0 0 0 0 (d0.c 2 5 rfl) (EG h)) D.2) rfl))
  ·have:=U i h;exact(h1).elim (λI=>XX 5 3 (CH 5 0 0 3 (CH 5 0 0 0 (d0.c 0 3 rfl) this.1) (EL I)) rfl) (λI=>(I).elim (λD=>XX 5 4 (CH 5 0 0 4 (CH 5 0 0 0 (d0.c 0 3 rfl) this.1) (EL D)) rfl) (λD=>XX 1 0 (CH 0 0 1 0 (CH 0 0 0 0 (d0.c 2 3 rfl) this.1) D.2) rfl))
  ·exact(h1).elim (λI=>XX 5 3 (CH 5 0 0 3 (CH 5 0 0 0 (d0.c 0 7 rfl) (EG h)) (EL I)) rfl) (λI=>(I).elim (λD=>XX 5 4 (CH 5 0 0 4 (CH 5 0 0 0 (d0.c 0 7 rfl) (EG h)) (EL D)) rfl) (λD=>XX 1 0 (CH 0 0 1 0 (CH 0 0 0 0 (d0.c 2 7 rfl) (EG h)) D.2) rfl))
  ·exact(h1).elim (λI=>XX 5 3 (CH 5 0 0 3 (CH 5 0 0 0 (d0.c 0 6 rfl) (EG h)) (EL I)) rfl) (λI=>(I).elim (λD=>XX 5 4 (CH 5 0 0 4 (CH 5 0 0 0 (d0.c 0 6 rfl) (EG h)) (EL D)) rfl) (λD=>XX 1 0 (CH 0 0 1 0 (CH 0 0 0 0 (d0.c 2 6 rfl) (EG h)) D.2) rfl))
 obtain Z0:∀i,i < 5->¬ ((i=A\/i=a.TD)\/i∈a.cQ\/i=a.ON\/i=a.DU):=λi F h=>by
  rcases h with (h |h) |h |h |h
  ·exact XX 6 5 (CH 5 0 1 5 (CH 5 0 0 0 (CH 5 0 0 0 (d0.c 0 8 rfl) a0.hX.1) (EG h)) F) rfl
  ·exact XX 6 5 (CH 5 0 1 5 (CH 5 0 0 0 (d0.c 0 5 rfl) (EG h)) F) rfl
  ·have:=U i h;exact XX 6 5 (CH 5 0 1 5 (CH 5 0 0 0 (d0.c 0 3 rfl) this.1) F) rfl
  ·exact XX 6 5 (CH 5 0 1 5 (CH 5 0 0 0 (d0.c 0 7 rfl) (EG h)) F) rfl
  ·exact XX 6 5 (CH 5 0 1 5 (CH 5 0 0 0 (d0.c 0 6 rfl) (EG h)) F) rfl
 obtain B1:=e0.get a0.c2 (Z0 2 (by decide));obtain⟨N1,A1⟩:=a0.c1;obtain i1:=r0.get Y0 (by
  rintro (h |h |h)
  ·have:=U _ h;exact XX 2 0 (CH 1 0 1 0 (CH 1 0 0 0 (CH 1 0 0 0 (d0.t 4 8 rfl) a0.ls.long) g0) this.2) rfl
  ·exact XX 1 0 (CH 1 0 0 0 (CH 1 0 0 0 (CH 1 0 0 0 (d0.t 7 8 rfl) a0.ls.long) g0) (EL h)) rfl
  ·exact XX 1 0 (CH 1 0 0 0 (CH 1 0 0 0 (CH 1 0 0 0 (d0.t 6 8 rfl) a0.ls.long) g0) (EL h)) rfl)
 obtain f1:=T.get (W0.g R0) (by exact(a0.val).elim (λI=>(M0).elim (λD=>NT (CF 1 0 0 0 1 0 (CH 1 0 0 0 (CH 1 0 0 0 (CH 1 0 0 0 (d0.t 6 8 rfl) K.long) G.len) L.len) D rfl)) (λD=>NE (CF 1 0 0 0 1 0 (CH 0 0 1 0 (EL D) w.2) (d0.c 3 6 rfl) rfl))) (λI=>(M0).elim (λD=>NT (CF 1 0 0 0 1 0 (CH 1 0 0 0 (CH 1 0 0 0 (CH 1 0 0 0 (d0.t 6 8 rfl) K.long) G.len) L.len) D rfl)) (λD=>NE (CF 1 0 0 0 1 0 (CH 0 0 1 0 (EL D) w.2) (d0.c 3 6 rfl) rfl))));have G0:a.Fz lj:=by
  rcases M0 with h |h
  ·exact N (by exact CF 0 0 0 0 0 0 (CH 0 0 0 0 (CH 0 0 0 0 K.long G.len) L.len) h rfl)
  ·rw[h];exact a1
 obtain F0:k8 a.Fz fT (.ref li) (.ref lj):=⟨_,li,lj,Vv ht,rfl,rfl,N (by exact TT a0.ls.long g0),G0,i1,f1⟩;obtain G1:=J.len;have I0:(v= .none/\v'= .none)\/k8 a.Fz fT v v':=by
  rcases a0.val with ⟨h1,h2,h3⟩ |⟨h1,r,h2,h3,h4,h5⟩
  ·rcases g1 with ⟨k1,k2,k3⟩ |⟨k1,k2⟩
   ·exact .inl ⟨h3,k3⟩
   ·exact absurd ⟨h1,h2⟩ k1
  ·rcases g1 with ⟨k1,k2,k3⟩ |⟨k1,r',k2,k3,k4⟩
   ·exact absurd ⟨k1,k2⟩ h1
   ·refine .inr ⟨_,r,r',Vu ht,h2,k2,N h3,N (by exact CF 0 0 0 0 0 0 (CH 0 0 0 0 (CH 0 0 0 0 (CH 0 0 0 0 K.long G.len) L.len) J.len) k3 rfl),e0.get h5 ?_,T.get k4 (by exact NT (CF 1 0 0 0 1 0 (CH 1 0 0 0 (CH 1 0 0 0 (CH 1 0 0 0 (CH 1 0 0 0 (d0.t 6 8 rfl) K.long) G.len) L.len) J.len) k3 rfl))⟩;rintro ((h |h) |h |h |h)
    ·exact XX 1 0 (CH 1 0 0 0 (NV h4 ((EL h))) (EG h)) rfl
    ·exact XX 1 0 (CH 1 0 0 0 (CH 1 0 0 0 (d0.t 5 8 rfl) h3) (EL h)) rfl
    ·have:=U _ h;exact XX 2 0 (CH 1 0 1 0 (CH 1 0 0 0 (d0.t 4 8 rfl) h3) this.2) rfl
    ·exact XX 1 0 (CH 1 0 0 0 (CH 1 0 0 0 (d0.t 7 8 rfl) h3) (EL h)) rfl
    ·exact XX 1 0 (CH 1 0 0 0 (CH 1 0 0 0 (d0.t 6 8 rfl) h3) (EL h)) rfl
 obtain w0:Fr a.iy df fT:=a0.fr.old e0 λi F h=>by
  rcases l0 i h with h |h
  ·exact XX 1 0 (CH 0 0 1 0 (CH 0 0 0 0 a0.hX.2 (EG h)) F) rfl
  ·exact h
 refine n_next (x_nil (q fT (.pair v (.ref li)) (.pair v' (.ref lj)) _ _ _ ⟨a0.ls.fr d0 e0 λi F h=>?_,a0.good.fr e0 L0,r1.fr y0 λi F h=>?_,?_,T0,?_,(a0.items.fr w0 λi F h=>F h).snoc (.inr ⟨_,_,_,_,rfl,rfl,F0,I0⟩),⟨_,e0.get A1 (Z0 1 (by decide))⟩,⟨_,B1⟩,Vx ht l1,?_,z1.VB⟩ w0))
 ·rcases l0 i h with h |h
  ·exact XX 1 0 (CH 0 0 1 0 (CH 0 0 0 0 a0.hX.1 (EG h)) F) rfl
  ·exact h
 ·have:=U i F;exact(a0.val).elim (λI=>(h).elim (λD=>XX 2 0 (CH 1 0 1 0 (CH 1 0 0 0 (d0.t 4 7 rfl) (EG D)) this.2) rfl) (λD=>XX 2 0 (CH 1 0 1 0 (CH 1 0 0 0 (d0.t 4 6 rfl) (EG D)) this.2) rfl)) (λI=>(h).elim (λD=>XX 2 0 (CH 1 0 1 0 (CH 1 0 0 0 (d0.t 4 7 rfl) (EG D)) this.2) rfl) (λD=>XX 2 0 (CH 1 0 1 0 (CH 1 0 0 0 (d0.t 4 6 rfl) (EG D)) this.2) rfl))
 ·refine r0.get N0 ?_;rintro (h |h |h)
  ·exact V0 h
  ·exact XX 1 0 (CH 1 0 0 0 (d0.t 5 7 rfl) (EG h)) rfl
  ·exact XX 1 0 (CH 1 0 0 0 (d0.t 5 6 rfl) (EG h)) rfl
 ·exact z0.get P0 (by exact NT ((d0.t 6 7 rfl)))
 ·rw[bK];lia
theorem VE {j0:ax AV}{i0:ax AV}{l0:ax AV}{g0:ax AV}{f0:ax AV}{e0:ax AV}{a:Ad}{ns:ah aS}{o:Int}{c0:FL×ah (ax AV)->St->Prop}(d0:a.Ok)(a0:LM a B ns as W u b0)(o0:b0+R.length<=60)(w0:W.length<=100)(A0:u.length<=100)(n0:R∈a.bR)(m0:rp∈a.fR)(h0:B[rp]? =ae (.list (R.map tA)))(q:∀H t d j0 i0 l0 g0 f0 e0,LM a H (cB a.rs ns R (jV o)).2 (as++fg a.rs ns R (jV o)) (W++[t]) (u++[d]) (b0+R.length)->Fr a.iy B H->c0 (.next,[x0,x1,ag,ae (.ref a.LP),ag,x5,x6,x7,ae (.ref a.x.lm),ae (.ref a.RW),ae (.ref a.OD),bS,f,Y,ae (.ref a.NP),ae (.ref a.TD),ae (.ref a.DU),ae (.ref a.ON),ae (.ref rp),ae (.int o),ag,j0,i0,l0,g0,f0,e0,ag,ag,ag,ag,ag,ag,ag,ag,ag,ag,ag,ag,ag,ag,ag,ag]) H):
  WP (sq vM ⟨FN 11,dc,[x0,x1,ag,ae (.ref a.LP),ag,x5,x6,x7,ae (.ref a.x.lm),ae (.ref a.RW),ae (.ref a.OD),bS,f,Y,ae (.ref a.NP),ae (.ref a.TD),ae (.ref a.DU),ae (.ref a.ON),ae (.ref rp),ae (.int o),ag,j0,i0,l0,g0,f0,e0,ag,ag,ag,ag,ag,ag,ag,ag,ag,ag,ag,ag,ag,ag,ag,ag]⟩) B c0 E:=by
 obtain o1:=d0.ord;obtain o2:=d0.lp;obtain o3:=d0.rows;obtain o4:=d0.bs;obtain j:=d0.fR rp m0;obtain⟨z,ht⟩:=d0.tok R n0;obtain m:R.length<=16:=dW (U8 n0) d0.iI;obtain J0:=Ac (x:=o) (n:=6) (by decide);have hz: -1<=jV o:=by unfold jV;lia
 have r0:jV o<=4:=by unfold jV;lia
 obtain C0:=a0.s.long;obtain (⟨I0,v0⟩):=a0.c2;unfold vM;wtm_at "r";refine pv (by decide) ?_;wtm_at "r";rw[show o.fmod 6 - 1=jV o from rfl];obtain D:Fr (λi=>i=2) B (B.set 2 (.cell (ae (.int (jV o))))):=Fr.set rfl;obtain B0:(B.set 2 (.cell (ae (.int (jV o)))))[2]? =ae (.cell (ae (.int (jV o)))):=de v0;generalize B.set 2 (.cell (ae (.int (jV o))))=a7 at *;refine pq (by decide) ?_;wtm_at "r";refine pv (by decide) ?_;wtm_at "r";refine mZ (cu rfl (n_next ?_));simp only[gB,gC];generalize ((o.fdiv 6).fmod 2 == 1)=b;obtain Z:=D.get h0 (by exact NT (CF 5 0 0 0 3 0 (d0.c 0 2 rfl) j.1 rfl));refine x_sq (w_Set (Ve rfl rfl Z (by rw[aO];exact FI 0 16 0 4096 m rfl) ?_));intros _ U A s _ hG w G hs;refine cu rfl (n_next ?_);simp only[gB,gC];obtain K0:=D.len;obtain T:Fr (λi=>i=2) B U:=D.trans w.any;obtain G2:Good a.x a.rs ns as U:=a0.good.fr T λi L e=>by have:=d0.foot i L;exact(this).elim (λS=>XX 3 2 (CH 3 0 0 2 (EG S) (EL e)) rfl) (λS=>(S).elim (λO=>XX 4 2 (CH 4 0 0 2 (EG O) (EL e)) rfl) (λO=>XX 5 2 (CH 5 0 0 2 (CH 5 0 0 0 (d0.c 0 1 rfl) O.1) (EL e)) rfl))
 obtain V: ¬ eZ a.x A:=λh=>by have:=d0.foot _ h;exact(this).elim (λS=>XX 5 3 (CH 5 0 0 3 (CH 5 0 0 0 (CH 5 0 0 0 (CH 5 0 0 0 (d0.c 0 8 rfl) a0.s.long) D.len) G) (EL S)) rfl) (λS=>(S).elim (λO=>XX 5 4 (CH 5 0 0 4 (CH 5 0 0 0 (CH 5 0 0 0 (CH 5 0 0 0 (d0.c 0 8 rfl) a0.s.long) D.len) G) (EL O)) rfl) (λO=>XX 1 0 (CH 0 0 1 0 (CH 0 0 0 0 (CH 0 0 0 0 (CH 0 0 0 0 (d0.c 2 8 rfl) a0.s.long) D.len) G) O.2) rfl))
 obtain y0: ¬ eZ a.x s:=λh=>by have F0:s < a.bB:=(d0.foot _ h).elim (λe=>CF 0 3 5 0 1 0 (EL e) (d0.c 0 2 rfl) rfl) λk=>k.elim (λe=>CF 0 4 5 0 1 0 (EL e) (d0.c 0 2 rfl) rfl) λk=>k.2;exact hs.elim (λe=>V (e ▸ h)) λe=>dP _ (TT F0 (TT j.1 (EG e)))
 have z0:A < U.length:=by
  cases hw:iZ o with
  |true=>rw[hw]at hG;exact ba hG.1
  |false=>rw[hw]at hG;exact ba hG.2
 obtain p0:=w.g B0;obtain L0:=a0.al;have cont:∀v J,zq a.x a.rs ns as R b (jV o) (iZ o) A s U v J->WP (sq vL ⟨FN 11,dc,[x0,x1,ag,ae (.ref a.LP),ag,x5,x6,x7,ae (.ref a.x.lm),ae (.ref a.RW),ae (.ref a.OD),bS,f,Y,ae (.ref a.NP),ae (.ref a.TD),ae (.ref a.DU),ae (.ref a.ON),ae (.ref rp),ae (.int o),ag,ae (.bool b),ae (.ref A),ae v,g0,f0,e0,ag,ag,ag,ag,ag,ag,ag,ag,ag,ag,ag,ag,ag,ag,ag,ag]⟩) J c0 E:=by
  intros _ v J _ K;obtain N:=K.fr;obtain I:Fr (λi=>i=2\/DG (eZ a.x) (iZ o) A i) B J:=(T.mono λi h=>.inl h).trans (N.mono λi h=>.inr h);obtain F:∀i,i < a.bE->i≠2->¬ (i=3\/i=4\/(a.bA<=i/\i < a.bB))->¬ (i=2\/DG (eZ a.x) (iZ o) A i):=λi L l hf h=>by
   rcases h with h |h |h
   ·exact l h
   ·exact hf (d0.foot i h)
   ·have:=h.2;exact XX 1 0 (CH 0 0 1 0 (CH 0 0 0 0 (CH 0 0 0 0 (CH 0 0 0 0 a0.s.long D.len) G) (EG h.2)) L) rfl
  obtain (⟨H0,G0⟩):=a0.c1;obtain X:∀i,i < B.length->(i=2\/DG (eZ a.x) (iZ o) A i)->a.iy i:=λi L h=>by
   rcases h with h |h |h
   ·exact .inl (by exact FI 0 2 1 5 (EL h) rfl)
   ·rcases d0.foot i h with h |h |h
    ·exact .inl (by exact FI 0 3 1 5 (EL h) rfl)
    ·exact .inl (by exact FI 0 4 1 5 (EL h) rfl)
    ·exact .inr (.inl h)
   ·have:=h.2;exact XX 1 0 (CH 0 0 1 0 (CH 0 0 0 0 (CH 0 0 0 0 D.len G) (EG h.2)) L) rfl
  refine VD d0 (df:=B) ⟨a0.s.fr d0 I λi L h=>X i (by exact TT L a0.s.long) h,K.good,a0.pj.fr I λi L=>F i (by have:=d0.cQ i L;exact CF 1 0 1 0 1 0 this.2 (d0.t 4 8 rfl) rfl) (by have:=d0.cQ i L;exact NT (CF 5 0 0 0 3 0 (d0.c 0 3 rfl) this.1 rfl)) (by have:=d0.cQ i L;exact NO (NT (CF 5 0 0 0 4 0 (d0.c 0 3 rfl) this.1 rfl)) (NO (NT (TT (d0.c 0 3 rfl) this.1)) (NB (DN (TT (d0.c 2 3 rfl) this.1))))),I.get a0.td (F _ (by exact(d0.t 5 8 rfl)) (by exact NT (FI 5 0 3 0 (d0.c 0 5 rfl) rfl)) (by exact NO (NT (FI 5 0 4 0 (d0.c 0 5 rfl) rfl)) (NO (NT ((d0.c 0 5 rfl))) (NB (DN ((d0.c 2 5 rfl))))))),I.get a0.du (F _ (by exact(d0.t 6 8 rfl)) (by exact NT (FI 5 0 3 0 (d0.c 0 6 rfl) rfl)) (by exact NO (NT (FI 5 0 4 0 (d0.c 0 6 rfl) rfl)) (NO (NT ((d0.c 0 6 rfl))) (NB (DN ((d0.c 2 6 rfl))))))),I.get a0.on (F _ (by exact(d0.t 7 8 rfl)) (by exact NT (FI 5 0 3 0 (d0.c 0 7 rfl) rfl)) (by exact NO (NT (FI 5 0 4 0 (d0.c 0 7 rfl) rfl)) (NO (NT ((d0.c 0 7 rfl))) (NB (DN ((d0.c 2 7 rfl))))))),
   a0.items,⟨_,I.get G0 (F _ (by exact FI 5 0 2 0 (d0.c 0 8 rfl) rfl) (by exact NE (a4 _)) (by exact NO (NE (gU _)) (NO (NE (RR 2 4 rfl)) (NA (DM (FI 5 0 2 0 (d0.c 0 1 rfl) rfl))))))⟩,N.get p0 ?_,⟨by exact TT a0.s.long (TT D.len G),by exact TT D.len G⟩,K.left,?_,⟨dW T.len N.len,λi L hm=>I.keep i L λh=>hm (X i L h)⟩,I.get h0 (F _ (by exact TT j.2 (d0.c 3 8 rfl)) (by exact NT (CF 5 0 0 0 3 0 (d0.c 0 2 rfl) j.1 rfl)) (by exact NO (NT (CF 5 0 0 0 4 0 (d0.c 0 2 rfl) j.1 rfl)) (NO (NT (TT (d0.c 0 2 rfl) j.1)) (NB (DN (j.1)))))),m0⟩ a0.nb a0.al a0.af o0 w0 A0 ht hz r0 (λH t d E0 u0 s0 h1 l=>q H t d _ _ _ E0 u0 s0 h1 l)
  ·rintro (h |h)
   ·have:=d0.foot _ h;exact(this).elim (λS=>XX 3 2 (EG S) rfl) (λS=>(S).elim (λO=>XX 4 2 (EG O) rfl) (λO=>XX 5 2 (CH 5 0 0 2 (d0.c 0 1 rfl) O.1) rfl))
   ·have:=h.2;exact XX 5 2 (CH 5 0 0 2 (CH 5 0 0 0 (CH 5 0 0 0 (CH 5 0 0 0 (d0.c 0 8 rfl) a0.s.long) D.len) G) (EG h.2)) rfl
  ·rcases K.val with h |⟨h,r,h1,l,h3⟩
   ·exact .inl h
   ·exact .inr ⟨h,r,h1,by exact TT a0.s.long (TT T.len l),by exact NT (TT z0 l),h3⟩
 refine x_sq (x_Try (Vj rfl rfl rfl p0 (asked (b0:=b0) d0.vU d0.zr (by rw[d0.q3];decide) ht z m (λn hn=>(a0.nb n hn).1) o0 (by lia) hz r0 G2 hG V y0 (λv J K hv=>?_) λJ K=>⟨rfl,?_⟩)))
 ·refine cu rfl (x_nil (n_next ?_));simp only[gB,gC];exact cont v J K
 ·refine w_Set (w_K (cu rfl (n_next ?_)));simp only[gB,gC];exact cont .none J K
def VF:∀{K ys:ah AV} {k:ak} {v:AV},(pd K ys)[k]? =ae v->∃x y,K[k]? =ae x/\ys[k]? =ae y/\v= .pair x y:=by
 intro D;induction D with
 |nil=>
  intro B;cases B with
  |nil=>
   intro _ _ h;exact nomatch h
  |cons _ _=>
   intro _ _ h;exact nomatch h
 |cons x K F=>
  intro B;cases B with
  |nil=>
   intro _ _ h;exact nomatch h
  |cons y ys=>
   intro E;cases E with
   |zero=>
    intro v h;cases h;exact⟨x,y,rfl,rfl,rfl⟩
   |succ k=>
    intro v h;exact F (ys:=ys) (k:=k) h
def Gw:∀{K ys:ah AV},(pd K ys).length=min K.length ys.length:=by
 intro D;induction D with
 |nil=>
  intro B;cases B with
  |nil=>
   exact rfl
  |cons _ _=>
   exact(IY _).symm
 |cons x K E=>
  intro B;cases B with
  |nil=>
   exact(IZ _).symm
  |cons y ys=>
   exact(bZ (· +1) E).trans (I9 ..).symm
def VG {l:ah DS}{a0:FL×ah (ax AV)->St->Prop}(q:∀H,Ex B H->H.length=B.length+7->(H[B.length]? =ae (.list [])/\H[B.length+1]? =ae (.list [])/\H[B.length+2]? =ae (.list []))->H[B.length+3]? =ae (.list ([B.length,B.length+1,B.length+2].map .ref))->H[B.length+4]? =ae (.list [])->H[B.length+5]? =ae (.list [])->H[B.length+6]? =ae (.list [])->
   WP (sq l ⟨FN 11,dc,[x0,x1,ag,x3,ag,x5,x6,x7,x8,x9,fV,bS,f,Y,ae (.ref (B.length+3)),ae (.ref (B.length+4)),ae (.ref (B.length+5)),ae (.ref (B.length+6)),ag,ag,ag,ag,ag,ag,ag,ag,ag,ag,ag,ag,ag,ag,ag,ag,ag,ag,ag,ag,ag,ag,ag,ag,ag]⟩) H a0 E):
  WP (sq (aE (pL 14) (eList [(eList []),(eList []),(eList [])]) :: aE (pL 15) (eList []) :: aE (pL 16) (eList []) :: aE (pL 17) (eList []) :: l) ⟨FN 11,dc,[x0,x1,ag,x3,ag,x5,x6,x7,x8,x9,fV,bS,f,Y,ag,ag,ag,ag,ag,ag,ag,ag,ag,ag,ag,ag,ag,ag,ag,ag,ag,ag,ag,ag,ag,ag,ag,ag,ag,ag,ag,ag,ag]⟩) B a0 E:=by
 refine x_sq (w_Set (w_List (w_evs_cons (w_List (w_evs_nil (bp (by simp) (w_evs_cons (w_List (w_evs_nil (bp (by simp) (w_evs_cons (w_List (w_evs_nil (bp (by simp) (w_evs_nil (bp (by simp) (cu rfl (n_next ?_))))))))))))))))));refine x_sq (w_Set (w_List (w_evs_nil (bp (by simp) (cu rfl (n_next ?_))))));refine x_sq (w_Set (w_List (w_evs_nil (bp (by simp) (cu rfl (n_next ?_))))));refine x_sq (w_Set (w_List (w_evs_nil (bp (by simp) (cu rfl (n_next ?_))))));simp only[gB,gC,j2,bK,ft,q9,rD,mu,kg,xn];refine q _ Fr.app (by simp) ⟨qF,i5,i5⟩ i5 i5 i5 i5
def VH (h:bR[k]? =ae R):total (bR.take (k+1))=total (bR.take k)+R.length:=by
 rw[take_snoc h,Ab]
def Gy:total (bR.take k)<=total bR:=by
 have h:total bR=total (bR.take k)+total (bR.drop k):=by
  unfold total;rw[<-Jl,<-dH,HB]
 exact TT AL (EG h)
def sM.mk {a:Ad}{c0 a0:ax AV}:sM x0 x1 x5 x6 x7 bS f Y a [x0,x1,ag,ae (.ref a.LP),ag,x5,x6,x7,ae (.ref a.x.lm),ae (.ref a.RW),ae (.ref a.OD),bS,f,Y,ae (.ref a.NP),ae (.ref a.TD),ae (.ref a.DU),ae (.ref a.ON),c0,a0,ag,ik,iq,ir,ie,ig,ij,ag,ag,ag,ag,ag,ag,ag,ag,ag,ag,ag,ag,ag,ag,ag,ag]:=⟨_,_,_,_,_,_,_,_,rfl⟩
theorem VI {a:Ad}{a0:FL×ah (ax AV)->St->Prop}(d0:a.Ok)(c0:LM a B dI [] [] [] 0)(q:∀H ns as W u f0 e0 ik iq ir ie ig ij,LM a H ns as W u 16->W.length<=16->u.length<=16->a0 (.next,[x0,x1,ag,ae (.ref a.LP),ag,x5,x6,x7,ae (.ref a.x.lm),ae (.ref a.RW),ae (.ref a.OD),bS,f,Y,ae (.ref a.NP),ae (.ref a.TD),ae (.ref a.DU),ae (.ref a.ON),f0,e0,ag,ik,iq,ir,ie,ig,ij,ag,ag,ag,ag,ag,ag,ag,ag,ag,ag,ag,ag,ag,ag,ag,ag]) H):
  WP (sq [fy aj (cx [(pL 18),(pL 19)]) (o8 (hU (eL 9)) (hU (eL 10))) vM] ⟨FN 11,dc,[x0,x1,ag,ae (.ref a.LP),ag,x5,x6,x7,ae (.ref a.x.lm),ae (.ref a.RW),ae (.ref a.OD),bS,f,Y,ae (.ref a.NP),ae (.ref a.TD),ae (.ref a.DU),ae (.ref a.ON),ag,ag,ag,ag,ag,ag,ag,ag,ag,ag,ag,ag,ag,ag,ag,ag,ag,ag,ag,ag,ag,ag,ag,ag,ag]⟩) B a0 E:=by
 have K:=c0.s.rows.len;have J:=Gm λR L=>(d0.tok R L).1;have n0:=d0.iI;wtm_at "r";refine fh c0.s.ju ?_;wtm_at "r";refine fh c0.s.od ⟨rfl,?_⟩;refine lh (G:=λH=>LS a H) (c0:=λk I H=>(∃ns as W u,LM a H ns as W u (total (a.bR.take k))/\W.length=k/\u.length=k)/\sM x0 x1 x5 x6 x7 bS f Y a I) (K:=pd (a.fR.map .ref) (a.k7.map .int))
  (Yl.zip (Yl.gM λH e=>e.ju) (Yl.gM λH e=>e.od)) (by rw[Gw,aO];exact CF 0 0 0 16 1 128 (CH 0 0 0 0 (CH 0 0 0 0 ML (EL K)) J) d0.iI rfl) (λy y y h=>by obtain⟨⟨_,_,_,_,h,_⟩,_⟩:=h;exact h.s) ⟨⟨dI,[],[],[],c0,rfl,rfl⟩,sM.mk⟩ ?_ ?_
 ·intros _ k v l0 U _ hv l;obtain⟨Z,b⟩:=l;obtain (⟨f0,e0,ik,iq,ir,ie,ig,ij,rfl⟩):=b;obtain (⟨ns,as,W,u,F,O,S⟩):=Z;obtain (⟨D,w,V,T,rfl⟩):=VF hv;rw[dA]at V T;cases G:a.fR[k]? with
  |none=>rw[G]at V;cases V
  |some rp=>
   intros rp _ G;cases m:a.k7[k]? with
   |none=>rw[m]at T;cases T
   |some o=>
    intros o _ m;rw[G]at V;rw[m]at T;cases V;cases T;have hk:=ba G;obtain (⟨R,L,N⟩):=F.s.rows.get G;have e1:=VH L;have X:=Gy (bR:=a.bR) (k:=k+1);refine vV rfl rfl (x_put_cons (cu rfl (x_put_cons (cu rfl (x_put_nil ?_)))));simp only[gB,gC];refine VE d0 F (by exact TT (EG e1) (CF 0 0 0 16 0 60 X d0.iI rfl)) (by exact CF 1 0 0 16 0 100 (CH 1 0 0 0 (CH 1 0 0 0 (CH 0 0 1 0 (EL O) hk) (EL K)) J) d0.iI rfl) (by exact CF 1 0 0 16 0 100 (CH 1 0 0 0 (CH 1 0 0 0 (CH 0 0 1 0 (EL S) hk) (EL K)) J) d0.iI rfl) (cD L) (cD G) N λH t d p0 o0 r0 j0 i0 h0 M3 hf=>?_;rw[<-e1]at M3;exact l_next ⟨⟨_,_,_,_,M3,by rw[bK,O];rfl,by rw[bK,S];rfl⟩,sM.mk⟩
 ·intros _ m0 U _ j;obtain⟨z,g0⟩:=j;obtain (⟨f0,e0,ik,iq,ir,ie,ig,ij,rfl⟩):=g0;obtain (⟨ns,as,W,u,F,O,S⟩):=z;rw[Gw,aO,aO]at O S;have X:=Gy (bR:=a.bR) (k:=(pd (a.fR.map .ref) (a.k7.map .int)).length);refine n_next (x_nil (q U ns as W u _ _ _ _ _ _ _ _ ⟨F.s,F.good,F.pj,F.td,F.du,F.on,F.items,F.c1,F.c2,λn hn=>?_,?_,F.af⟩ (by exact CF 0 0 0 16 0 16 (CH 0 0 0 0 (CH 0 0 0 0 (CH 0 0 0 0 (EL O) ML) (EL K)) J) d0.iI rfl) (by exact CF 0 0 0 16 0 16 (CH 0 0 0 0 (CH 0 0 0 0 (CH 0 0 0 0 (EL S) ML) (EL K)) J) d0.iI rfl)))
  ·have:=F.nb n hn;exact⟨by exact TT this.1 (TT X d0.iI),this.2⟩
  ·have:=F.al;exact TT F.al (TT X d0.iI)
def VJ {a b c:ak}(h:M.length=3)(h1:B[a]? =ae (.list []))(h2:B[b]? =ae (.list []))(h3:B[c]? =ae (.list [])):dO B [a,b,c] (M.map λg=>[]):=by
 rcases M with _ |⟨_,_ |⟨_,_ |⟨_,_ |⟨_,_⟩⟩⟩⟩
 ·simp at h
 ·simp at h
 ·simp at h
 ·exact⟨h1,h2,h3,trivial⟩
 ·simp at h
def VK {bA n1:ak}{d0:St}{x:eO}{g0:ah Int}{RW OD:ak}{f0:ah ak}{e0:ah Int}{a0:FL×ah (ax AV)->St->Prop}(c0:EV bA d0 x n1 LP a9 M g0)(h5:5<=bA)(h3:a9.length=3)(hx:Ex d0 B)(C:LawC d0.length B RW OD f0 bR e0 g0.length)(h0:e0.length=f0.length)(q:∀(a:Ad) H ns as W u zt zu ik iq ir ie ig ij,a.Ok->a.rs=M->a.x=x->LM a H ns as W u 16->W.length<=16->u.length<=16->a0 (.next,[x0,x1,ag,ae (.ref a.LP),ag,x5,x6,x7,ae (.ref a.x.lm),ae (.ref a.RW),ae (.ref a.OD),bS,f,Y,ae (.ref a.NP),ae (.ref a.TD),ae (.ref a.DU),ae (.ref a.ON),zt,zu,ag,ik,iq,ir,ie,ig,ij,ag,ag,ag,ag,ag,ag,ag,ag,ag,ag,ag,ag,ag,ag,ag,ag]) H):
  WP (sq vN ⟨FN 11,dc,[x0,x1,ag,ae (.ref LP),ag,x5,x6,x7,ae (.ref x.lm),ae (.ref RW),ae (.ref OD),bS,f,Y,ag,ag,ag,ag,ag,ag,ag,ag,ag,ag,ag,ag,ag,ag,ag,ag,ag,ag,ag,ag,ag,ag,ag,ag,ag,ag,ag,ag,ag]⟩) B a0 E:=by
 unfold vN;refine VG λG I O K i0 m o Z=>?_;obtain⟨j,z,b⟩:=K;have F:Ex d0 G:=hx.trans I;obtain l:=hx.len;obtain L:=c0.fQ;obtain X:=c0.bl;obtain R:=ba C.od;obtain T:=ba C.ju;obtain N:∀i∈f0,d0.length<=i/\i < B.length:=λi V=>by
  obtain⟨k,hk⟩:=Jm V;obtain⟨n,-,h⟩:=C.at_.get hk;exact⟨(C.low i V).1,ba h⟩
 obtain U:=C.qE;obtain w:=c0.at_.len;have A:(⟨x,bA,d0.length,B.length,B.length+7,LP,RW,OD,B.length+3,B.length+4,B.length+5,B.length+6,a9,f0,[B.length,B.length+1,B.length+2],M,bR,e0⟩:Ad).Ok:=
  ⟨c0.vU,c0.foot,λq hq=>by have:=c0.low q hq;exact⟨this.1,this.2.2.1,this.2.1,this.2.2.2⟩,⟨L.1,L.2.2.1⟩,⟨U.1,T,by show d0.length<=OD;exact CF 0 0 1 0 0 0 C.qE.1 C.qE.2 rfl,R⟩,N,λi V=>by
   simp only[bu,pP,tX]at V;show B.length<=i/\i < B.length+3
   lia,⟨by show B.length<=B.length+3;exact RR 0 3 rfl,by show B.length+3 < B.length+4;exact a4 _,by show B.length+4 < B.length+5;exact a4 _,by show B.length+5 < B.length+6;exact a4 _,by show B.length+6 < B.length+7;exact a4 _⟩,⟨h5,X,l⟩,by simp,h3,rfl,c0.q3,c0.ok,C.ok,by show total bR<=16;rw[C.iI];exact c0.nl.2,h0.symm,c0.cc⟩
 have S:LS (⟨x,bA,d0.length,B.length,B.length+7,LP,RW,OD,B.length+3,B.length+4,B.length+5,B.length+6,a9,f0,[B.length,B.length+1,B.length+2],M,bR,e0⟩:Ad) G:=
  ⟨F.g c0.lp,c0.at_.fr F λv v=>⟨id,id⟩,I.g C.ju,I.g C.od,C.at_.fr I λv v h=>h,i0,by rw[O];exact a4 _⟩
 obtain⟨n0,j0⟩:=c0.c1;have J:dO G [B.length,B.length+1,B.length+2] (M.map λv=>[]):=by
  exact VJ (w.symm.trans h3) j z b
 have D:LM (⟨x,bA,d0.length,B.length,B.length+7,LP,RW,OD,B.length+3,B.length+4,B.length+5,B.length+6,a9,f0,[B.length,B.length+1,B.length+2],M,bR,e0⟩:Ad) G (M.map λv=>[]) [] [] [] 0:=
  ⟨S,c0.good.fr F λv v=>id,J,m,o,Z,trivial,⟨_,F.g j0⟩,⟨_,F.g c0.c2⟩,λn hn=>by
   obtain⟨r,-,rfl⟩:=mx.mp hn;exact⟨a4 _,λv h=>nomatch h⟩,a4 _,λv h=>nomatch h⟩
 apply VI A D;exact λH ns as W u r0 o0 u0 s0 v0 p0 m0 l0 M' h1 h2=>q _ H ns as W u _ _ _ _ _ _ _ _ A rfl rfl M' h1 h2
def bG.len:∀{B:St} {X:ah eY} {M:ah Rd} {ns:ah aS},bG B X M ns->X.length=M.length:=by
 intro H E;induction E generalizing H with
 |nil=>
  intro D;cases D with
  |nil=>
   intro _ _;exact rfl
  |cons _ _=>
   intro _ h;exact h.elim
 |cons J I G=>
  intro D;cases D with
  |nil=>
   intro _ h;exact h.elim
  |cons _ _=>
   intro F;cases F with
   |nil=>
    intro h;exact h.elim
   |cons _ _=>
    intro h;rw[ft,ft,(G h.2)]
def VL (r:Rd)(n:aS)(m:AV):∃n',(jT r n m).2=[n']:=by
 by_cases h:m= .int 7/\r.1≠[]
 ·exact⟨n,by rw[Gi h]⟩
 ·exact⟨_,by rw[Gh h]⟩
def Ag {a0:AV->St->Prop}(h:B[i]? =ae (.list l))(hv:l[k]? =ae v)(hk:k < 4)(q:a0 v B):WP (iw (.ref i) (.int k)) B a0 E:=by
 refine lY h ?_ (v:=v) (by rw[eD];exact hv) q;generalize D:(k:Int)=j
 lia
theorem VM {a:Ad}{ns:ah aS}{b:ak}{d1 P0:ax AV}{c0:FL×ah (ax AV)->St->Prop}(d0:a.Ok)(a0:LM a B ns as W u b)(hk:k < 3)(C0:B[1]? =ae (.cell (ae (.int k))))(hb:b+1<=60)(hm:eg m)(l1:W.length<=100)(s1:u.length<=100)(q:∀H lV t d,LM a H lV as (W++[t]) (u++[d]) (b+1)->H[1]? =ae (.cell (ae (.int k)))->Fr (λi=>a.iy i/\i≠1) B H->c0 (.next,[x0,x1,ag,ae (.ref a.LP),ag,x5,x6,x7,ae (.ref a.x.lm),ae (.ref a.RW),ae (.ref a.OD),bS,f,ae m,ae (.ref a.NP),ae (.ref a.TD),ae (.ref a.DU),ae (.ref a.ON),d1,P0,ag,ik,iq,ir,ie,ig,ij,ag,ag,ag,ag,ag,ag,ag,ag,ag,ag,ag,ag,ag,ag,ag,ag]) H):
  WP (sq zh ⟨FN 11,dc,[x0,x1,ag,ae (.ref a.LP),ag,x5,x6,x7,ae (.ref a.x.lm),ae (.ref a.RW),ae (.ref a.OD),bS,f,ae m,ae (.ref a.NP),ae (.ref a.TD),ae (.ref a.DU),ae (.ref a.ON),d1,P0,ag,ik,iq,ir,ie,ig,ij,ag,ag,ag,ag,ag,ag,ag,ag,ag,ag,ag,ag,ag,ag,ag,ag]⟩) B c0 E:=by
 obtain o1:=d0.ord;obtain o2:=d0.lp;obtain o3:=d0.rows;obtain o4:=d0.bs;have h0:=d0.cQ;obtain u1:=a0.s.long;have N:=cy (show k < a.x.qs.length by rw[d0.q3];exact hk);have o:=cy (show k < a.cQ.length by rw[d0.nl];exact hk);have l0:=cy (show k < a.a9.length by rw[d0.ml];exact hk);generalize a.x.qs[k]'(by rw[d0.q3];exact hk)=qd at N;generalize a.cQ[k]'(by rw[d0.nl];exact hk)=np at o;generalize a.a9[k]'(by rw[d0.ml];exact hk)=md at l0;obtain⟨r,n,B0,s0,y1⟩:=a0.good.jS.get N;obtain⟨n2,I,V0⟩:=a0.pj.get o;rw[s0]at I;obtain I:=dp I;subst I;obtain⟨r2,V,a1⟩:=a0.s.at_.get l0;rw[B0]at V;obtain V:=dp V;subst V;obtain O0:=d0.zr r (cD B0);obtain K0:=a0.nb n (cD s0);obtain⟨n',Y⟩:=VL r n m;obtain p0:=cD o;obtain W0:=cD l0;obtain D:=h0 np p0;obtain G:=d0.a9 md W0;obtain n1:eZ a.x qd.g:=zS ⟨qd,cD N,rfl⟩;obtain E0:=d0.foot _ n1;obtain⟨F1,n0⟩:=a0.good.jS.dict (cD N);obtain F0:qd.g≠3:=λe=>by
  have:=a0.good.cA;rw[d0.cc.1]at this;rw[e,this]at n0;cases n0
 obtain h1:qd.g≠4:=λe=>by
  have:=a0.good.cR;rw[d0.cc.2]at this;rw[e,this]at n0;cases n0
 obtain F:a.bA<=qd.g/\qd.g < a.bB:=E0.elim (λh=>absurd h F0) λh=>h.elim (λh=>absurd h h1) id;have J1:B[4]? =ae (.cell (ae (.ref a.x.R))):=by have:=a0.good.cR;rwa [d0.cc.2]at this
 unfold zh;wtm_at "r";refine⟨(λh=>nomatch h.2),hY a0.td (.inl rfl) ?_⟩;wtm_at "r";refine Ag a0.good.R (by rw[dA,N];rfl) (by exact FI 1 3 1 4 hk rfl) ?_;wtm_at "r";refine UT y1 (by exact CF 0 0 1 60 0 60 K0.1 hb rfl) hm O0 λR i o0 Z j0 b1=>?_;obtain r0:=Z.get a0.td (by exact NT (TT F.2 (d0.c 2 5 rfl)));obtain B1:=Z.len;obtain H1:=ba b1;wtm_at "r";refine jv r0 (by exact FI 0 100 0 4096 l1 rfl) ?_;have J:Fr (λj=>j=a.TD) R (R.set a.TD (.list (W++[.ref i]))):=Fr.set rfl;obtain M0:(R.set a.TD (.list (W++[.ref i])))[a.TD]? =ae (.list (W++[.ref i])):=de r0;generalize R.set a.TD (.list (W++[.ref i]))=bF at *;have K:Fr (λj=>j=qd.g\/j=a.TD) B bF:=(Z.mono λi h=>.inl h).trans (J.mono λi h=>.inr h);obtain v1:=J.get b1 (by exact NT (TT (d0.t 5 8 rfl) (TT a0.s.long j0)));obtain z1:=J.len;obtain u0:=K.get a0.du (by exact NO (NT (TT F.2 (d0.c 2 6 rfl))) (NT ((d0.t 5 6 rfl))));obtain v0:=K.get C0 (by exact NO (NE (FI 5 0 2 0 (TT o4.1 F.1) rfl)) (NE (FI 5 0 2 0 (d0.c 0 5 rfl) rfl)));obtain Y0:=K.get a0.s.np (by exact NO (NT (TT F.2 (d0.c 2 4 rfl))) (NE ((d0.t 4 5 rfl))));obtain f1:=K.get a0.s.lp (by exact NO (NE (TT d0.lp.2 F.1)) (NE (TT d0.lp.2 (d0.c 1 5 rfl))));refine n_next ?_;wtm_at "r";refine⟨(λh=>nomatch h.2),hY u0 (.inl rfl) ?_⟩;wtm_at "r";refine bp (by simp) ?_;have L0:Ex bF (bF++[AO.list [.dB .none m (.int 0)]]):=Fr.app;obtain G0:(bF++[AO.list [.dB .none m (.int 0)]])[bF.length]? =ae (.list ([((.none,m,0):Thing)].map tA)):=g_last;have A0:(bF++[AO.list [.dB .none m (.int 0)]]).length=bF.length+1:=by rw[bK];rfl
 generalize bF++[AO.list [.dB .none m (.int 0)]]=bk at *;obtain C1:=L0.g v0;wtm_at "r";refine Ag (L0.g Y0) (by rw[dA,o];rfl) (by exact FI 1 3 1 4 hk rfl) ?_;wtm_at "r";refine bp (by simp) ?_;have i0:Ex bF (bk++[AO.list [.ref np]]):=L0.trans Fr.app;obtain Q0:(bk++[AO.list [.ref np]])[bk.length]? =ae (.list ([np].map .ref)):=g_last;obtain I0:=(Fr.app:Ex bk (bk++[AO.list [.ref np]])).get G0 id;have g1:(bk++[AO.list [.ref np]]).length=bk.length+1:=by rw[bK];rfl
 generalize bk++[AO.list [.ref np]]=cO at *;obtain A1:=i0.g v0;wtm_at "r";refine Ag (i0.g f1) (by rw[dA,l0];rfl) (by exact FI 1 3 1 4 hk rfl) ?_;wtm_at "r";refine bp (by simp) ?_;have z0:Ex bF (cO++[AO.list [pM md]]):=i0.trans Fr.app;obtain S0:(cO++[AO.list [pM md]])[cO.length]? =ae (.list ([md].map pM)):=g_last;obtain J0:=(Fr.app:Ex cO (cO++[AO.list [pM md]])).get I0 id;obtain Z0:=(Fr.app:Ex cO (cO++[AO.list [pM md]])).get Q0 id;have r1:(cO++[AO.list [pM md]]).length=cO.length+1:=by rw[bK];rfl
 generalize cO++[AO.list [pM md]]=dZ at *;have e0:Fr (λj=>j=qd.g\/j=a.TD) B dZ:=K.trans z0.any;wtm_at "r";refine F9 (M:=[r]) (ns:=[n]) (R:=[(.none,m,0)]) (c0:=[np]) (a9:=[md]) (b0:=b) rfl (λr' j1=>by rw[aJ.mp j1];exact O0) (λt ht=>by rw[aJ.mp ht];exact⟨.inl rfl,hm⟩) (λn' Y=>by rw[aJ.mp Y];exact K0) hb
  (V0.fr e0 λj U e=>by rw[aJ]at U;exact(E0).elim (λc2=>XX 4 3 (CH 3 0 1 3 (EG c2) (NV F0 ((EL c2)))) rfl) (λc2=>(e).elim (λc1=>XX 1 0 (CH 0 0 1 0 (CH 0 0 0 0 (CH 0 0 0 0 (CH 0 0 0 0 (d0.c 2 3 rfl) D.1) (EG U)) (EL c1)) F.2) rfl) (λc1=>XX 2 0 (CH 1 0 1 0 (CH 1 0 0 0 (CH 1 0 0 0 (d0.t 4 5 rfl) (EG c1)) (EL U)) D.2) rfl))) (a1.fr e0 λj U=>by rw[aJ]at U;subst U;exact⟨NO (NE (TT G.2.1 F.1)) (NE (TT G.2.1 (d0.c 1 5 rfl))),NO (NE (TT G.2.2.2 F.1)) (NE (TT G.2.2.2 (d0.c 1 5 rfl)))⟩) (by simp) (λj U w hw=>by rw[aJ]at U hw;subst U hw;exact⟨NE (TT G.2.1 (TT (d0.c 1 3 rfl) D.1)),NE (TT G.2.2.2 (TT (d0.c 1 3 rfl) D.1))⟩) (by simp) Z0 S0 J0 (by rw[aJ];exact NT (CF 2 0 1 0 1 0 (CH 2 0 0 0 (CH 2 0 0 0 (CH 1 0 1 0 D.2 (d0.t 4 8 rfl)) a0.s.long) K.len) (EG A0) rfl)) (by rw[aJ];exact NT (CF 2 0 0 0 1 0 (CH 2 0 0 0 (CH 2 0 0 0 (CH 1 0 1 0 D.2 (d0.t 4 8 rfl)) a0.s.long) K.len) i0.len rfl)) (by rw[aJ];exact NT (CF 2 0 0 0 1 0 (CH 2 0 0 0 (CH 1 0 1 0 D.2 (d0.t 4 8 rfl)) a0.s.long) K.len rfl)) λT ri m0 e1 U0 X=>?_
 obtain m0:dO T [np] (jT r n m).2:=m0;obtain X:T[ri]? =ae (.list ((jT r n m).1.map .int)):=X;have f0:Fr (λj=>j=np) dZ T:=e1.mono λj U=>aJ.mp U;obtain w0:=f0.get (z0.g u0) (by exact NT (CF 1 0 1 0 1 0 D.2 (d0.t 4 6 rfl) rfl));obtain E1:=ba X;obtain D1:=f0.len;wtm_at "r";refine jv w0 (by exact FI 0 100 0 4096 s1 rfl) ?_;have S:Fr (λj=>j=a.DU) T (T.set a.DU (.list (u++[.ref ri]))):=Fr.set rfl;obtain N0:(T.set a.DU (.list (u++[.ref ri])))[a.DU]? =ae (.list (u++[.ref ri])):=de w0;generalize T.set a.DU (.list (u++[.ref ri]))=dk at *;obtain T0:Fr (λj=>j=np\/j=a.DU) dZ dk:=(f0.mono λi h=>.inl h).trans (S.mono λi h=>.inr h);have g0:Fr (λj=>j=np\/j=a.DU) bF dk:=z0.any.trans T0;obtain y0:Fr (λj=>j=a.TD\/j=np\/j=a.DU) R dk:=(J.mono λi h=>.inl h).trans (g0.mono λi h=>.inr h);have O:Fr (λj=>j=qd.g\/j=a.TD\/j=np\/j=a.DU) B dk:=(Z.mono λi h=>.inl h).trans (y0.mono λi h=>.inr h);have L:∀i,(i=qd.g\/i=a.TD\/i=np\/i=a.DU)->a.iy i/\i≠1:=λi h=>by
  rcases h with h |h |h |h
  ·exact⟨.inr (.inl (by exact⟨TT F.1 (EG h),CF 0 0 1 0 1 0 (EL h) F.2 rfl⟩)),by exact NT (CF 5 0 0 0 2 0 (TT o4.1 F.1) (EG h) rfl)⟩
  ·exact⟨.inr (.inr (.inr (.inl h))),by exact NT (CF 5 0 0 0 2 0 (d0.c 0 5 rfl) (EG h) rfl)⟩
  ·exact⟨.inr (.inr (.inl (h ▸ p0))),by exact NT (CF 5 0 0 0 2 0 (CH 5 0 0 0 (d0.c 0 3 rfl) D.1) (EG h) rfl)⟩
  ·exact⟨.inr (.inr (.inr (.inr (.inl h)))),by exact NT (CF 5 0 0 0 2 0 (d0.c 0 6 rfl) (EG h) rfl)⟩
 obtain (⟨I1,m1⟩):=a0.c2;rw[Y]at o0 m0;obtain p1:Fr (gs a.x.qs) B R:=Z.mono λi h=>⟨qd,cD N,h⟩;obtain G1:Good a.x a.rs (ns.set k n') as R:=a0.good.rd p1 (a0.good.jS.upd N B0 d0.vU.sep Z o0);obtain G7:=G1.fr y0 λi l h=>by
  have H0:i < a.bB:=(d0.foot i l).elim (λe=>CF 0 3 5 0 1 0 (EL e) (d0.c 0 2 rfl) rfl) λk=>k.elim (λe=>CF 0 4 5 0 1 0 (EL e) (d0.c 0 2 rfl) rfl) λk=>k.2;exact h.elim (λe=>dP _ (TT H0 (TT (d0.c 2 5 rfl) (EG e)))) λk=>k.elim (λe=>dP _ (TT H0 (TT (TT (d0.c 2 3 rfl) D.1) (EG e)))) λe=>dP _ (TT H0 (TT (d0.c 2 6 rfl) (EG e)))
 have i1:dO dk a.cQ (ns.set k n'):=by
  obtain w1:dO dZ a.cQ ns:=a0.pj.fr e0 λj U e=>by have:=h0 j U;exact(E0).elim (λc2=>XX 4 3 (CH 3 0 1 3 (EG c2) (NV F0 ((EL c2)))) rfl) (λc2=>(e).elim (λc1=>XX 1 0 (CH 0 0 1 0 (CH 0 0 0 0 (CH 0 0 0 0 (d0.c 2 3 rfl) this.1) (EL c1)) F.2) rfl) (λc1=>XX 2 0 (CH 1 0 1 0 (CH 1 0 0 0 (d0.t 4 5 rfl) (EG c1)) this.2) rfl))
  obtain VN:=w1.upd o d0.nd e1 m0;exact VN.fr S λj U e=>by have:=h0 j U;exact XX 2 0 (CH 1 0 1 0 (CH 1 0 0 0 (d0.t 4 6 rfl) (EG e)) this.2) rfl
 obtain z:∀{i},a.bE<=i->a.Fz i:=λ{i} l t1=>by
  rcases t1 with h |h |h |h |h |h
  ·exact XX 6 5 (CH 5 0 1 5 (CH 5 0 0 0 (d0.c 0 8 rfl) l) h) rfl
  ·exact XX 1 0 (CH 0 0 1 0 (CH 0 0 0 0 (d0.c 2 8 rfl) l) h.2) rfl
  ·have:=h0 i h;exact XX 2 0 (CH 1 0 1 0 (CH 1 0 0 0 (d0.t 4 8 rfl) l) this.2) rfl
  ·exact XX 1 0 (CH 1 0 0 0 (CH 1 0 0 0 (d0.t 5 8 rfl) l) (EL h)) rfl
  ·exact XX 1 0 (CH 1 0 0 0 (CH 1 0 0 0 (d0.t 6 8 rfl) l) (EL h)) rfl
  ·exact XX 1 0 (CH 1 0 0 0 (CH 1 0 0 0 (d0.t 7 8 rfl) l) (EL h)) rfl
 obtain same:k8 a.Fz dk (.ref i) (.ref ri):=⟨_,i,ri,Vq,rfl,rfl,z (by exact TT a0.s.long j0),z (by exact TT a0.s.long (TT e0.len U0)),g0.get v1 (by exact NO (NT (CF 2 0 0 0 1 0 (CH 2 0 0 0 (CH 1 0 1 0 D.2 (d0.t 4 8 rfl)) a0.s.long) j0 rfl)) (NT (TT (d0.t 6 8 rfl) (TT a0.s.long j0)))),S.get X (by exact NT (CF 1 0 0 0 1 0 (CH 1 0 0 0 (CH 1 0 0 0 (d0.t 6 8 rfl) a0.s.long) e0.len) U0 rfl))⟩;refine n_next (x_nil (q dk (ns.set k n') (.ref i) (.ref ri) ⟨a0.s.fr d0 O λi l h=>(L i h).1,G7,i1,g0.get M0 (by exact NO (NT (CF 1 0 1 0 1 0 D.2 (d0.t 4 5 rfl) rfl)) (NE ((d0.t 5 6 rfl)))),N0,O.get a0.on (by exact NO (NT (TT F.2 (d0.c 2 7 rfl))) (NO (NT ((d0.t 5 7 rfl))) (NO (NT (CF 1 0 1 0 1 0 D.2 (d0.t 4 7 rfl) rfl)) (NT ((d0.t 6 7 rfl)))))),(a0.items.fr O λi l h=>l (L i h).1).snoc (.inl same),⟨_,O.get C0 λh=>(L 1 h).2 rfl⟩,⟨_,O.get m1 (by exact NO (NE (FI 5 0 3 0 (TT o4.1 F.1) rfl)) (NO (NE (FI 5 0 3 0 (d0.c 0 5 rfl) rfl)) (NO (NE (FI 5 0 3 0 (TT (d0.c 0 3 rfl) D.1) rfl)) (NE (FI 5 0 3 0 (d0.c 0 6 rfl) rfl)))))⟩,λq1 R0=>?_,xt a0.al,a0.af⟩ (O.get C0 λh=>(L 1 h).2 rfl) (O.mono L)));rcases Jk R0 with h |h
 ·have:=a0.nb q1 h;exact⟨by exact FI 0 0 0 1 this.1 rfl,this.2⟩
 ·rw[h];have:=Gu (M:=[r]) (R:=[(.none,m,0)]) (ns:=[n]) (b:=b) (λt ht=>by rw[aJ.mp ht];exact⟨.inl rfl,hm⟩) (λn' Y=>by rw[aJ.mp Y];exact K0) n' (by
   show n'∈(jT r n m).2;rw[Y];exact .head _)
  exact this
def LM.Gz {a:Ad}{ns:ah aS}{b:ak}(d0:a.Ok)(a0:LM a B ns as W u b)(c0:Fr (λi=>i=1) B H)(hc:∃v,H[1]? =ae (.cell v)):LM a H ns as W u b:=by
 obtain J:=d0.ord;obtain K:=d0.bs;obtain⟨I,G⟩:=a0.c2;exact⟨a0.s.fr d0 c0 λi w h=>.inl (by exact FI 0 1 1 5 (EL h) rfl),a0.good.fr c0 λi D e=>by have:=d0.foot i D;exact(this).elim (λF=>XX 3 1 (CH 3 0 0 1 (EG F) (EL e)) rfl) (λF=>(F).elim (λE=>XX 4 1 (CH 4 0 0 1 (EG E) (EL e)) rfl) (λE=>XX 5 1 (CH 5 0 0 1 (CH 5 0 0 0 (d0.c 0 1 rfl) E.1) (EL e)) rfl)),a0.pj.fr c0 λi D e=>by have:=d0.cQ i D;exact XX 5 1 (CH 5 0 0 1 (CH 5 0 0 0 (d0.c 0 3 rfl) this.1) (EL e)) rfl,c0.get a0.td (by exact NT (FI 5 0 2 0 (d0.c 0 5 rfl) rfl)),c0.get a0.du (by exact NT (FI 5 0 2 0 (d0.c 0 6 rfl) rfl)),c0.get a0.on (by exact NT (FI 5 0 2 0 (d0.c 0 7 rfl) rfl)),a0.items.fr c0 λi D e=>D (.inl (by exact FI 0 1 1 5 (EL e) rfl)),hc,⟨_,c0.get G (by exact NT (a4 _))⟩,a0.nb,a0.al,a0.af⟩
theorem VO {B:St}{a:Ad}{ns:ah aS}{e0 d0:ax AV}(c0:a.Ok)(a0:LM a B ns as W u 16)(ht:W.length<=16)(hd:u.length<=16):
  WP (sq vO ⟨FN 11,dc,[x0,x1,ag,ae (.ref a.LP),ag,x5,x6,x7,ae (.ref a.x.lm),ae (.ref a.RW),ae (.ref a.OD),bS,f,Y,ae (.ref a.NP),ae (.ref a.TD),ae (.ref a.DU),ae (.ref a.ON),e0,d0,ag,ik,iq,ir,ie,ig,ij,ag,ag,ag,ag,ag,ag,ag,ag,ag,ag,ag,ag,ag,ag,ag,ag]⟩) B (λx B=>WP (eQ x.1) B (λv q=>v= .bool aj) E) E:=by
 obtain o1:=c0.ord;obtain o4:=c0.bs;unfold vO;wtm_at "r";refine pn (by decide) (by decide) ?_;wtm_at "r";refine⟨rfl,?_⟩;refine lh (G:=λy=>eN) (c0:=λk I H=>(∃ns as W u,LM a H ns as W u (16+5 * k)/\W.length<=16+5 * k/\u.length<=16+5 * k)/\∃Y,I=[x0,x1,ag,ae (.ref a.LP),ag,x5,x6,x7,ae (.ref a.x.lm),ae (.ref a.RW),ae (.ref a.OD),bS,f,Y,ae (.ref a.NP),ae (.ref a.TD),ae (.ref a.DU),ae (.ref a.ON),e0,d0,ag,ik,iq,ir,ie,ig,ij,ag,ag,ag,ag,ag,ag,ag,ag,ag,ag,ag,ag,ag,ag,ag,ag]) (K:=mS 1 3 0)
  Yl.range (by decide) (λy y y y=>trivial) ⟨⟨ns,as,W,u,a0,ht,hd⟩,_,rfl⟩ ?_ ?_
 ·intros _ k v p0 F _ V b;obtain⟨w,i0⟩:=b;obtain (⟨Y,rfl⟩):=i0;obtain (⟨ns,as,W,u,a0,ht,hd⟩):=w;obtain⟨rfl,hk⟩:=wj V;rw[show(0:Int)+(k:Int)=k from uA _];obtain (⟨o0,m0⟩):=a0.c1;wtm_at "r";obtain L:Fr (λi=>i=1) F (F.set 1 (.cell (ae (.int k)))):=Fr.set rfl;obtain S:(F.set 1 (.cell (ae (.int k))))[1]? =ae (.cell (ae (.int k))):=de m0;obtain M2:=a0.Gz c0 L ⟨_,S⟩;generalize F.set 1 (.cell (ae (.int k)))=bF at *;refine bp (by simp) ?_;obtain U:Ex bF (bF++[AO.list [vS "a",vS "a.b",vS "ab",vS "b.a",.int 7]]):=Fr.app;obtain Q:(bF++[AO.list [vS "a",vS "a.b",vS "ab",vS "b.a",.int 7]])[bF.length]? =ae (.list [vS "a",vS "a.b",vS "ab",vS "b.a",.int 7]):=g_last;obtain D:=M2.s.long;generalize bF++[AO.list [vS "a",vS "a.b",vS "ab",vS "b.a",.int 7]]=bk at *;generalize bF.length=li at *;obtain N:=U.g S;obtain M3:=M2.Gz c0 U.any ⟨_,N⟩;refine fh Q ⟨rfl,?_⟩;refine lh (G:=λH=>H[li]? =ae (.list [vS "a",vS "a.b",vS "ab",vS "b.a",.int 7])) (c0:=λj I H=>(∃ns as W u,LM a H ns as W u (16+5 * k+j)/\W.length<=16+5 * k+j/\u.length<=16+5 * k+j)/\H[li]? =ae (.list [vS "a",vS "a.b",vS "ab",vS "b.a",.int 7])/\H[1]? =ae (.cell (ae (.int k)))/\∃Y,I=[x0,x1,ag,ae (.ref a.LP),ag,x5,x6,x7,ae (.ref a.x.lm),ae (.ref a.RW),ae (.ref a.OD),bS,f,Y,ae (.ref a.NP),ae (.ref a.TD),ae (.ref a.DU),ae (.ref a.ON),e0,d0,ag,ik,iq,ir,ie,ig,ij,ag,ag,ag,ag,ag,ag,ag,ag,ag,ag,ag,ag,ag,ag,ag,ag]) (K:=[vS "a",vS "a.b",vS "ab",vS "b.a",.int 7])
   (Yl.gM λH e=>e) (by decide) (λy y y h=>h.2.1) ⟨⟨ns,as,W,u,M3,ht,hd⟩,Q,N,_,rfl⟩ ?_ ?_
  ·intros _ j m u0 g0 _ V z;obtain⟨f0,l,Z,l0⟩:=z;obtain (⟨Y,rfl⟩):=l0;obtain (⟨ns,as,W,u,X,ht,hd⟩):=f0;obtain hj:j < 5:=ba V;obtain hm:eg m:=Gn m (by
    have:=cD V;simp only[bu,pP,tX]at this |-;rcases this with h |h |h |h |h <;>simp[h])
   refine cu rfl ?_;simp only[gB,gC];refine VM c0 X hk Z (by lia) hm (by lia) (by lia) λs0 o t d M5 h0 hf=>l_next ?_;refine⟨⟨o,as,_,_,M5,by rw[bK,uz];lia,by rw[bK,uz];lia⟩,hf.get l (λh=>?_),h0,_,rfl⟩;rcases h.1 with h |h |h |h |h |h
   ·exact XX 6 5 (CH 5 0 1 5 (CH 5 0 0 0 (c0.c 0 8 rfl) D) h) rfl
   ·exact XX 1 0 (CH 0 0 1 0 (CH 0 0 0 0 (c0.c 2 8 rfl) D) h.2) rfl
   ·have:=c0.cQ _ h;exact XX 2 0 (CH 1 0 1 0 (CH 1 0 0 0 (c0.t 4 8 rfl) D) this.2) rfl
   ·exact XX 1 0 (CH 1 0 0 0 (CH 1 0 0 0 (c0.t 5 8 rfl) D) (EL h)) rfl
   ·exact XX 1 0 (CH 1 0 0 0 (CH 1 0 0 0 (c0.t 6 8 rfl) D) (EL h)) rfl
   ·exact XX 1 0 (CH 1 0 0 0 (CH 1 0 0 0 (c0.t 7 8 rfl) D) (EL h)) rfl
  ·intros _ r0 g0 _ G;obtain⟨T,-,-,J⟩:=G;obtain (⟨Y,rfl⟩):=J;obtain (⟨ns,as,W,u,X,ht,hd⟩):=T;exact n_next (x_nil (l_next ⟨⟨ns,as,W,u,X,ht,hd⟩,_,rfl⟩))
 ·intros _ n0 F _ O;obtain⟨K,R⟩:=O;obtain (⟨Y,rfl⟩):=R;obtain (⟨ns,as,W,u,a0,-,-⟩):=K;obtain (⟨ds,h1,h2,h3⟩):=a0.items.data;obtain (⟨da,h4,h5⟩):=Gr a0.af;have j0:F[3]? =ae (.cell (ae (.ref a.x.A))):=by have:=a0.good.cA;rwa [c0.cc.1]at this
  refine n_next (x_sq (x_Ret (w_And (w_Cmp (aM rfl (aM rfl (w_eq (l6 a0.td h1) (l6 a0.du h2) (tr_bool ⟨λy=>?_,λc=>?_⟩))))))))
  ·refine w_Cmp (gr cl_asks j0 (aM rfl (w_eq (l6 a0.good.A (h4 6 F)) (l6 a0.on (h4 6 F)) (n_ret (r_ret ?_)))));rw[bY,h5]
  ·rw[bY,h3]at c;cases c
def VP:vP=sA++(vJ++(vK++(vN++vO))):=rfl
def VQ (l:ah Int):(uR l).run [] (λr c=>r= .ok (.bool aj)):=by
 have T:WP (uR l) [] (λv y=>v= .bool aj) (λy y=>dm):=by
  refine UU ?_;show WP (sq vP _) _ _ _;rw[VP];refine wo (U3 λV n1 LP O M J x5 x6 I F=>?_);refine wo (U7 I F λj x x7 E=>?_);refine wo (Vb E.num E.nl λz RW OD b R H K f Y hx G=>?_);obtain U:=ba I.c4;refine wo (VK E (by exact U) F hx G G.len.symm λa o ns as W u m Z X a0 c0 w S Q A e1 e2 D L N=>?_);exact VO A D L N
 exact P.mono _ (λr B h=>by
  cases r with
  |ok v=>exact bZ Res.ok h
  |err k=>exact h.elim) T
end Q
open PySem PySem.W PyProof.Rows
set_option maxHeartbeats 2000000
abbrev th:Hook where
 α:=_
 obs:=xQ
 val:=λu=>(rhs,ae (jY #[]))
 says:=λu h=>∃K:jw,K.In h/\lhs K=rhs/\h.get? 175=ae (jY #[])
 of:=λu s e=>⟨_,P' s.heap,bZ (·.1) e,bZ (·.2) e⟩
 keeps:=λu u u x k=>x.elim λK y=>⟨K,λa o e=>k _ _ (y.1 a o e),y.2.1,k _ _ y.2.2⟩
set_option tactic.hygienic true in def holds (D : ∀ l : ah Int, l.length ≤ 63 → (uR l).run [] (fun r c => r = .ok (.bool aj))) : PySem.Challenge.rw_oc0179_01.Holds := holds_law Qc fun VR => by
 refine holds_open (r:=PySem.Challenge.rw_oc0179_01.row) (q:=q0) (loose:=uZ) (Xt:=fun u=>aj) (XP:=fun u u=>eN) (Yf:=th.obs) (Ya:=th.val) (YP:=th.says) (N:=2016) Qh th.of th.keeps (fun u u=>trivial) (fun u u u u u=>trivial) (by rfl) (by rfl) (by rfl) (fun s u=>recFacts_of rfl) rfl VR (by decide +kernel) ⟨rfl,rfl,rfl,rfl,rfl,by decide +kernel⟩ ⟨[WData.list []],by decide +kernel,by decide +kernel⟩ ?_;intro w WC jk mg mb G Y fa o pm cd doc dV kV ho VS yw hD VT hg args vals as VU VV VW VX VY;obtain⟨K,KX,F,VZ⟩:=Y;have V4:∀ P∈[175],jk.heap.get? P=ae (jY #[]):=fun P hP=>by rw[aJ.mp hP];exact VZ
 refine Ground.open G ?_;intro T B D2 TE TW;clear VS yw hD ho
 wrow_args VU VV VW VX VY
 rename_i w5 hs V5 V6 V7 yk w4 w3 aa items w0 hL ra wl r0 hI hr WD qu;clear hs V5 V6 V7 yk ra wl r0 hr qu;have e1:=vE KX T.g (P9 F);have e2:fa=178:=by
  have:=VT.symm.trans e1;exact Value.ref.inj (dp this)
 subst e2;exact Qv T (by decide +kernel) F KX V4 hg hL hI (by lia) (D _ (by lia)) (λu=>rfl) (by wrow_post)
end Mine.Internal
theorem PySem.Challenge.cw_oc0179_01_holds : PySem.Challenge.rw_oc0179_01.Holds :=
 Mine.Internal.holds λl _=>Mine.Internal.Q.VQ l
