import PyProof.Rows.All
import Wide.All
import OpenK.AllK
import Wide.FinOn
import Lean
import PySem.Challenge.RW_wu0111_01
open And renaming intro->Gd
open Array renaming length_toList->fN,getElem?_toList->oV,toList_append->Ca,any_toList->F3,toList_push->Ly,forIn_toList->L6,size_push->L8,getElem_push_lt->Mz,getElem?_eq_none->Uy,getElem?_eq_getElem->akc,ext'->alB,ext->al3,size_setIfInBounds->al4,getElem_setIfInBounds->al5,all_eq_true'->amc,mem_toList_iff->amd
open Bool renaming and_eq_true->jQ,and_eq_true_iff->k8,false_eq_true->ly,false_ne_true->ue,eq_iff_iff->zM,not_eq_true'->Fz,or_eq_true->FJ,or_false->LY,or_eq_true_iff->TY,true_and->Uw,and_false->akL,and_self->alX
open ForInStep renaming yield->qU
open Function renaming comp->CC
open Int renaming ofNat_le->gV,toNat_natCast->gY,ofNat_sub->jT,le_antisymm->lA,ofNat_lt->qJ,toNat_of_nonneg->vD,natCast_nonneg->Fi,not_le->Fj,not_lt->Fl,fmod_eq_emod_of_nonneg->Gu,zero_mul->Lf,zero_add->Lg,one_mul->Lh,le_refl->Lj,ofNat->T_,add_zero->Ua,neg_mul->Ub,add_comm->Uc,fdiv_eq_ediv_of_nonneg->Ve,natAbs_natCast->Vf,add_assoc->ajN,mul_zero->ajO,mul_one->ajP,le_of_eq->ajQ,lt_of_lt_of_le->ajR,lt_add_one_of_le->ajS,fmod_nonneg_of_pos->alS
open List renaming mem_cons_self->aZ,mem_cons_of_mem->a_,mem_map->bg,length_map->bC,mem_singleton->bH,length_append->bQ,replicate->bV,map_map->bY,mem_append->cj,length_cons->cX,map_cons->ee,append_assoc->eO,getElem?_eq_some_iff->fF,getElem?_eq_getElem->fM,flatMap_cons->fQ,mem_append_right->gw,getElem?_set_ne->gX,map_append->gZ,mem_append_left->iF,append_nil->iH,getElem?_map->iW,mem_cons->iX,mem_filter->jq,nil_append->jt,map_nil->j_,getElem?_append_right->kJ,length_drop->kM,nodup_cons->lu,flatMap_append->lB,not_mem_nil->lW,all_eq_true->l6,length_nil->l7,range->l_,mem_of_getElem?->m_,flatten_cons->nc,replicate_succ->nX,drop_zero->nY,getElem?_append_left->pT,map->p_,getElem?_set_self->qN,length_take->qV,map_congr_left->sP,length_replicate->sQ,nodup_nil->uf,length_set->ug,lookup_cons->vH,find?_cons->vL,getElem?_drop->vM,length_singleton->vO,map_take->vP,length->xw,mem_flatMap->xA,nodup_append->zx,cons_append->zS,getLast?_append->zT,length_pos_iff->zU,getD_eq_getElem?_getD->zV,drop_drop->zY,mem_range->zZ,toList_toArray->Cb,drop_eq_getElem_cons->Cj,forIn_cons->Co,take_of_length_le->Cu,take_succ_cons->Cy,eq_nil_or_concat->CA,map_id->CB,getElem_mem->FY,mem_of_mem_take->F0,contains_iff_mem->F5,range'->Gb,drop_take->Gg,take_length->Gj,drop_left->Gm,concat_eq_append->Gp,take_append_drop->Gr,any_eq_false->LD,reverse_cons->LQ,length_eq_zero_iff->Mk,take_left->Mq,drop_left'->Mr,mem_flatten->Ms,getElem?_range->Mt,drop_of_length_le->Mu,singleton_append->Mv,flatMap_nil->Mw,eq_nil_of_length_eq_zero->Vj,filterMap_cons->Gf,all_cons->TU,getElem?_of_mem->Ui,drop_eq_nil_of_le->Ux,eq_of_mem_replicate->UG,mem_reverse->UH,Nodup->UN,pairwise_map->UO,flatten_append->U0,take_add_one->U9,range'_succ->Vb,extract->Vc,mem_of_getLast?->Vh,getLast?_eq_none_iff->Vi,isEmpty_iff->ajU,foldl->aj2,foldl_cons->aj3,filter_cons_of_pos->akr,filter_cons_of_neg->aks,map_reverse->akt,lookup_append->akA,getElem?_zip_eq_some->akC,take_sublist->akD,of_mem_zip->akF,any_cons->akG,size_toArray->akM,sum_cons->akT,takeWhile_cons_of_pos->akV,length_reverse->alq,getElem_of_mem->aly,head?->alC,take_nil->alD,getLast?_eq_getElem?->alE,map_set->alH,drop_succ_cons->alJ,take_append_of_le_length->alM,take_zero->alN,take_succ_eq_append_getElem->alQ,flatten_nil->alR,length_flatMap->alU,map_singleton->alV,length_tail->al2,mem_of_mem_tail->amb
open List.IsPrefix renaming length_le->ane
open List.Pairwise renaming nil->akx
open Nat renaming sub_add_cancel->aY,beq->bL,le_refl->bM,le_antisymm->dK,zero_le->eL,ne_of_lt->gu,le_trans->ic,ble->jm,not_lt->jn,mul_le_mul->ju,le_of_lt->j7,lt_succ_self->lz,mod_lt->lD,add_right_comm->nZ,add_zero->oW,succ_pos->oY,zero_add->pQ,le_add_right->pZ,add_mul->qI,sub_le->qW,le_succ->sH,le_total->sR,le_add_left->uB,max_eq_left->uD,ne_of_gt->vJ,succ->xm,div_add_mod->xy,max_eq_right->xB,lt_of_le_of_ne->xC,one_mul->zo,add_comm->zq,lt_of_le_of_lt->zu,lt_irrefl->zw,min_eq_left->zQ,mul_add->B5,lt_trans->Cp,min_le_left->Cq,add_assoc->Cz,not_le->Ff,lt_of_not_le->Fg,sub_self->Fx,lt_of_lt_of_le->FW,succ_mul->F6,sub_eq_zero_of_le->Gh,min_le_right->Gi,sub_zero->Gn,le_max_left->Gq,min_eq_right->Gs,zero_mul->Ld,le_of_eq->Le,add_sub_cancel_left->Lm,add_le_add_right->Ls,le_max_right->Mx,le_of_ble_eq_true->TS,mul_one->TV,mul_comm->TX,le_of_not_lt->TZ,le_of_lt_succ->Vk,lt_succ_of_le->Vq,add_le_add->ajI,mul_le_mul_right->ajJ,eq_of_beq_eq_true->ajK,mul_le_mul_left->ajL,not_succ_le_self->ajM,lt_succ_of_lt->akN,one_pos->alA,le_of_succ_le_succ->alF,succ_le_succ->alG,div_le_self->alL,add_le_add_left->alT,log2_lt->alW
open Nat.succ renaming inj->uA
open Ne renaming symm->pU
open Option renaming some->Y,none->Z,getD_some->F7,isNone_iff_eq_none->Mj,map->aj7
open Option.some renaming inj->iD,injEq->LU
open Prod renaming ext->Ug
open Prod.mk renaming injEq->B9
open PyProof renaming noPylong_small->zX
open PyProof.Rows renaming spliced_more->zA,spliced_none->Lo,tail_any->Lz,callWith_type->LH,IsTup->Mh,Subscript_->Up,isSubtype_of_subB->U',cnt_cons->Vg,cnt->anf,cnt_append->ang
open PySem renaming Str->H,Value->aa,PyData->af,Addr->ak,Shared->au,wpAny_bind->aB,Expr->ay,World->aC,wpAny->aF,sizeLine->aL,Pos->aV,model->aX,wpAny_pure->bf,Obj->bh,Stmt->bu,sizeLine_eq->bI,Sem->bT,Params->cH,wpAny_mono->cQ,Around->cR,Env->dw,Seg->dM,DictEntry->eY,Heap->fk,call->f_,starEach->gi,wpAny_of_eq->gH,code->gU,mainGlobals->gW,backTo->iG,codeAny->iY,cellsFrom->jS,wpAny_holding->j9,execs->kc,Scope->jo,wpAny_with_toks->kK,wpAny_standAt->kL,Model->k9,Tok->k_,binaryOp->lX,compareOp->lY,typeIs_str->lZ,rawInt->l8,exec->l9,FuncData->kI,builtinsNs->nV,Flow->pW,assign->pX,assignEach->pY,seg_execs_cons->qa,letOwnedTupleGo->qK,typeLookup->qO,typeLookup_type->qP,builtinLookup_eq_fast->qQ,NameKind->qR,foldedSetIterable->qS,notedBy->qT,GenState->sq,spliced->sA,pyNext->sG,bindArgs->sJ,wpAny_call->sM,Result->sN,OsState->xj,treeTable->zv,call_meets->uh,getItem->um,wpAny_rule->uq,wpAny_toks_of->ur,bindC->uw,IsPair->uz,Comprehension->sj,strIterType->vE,standAt->vF,swappedStores->vG,noteFrame->vI,CmpOp->xe,Program->xg,Code->xh,truthy->xo,leaving->xq,ZipApart->xu,wpAny_Constant_str->zy,inplaceOp->zC,swapsWith->zF,pyIter->zG,theTreesLotGoes->zH,bindL->zI,codeAny_func->zJ,getAttr->zL,wpAny_field->zO,Frame->z0,Operator->B6,loadName->B_,setItem->Ce,wpAny_Call_NameR->Cg,wpAny_execs_nil->Ck,wpAny_execs_cons->Cm,lineCuts->Cr,Builtin->Cs,holding->Ct,specialOf->Cw,strKind->Fv,isTrue->Fy,wpAny_call_entry->FE,backToKw->FH,cellOf->FL,compTurn->FN,comprehension->FP,firstIterPos->FT,newList->FU,newEnv->FZ,wpAny_ite_true->F8,unsupported->F9,wpAny_updateSeq->Ge,seg_execs_nil->Gx,callerA->Gy,wpAny_Name->Ln,MulOk->Lq,typeIs_int->Lv,seqIndex?->Lx,fitsSsize->LA,assignInOrder->LL,interactive->LM,swapsWithSole->LN,wpAny_Assign_stores->LO,closureFor->LP,pushCells_keeps->LR,codeAny_call_function->LV,methodCallPos->L0,wpAny_seqItems->Ma,wpAny_isInstance->Mc,asStr?->Me,wpAny_ite->Mf,Meets->Mi,BoolOp->Lk,Keyword->Ud,Arguments->Ue,sysModules->Uh,behindInMarks->Um,partValue->Uq,wpAny_evalPart_none->Ur,wpAny_callSpecial?_slot->Us,keywordEach->Uu,wpAny_Call_method->Uv,wpAny_assign_Name->Uz,wpAny_assignInOrder_none->UA,wpAny_assignInOrder_more->UB,wpAny_Expr_any->UC,assignAll->UD,cameBackBy->UE,codeAny_loop->UI,wpAny_noted->UJ,newFunctionEnv->UK,compPost->UL,mem_of_lookup->UM,InCallC->UP,strsFrom->UQ,linesOf->UR,methodCallForm->UW,valueAt->UX,wpAny_attempt->UZ,isSubtype_type->U1,isSubtype->U3,wpAny_nextOf_list_item->U4,codeAny_builtin->U8,wpAny_specialOf->Va,Protocol->Vn,seg_again->Vp,marksOver->Vs,ExceptHandler->ajT,importedModules->ajX,wpAny_loadName_cell->ajY,wpAny_storeName_local->ajZ,wpAny_BinOp->aj0,wpAny_getItem_list->aj4,subscripted->aj8,wpAny_Tuple->aj9,wpAny_Slice->aka,slot_list_setitem->akb,wpAny_typeOf->akd,attributeBase->akn,wpAny_assign_Tuple->ako,wpAny_pyIter_list->akp,wpAny_pyIter_enum->akq,wpAny_alloc->aku,wpAny_layCells->akv,cellsFrom_ok->akw,assignStores->akB,wpAny_newFunctionEnv_cells->akE,wpAny_loadPart->akJ,wpAny_askSetting->akK,arm_eval_Call->akO,wpAny_mkStr->akQ,wpAny_mkInt->akS,codeAny_call_builtin->akW,wpAny_nextOf_list_end->akX,wpAny_pyNext_zip_end->ak0,wpAny_pyNext_zip_item->ak1,wpAny_pyIter_zip->ak2,wpAny_Try_except->ak4,fillsMappingSlot->ak5,codeAny_of_tree->ald,wpAny_formatField_str->alm,foldedForSure->alo,constantsAlone->alp,sliceBounds->alu,wpAny_setFlight_noneW->alv,wpAny_typeNameOf'->alw,wpAny_raiseTypeError->alx,intBits_le_iff->alK,wpAny_newFunctionEnv->alO,recursionLimit->alP,seg_whileLoop->al1,wpAny_pyNext_gen->al8,plainId_quiet->al9
open PySem.Around renaming over->Vr,under_plainId->al7
open PySem.AutoListH renaming list___mul___list_int_3->am2
open PySem.AutoSeq1 renaming list_extend_list_list_0->am4,list___iadd___list_list_0->am8
open PySem.Bind renaming lastOf->alf
open PySem.Builtin renaming divisionGoesByPylong->Lp
open PySem.Builtin.List renaming listTooLong->Un,listSameRef->ama,listFitsIndex->am3,listSubscript?->am6,listTouch->anh
open PySem.Builtin.Range renaming rangeSize->uu,small->Cn,rangeFitsLong->alI
open PySem.Builtin.SmallTypes renaming ownedTupleIsFree->ana
open PySem.Builtin.Str renaming occurrences->nW,partsBetween->uy,subAt->xx,Writer->zP,strKind->F2,percentIntOf->F_,tooLong->L7,strSub->Mp,tableLookup->akR,strSliceIndices->als
open PySem.Calls renaming evalArgs_plain->FG,callWith_builtin->LG
open PySem.Challenge renaming rw_wu0111_01->B8,pw_wu0111_01->amR
open PySem.DictEntry renaming refKey->akH
open PySem.Env renaming kindOf->FO,blockKind->Uj
open PySem.Expr renaming Name->Ml,Attribute->aln,Starred->alz
open PySem.F renaming slot_str_split->LB,type_list_append->LC,slot_list_getattribute->L_,slot_zip_next->Mb,plain_extend_loop->MA,slot_list_iadd->Ut,entry_str_split->US,args_str_split_2->UT,slot_str_mod->U7,slot_int_rmul->aj1,slot_list_extend->aj5,slot_list_pop->aj6,plainAttrs_str->ake,slot_list_append->akf,slot_dict_get->akg,slot_str_replace->akh,slot_str_count->aki,slot_str_expandtabs->akj,slot_str_splitlines->akk,slot_str_translate->akl,type_str_replace->akm,entry_zip_next->akY,args_zip_next_1->akZ,fills_str_mod->ala,entry_str_mod->alb,args_str_mod_2->alc,entry_extend_loop->al6
open PySem.Flow renaming next->ajW
open PySem.Frame renaming marks->Vt,guarded->al0
open PySem.Heap renaming get?_push_of_some->ie,lt_size->iC,SameBut->pS,get?_push_size->qM,size_push->sO,get?_update_self->zN,NewExc->Cv,dictOf_iff->UY
open PySem.Heap.Ns renaming new->aky
open PySem.Heap.SameBut renaming update->sC
open PySem.IsL renaming update->Uo
open PySem.Keeper renaming frame->alh,machine->ali,boundFrame->alj
open PySem.Manifest renaming signature?->ale,toldItsClass->am9,varargsMethods->anb
open PySem.MeetsSeq renaming list_pop_at->am5
open PySem.NameKind renaming cell->jR,free->uv
open PySem.Obj renaming mapSeq->pV,putName->akI,mapSeq_push_plain->alg
open PySem.Operator renaming Add->am7
open PySem.PyData renaming int->jr,list->j8,str->oU,strOk->qX,canLay0->xD,canLayAll0->CD,tuple->CE,keyHash->Fp,depth->Gv,weight->Gw,eqv->My,layable0->Vl,eqvAll->Vm
open PySem.ScopeKind renaming isAnnotationScope->Uk,function->akz
open PySem.Sem renaming bind_eq_wrap->Vo,bind_eq_wrap'->alY,wrap_wrap->alZ
open PySem.SeqAt renaming noMix->FA
open PySem.Spec renaming countIn->Lu
open PySem.Str renaming ofString->sF,join->uC,length->alr
open PySem.StrLaws renaming LsSt->vN,lsNext->Mm,glued_eq_join->Vd
open PySem.Txt renaming replace->fP,slice->sD,split->xr,rstrip->zD,charAt->Cc,join->Ci,item->FD,rstripChars->FI,lines->F1,mul->Lr,count->LJ
open PySem.Unicode renaming isLineBreak->lC,isSpace->uE
open PySem.Value renaming none->ux,str->LK,type->MB,int->akP,ref->akU
open PySem.W renaming nsIn->ig,tabObj->iE,dictOf->jP,instObj->lq,findIn->oX,noRoadLSs->qY,piece_app->sr,segRun_of->sy,lookIn->vK,topFrame->Ft,WData->xE,peek->zR,keepIn->Cf,WRecords->CF,emptyDict->F4,methodObj->Gk,kp_binds->Gl,ReadsAllW->Gz,callWith_of->LI,codeRec_of->LX,typeIn->LZ,looks_nsIn->Ul,hasDictIn->UU,hideAll->U_,underscores->Vv,fencedOpening->ajV,handedOut_of->ak3
open PySem.W.Fast renaming te14364793385576792824->Fq,tw14364793385576792824->amZ,tw10110043849684766642->amY,te10110043849684766642->am0,te10274390034422433532->amS,te1435165496053646825->amT,te14289696077712309145->amU,te15667345088766844465->amV,te11892475500146522536->amW,te14374325043358763698->amX,te14082659384304107361->am1
open PySem.W.KPc renaming Good->Ga,turn->Mg,start->U5,obj_none->U6,ite_no->ak6,range_list->ak7,finish_ok->ak9
open PySem.W.KPt renaming hd2->ak8
open PySem.W.Looks renaming ld->alk
open PySem.W.SharedT renaming mk->B7
open PySem.W.WData renaming weightAll->ame
open PySem.W.WShape renaming hasAll->Vu,hasItems->amf
open PySem.World renaming withFollow->Ll
open PySem PySem.W PyProof.Rows
set_option Elab.async false
set_option linter.all false
set_option maxRecDepth 100000
set_option maxHeartbeats 8000000
set_option genInjectivity false
set_option genSizeOf false
namespace Mine
noncomputable section
@[elab_as_elim] theorem V{C:Sort u}{P:C->Prop}{a b:C}(h:a=b)(p:P b):P a:=by subst h;exact p
@[elab_as_elim] theorem az{C:Sort u}{P:C->Prop}{a b:C}(h:b=a)(p:P b):P a:=by subst h;exact p
section
variable {C:Sort u} {U:Sort v} {o:Sort w} {δ:Sort z} {A B q D E G:Prop} {P Q R S T:C->Prop} {m I J K L:C->U->Prop} {M N O s EO:C->U->o->Prop} {W X t y F:C->U->o->δ->Prop}
theorem iI(a:C)(b:U)(d:m a b)(e:I a b):∃a,∃b,m a b/\I a b:=⟨a,b,d,e⟩
theorem ah(a:C)(d:P a)(e:Q a):∃a,P a/\Q a:=⟨a,d,e⟩
theorem bJ(d:A)(e:B)(f:q):A/\B/\q:=⟨d,e,f⟩
theorem bk(a:C)(d:P a)(e:Q a)(f:R a):∃a,P a/\Q a/\R a:=⟨a,d,e,f⟩
theorem gx(a:C)(b:U)(d:m a b)(e:I a b)(f:J a b):∃a,∃b,m a b/\I a b/\J a b:=⟨a,b,d,e,f⟩
theorem g5(d:A)(e:B)(f:q)(j:D):A/\B/\q/\D:=⟨d,e,f,j⟩
theorem sS(d:A)(e:B)(f:q)(j:D)(r:E):A/\B/\q/\D/\E:=⟨d,e,f,j,r⟩
theorem xF(a:C)(b:U)(c:o)(d:M a b c)(e:N a b c):∃a,∃b,∃c,M a b c/\N a b c:=⟨a,b,c,d,e⟩
theorem dU(a:C)(b:U)(d:m a b):∃a,∃b,m a b:=⟨a,b,d⟩
theorem g8(a:C)(d:P a)(e:Q a)(b:U)(f:m a b):∃a,P a/\Q a/\∃b,m a b:=⟨a,d,e,b,f⟩
theorem eS(a:C)(d:P a)(b:U)(e:m a b)(f:I a b)(j:J a b):∃a,P a/\∃b,m a b/\I a b/\J a b:=⟨a,d,b,e,f,j⟩
theorem mh(a:C)(d:P a)(e:Q a)(b:U)(f:m a b)(c:o)(j:M a b c)(r:N a b c):∃a,P a/\Q a/\∃b,m a b/\∃c,M a b c/\N a b c:=⟨a,d,e,b,f,c,j,r⟩
theorem cJ(a:C)(d:P a)(e:Q a)(b:U)(f:m a b)(j:I a b):∃a,P a/\Q a/\∃b,m a b/\I a b:=⟨a,d,e,b,f,j⟩
theorem bR(d:A)(a:C)(e:P a)(f:Q a):A/\∃a,P a/\Q a:=⟨d,a,e,f⟩
theorem n6(a:C)(b:U)(c:o)(g:δ)(d:W a b c g)(e:X a b c g)(f:t a b c g)(j:y a b c g)(r:F a b c g):∃a,∃b,∃c,∃g,W a b c g/\X a b c g/\t a b c g/\y a b c g/\F a b c g:=⟨a,b,c,g,d,e,f,j,r⟩
theorem bG(a:C)(d:P a)(b:U)(e:m a b)(f:I a b):∃a,P a/\∃b,m a b/\I a b:=⟨a,d,b,e,f⟩
theorem fG(a:C)(d:P a)(e:Q a)(f:R a)(j:S a):∃a,P a/\Q a/\R a/\S a:=⟨a,d,e,f,j⟩
theorem fH(a:C)(b:U)(c:o)(d:M a b c)(e:N a b c)(f:O a b c)(j:s a b c)(r:EO a b c):∃a,∃b,∃c,M a b c/\N a b c/\O a b c/\s a b c/\EO a b c:=⟨a,b,c,d,e,f,j,r⟩
theorem qZ(a:C)(d:P a)(b:U)(e:m a b)(c:o)(f:M a b c)(j:N a b c)(r:O a b c):∃a,P a/\∃b,m a b/\∃c,M a b c/\N a b c/\O a b c:=⟨a,d,b,e,c,f,j,r⟩
theorem oZ(a:C)(b:U)(d:m a b)(e:I a b)(f:J a b)(j:K a b):∃a,∃b,m a b/\I a b/\J a b/\K a b:=⟨a,b,d,e,f,j⟩
theorem mj(d:A)(e:B)(a:C)(f:P a)(j:Q a):A/\B/\∃a,P a/\Q a:=⟨d,e,a,f,j⟩
theorem z3(a:C)(b:U)(c:o)(d:M a b c)(e:N a b c)(f:O a b c):∃a,∃b,∃c,M a b c/\N a b c/\O a b c:=⟨a,b,c,d,e,f⟩
theorem nh(a:C)(d:P a)(b:U)(e:m a b)(c:o)(f:M a b c)(j:N a b c):∃a,P a/\∃b,m a b/\∃c,M a b c/\N a b c:=⟨a,d,b,e,c,f,j⟩
theorem mq(a:C)(b:U)(c:o)(d:M a b c):∃a,∃b,∃c,M a b c:=⟨a,b,c,d⟩
theorem xG(a:C)(b:U)(c:o)(d:M a b c)(e:N a b c)(f:O a b c)(j:s a b c):∃a,∃b,∃c,M a b c/\N a b c/\O a b c/\s a b c:=⟨a,b,c,d,e,f,j⟩
theorem aD(h:∃a,P a/\Q a)(k:∀(a:C) (d:P a) (e:Q a),G):G:=h.elim λa i=>k a i.1 i.2
theorem cC(h:∃a,∃b,m a b)(k:∀(a:C) (b:U) (d:m a b),G):G:=h.elim λa i=>i.elim λb l=>k a b l
theorem Ea(h:A/\B)(k:∀(d:A) (e:B),G):G:=k h.1 h.2
theorem o9(h:∃a,∃b,m a b/\I a b/\J a b)(k:∀(a:C) (b:U) (d:m a b) (e:I a b) (f:J a b),G):G:=h.elim λa i=>i.elim λb l=>k a b l.1 l.2.1 l.2.2
theorem sU(h:∃a,∃b,m a b/\I a b)(k:∀(a:C) (b:U) (d:m a b) (e:I a b),G):G:=h.elim λa i=>i.elim λb l=>k a b l.1 l.2
theorem sV(h:∃a,∃b,∃c,M a b c/\N a b c)(k:∀(a:C) (b:U) (c:o) (d:M a b c) (e:N a b c),G):G:=h.elim λa i=>i.elim λb l=>l.elim λc n=>k a b c n.1 n.2
theorem Ex(h:∃a,P a)(k:∀(a:C) (d:P a),G):G:=h.elim λa i=>k a i
theorem gy(h:A/\B/\q)(k:∀(d:A) (e:B) (f:q),G):G:=k h.1 h.2.1 h.2.2
theorem jU(h:∃a,P a/\Q a/\R a)(k:∀(a:C) (d:P a) (e:Q a) (f:R a),G):G:=h.elim λa i=>k a i.1 i.2.1 i.2.2
theorem q8(h:∃a,∃b,∃c,∃g,W a b c g/\X a b c g/\t a b c g/\y a b c g/\F a b c g)(k:∀(a:C) (b:U) (c:o) (g:δ) (d:W a b c g) (e:X a b c g) (f:t a b c g) (j:y a b c g) (r:F a b c g),G):G:=h.elim λa i=>i.elim λb l=>l.elim λc n=>n.elim λg p=>k a b c g p.1 p.2.1 p.2.2.1 p.2.2.2.1 p.2.2.2.2
theorem uF(h:A/\B/\q/\D)(k:∀(d:A) (e:B) (f:q) (j:D),G):G:=k h.1 h.2.1 h.2.2.1 h.2.2.2
theorem uG(h:∃a,∃b,∃c,M a b c/\N a b c/\O a b c/\s a b c/\EO a b c)(k:∀(a:C) (b:U) (c:o) (d:M a b c) (e:N a b c) (f:O a b c) (j:s a b c) (r:EO a b c),G):G:=h.elim λa i=>i.elim λb l=>l.elim λc n=>k a b c n.1 n.2.1 n.2.2.1 n.2.2.2.1 n.2.2.2.2
theorem GA(h:∃a,∃b,m a b/\I a b/\J a b/\K a b)(k:∀(a:C) (b:U) (d:m a b) (e:I a b) (f:J a b) (j:K a b),G):G:=h.elim λa i=>i.elim λb l=>k a b l.1 l.2.1 l.2.2.1 l.2.2.2
theorem xH(h:∃a,P a/\Q a/\R a/\S a)(k:∀(a:C) (d:P a) (e:Q a) (f:R a) (j:S a),G):G:=h.elim λa i=>k a i.1 i.2.1 i.2.2.1 i.2.2.2
theorem vQ(h:∃a,∃b,∃c,M a b c/\N a b c/\O a b c)(k:∀(a:C) (b:U) (c:o) (d:M a b c) (e:N a b c) (f:O a b c),G):G:=h.elim λa i=>i.elim λb l=>l.elim λc n=>k a b c n.1 n.2.1 n.2.2
theorem xJ(h:∃a,∃b,∃c,M a b c)(k:∀(a:C) (b:U) (c:o) (d:M a b c),G):G:=h.elim λa i=>i.elim λb l=>l.elim λc n=>k a b c n
theorem Vw(h:∃a,∃b,∃c,∃g,W a b c g/\X a b c g/\t a b c g/\y a b c g)(k:∀(a:C) (b:U) (c:o) (g:δ) (d:W a b c g) (e:X a b c g) (f:t a b c g) (j:y a b c g),G):G:=h.elim λa i=>i.elim λb l=>l.elim λc n=>n.elim λg p=>k a b c g p.1 p.2.1 p.2.2.1 p.2.2.2
theorem GB(h:A/\B/\q/\D/\E)(k:∀(d:A) (e:B) (f:q) (j:D) (r:E),G):G:=k h.1 h.2.1 h.2.2.1 h.2.2.2.1 h.2.2.2.2
theorem Vx(h:A/\∃a,P a/\Q a)(k:∀(d:A) (a:C) (e:P a) (f:Q a),G):G:=h.2.elim λa i=>k h.1 a i.1 i.2
theorem GD(h:∃a,∃b,∃c,∃g,W a b c g/\X a b c g/\t a b c g)(k:∀(a:C) (b:U) (c:o) (g:δ) (d:W a b c g) (e:X a b c g) (f:t a b c g),G):G:=h.elim λa i=>i.elim λb l=>l.elim λc n=>n.elim λg p=>k a b c g p.1 p.2.1 p.2.2
theorem Vy(h:∃a,∃b,∃c,M a b c/\N a b c/\O a b c/\s a b c)(k:∀(a:C) (b:U) (c:o) (d:M a b c) (e:N a b c) (f:O a b c) (j:s a b c),G):G:=h.elim λa i=>i.elim λb l=>l.elim λc n=>k a b c n.1 n.2.1 n.2.2.1 n.2.2.2
end
theorem amg{P:Prop}(h:∀G:Prop,(P->G)->G):P:=h P id
@[elab_as_elim] theorem bN{C:Type u}{P:C->Prop}{x a:C}{l:List C}(h:x∈a::l)(p:P a)(d:x∈l->P x):P x:=by
 cases h with
 |head=>exact p
 |tail _ h=>exact d h
@[elab_as_elim] theorem rwh{C:Sort u}{P:C->Prop}{a b:C}(h:a=b)(p:P a):P b:=by subst h;exact p
@[elab_as_elim] theorem q9{C:Type u}{P:C->Prop}{x a:C}(h:x∈[a])(p:P a):P x:=bN h p λh=>nomatch h
@[elab_as_elim] theorem ni{C:Type u}{P:C->Prop}{x a b:C}(h:x∈[a,b])(p:P a)(d:P b):P x:=bN h p λh=>q9 h d
@[elab_as_elim] theorem GF{C:Type u}{P:C->Prop}{x a b c:C}(h:x∈[a,b,c])(p:P a)(d:P b)(r:P c):P x:=bN h p λh=>ni h d r
namespace La
noncomputable abbrev h0(l:List Nat):Nat:=l.headD 0
noncomputable abbrev hL(l:List (List Nat)):List Nat:=l.headD []
noncomputable def den:List Nat->List Nat->Nat
 |x::xs,k::a=>k*x+den xs a
 |_,_=>0
noncomputable def add:List Nat->List Nat->List Nat
 |[],b=>b
 |x::a,b=>(x+h0 b)::add a b.tail
noncomputable def mul(k:Nat)(l:List Nat):List Nat:=l.map (k*·)
noncomputable def le:List Nat->List Nat->Bool
 |[],_=>true
 |x::a,b=>x.ble (h0 b)&&le a b.tail
noncomputable def vr:Nat->List Nat
 |0=>[1]
 |n+1=>0::vr n
noncomputable def vR:List Nat->Nat->Nat
 |[],_=>0
 |x::_,0=>x
 |_::xs,n+1=>vR xs n
noncomputable def o_(l:List Nat):Bool:=l.tail.all<|bL 0
theorem dc(x xs b):den (x::xs) b=h0 b*x+den xs b.tail:=by
 cases b with
 |nil=>refine(?_:0=0*x+den xs []);rw[Ld,pQ];cases xs<;>rfl
 |cons k b=>rfl
theorem dn(d):den d []=0:=by cases d<;>rfl
theorem jV(d a b):den d (add a b)=den d a+den d b:=by
 induction d generalizing a b with
 |nil=>rfl
 |cons x d g=>
  cases a with
  |nil=>exact(pQ _).symm
  |cons k a=>rw[dc,dc,dc _ _ b];refine(?_:(k+h0 b)*x+den d (add a b.tail)=k*x+den d a+_);rw[g,qI,Nat.add_add_add_comm]
theorem pe(d k a):den d (mul k a)=k*den d a:=by
 induction d generalizing a with
 |nil=>rfl
 |cons x d g=>
  cases a with
  |nil=>rfl
  |cons m a=>exact(congr (congrArg _<|Nat.mul_assoc k m x)<|g a).trans (B5 ..).symm
theorem z4(d a b)(h:le a b=true):den d a<=den d b:=by
 induction d generalizing a b with
 |nil=>exact bM _
 |cons x d g=>
  cases a with
  |nil=>exact eL _
  |cons k a=>
   have h:=k8.mp h
   rw[dc _ _ b]
   exact ajI (ajJ _<|TS h.1)<|g a _ h.2
theorem GG(d i):den d (vr i)=vR d i:=by
 induction d generalizing i with
 |nil=>cases i<;>rfl
 |cons x d g=>
  cases i with
  |zero=>refine(?_:1*x+den d []=x);rw[dn,zo];rfl
  |succ i=>refine(?_:0*x+_=_);rw[Ld,pQ];exact g i
theorem GH(d)(a:List Nat)(h:a.all (bL 0)=true):den d a=0:=by
 induction d generalizing a with
 |nil=>rfl
 |cons x d g=>
  cases a with
  |nil=>rfl
  |cons k a=>
   have h:=k8.mp<|TU▸h
   refine(?_:k*x+den d a=0)
   rw[g _ h.2,<-ajK h.1];exact Ld x
theorem xK(d a)(h:o_ a=true):den (1::d) a=h0 a:=by
 rw[dc,GH _ _ h,TV];rfl
noncomputable abbrev mv(c:Nat):Nat:=cond (bL (c%64) 0) (c/64/64%64^(c/64%64))<|c%64
noncomputable abbrev ms(c:Nat):Nat:=cond (bL (c%64) 0) (c/64/64/64^(c/64%64))<|c/64
def n7(t a b:Nat):Prop:=cond (bL t 4) (a<=b)<|cond (bL t 5) (a<b)<|cond (bL t 8) (¬a<=b)<|cond (bL t 9) (¬a<b)<|a=b
def lo(t:Nat)(a b:List Nat):List Nat:=cond (bL t 4) a<|cond (bL t 5) (add [1] a)<|cond (bL t 8) (add [1] b)<|cond (bL t 9) b<|cond (bL t 7) b a
noncomputable def hi(t:Nat)(a b:List Nat):List Nat:=cond (bL t 4) b<|cond (bL t 5) b<|cond (bL t 8) a<|cond (bL t 9) a<|cond (bL t 7) a b
def gl(t m:Nat)(a b A B:List Nat):Bool:=le (add [1]<|add (mul m<|hi t a b) B)<|add (mul m<|lo t a b) A
noncomputable def op(t:Nat)(x y:Nat):Nat:=cond (bL t 2) (x+y)<|x*y
def vS(t:Nat)(a b:List Nat):List Nat:=cond (bL t 2) (add a b)<|cond (o_ b) (mul (h0 b) a)<|mul (h0 a) b
noncomputable def lv(c:Nat):Nat:=cond (jm 16<|c%64) (c%64-16)<|c/64/64%64^(c/64%64)
noncomputable def ln(c:Nat):Nat:=cond (jm 16<|c%64) (c/64)<|c/64/64/64^(c/64%64)
noncomputable def z5(t:Nat):Bool:=jm 16 t||bL t 1
def vU(t:Nat)(a b:List Nat):Bool:=cond (bL t 2) true<|o_ a||o_ b
noncomputable def T(d:List Nat):Nat->Nat->List Nat->Prop
 |0,_,_=>True
 |f+1,c,q=>
  cond (jm 32<|c%64) (T d f (c/64) (vR d (c%64-32)::q))
  (cond (z5<|c%64) (T d f (ln c) (lv c::q))
  (cond (jm (c%64) 3) (T d f (c/64) (op (c%64) (h0 q.tail) (h0 q)::q.tail.tail))
  (cond (jm (c%64) 9) (n7 (c%64) (h0 q.tail) (h0 q)->T d f (ms<|c/64) q.tail.tail)
  (cond (bL (c%64) 10) (n7 4 (h0 q.tail)<|h0 q)<|cond (bL (c%64) 11) (n7 5 (h0 q.tail)<|h0 q) False))))
noncomputable def S:Nat->Nat->List (List Nat)->List Nat->List Nat->Bool
 |0,_,_,_,_=>true
 |f+1,c,q,A,B=>
  cond (jm 32<|c%64) (S f (c/64) ((0::vr (c%64-32))::q) A B)
  (cond (z5<|c%64) (S f (ln c) ([lv c]::q) A B)
  (cond (jm (c%64) 3) (vU (c%64) (hL q.tail) (hL q)&&S f (c/64) (vS (c%64) (hL q.tail) (hL q)::q.tail.tail) A B)
  (cond (jm (c%64) 9) (S f (ms<|c/64) q.tail.tail (add A<|mul (mv<|c/64)<|lo (c%64) (hL q.tail)<|hL q)<|add B<|mul (mv<|c/64)<|hi (c%64) (hL q.tail)<|hL q)
  (cond (bL (c%64) 10) (gl 8 (mv<|c/64) (hL q.tail) (hL q) A B)<|cond (bL (c%64) 11) (gl 9 (mv<|c/64) (hL q.tail) (hL q) A B)<|le (add [1] B) A))))
theorem gz(d a):den (1::d) (add [1] a)=den (1::d) a+1:=by
 rw[jV,zq];exact congrArg (den (1::d) a+·)<|by refine(?_:1*1+den d []=1);rw[dn]
theorem rl{d t a b}:n7 t (den (1::d) a) (den (1::d) b)->den (1::d) (lo t a b)<=den (1::d) (hi t a b):=by
 delta n7 lo hi
 cases bL t 4 with
 |true=>exact id
 |false=>
  cases bL t 5 with
  |true=>exact λh=>(gz d a).symm▸h
  |false=>
   cases bL t 8 with
   |true=>exact λh=>(gz d b).symm▸Ff.mp h
   |false=>
    cases bL t 9 with
    |true=>exact jn.mp
    |false=>cases bL t 7<;>first|exact Le|exact λh=>Le<|Eq.symm h
theorem z8{d m A B a b}(i:den d A<=den d B)(h:den d a<=den d b):den d (add A<|mul m a)<=den d (add B<|mul m b):=by
 rw[jV,jV,pe,pe]
 exact ajI i<|ajL _ h
theorem gn{d t m a b A B}(i:den (1::d) A<=den (1::d) B)(h:gl t m a b A B=true)(k:n7 t (den (1::d) a) (den (1::d) b)):False:=by
 have c:=z8 (m:=m) i<|rl k
 have j:=z4 (1::d) _ _ h
 rw[gz,jV,jV] at j
 rw[jV,jV,zq,zq (den _ B)] at c
 exact ajM _<|ic j c
theorem pg{b:Bool}{p q:Prop}{x y:Bool}(h:cond b x y=true)(c:x=true->p)(j:y=true->q):cond b p q:=by
 cases b
 ·exact j h
 ·exact c h
theorem GI{d t a b}(h:vU t a b=true):den (1::d) (vS t a b)=op t (den (1::d) a) (den (1::d) b):=by
 delta op vS
 delta vU at h
 cases e:bL t 2 with
 |true=>exact jV ..
 |false=>
  rw[e] at h
  cases q:o_ b with
  |true=>exact(pe ..).trans<|by rw[xK d _ q,TX];rfl
  |false=>exact(pe ..).trans<|by rw[xK d _ ((TY.mp h).resolve_right<|by rw[q];exact ue)];rfl
theorem run(d:List Nat):∀(f c:Nat) (ls:List (List Nat)) (A B:List Nat),den (1::d) A<=den (1::d) B->S f c ls A B=true->T d f c (ls.map<|den (1::d)):=by
 intro f
 induction f with
 |zero=>intros;trivial
 |succ f g=>
  intro c ls A B i h
  have m:∀ls:List (List Nat),h0 (ls.map<|den (1::d))=den (1::d) (hL ls):=λls=>by cases ls<;>rfl
  have n:∀ls:List (List Nat),(ls.map<|den (1::d)).tail=ls.tail.map (den (1::d)):=λls=>by cases ls<;>rfl
  have b:∀{c:Nat} {z:Nat} {l:List Nat} {ls:List (List Nat)},den (1::d) l=z->S f c (l::ls) A B=true->T d f c (z::ls.map (den (1::d))):=λ{c z l ls} e k=>e▸g c (l::ls) A B i k
  have o:∀k:Nat,den (1::d) [k]=k:=λk=>by refine(?_:k*1+den d []=k);rw[dn,TV];rfl
  refine(?_:cond _ _ _)
  rw[n,n,m,m]
  refine pg h (b<|by refine(?_:0*1+_=_);rw[GG,Ld,pQ]) λh=>pg h (b<|o _) λh=>pg h (λh=>b (GI (k8.mp h).1) (k8.mp h).2) λh=>pg h (λh k=>g _ _ _ _ (z8 i<|rl k) h) λh=>pg h (λh=>TZ λk=>gn i h<|Ff.mpr k) λh=>pg h (λh=>Fg λk=>gn i h<|jn.mpr k) λh=>?_
  have j:=z4 (1::d) _ _ h
  rw[gz] at j
  exact ajM _<|ic j i
theorem ls(a b:Nat):a<=a-b+b:=Nat.le_add_of_sub_le<|bM _
theorem sp{a b k:Nat}(h:k<a-b):a-b+b=a:=aY<|j7<|Nat.lt_of_sub_pos<|zu (eL k) h
def ok(c:Nat):Bool:=S 99 c [] [] []
def P(d:List Nat)(c:Nat):Prop:=T d 99 c []
end La
theorem la(c:Nat)(d:List Nat)(h:La.ok c=true):La.P d c:=La.run d 99 c [] [] [] (bM _) h
namespace Li
noncomputable abbrev h0(l:List Int):Int:=l.headD 0
noncomputable abbrev hL(l:List (List Int)):List Int:=l.headD []
noncomputable def den:List Int->List Int->Int
 |x::xs,k::a=>k*x+den xs a
 |_,_=>0
noncomputable def add:List Int->List Int->List Int
 |[],b=>b
 |x::a,b=>(x+h0 b)::add a b.tail
noncomputable def mul(k:Int)(l:List Int):List Int:=l.map (k*·)
noncomputable def zz:Int->Bool
 | .ofNat n=>bL n 0
 |_=>false
noncomputable def nn:Int->Bool
 | .ofNat _=>true
 |_=>false
noncomputable def o_(l:List Int):Bool:=l.tail.all zz
noncomputable def le(a b:List Int):Bool:=nn (h0<|add b<|mul (-1) a)&&o_ (add b<|mul (-1) a)
noncomputable def vr:Nat->List Int
 |0=>[1]
 |n+1=>0::vr n
noncomputable def vR:List Int->Nat->Int
 |[],_=>0
 |x::_,0=>x
 |_::xs,n+1=>vR xs n
theorem dn(d):den d []=0:=by cases d<;>rfl
theorem dc(x xs b):den (x::xs) b=h0 b*x+den xs b.tail:=by
 cases b with
 |nil=>refine(?_:0=0*x+den xs []);rw[Lf,Lg,dn]
 |cons k b=>rfl
theorem jV(d a b):den d (add a b)=den d a+den d b:=by
 induction d generalizing a b with
 |nil=>rfl
 |cons x d g=>
  cases a with
  |nil=>exact(Lg _).symm
  |cons k a=>
   rw[dc,dc,dc _ _ b]
   refine(?_:(k+h0 b)*x+den d (add a b.tail)=k*x+den d a+_)
   rw[g,Int.add_mul,ajN,ajN,Int.add_left_comm (h0 b*x)]
theorem pe(d k a):den d (mul k a)=k*den d a:=by
 induction d generalizing a with
 |nil=>exact(ajO k).symm
 |cons x d g=>
  cases a with
  |nil=>exact(ajO k).symm
  |cons m a=>exact(congr (congrArg _<|Int.mul_assoc k m x)<|g a).trans (Int.mul_add ..).symm
theorem Vz{k:Int}(h:zz k=true):k=0:=by
 cases k with
 |ofNat n=>exact congrArg T_<|ajK h
 |negSucc n=>cases h
theorem VA{k:Int}(h:nn k=true):0<=k:=by
 cases k with
 |ofNat n=>exact Fi n
 |negSucc n=>cases h
theorem GH(d)(a:List Int)(h:a.all zz=true):den d a=0:=by
 induction d generalizing a with
 |nil=>rfl
 |cons x d g=>
  cases a with
  |nil=>rfl
  |cons k a=>
   have h:=k8.mp<|TU▸h
   refine(?_:k*x+den d a=0)
   rw[g _ h.2,Vz h.1,Lf];rfl
theorem xK(d a)(h:o_ a=true):den (1::d) a=h0 a:=by
 rw[dc,GH _ _ h,ajP,Ua]
theorem z4(d a b)(h:le a b=true):den (1::d) a<=den (1::d) b:=by
 have h:=k8.mp h
 have e:=(xK d _ h.2).symm.trans<|jV ..
 rw[pe,Ub,Lh,<-Int.sub_eq_add_neg] at e
 exact Int.sub_nonneg.mp<|e▸VA h.1
theorem GG(d i):den d (vr i)=vR d i:=by
 induction d generalizing i with
 |nil=>cases i<;>rfl
 |cons x d g=>
  cases i with
  |zero=>refine(?_:1*x+den d []=x);rw[dn,Lh,Ua]
  |succ i=>refine(?_:(0:Int)*x+_=_);rw[Lf,Lg];exact g i
open La (mv ms lv ln z5)
def n7(t:Nat)(a b:Int):Prop:=cond (bL t 4) (a<=b)<|cond (bL t 5) (a<b)<|cond (bL t 8) (¬a<=b)<|cond (bL t 9) (¬a<b)<|a=b
def lo(t:Nat)(a b:List Int):List Int:=cond (bL t 4) a<|cond (bL t 5) (add [1] a)<|cond (bL t 8) (add [1] b)<|cond (bL t 9) b<|cond (bL t 7) b a
noncomputable def hi(t:Nat)(a b:List Int):List Int:=cond (bL t 4) b<|cond (bL t 5) b<|cond (bL t 8) a<|cond (bL t 9) a<|cond (bL t 7) a b
def gl(t m:Nat)(a b A B:List Int):Bool:=le (add [1]<|add (mul m<|hi t a b) B)<|add (mul m<|lo t a b) A
noncomputable def op(t:Nat)(x y:Int):Int:=cond (bL t 2) (x+y)<|cond (bL t 3) (x*y)<|cond (bL t 15) (x-y)<|-y
def vS(t:Nat)(a b:List Int):List Int:=cond (bL t 2) (add a b)<|cond (bL t 3) (cond (o_ b) (mul (h0 b) a)<|mul (h0 a) b)<|cond (bL t 15) (add a<|mul (-1) b)<|mul (-1) b
noncomputable def pp{C:Type}(t:Nat)(l:List C):List C:=cond (bL t 14) l.tail l.tail.tail
noncomputable def MC(t:Nat):Bool:=jm 14 t||jm t 3
def vU(t:Nat)(a b:List Int):Bool:=cond (bL t 3) (o_ a||o_ b) true
noncomputable def T(d:List Int):Nat->Nat->List Int->Prop
 |0,_,_=>True
 |f+1,c,q=>
  cond (jm 32<|c%64) (T d f (c/64) (vR d (c%64-32)::q))
  (cond (z5<|c%64) (T d f (ln c) (T_ (lv c)::q))
  (cond (MC<|c%64) (T d f (c/64) (op (c%64) (h0 q.tail) (h0 q)::pp (c%64) q))
  (cond (jm (c%64) 9) (n7 (c%64) (h0 q.tail) (h0 q)->T d f (ms<|c/64) q.tail.tail)
  (cond (bL (c%64) 10) (n7 4 (h0 q.tail)<|h0 q)<|cond (bL (c%64) 11) (n7 5 (h0 q.tail)<|h0 q) False))))
noncomputable def S:Nat->Nat->List (List Int)->List Int->List Int->Bool
 |0,_,_,_,_=>true
 |f+1,c,q,A,B=>
  cond (jm 32<|c%64) (S f (c/64) ((0::vr (c%64-32))::q) A B)
  (cond (z5<|c%64) (S f (ln c) ([T_ (lv c)]::q) A B)
  (cond (MC<|c%64) (vU (c%64) (hL q.tail) (hL q)&&S f (c/64) (vS (c%64) (hL q.tail) (hL q)::pp (c%64) q) A B)
  (cond (jm (c%64) 9) (S f (ms<|c/64) q.tail.tail (add A<|mul (mv<|c/64)<|lo (c%64) (hL q.tail)<|hL q)<|add B<|mul (mv<|c/64)<|hi (c%64) (hL q.tail)<|hL q)
  (cond (bL (c%64) 10) (gl 8 (mv<|c/64) (hL q.tail) (hL q) A B)<|cond (bL (c%64) 11) (gl 9 (mv<|c/64) (hL q.tail) (hL q) A B)<|le (add [1] B) A))))
theorem gz(d a):den (1::d) (add [1] a)=den (1::d) a+1:=by
 rw[jV,Uc];exact congrArg (den (1::d) a+·)<|by refine(?_:1*1+den d []=1);rw[dn];rfl
theorem rl{d t a b}:n7 t (den (1::d) a) (den (1::d) b)->den (1::d) (lo t a b)<=den (1::d) (hi t a b):=by
 delta n7 lo hi
 cases bL t 4 with
 |true=>exact id
 |false=>
  cases bL t 5 with
  |true=>exact λh=>(gz d a).symm▸h
  |false=>
   cases bL t 8 with
   |true=>exact λh=>(gz d b).symm▸Fj.mp h
   |false=>
    cases bL t 9 with
    |true=>exact Fl.mp
    |false=>cases bL t 7<;>first|exact ajQ|exact λh=>ajQ<|Eq.symm h
theorem z8{d A B a b}{m:Nat}(i:den d A<=den d B)(h:den d a<=den d b):den d (add A<|mul m a)<=den d (add B<|mul m b):=by
 rw[jV,jV,pe,pe]
 exact Int.add_le_add i<|Int.mul_le_mul_of_nonneg_left h<|Fi m
theorem gn{d t m a b A B}(i:den (1::d) A<=den (1::d) B)(h:gl t m a b A B=true)(k:n7 t (den (1::d) a) (den (1::d) b)):False:=by
 have c:=z8 (m:=m) i<|rl k
 have j:=z4 d _ _ h
 rw[gz,jV,jV] at j
 rw[jV,jV,Uc,Uc (den _ B)] at c
 exact Fj.mpr (ajR (ajS<|Lj _) j) c
theorem GI{d t a b}(h:vU t a b=true):den (1::d) (vS t a b)=op t (den (1::d) a) (den (1::d) b):=by
 have p:∀a,den (1::d) (mul (-1) a)= -den (1::d) a:=λa=>by rw[pe,Ub,Lh]
 delta op vS
 delta vU at h
 cases bL t 2 with
 |true=>exact jV ..
 |false=>
  cases e:bL t 3 with
  |true=>
   rw[e] at h
   cases q:o_ b with
   |true=>exact(pe ..).trans<|by rw[xK d _ q,Int.mul_comm];rfl
   |false=>exact(pe ..).trans<|by rw[xK d _ ((TY.mp h).resolve_right<|by rw[q];exact ue)];rfl
  |false=>
   cases bL t 15 with
   |true=>exact(jV ..).trans (congrArg (den (1::d) a+·)<|p _)
   |false=>exact p _
theorem run(d:List Int):∀(f c:Nat) (ls:List (List Int)) (A B:List Int),den (1::d) A<=den (1::d) B->S f c ls A B=true->T d f c (ls.map<|den (1::d)):=by
 intro f
 induction f with
 |zero=>intros;trivial
 |succ f g=>
  intro c ls A B i h
  have m:∀ls:List (List Int),h0 (ls.map<|den (1::d))=den (1::d) (hL ls):=λls=>by cases ls<;>rfl
  have n:∀ls:List (List Int),(ls.map<|den (1::d)).tail=ls.tail.map (den (1::d)):=λls=>by cases ls<;>rfl
  have b:∀{c:Nat} {z:Int} {l:List Int} {ls:List (List Int)},den (1::d) l=z->S f c (l::ls) A B=true->T d f c (z::ls.map (den (1::d))):=λ{c z l ls} e k=>e▸g c (l::ls) A B i k
  have o:∀k:Int,den (1::d) [k]=k:=λk=>by refine(?_:k*1+den d []=k);rw[dn,ajP,Ua]
  have p:∀a,den (1::d) (mul (-1) a)= -den (1::d) a:=λa=>by rw[pe,Ub,Lh]
  have q:∀ls:List (List Int),pp (c%64) (ls.map<|den (1::d))=(pp (c%64) ls).map (den (1::d)):=λls=>by delta pp;cases bL (c%64) 14<;>cases ls<;>first|rfl|rename_i a l;cases l<;>rfl
  refine(?_:cond _ _ _)
  rw[q,n,n,m,m]
  refine La.pg h (b<|by refine(?_:(0:Int)*1+_=_);rw[GG,Lf,Lg]) λh=>La.pg h (b<|o _) λh=>La.pg h (λh=>b (GI (k8.mp h).1) (k8.mp h).2) λh=>La.pg h (λh k=>g _ _ _ _ (z8 i<|rl k) h) λh=>La.pg h (λh=>Fl.mp λk=>gn i h<|Fj.mpr k) λh=>La.pg h (λh=>Fj.mp λk=>gn i h<|Fl.mpr k) λh=>?_
  have j:=z4 d _ _ h
  rw[gz] at j
  exact Fj.mpr (ajR (ajS<|Lj _) j) i
def ok(c:Nat):Bool:=S 99 c [] [] []
def P(d:List Int)(c:Nat):Prop:=T d 99 c []
theorem cl{a b:Nat}(h:a<=b):(a:Int)<=b:=gV.mpr h
theorem ct{a b:Nat}(h:a<b):(a:Int)<b:=qJ.mpr h
theorem ce{a b:Nat}(h:a=b):(a:Int)=b:=congrArg _ h
theorem cp(a:Nat):0<=(a:Int):=Fi a
theorem ca(a b:Nat):((a+b:Nat):Int)=a+b:=rfl
theorem cm(a b:Nat):((a*b:Nat):Int)=a*b:=rfl
end Li
theorem li(c:Nat)(d:List Int)(h:Li.ok c=true):Li.P d c:=Li.run d 99 c [] [] [] (Lj _) h
theorem b1{a b:Bool}(h:(a&&b)=true):a=true:=(k8.mp h).1
theorem b2{a b:Bool}(h:(a&&b)=true):b=true:=(k8.mp h).2
theorem bn{a:Bool}(h:(!a)=true):a=false:=by cases a<;>first|rfl|cases h
noncomputable def eD:ay:= .List [] default
structure EV where
 t:Nat:=0
 e0:ay:=eD
 e1:ay:=eD
 e2:ay:=eD
 l:List ay:=[]
 o0:Option ay:=Z
 o1:Option ay:=Z
 o2:Option ay:=Z
 s:H:=⟨#[]⟩
 k:Const:= .none
 p:aV:=default
 n:Nat:=0
 i:Int:=0
 op:B6:= .Add
 uo:UnaryOp:= .Not
 co:List xe:=[]
 bo:Lk:= .And
 kw:List Ud:=[]
 gs:List sj:=[]
 sc:jo:=⟨.module,[],false,false,[]⟩
 ol:List (Option ay):=[]
def ev:ay->EV
 | .Constant k n p=>{t:=1,k,n,p}
 | .Name s p=>{t:=2,s,p}
 | .BinOp e0 op e1 p=>{t:=3,e0,op,e1,p}
 | .UnaryOp uo e0 p=>{t:=4,uo,e0,p}
 | .Compare e0 co l p=>{t:=5,e0,co,l,p}
 | .BoolOp bo l p=>{t:=6,bo,l,p}
 | .IfExp e0 e1 e2 p=>{t:=7,e0,e1,e2,p}
 | .List l p=>{t:=8,l,p}
 | .Tuple l n p=>{t:=9,l,n,p}
 | .Subscript e0 e1 p=>{t:=10,e0,e1,p}
 | .Slice o0 o1 o2 p=>{t:=11,o0,o1,o2,p}
 | .Attribute e0 s p=>{t:=12,e0,s,p}
 | .Call e0 l kw p=>{t:=13,e0,l,kw,p}
 | .Dict ol l p=>{t:=14,ol,l,p}
 | .JoinedStr l p=>{t:=15,l,p}
 | .ListComp e0 gs sc p=>{t:=16,e0,gs,sc,p}
 | .FormattedValue e0 i o0 p=>{t:=17,e0,i,o0,p}
 | .Starred e0 p=>{t:=18,e0,p}
 | .Yield o0 p=>{t:=19,o0,p}
 |_=>{}
def eu(t:Nat)(v:EV):ay:=match t with
 |1=> .Constant v.k v.n v.p
 |2=> .Name v.s v.p
 |3=> .BinOp v.e0 v.op v.e1 v.p
 |4=> .UnaryOp v.uo v.e0 v.p
 |5=> .Compare v.e0 v.co v.l v.p
 |6=> .BoolOp v.bo v.l v.p
 |7=> .IfExp v.e0 v.e1 v.e2 v.p
 |8=> .List v.l v.p
 |9=> .Tuple v.l v.n v.p
 |10=> .Subscript v.e0 v.e1 v.p
 |11=> .Slice v.o0 v.o1 v.o2 v.p
 |12=> .Attribute v.e0 v.s v.p
 |13=> .Call v.e0 v.l v.kw v.p
 |14=> .Dict v.ol v.l v.p
 |15=> .JoinedStr v.l v.p
 |16=> .ListComp v.e0 v.gs v.sc v.p
 |17=> .FormattedValue v.e0 v.i v.o0 v.p
 |18=> .Starred v.e0 v.p
 |19=> .Yield v.o0 v.p
 |_=>eD
abbrev et(e:ay)(n:Nat):Bool:=(ev e).t==n
theorem VB(e:ay)(h:(ev e).t≠0):eu (ev e).t (ev e)=e:=by
 cases e<;>first|rfl|exact absurd rfl h
theorem eE{e:ay}{n:Nat}(h:et e n=true)(a:n≠0):eu n (ev e)=e:=by
 have h:(ev e).t=n:=eq_of_beq h
 have:=VB e<|h▸a
 rw[h] at this
 exact this
structure SV where
 t:Nat:=0
 e0:ay:=eD
 e1:ay:=eD
 l:List ay:=[]
 o0:Option ay:=Z
 p:aV:=default
 op:B6:= .Add
 a:List bu:=[]
 b:List bu:=[]
 c:List bu:=[]
 hs:List ajT:=[]
 s:H:=⟨#[]⟩
 ar:Ue:=⟨[],[],Z,[],[],Z,[]⟩
 sc:jo:=⟨.module,[],false,false,[]⟩
def sv:bu->SV
 | .Assign l e0 p=>{t:=1,l,e0,p}
 | .AugAssign e0 op e1 p=>{t:=2,e0,op,e1,p}
 | .Expr e0 p=>{t:=3,e0,p}
 | .If e0 a b p=>{t:=4,e0,a,b,p}
 | .For e0 e1 a b p=>{t:=5,e0,e1,a,b,p}
 | .While e0 a b p=>{t:=6,e0,a,b,p}
 | .Return o0 p=>{t:=7,o0,p}
 | .Break p=>{t:=8,p}
 | .Continue p=>{t:=9,p}
 | .Try a hs b c p=>{t:=10,a,hs,b,c,p}
 | .FunctionDef s ar a _ _ _ sc _ _ p=>{s,ar,a,sc,p}
 | .ClassDef _ _ _ a _ _ _ _ _ _ _=>{a}
 |_=>{}
noncomputable def su(t:Nat)(v:SV):bu:=match t with
 |1=> .Assign v.l v.e0 v.p
 |2=> .AugAssign v.e0 v.op v.e1 v.p
 |3=> .Expr v.e0 v.p
 |4=> .If v.e0 v.a v.b v.p
 |5=> .For v.e0 v.e1 v.a v.b v.p
 |6=> .While v.e0 v.a v.b v.p
 |7=> .Return v.o0 v.p
 |8=> .Break v.p
 |9=> .Continue v.p
 |10=> .Try v.a v.hs v.b v.c v.p
 |_=> .Pass v.p
abbrev jv(e:bu)(n:Nat):Bool:=(sv e).t==n
theorem VC(e:bu)(h:(sv e).t≠0):su (sv e).t (sv e)=e:=by
 cases e<;>first|rfl|exact absurd rfl h
theorem sE{e:bu}{n:Nat}(h:jv e n=true)(a:n≠0):su n (sv e)=e:=by
 have h:(sv e).t=n:=eq_of_beq h
 have:=VC e<|h▸a
 rw[h] at this
 exact this
abbrev hd(l:List ay):ay:=l.headD eD
theorem l0{l:List ay}{n:Nat}(h:(l.length==n+1)=true):l=hd l::l.tail/\(l.tail.length==n)=true:=by
 cases l with
 |nil=>cases h
 |cons=>exact⟨rfl,beq_iff_eq.mpr<|uA<|eq_of_beq h⟩
theorem l1{l:List ay}(h:(l.length==1)=true):l=[hd l]:=(l0 h).1.trans (congrArg (hd l::·)<|Vj<|eq_of_beq (l0 h).2)
theorem l2{l:List ay}(h:(l.length==2)=true):l=[hd l,hd l.tail]:=(l0 h).1.trans (congrArg (hd l::·)<|l1 (l0 h).2)
theorem l3{l:List ay}(h:(l.length==3)=true):l=[hd l,hd l.tail,hd l.tail.tail]:=(l0 h).1.trans (congrArg (hd l::·)<|l2 (l0 h).2)
theorem nl{C:Type}{l:List C}(h:l.isEmpty=true):l=[]:=ajU.mp h
abbrev uH(e:ay)(x:H):Bool:=et e 1&&decide ((ev e).k= .str x)
theorem z9{e:ay}{x:H}(h:uH e x=true): .Constant (.str x) (ev e).n (ev e).p=e:=by
 have:=eE (b1 h)<|by decide
 have q:(ev e).k= .str x:=of_decide_eq_true<|b2 h
 rw[<-q];exact this
theorem fT{p:Prop}(h:false=true):p:=(ue h).elim
theorem nS{C:Type}{a:C}{p:Prop}(h:Z=Y a):p:=by cases h
noncomputable abbrev hS(l:List bu):bu:=l.headD<|.Pass default
noncomputable def hv:ajT->Option ay×List bu×aV
 | .ExceptHandler t _ b p=>(t,b,p)
def ME(e:ay):Bool:= !(jm 4 (ev e).t&&jm (ev e).t 7)
def dB(e:ay):Bool:= !et e 18
def lE(e:ay):Bool:= !(et e 13&&(ev e).l.isEmpty)
def q_(e:ay):Bool:= !(et e 0||et e 16)
def uI(e:ay):Bool:=et e 9
def z_(e:ay):Bool:=et e 2
theorem VD{e:ay}(h:uI e=true):e= .Tuple (ev e).l (ev e).n (ev e).p:=(eE h<|by decide).symm
theorem VE{e:ay}(h:z_ e=true):e= .Name (ev e).s (ev e).p:=(eE h<|by decide).symm
theorem MF{M:k9}{A:cR}{E:aa->au->Prop}{s:au}{C:Type}{Q:C->au->Prop}{c:Prop}[Decidable c]{a b:bT C}(h:c)(k:aF M A a Q E s):aF M A (if c then a else b) Q E s:=(if_pos h).symm▸k
theorem xM{M:k9}{A:cR}{E:aa->au->Prop}{s:au}{C:Type}{Q:C->au->Prop}{c:Prop}[Decidable c]{a b:bT C}(h:¬c)(k:aF M A b Q E s):aF M A (if c then a else b) Q E s:=(if_neg h).symm▸k
theorem MG{M:k9}{A:cR}{E:aa->au->Prop}{s:au}{Q:Unit->au->Prop}{B:ay}{a v:aa}(b:uI B=true)(h:aF M A (qK (.Tuple [] 0 default) a v) Q E s):aF M A (qK B a v) Q E s:=by
 rw[VD b];exact h
theorem MH{M:k9}{A:cR}{E:aa->au->Prop}{s:au}{Q:Unit->au->Prop}{B:ay}{a v:aa}(b:z_ B=true)(h:Q () s):aF M A (qK B a v) Q E s:=by
 rw[VE b];exact bf h
noncomputable abbrev pw:xg:=amR
noncomputable def MI:bu:= .Pass ⟨0,0,0,0⟩
def st(i:Nat):bu:=(pw.main.body.drop i).headD MI
def GJ(s:bu):List bu:=(sv s).a
def dg(s:bu)(i:Nat):bu:=((GJ s).drop i).headD MI
def MJ(s:bu):Ue:=(sv s).ar
def MK(s:bu):jo:=(sv s).sc
noncomputable def vV:Life:={}
noncomputable def m0:Nat:=11
noncomputable def vW:Option aa:=(Y<|.ref 6)
noncomputable def VF:aa:=(.ref 13)
noncomputable def VG:ak:=14
noncomputable def Aa:aV:=⟨0,0,0,0⟩
noncomputable def ML(P:cH):List (cH->bh)->List bh
 |[]=>[]
 |f::l=>f P::ML P l
noncomputable def ky(P:cH)(s:String)(n:Nat)(v:aa):eY:=⟨Fp P s,.str s n,v⟩
noncomputable def i0(n:Int):aa:= .int n 0
noncomputable def MM:Nat->List String->List aa
 |_,[]=>[]
 |n,s::l=> .str s n::MM (n+1) l
def GK(n:Nat)(l:List String):Array aa:=⟨MM n l⟩
noncomputable def kt(P:cH):Nat->List String->List eY
 |_,[]=>[]
 |n,s::l=>ky P s n (.type s)::kt P (n+1) l
noncomputable def kb(P:cH):Nat->List String->List eY
 |_,[]=>[]
 |n,s::l=>ky P s n (.builtin s)::kb P (n+1) l
noncomputable def MN(n:Nat):Nat:=bif jm n 9 then 48+n else 55+n
noncomputable def tv:List (Nat×Nat×Nat×Nat)->Nat->aa
 |[],i=> .str ⟨⟨[61,MN (i/16),MN (i%16)]⟩⟩ (385+4*i)
 |(a,n,c,t)::l,i=>bif jm a i&&Nat.blt i (a+n) then .str ⟨⟨[c+(i-a)]⟩⟩ (t+3*(i-a)) else tv l i
noncomputable def MO(f:Nat->aa):Nat->Nat->List aa
 |0,_=>[]
 |k+1,i=>f i::MO f k (i+1)
def tb(l:List (Nat×Nat×Nat×Nat)):Array aa:=⟨MO (tv l) 256 0⟩
def kS(i:Nat):H:=match (ev (sv<|st i).e0).k with| .str s=>s|_=>""
def ri(P:cH):List eY:=[ky P "__doc__" 166 .none,ky P "__package__" 167 .none,ky P "__loader__" 168 (.builtin "__main__.__loader__#opaque"),ky P "__spec__" 169 .none,ky P "__annotations__" 170 (.ref 6),ky P "__builtins__" 171 (.ref 4),ky P "__file__" 173 (.str "/claim/cut.py" 172),ky P "__cached__" 174 .none]
def sX(P:cH):List eY:=[ky P "_wall" 193 (.ref 21),ky P "IS_CHARACTER_JUNK" 204 (.ref 29),ky P "file_template_difflib" 206 (.str (kS 3) 205),ky P "styles_difflib" 208 (.str (kS 4) 207),ky P "table_template_difflib" 210 (.str (kS 5) 209),ky P "legend_difflib" 212 (.str (kS 6) 211)]
def vX(P:cH):List eY:=[ky P "CRLF" 376 (.str "\x0d\n" 375),ky P "NL" 378 (.str "\n" 377)]
def Ab(P:cH):List eY:=[ky P "_QUOPRI_HEADER_MAP" 1407 (.ref 123),ky P "_QUOPRI_BODY_MAP" 1408 (.ref 125),ky P "ascii_lowercase" 1410 (.str "abcdefghijklmnopqrstuvwxyz" 1409),ky P "ascii_uppercase" 1412 (.str "ABCDEFGHIJKLMNOPQRSTUVWXYZ" 1411),ky P "ascii_letters" 1414 (.str "abcdefghijklmnopqrstuvwxyzABCDEFGHIJKLMNOPQRSTUVWXYZ" 1413),ky P "digits" 1416 (.str "0123456789" 1415),ky P "hexdigits" 1421 (.str "0123456789abcdefABCDEF" 1420)]
def MP(P:cH):List eY:=[ky P "__firstlineno__" 224 (.int (11) 223),ky P "_file_template" 225 (.str (kS 3) 205),ky P "_styles" 226 (.str (kS 4) 207),ky P "_table_template" 227 (.str (kS 5) 209),ky P "_legend" 228 (.str (kS 6) 211),ky P "_default_prefix" 230 (.int (0) 229),ky P "__init__" 242 (.ref 44),ky P "make_file" 261 (.ref 53),ky P "_tab_newline_replace" 267 (.ref 58),ky P "_split_line" 284 (.ref 65),ky P "_line_wrapper" 301 (.ref 72),ky P "_collect_lines" 315 (.ref 79),ky P "_format_line" 327 (.ref 86),ky P "_make_prefix" 334 (.ref 93),ky P "_convert_flags" 346 (.ref 100),ky P "make_table" 362 (.ref 108),ky P "__static_attributes__" 367 (.ref 109)]
def GL(P:cH):List eY:=[ky P "unquote" 1927 (.ref 138),ky P "quote" 1934 (.ref 145),ky P "_QUOPRI_BODY_ENCODE_MAP" 1935 (.ref 147),ky P "body_encode" 1962 (.ref 158),ky P "decode" 1975 (.ref 166)]
def MQ(P:cH):List eY:=[ky P "__firstlineno__" 1989 (.int (212) 1988),ky P "S" 1993 (.str " " 1991),ky P "T" 1994 (.str "\t" 1992),ky P "__init__" 2009 (.ref 183),ky P "longest_run_of_spaces" 2016 (.ref 190),ky P "indent_level" 2028 (.ref 197),ky P "equal" 2036 (.ref 204),ky P "not_equal_witness" 2044 (.ref 211),ky P "less" 2052 (.ref 218),ky P "not_less_witness" 2060 (.ref 225),ky P "__static_attributes__" 2066 (.ref 226)]
abbrev PO:=cH->bh
def MR(l:List PO):List PO:=List.rec (motive:=λ_=>Bool->List PO) (λ_=>[]) (λa _ c b=>bif b then a::c false else c true) l true
noncomputable def bl:Nat->List PO->cH->BT
 |0,_,_=> .nil
 |n+1,l,P=>match l with
  |[]=> .nil
  |f::l=> .node (f P) (bl n (MR l) P)<|bl n (MR l.tail) P
noncomputable def MS(a:String)(b:Nat):bh:=⟨(.type "tuple"),.none,(.seq #[(.str a b)] 0),#[]⟩
noncomputable def Ac(a:Nat):bh:=⟨(.type "StopIteration"),.none,(.fields #[(.ref a),.none,.none,.none,(.bool false),.none]),#[]⟩
def CG(a:String)(b:Nat)(d:Int)(c:Nat)(e:Int)(f:Int):bh:=⟨(.type "code"),.none,(.fields #[(.str a b),(.str a<|b+1),(.str "/claim/cut.py"<|b+2),(i0 d),(i0 0),(i0 0),(i0 0),(i0 0),(.ref c),(.bool false),(i0 e),(.ref<|c+1),.none,.none,.none,.none,(i0 f),(i0 d),(.str "/claim/cut.py"<|b+4)]),#[]⟩
noncomputable def CH(a:Nat)(b:Nat)(d:String)(c:Nat):bh:=⟨(.type "frame"),.none,.plain,#[(Y<|.ref a),(Y<|.ref 3),(Y<|.ref b),.none,(Y<|.str d c),.none,(Y<|.ref 0)]⟩
def CJ(a:String)(b:Int):bh:=⟨(.type a),.none,(.fields #[.none,(i0 b)]),#[]⟩
noncomputable def MT(a:Nat):bh:=⟨(.type "tuple"),.none,(.seq #[(.str "" a),(.str ""<|a+1),(.bool false),(.int (5)<|a+2)] 0),#[]⟩
noncomputable def MU(a:Nat)(b:Nat):bh:=⟨(.type "getset_descriptor"),.none,(.fields #[(.str "__dict__" a),(.ref b),(.builtin "function.__dict__"),(.builtin "function.__dict__#set")]),#[]⟩
noncomputable def MV(a:Nat)(b:Nat):bh:=⟨(.type "getset_descriptor"),.none,(.fields #[(.str "__weakref__" a),(.ref b),(.builtin "ExceptionGroup.__weakref__"),.none]),#[]⟩
noncomputable def MW(a:Nat):bh:=⟨(.type "super"),.none,(.fields #[(.ref a),(.ref a),(.ref a)]),#[]⟩
noncomputable def MX(a:Nat):bh:=⟨(.type "builtin_function_or_method"),.none,(.fields #[(.builtin "object.__init_subclass__"),(.ref a)]),#[]⟩
def MY(P:cH)(a:Nat)(b:Nat):bh:=⟨(.type "dict"),.none,(.dict ⟨[ky P "__name__" 165 (.str "cpy313.email.quoprimime" 1422)]++(ri P++(sX P++([ky P "HtmlDiff" 374 (.ref 111)]++(vX P++([ky P "_QUOPRI_MAP" 1406 (.ref 118)]++(Ab P++([ky P "c" 1432 (.int (a) b)])))))))⟩ 27),#[]⟩
noncomputable def o2:PO:=λ_=>⟨.none,.none,(.dict #[] 0),#[]⟩
def o3:PO:=λP=>⟨(.type "dict"),.none,(.dict ⟨[ky P "__name__" 165 (.str "__main__" 164)]++(ri P)⟩ 9),#[]⟩
noncomputable def o7:PO:=λ_=>⟨(.type "tuple"),.none,(.seq #[] 0),#[]⟩
noncomputable def o8:PO:=λ_=>⟨.none,.none,(.fields #[]),#[]⟩
def VH:PO:=λP=>⟨(.type "dict"),.none,(.dict ⟨[ky P "__name__" 165 (.str "cpy313.difflib" 194)]++(ri P++(sX P))⟩ 15),#[]⟩
def VI:PO:=λ_=>⟨.none,.none,(.fields #[(i0 1),(i0 0),(.ref 20),(i0 5),(i0 0),(.ref 28)]),#[]⟩
def VJ:PO:=λP=>⟨(.type "dict"),.none,(.dict ⟨[ky P "__name__" 165 (.str "cpy313.difflib" 194)]++(ri P++(sX P++([ky P "HtmlDiff" 374 (.ref 111)])))⟩ 16),#[]⟩
def vY:PO:=λ_=>⟨.none,.none,(.fields #[(i0 1),(i0 0),(.ref 20),(i0 5),(i0 0),(.ref 28),(i0 11),(i0 0),(.ref 35)]),#[]⟩
noncomputable def MZ:PO:=λ_=>⟨(.type "builtin_function_or_method"),.none,(.fields #[(.builtin "type.__prepare__"),(.type "type")]),#[]⟩
def VK:PO:=λP=>⟨(.type "dict"),.none,(.dict ⟨[ky P "__name__" 165 (.str "cpy313.difflib" 194)]++(ri P++(sX P++([ky P "HtmlDiff" 374 (.ref 111)]++(vX P))))⟩ 18),#[]⟩
def VL:PO:=λP=>⟨(.type "dict"),.none,(.dict ⟨[ky P "__name__" 165 (.str "cpy313.difflib" 194)]++(ri P++(sX P++([ky P "HtmlDiff" 374 (.ref 111)]++(vX P++([ky P "_QUOPRI_MAP" 1406 (.ref 118)])))))⟩ 19),#[]⟩
def VM:PO:=λP=>⟨(.type "dict"),.none,(.dict ⟨[ky P "__name__" 165 (.str "cpy313.email.quoprimime" 1422)]++(ri P++(sX P++([ky P "HtmlDiff" 374 (.ref 111)]++(vX P++([ky P "_QUOPRI_MAP" 1406 (.ref 118)]++(Ab P))))))⟩ 26),#[]⟩
noncomputable def GN:PO:=λ_=>⟨(.type "slice"),.none,(.fields #[.none,.none,.none]),#[]⟩
def CK:PO:=λ_=>⟨(.type "list"),.none,(.seq (tb []) 0),#[]⟩
def M0:PO:=λP=>MY P 57 1629
def VN:PO:=λ_=>⟨(.type "list"),.none,(.seq (tb [(33,1,33,1436),(42,2,42,1439),(45,1,45,1433),(47,1,47,1445),(48,10,48,1604),(65,26,65,1526),(97,26,97,1448)]) 0),#[]⟩
def mu:PO:=λ_=>⟨(.type "list"),.none,(.seq (tb [(32,1,95,1632),(33,1,33,1436),(42,2,42,1439),(45,1,45,1433),(47,1,47,1445),(48,10,48,1604),(65,26,65,1526),(97,26,97,1448)]) 0),#[]⟩
def VO:PO:=λP=>MY P 9 1918
def nj:PO:=λ_=>⟨(.type "list"),.none,(.seq (tb [(9,1,9,1920),(32,29,32,1638),(62,65,62,1725)]) 0),#[]⟩
def VP:PO:=λP=>⟨(.type "dict"),.none,(.dict ⟨[ky P "__name__" 165 (.str "cpy313.tabnanny" 1976)]++(ri P++(sX P++([ky P "HtmlDiff" 374 (.ref 111)]++(vX P++([ky P "_QUOPRI_MAP" 1406 (.ref 118)]++(Ab P++(GL P)))))))⟩ 33),#[]⟩
def VQ:PO:=λ_=>⟨.none,.none,(.fields #[(i0 1),(i0 0),(.ref 20),(i0 5),(i0 0),(.ref 28),(i0 11),(i0 0),(.ref 35),(i0 135),(i0 0),(.ref 137),(i0 137),(i0 0),(.ref 144),(i0 143),(i0 0),(.ref 157),(i0 181),(i0 0),(.ref 165)]),#[]⟩
def VR:PO:=λP=>⟨(.type "dict"),.none,(.dict ⟨[ky P "__name__" 165 (.str "cpy313.tabnanny" 1976)]++(ri P++(sX P++([ky P "HtmlDiff" 374 (.ref 111)]++(vX P++([ky P "_QUOPRI_MAP" 1406 (.ref 118)]++(Ab P++(GL P++([ky P "Whitespace" 2073 (.ref 228)]))))))))⟩ 34),#[]⟩
def VS:PO:=λ_=>⟨.none,.none,(.fields #[(i0 1),(i0 0),(.ref 20),(i0 5),(i0 0),(.ref 28),(i0 11),(i0 0),(.ref 35),(i0 135),(i0 0),(.ref 137),(i0 137),(i0 0),(.ref 144),(i0 143),(i0 0),(.ref 157),(i0 181),(i0 0),(.ref 165),(i0 212),(i0 0),(.ref 172)]),#[]⟩
def CL:PO:=λP=>⟨(.type "dict"),.none,(.dict ⟨[ky P "__name__" 165 (.str "law_wu0111_01" 2090)]++(ri P++(sX P++([ky P "HtmlDiff" 374 (.ref 111)]++(vX P++([ky P "_QUOPRI_MAP" 1406 (.ref 118)]++(Ab P++(GL P++([ky P "Whitespace" 2073 (.ref 228),ky P "_raise_serialization_error" 2082 (.ref 239),ky P "_escape_cdata" 2089 (.ref 246),ky P "_law_world" 2107 (.ref 253),ky P "_law_page" 2116 (.ref 260),ky P "_law_edges" 2122 (.ref 265),ky P "_law_column" 2133 (.ref 272),ky P "_law_pieces" 2149 (.ref 279),ky P "_law_cell" 2155 (.ref 284),ky P "law" 2161 (.ref 289)]))))))))⟩ 43),#[]⟩
def Ad:PO:=λ_=>⟨.none,.none,(.fields #[(i0 1),(i0 0),(.ref 20),(i0 5),(i0 0),(.ref 28),(i0 11),(i0 0),(.ref 35),(i0 135),(i0 0),(.ref 137),(i0 137),(i0 0),(.ref 144),(i0 143),(i0 0),(.ref 157),(i0 181),(i0 0),(.ref 165),(i0 212),(i0 0),(.ref 172),(i0 260),(i0 0),(.ref 238),(i0 262),(i0 0),(.ref 245),(i0 274),(i0 0),(.ref 252),(i0 283),(i0 0),(.ref 259),(i0 287),(i0 0),(.ref 264),(i0 290),(i0 0),(.ref 271),(i0 295),(i0 0),(.ref 278),(i0 308),(i0 0),(.ref 283),(i0 317),(i0 0),(.ref 288)]),#[]⟩
def fO(c:aa)(b q:String)(s:bu)(g:Nat)(d a m k:aa):PO:=λ_=>⟨c,.none,.func {name:=b,qualname:=q,params:=MJ s,body:= .stmts<|GJ s,scope:=MK s,globals:=g,closure:=[],defaults:=d,kwdefaults:=a,doc:= .none,pyModule:=m,annotations:= .none,code:=k,closureTuple:= .none,builtins:=0},#[]⟩
def cO(b q:String)(l c k f:Int)(A t e:Nat)(x y z:aa):PO:=λ_=>⟨.type "code",.none,.fields #[.str b t,.str q (t+1),.str "/claim/cut.py" (t+2),i0 l,i0 c,i0 0,i0 k,i0 f,.ref A,.bool true,i0 181,.ref (A+1),.none,x,y,z,i0 e,i0 l,.str "/claim/cut.py" (e+1)],#[]⟩
def fg(b q:String)(s:bu)(l c k f:Int)(A t:Nat)(o:List String)(m d a:aa)(r:List PO):List PO:=
 o7::o8::(λ_=>⟨.type "tuple",.none,.seq (GK (t+3) o) 0,#[]⟩)::o7::fO .none b q s 0 .none .none .none .none::cO b q l c k f A t (t+3+o.length) (.ref<|A+2) (.ref<|A+3) (.ref<|A+4)::fO (.type "function") b q s 3 d a m (.ref<|A+5)::r
def fc(b q:String)(s:bu)(l c:Int)(A t:Nat)(m:aa)(r:List PO):List PO:=
 o7::o8::fO .none b q s 0 .none .none .none .none::cO b q l c 0 3 A t (t+3) .none .none (.ref<|A+2)::fO (.type "function") b q s 3 .none .none m (.ref<|A+3)::r
noncomputable def VT:aa:= .str "__main__" 164
noncomputable def vZ:aa:= .str "cpy313.difflib" 194
noncomputable def CM:aa:= .str "cpy313.email.quoprimime" 1422
noncomputable def VU:aa:= .str "cpy313.tabnanny" 1976
noncomputable def M1:aa:= .str "cpy313.xml.etree.ElementTree" 2074
noncomputable def v7:aa:= .str "law_wu0111_01" 2090
def fh(b q:String)(j:Nat)(l c:Int)(A t:Nat)(o:List String)(r:List PO):List PO:=fg b q (dg (st 7) j) l c 0 3 A t o vZ .none .none r
def fw(b q:String)(j:Nat)(l c:Int)(A t:Nat)(o:List String)(r:List PO):List PO:=fg b q (dg (st 30) j) l c 0 3 A t o VU .none .none r
def fm(b:String)(a:Nat)(l c:Int)(A t:Nat)(o:List String)(m:aa)(r:List PO):List PO:=fg b b (st a) l c 0 3 A t o m .none .none r
def LF(a b c d:PO):List PO:=(λP=>⟨(.type "dict"),.none,(.dict ⟨[ky P "__name__" 1 (.str "builtins" 160),ky P "__doc__" 2 (.builtin "builtins.__doc__:str#opaque"),ky P "__package__" 3 (.builtin "builtins.__package__:str#opaque"),ky P "__loader__" 4 (.builtin "builtins.__loader__:shared#opaque"),ky P "__spec__" 5 (.builtin "builtins.__spec__#opaque")]++(kb P 6 ["__build_class__","__import__","abs","all","any","ascii","bin","breakpoint","callable","chr","compile","delattr","dir","divmod","eval","exec","format","getattr","globals","hasattr","hash","hex","id","input","isinstance","issubclass","iter","aiter","len","locals","max","min","next","anext","oct","ord","pow","print","repr","round","setattr","sorted","sum","vars"]++([ky P "None" 50 .none,ky P "Ellipsis" 51 .ellipsis,ky P "NotImplemented" 52 .notImplemented,ky P "False" 53 (.bool false),ky P "True" 54 (.bool true)]++(kt P 55 ["bool","memoryview","bytearray","bytes","classmethod","complex","dict","enumerate","filter","float","frozenset","property","int","list","map","object","range","reversed","set","slice","staticmethod","str","super","tuple","type","zip"]++([ky P "__debug__" 81 (.bool true)]++(kt P 82 ["BaseException","BaseExceptionGroup","Exception","GeneratorExit","KeyboardInterrupt","SystemExit","ArithmeticError","AssertionError","AttributeError","BufferError","EOFError","ImportError","LookupError","MemoryError","NameError","OSError","ReferenceError","RuntimeError","StopAsyncIteration","StopIteration","SyntaxError","SystemError","TypeError","ValueError","Warning","FloatingPointError","OverflowError","ZeroDivisionError","BytesWarning","DeprecationWarning","EncodingWarning","FutureWarning","ImportWarning","PendingDeprecationWarning","ResourceWarning","RuntimeWarning","SyntaxWarning","UnicodeWarning","UserWarning","BlockingIOError","ChildProcessError","ConnectionError","FileExistsError","FileNotFoundError","InterruptedError","IsADirectoryError","NotADirectoryError","PermissionError","ProcessLookupError","TimeoutError","IndentationError","_IncompleteInputError","IndexError","KeyError","ModuleNotFoundError","NotImplementedError","PythonFinalizationError","RecursionError","UnboundLocalError","UnicodeError","BrokenPipeError","ConnectionAbortedError","ConnectionRefusedError","ConnectionResetError","TabError","UnicodeDecodeError","UnicodeEncodeError","UnicodeTranslateError","ExceptionGroup"]++([ky P "EnvironmentError" 151 (.type "OSError"),ky P "IOError" 152 (.type "OSError")]++(kb P 153 ["open"]++([ky P "quit" 154 (.builtin "builtins.quit#opaque"),ky P "exit" 155 (.builtin "builtins.exit#opaque"),ky P "copyright" 156 (.builtin "builtins.copyright#opaque"),ky P "credits" 157 (.builtin "builtins.credits#opaque"),ky P "license" 158 (.builtin "builtins.license#opaque"),ky P "help" 159 (.builtin "builtins.help#opaque")]))))))))⟩ 159),#[]⟩)::(λP=>⟨(.type "dict"),.none,(.dict #[ky P "builtins" 162 (.ref 4),ky P "__main__" 163 (.ref 5)] 2),#[]⟩)::o2::a::(λ_=>⟨(.type "module"),(Y 0),.plain,#[]⟩)::(λ_=>⟨(.type "module"),(Y 3),.plain,#[]⟩)::(λ_=>⟨(.type "dict"),.none,(.dict #[] 0),#[]⟩)::o7::o8::(λ_=>CG "<module>" 176 1 7 175 179)::(λ_=>CH 9 3 "__main__" 164)::o7::b::(λ_=>CG "<module>" 182 1 11 181 185)::(λ_=>CH 13 3 "__main__" 164)::fm "_wall" 0 1 1 15 187 ["k"] VT ((λ_=>MS " \t" 196)::fg "IS_CHARACTER_JUNK" "IS_CHARACTER_JUNK" (st 2) 5 2 0 3 23 197 ["ch","ws"] vZ (.ref 22) .none ((λ_=>⟨(.type "tuple"),.none,(.seq #[(.type "object")] 0),#[]⟩)::MZ::(λP=>⟨(.type "dict"),.none,(.dict ⟨[ky P "__module__" 220 (.str "cpy313.difflib" 194),ky P "__qualname__" 222 (.str "HtmlDiff" 221)]++(MP P)⟩ 19),#[]⟩)::o7::(λ_=>⟨.none,.none,(.fields #[(i0 18),(i0 4),(.ref 43),(i0 24),(i0 4),(.ref 52),(i0 27),(i0 4),(.ref 57),(i0 38),(i0 4),(.ref 64),(i0 69),(i0 4),(.ref 71),(i0 89),(i0 4),(.ref 78),(i0 101),(i0 4),(.ref 85),(i0 111),(i0 4),(.ref 92),(i0 114),(i0 4),(.ref 99),(i0 117),(i0 4),(.ref 107)]),#[]⟩)::(λ_=>CG "HtmlDiff" 215 11 33 181 218)::(λ_=>CH 35 32 "cpy313.difflib" 194)::(λ_=>⟨(.type "tuple"),.none,(.seq #[(.int (8) 231),.none,.none,(.ref 29)] 0),#[]⟩)::fg "__init__" "HtmlDiff.__init__" (dg (st 7) 5) 18 5 0 3 38 232 ["self","tabsize","wrapcolumn","linejunk","charjunk"] vZ (.ref 37) .none ((λ_=>MT 243)::(λP=>⟨(.type "dict"),.none,(.dict #[ky P "charset" 247 (.str "utf-8" 246)] 1),#[]⟩)::fg "make_file" "HtmlDiff.make_file" (dg (st 7) 6) 24 7 1 3 47 248 ["self","fromlines","tolines","fromdesc","todesc","context","numlines","charset"] vZ (.ref 45) (.ref 46) (fc "_tab_newline_replace" "HtmlDiff._tab_newline_replace" (dg (st 7) 7) 27 3 54 262 vZ<|fh "_split_line" "HtmlDiff._split_line" 8 38 4 59 268 ["self","data_list","line_num","text","size","max","i","n","mark","line1","line2"]<|fg "_line_wrapper" "HtmlDiff._line_wrapper" (dg (st 7) 9) 69 2 0 35 66 285 ["self","diffs","fromdata","todata","flag","fromline","fromtext","toline","totext","fromlist","tolist"] vZ .none .none<|fh "_collect_lines" "HtmlDiff._collect_lines" 10 89 2 73 302 ["self","diffs","fromlist","tolist","flaglist","fromdata","todata","flag"]<|fh "_format_line" "HtmlDiff._format_line" 11 101 5 80 316 ["self","side","flag","linenum","text","id"]<|fh "_make_prefix" "HtmlDiff._make_prefix" 12 111 1 87 328 ["self"]<|fh "_convert_flags" "HtmlDiff._convert_flags" 13 114 6 94 335 ["self","fromlist","tolist","flaglist","context","numlines"] ((λ_=>MT 347)::fg "make_table" "HtmlDiff.make_table" (dg (st 7) 14) 117 7 0 3 102 350 ["self","fromlines","tolines","fromdesc","todesc","context","numlines"] vZ (.ref 101) .none ((λ_=>⟨(.type "tuple"),.none,(.seq (GK 363 ["_charjunk","_linejunk","_tabsize","_wrapcolumn"]) 0),#[]⟩)::(λP=>⟨(.type "dict"),.none,(.dict ⟨[ky P "__module__" 220 (.str "cpy313.difflib" 194)]++(MP P++([ky P "__dict__" 369 (.ref 112),ky P "__weakref__" 371 (.ref 113),ky P "__doc__" 372 .none]))⟩ 4),#[]⟩)::(λ_=>⟨(.type "type"),.none,(.cls {name:="HtmlDiff",bases:=[(.type "object")],mro:=[(.ref 111),(.type "object")],ns:=110,qualname:="HtmlDiff",hasDict:=true,slotNames:=[],subclasses:=[],abstract:=false,collection:= .none,hasDel:=false}),#[(Y<|.ref 30),.none,(Y<|.str "HtmlDiff" 213),(Y<|.str "HtmlDiff" 221),(Y<|.builtin "object.__new__"),(Y<|.bool true)]⟩)::(λ_=>MU 368 111)::(λ_=>MV 370 111)::(λ_=>MW 111)::(λ_=>MX 111)::(λ_=>⟨(.type "range"),.none,(.fields #[(.int (0) 380),(.int (256) 379),(.int (1) 381)]),#[]⟩)::(λ_=>⟨(.type "range_iterator"),.none,(.fields #[(i0 256),(i0 0),(i0 1)]),#[]⟩)::(λ_=>⟨(.type "list"),.none,(.seq (tb []) 256),#[]⟩)::(λ_=>⟨(.type "dict"),.none,(.dict #[] 2),#[]⟩)::o7::(λ_=>Ac 120)::GN::c::GN::d::(λ_=>CJ "bytes_iterator" 67)::o7::(λ_=>Ac 127)::(λ_=>CJ "bytes_iterator" 95)::o7::(λ_=>Ac 130)::fm "unquote" 22 135 1 132 1921 ["s"] CM (fm "quote" 23 137 1 139 1928 ["c"] CM (GN::(λ_=>⟨(.type "list"),.none,(.seq (tb [(9,1,9,1920),(10,1,10,1942),(13,1,13,1939),(32,29,32,1638),(62,65,62,1725)]) 0),#[]⟩)::(λ_=>CJ "bytes_iterator" 2)::o7::(λ_=>Ac 149)::(λ_=>⟨(.type "tuple"),.none,(.seq #[(.int (76) 1943),(.str "\n" 377)] 0),#[]⟩)::fg "body_encode" "body_encode" (st 27) 143 3 0 3 152 1944 ["body","maxlinelen","eol","soft_break","maxlinelen1","encoded_body","append","line","start","laststart","stop","room","q"] CM (.ref 151) .none ((λ_=>MS "\n" 377)::fg "decode" "decode" (st 28) 181 2 0 3 160 1963 ["encoded","eol","decoded","line","i","n","c"] CM (.ref 159) .none (o7::MZ::(λP=>⟨(.type "dict"),.none,(.dict ⟨[ky P "__module__" 1985 (.str "cpy313.tabnanny" 1976),ky P "__qualname__" 1987 (.str "Whitespace" 1986)]++(MQ P)⟩ 13),#[]⟩)::o7::(λ_=>⟨.none,.none,(.fields #[(i0 215),(i0 4),(.ref 182),(i0 238),(i0 4),(.ref 189),(i0 241),(i0 4),(.ref 196),(i0 248),(i0 4),(.ref 203),(i0 251),(i0 4),(.ref 210),(i0 254),(i0 4),(.ref 217),(i0 257),(i0 4),(.ref 224)]),#[]⟩)::(λ_=>CG "Whitespace" 1980 212 170 181 1983)::(λ_=>CH 172 169 "cpy313.tabnanny" 1976)::(λ_=>CJ "str_ascii_iterator" 2)::o7::(λ_=>Ac 175)::fw "__init__" "Whitespace.__init__" 1 215 2 177 1995 ["self","ws","S","T","count","b","n","nt","ch"] (fw "longest_run_of_spaces" "Whitespace.longest_run_of_spaces" 2 238 1 184 2010 ["self"]<|fw "indent_level" "Whitespace.indent_level" 3 241 2 191 2017 ["self","tabsize","count","trailing","il","i"]<|fw "equal" "Whitespace.equal" 4 248 2 198 2029 ["self","other"]<|fw "not_equal_witness" "Whitespace.not_equal_witness" 5 251 2 205 2037 ["self","other"]<|fw "less" "Whitespace.less" 6 254 2 212 2045 ["self","other"]<|fw "not_less_witness" "Whitespace.not_less_witness" 7 257 2 219 2053 ["self","other"] ((λ_=>⟨(.type "tuple"),.none,(.seq (GK 2061 ["is_simple","n","norm","nt","raw"]) 0),#[]⟩)::(λP=>⟨(.type "dict"),.none,(.dict ⟨[ky P "__module__" 1985 (.str "cpy313.tabnanny" 1976)]++(MQ P++([ky P "__dict__" 2068 (.ref 229),ky P "__weakref__" 2070 (.ref 230),ky P "__doc__" 2071 .none]))⟩ 4),#[]⟩)::(λ_=>⟨(.type "type"),.none,(.cls {name:="Whitespace",bases:=[(.type "object")],mro:=[(.ref 228),(.type "object")],ns:=227,qualname:="Whitespace",hasDict:=true,slotNames:=[],subclasses:=[],abstract:=false,collection:= .none,hasDel:=false}),#[.none,.none,(Y<|.str "Whitespace" 1978),(Y<|.str "Whitespace" 1986),(Y<|.builtin "object.__new__"),(Y<|.bool true)]⟩)::(λ_=>MU 2067 228)::(λ_=>MV 2069 228)::(λ_=>MW 228)::(λ_=>MX 228)::fm "_raise_serialization_error" 32 260 1 233 2076 ["text"] M1 (fm "_escape_cdata" 33 262 1 240 2083 ["text"] M1<|fm "_law_world" 35 274 1 247 2092 ["script","cells","signs","old","new","place","number","cell","one","two"] v7<|fm "_law_page" 36 283 2 254 2108 ["size","columns","page"] v7<|fc "_law_edges" "_law_edges" (st 37) 287 2 261 2117 v7<|fm "_law_column" 38 290 2 266 2123 ["line","size","column","sign","mark"] v7<|fm "_law_pieces" 39 295 3 273 2134 ["signs","columns","number","pieces","last","begin","text","key","sign","mark"] v7<|fc "_law_cell" "_law_cell" (st 40) 308 3 280 2150 v7<|fc "law" "law" (st 41) 317 1 285 2156 v7<|[])))))))))))))
def tr(a b c d:PO)(n:Nat):cH->BT:=bl 9<|(LF a b c d).take n
def TB:cH->BT:=tr o3 o8 mu nj 15
def T1:cH->BT:=tr VH VI mu nj 30
def T2:cH->BT:=tr VJ vY mu nj 116
def T3:cH->BT:=tr VK vY mu nj 116
def T4:cH->BT:=tr VL vY mu nj 122
def T5:cH->BT:=tr VM vY CK CK 126
def T6:cH->BT:=tr M0 vY VN CK 129
def T7:cH->BT:=tr M0 vY mu CK 129
def T8:cH->BT:=tr VO vY mu nj 132
def T9:cH->BT:=tr VP VQ mu nj 167
def M3:cH->BT:=tr VR VS mu nj 233
def M4:cH->BT:=tr CL Ad mu nj 290
def hp(a b c d:PO)(n:Nat)(P:cH):fk:=⟨⟨ML P<|(LF a b c d).take n⟩,vV⟩
def H0:cH->fk:=hp o3 Ad mu nj 11
def HA:cH->fk:=hp o3 o8 mu nj 15
def HF:cH->fk:=hp CL Ad mu nj 290
def bE:List bu:=behindTheImports pw
def Ae:dw:={scope:=pw.main.scope,locals:=mainNs,globals:=mainNs,cells:=[],code:=VF,frame:=Y VG}
def cE:xh:= .body bE Ae
noncomputable abbrev g0:Array sq:=⟨[]⟩
theorem VV(w:aC):(ajV zv pw w 40000).map (λs=>(s.heap,s.gens,s.drawn,s.toks))=Y (H0 w.params,g0,{},181):=by
 unfold ajV
 rw[amS,amT,Fq,amU]
 kernel_rfl
theorem VW(w:aC):((H0 w.params).isNs gW&&g0.size==0,(H0 w.params).objs.size,(H0 w.params).nsMap gW "__annotations__")=(true,m0,vW):=by kernel_rfl
theorem VX(w:aC):(λos=>topGo zv pw w m0 vW 12 ⟨H0 w.params,g0,{},181,os⟩<|topStub pw)=λos=>Y (⟨HA w.params,g0,{},187,os⟩,⟨denote zv cE,cE,⟨0,0,0,0⟩,[Ft Aa]⟩):=by
 rw[amV,Fq,amW]
 kernel_rfl
theorem VY(w:aC):(λos=>segRun zv pw w m0 vW 1 1 ⟨HA w.params,g0,{},187,os⟩<|blockOf bE Ae cE ⟨0,0,0,0⟩ [Ft Aa])=λos=>Y (.next,(B7 (TB w.params) 15 vV g0 {} 187 os).abs,cE,⟨0,0,0,0⟩):=by
 rw[amX,Fq]
 kernel_rfl
abbrev n8(k:Nat)(T:cH->BT)(n t d e:Nat)(p:aV)(c:cH->BT)(f g:Nat)(h:aV)(w:aC):Prop:=(λos=>segRunT zv pw w m0 vW 1 k (B7 (T w.params) n vV g0 {} t os)<|piecesOf ((bE.drop d).take e) Ae cE p [Ft Aa])=λos=>Y (ajW,B7 (c w.params) f vV g0 {} g os,cE,h)
theorem fs{k:Nat}{T:cH->BT}{n t d e:Nat}{p:aV}{c:cH->BT}{f g:Nat}{h:aV}{w:aC}(i:(λos=>amY amZ pw w m0 vW 1 k (B7 (T w.params) n vV g0 {} t os)<|piecesOf ((bE.drop d).take e) Ae cE p [Ft Aa])=λos=>Y (ajW,B7 (c w.params) f vV g0 {} g os,cE,h)):n8 k T n t d e p c f g h w:=by
 unfold n8
 rw[am0,Fq]
 exact i
noncomputable abbrev ga(w:aC):aC:=Ll w "special-get-raises" false
noncomputable abbrev gb(w:aC):aC:=Ll w "special-get-raises" true
noncomputable abbrev ha(w:aC):aC:=Ll w "comprehension-iter-twice" false
noncomputable abbrev hb(w:aC):aC:=Ll w "comprehension-iter-twice" true
theorem xN{S:aC->Prop}(a:∀w,S<|ga w)(j:∀w,S<|gb w)(w:aC):S w:=byRow2 "special-get-raises" (P:=S) a j w
theorem p1(w:aC):n8 107 TB 15 187 0 7 ⟨0,0,0,0⟩ T1 30 213 ⟨10,0,10,14⟩ w:=fs<|by kernel_rfl
theorem p2(w:aC):n8 641 T1 30 213 7 1 ⟨10,0,10,14⟩ T2 116 375 ⟨11,0,118,16⟩ w:=fs<|by kernel_rfl
theorem p3(w:aC):n8 19 T2 116 375 8 2 ⟨11,0,118,16⟩ T3 116 379 ⟨120,0,120,2⟩ w:=fs<|by kernel_rfl
noncomputable abbrev gqZ(W w:aC)(k:Nat)(T:cH->BT)(n t d:Nat)(p:aV)(os:xj):Option (SharedT×Thread):=PySem.W.Fast.tw10295753902157049106 amZ pw W m0 vW 1 k (B7 (T w.params) n vV g0 {} t os)<|piecesOf ((bE.drop d).take 1) Ae cE p [Ft Aa]
noncomputable def gMZ(w:aC)(T:cH->BT)(n t d:Nat)(p:aV)(os:xj):SharedT×Thread:=(gqZ (ha<|ga w) w 60 T n t d p os).getD (B7 (T w.params) n vV g0 {} t os,piecesOf [] Ae cE p [])
abbrev SgS(k:Nat)(T:cH->BT)(n t d:Nat)(p:aV)(c:cH->BT)(f g:Nat)(h:aV)(w:aC):Prop:=∀(os:xj) (N:Nat) (r:au) (l:List bu),topRun zv pw w m0 vW N (B7 (c w.params) f vV g0 {} g os).abs (restOf l Ae cE h [Ft Aa])=Y r->topRun zv pw w m0 vW (k+N) (B7 (T w.params) n vV g0 {} t os).abs (restOf ((bE.drop d).take 1++l) Ae cE p [Ft Aa])=Y r
abbrev SgM(e:Nat)(T:cH->BT)(n t d:Nat)(p:aV)(c:cH->BT)(f g:Nat)(h:aV)(w:aC):Prop:=(λos=>amY amZ pw w m0 vW 1 e (gMZ w T n t d p os).1 (gMZ w T n t d p os).2)=λos=>Y (ajW,B7 (c w.params) f vV g0 {} g os,cE,h)
theorem sgZ{k1 e m:Nat}{T:cH->BT}{n t d:Nat}{p:aV}{c:cH->BT}{f g:Nat}{h:aV}{w:aC}(i:SgM e T n t d p c f g h w)(j:(λos=>gqZ w w k1 T n t d p os)=λos=>Y<|gMZ w T n t d p os):SgS (k1+(e+m)) T n t d p c f g h w:=λos N r l z=>by
 have a:segGoT zv pw w m0 vW 1 k1 (B7 (T w.params) n vV g0 {} t os) (piecesOf ((bE.drop d).take 1) Ae cE p [Ft Aa])=Y (gMZ w T n t d p os):=by
  rw[PySem.W.Fast.te10295753902157049106,Fq]
  exact congrFun j os
 have b:segRunT zv pw w m0 vW 1 e (gMZ w T n t d p os).1 (gMZ w T n t d p os).2=Y (ajW,B7 (c w.params) f vV g0 {} g os,cE,h):=by
  rw[am0,Fq]
  exact congrFun i os
 have:=sr (seg_go (segGo_of a)<|sy b)<|topRun_mono m _ _ _ _ z
 rw[show k1+(e+m)+N=k1+e+(N+m) by omega]
 exact this
abbrev S4:aC->Prop:=SgS 9552 T3 116 379 10 ⟨120,0,120,2⟩ T4 122 1407 ⟨121,0,121,11⟩
theorem p4t(w:aC):SgM 9492 T3 116 379 10 ⟨120,0,120,2⟩ T4 122 1407 ⟨121,0,121,11⟩ w:=by kernel_rfl
theorem VZ(w:aC):S4 (ha<|ga w):=sgZ (k1:=60) (m:=0) (p4t _)<|by kernel_rfl
theorem V0(w:aC):S4 (ha<|gb w):=sgZ (k1:=60) (m:=0) (p4t _)<|by kernel_rfl
theorem V1(w:aC):S4 (hb<|ga w):=sgZ (k1:=50) (m:=10) (p4t _)<|by kernel_rfl
theorem V2(w:aC):S4 (hb<|gb w):=sgZ (k1:=50) (m:=10) (p4t _)<|by kernel_rfl
theorem p4(w:aC):S4 w:=byRow2 "comprehension-iter-twice" (P:=S4) (xN (S:=λw=>S4<|ha w) VZ V0) (xN (S:=λw=>S4<|hb w) V1 V2) w
theorem p5(w:aC):n8 133 T4 122 1407 11 8 ⟨121,0,121,11⟩ T5 126 1424 ⟨129,0,129,8⟩ w:=fs<|by kernel_rfl
abbrev S6:aC->Prop:=SgS 3077 T5 126 1424 19 ⟨129,0,129,8⟩ T6 129 1632 ⟨130,9,130,74⟩
theorem p6t(w:aC):SgM 3017 T5 126 1424 19 ⟨129,0,129,8⟩ T6 129 1632 ⟨130,9,130,74⟩ w:=by kernel_rfl
theorem V3(w:aC):S6 (ga w):=sgZ (k1:=60) (m:=0) (p6t _)<|by kernel_rfl
theorem V4(w:aC):S6 (gb w):=sgZ (k1:=60) (m:=0) (p6t _)<|by kernel_rfl
theorem p6:∀w,S6 w:=xN V3 V4
theorem p7(w:aC):n8 25 T6 129 1632 20 1 ⟨130,9,130,74⟩ T7 129 1635 ⟨132,0,132,28⟩ w:=fs<|by kernel_rfl
abbrev S8:aC->Prop:=SgS 4303 T7 129 1635 21 ⟨132,0,132,28⟩ T8 132 1921 ⟨133,9,133,110⟩
theorem p8t(w:aC):SgM 4243 T7 129 1635 21 ⟨132,0,132,28⟩ T8 132 1921 ⟨133,9,133,110⟩ w:=by kernel_rfl
theorem V5(w:aC):S8 (ga w):=sgZ (k1:=60) (m:=0) (p8t _)<|by kernel_rfl
theorem V6(w:aC):S8 (gb w):=sgZ (k1:=60) (m:=0) (p8t _)<|by kernel_rfl
theorem p8:∀w,S8 w:=xN V5 V6
abbrev S9:aC->Prop:=n8 301 T8 132 1921 22 8 ⟨133,9,133,110⟩ T9 167 1978 ⟨211,0,211,8⟩
theorem V7(w:aC):S9 (ga w):=fs<|by kernel_rfl
theorem V8(w:aC):S9 (gb w):=fs<|by kernel_rfl
theorem p9:∀w,S9 w:=xN V7 V8
abbrev GO:aC->Prop:=n8 489 T9 167 1978 30 1 ⟨211,0,211,8⟩ M3 233 2074 ⟨212,0,258,16⟩
theorem V9(w:aC):GO (ga w):=fs<|by kernel_rfl
theorem V_(w:aC):GO (gb w):=fs<|by kernel_rfl
theorem GP:∀w,GO w:=xN V9 V_
theorem GQ(w:aC):n8 295 M3 233 2074 31 11 ⟨212,0,258,16⟩ M4 290 2162 ⟨317,0,349,75⟩ w:=fs<|by kernel_rfl
theorem Wa(w:aC):(λos=>topRun zv pw w m0 vW 2 (B7 (M4 w.params) 290 vV g0 {} 2162 os).abs ⟨doneF .next,cE,⟨317,0,349,75⟩,[Ft Aa]⟩)=λos=>Y ⟨HF w.params,g0,{},2162,os⟩:=by
 rw[am1,Fq]
 kernel_rfl
theorem Wb(w:aC)(os:xj):topRun zv pw w m0 vW (12+(1+(107+(641+(19+(9552+(133+(3077+(25+(4303+(301+(489+(295+2))))))))))))) ⟨H0 w.params,g0,{},181,os⟩ (topStub pw)=Y ⟨HF w.params,g0,{},2162,os⟩:=by
 refine go_top (congrFun (VX w) os)<|piece_block (env:=Ae) (b:=bE) (congrFun (VY w) os) ?_
 have hb:bE=(bE.drop 0).take 7++((bE.drop 7).take 1++((bE.drop 8).take 2++((bE.drop 10).take 1++((bE.drop 11).take 8++((bE.drop 19).take 1++((bE.drop 20).take 1++((bE.drop 21).take 1++((bE.drop 22).take 8++((bE.drop 30).take 1++((bE.drop 31).take 11++[])))))))))):=by kernel_rfl
 rw[hb]
 refine sr (sy<|congrFun (p1 w) os) ?_
 refine sr (sy<|congrFun (p2 w) os) ?_
 refine sr (sy<|congrFun (p3 w) os) ?_
 refine p4 w os _ _ _ ?_
 refine sr (sy<|congrFun (p5 w) os) ?_
 refine p6 w os _ _ _ ?_
 refine sr (sy<|congrFun (p7 w) os) ?_
 refine p8 w os _ _ _ ?_
 refine sr (sy<|congrFun (p9 w) os) ?_
 refine sr (sy<|congrFun (GP w) os) ?_
 refine sr (sy<|congrFun (GQ w) os) ?_
 exact piece_nil<|congrFun (Wa w) os
theorem Wc:jm (12+(1+(107+(641+(19+(9552+(133+(3077+(25+(4303+(301+(489+(295+2))))))))))))) 40000=true:=by decide+kernel
noncomputable def xO:List H:=["_wall","IS_CHARACTER_JUNK","file_template_difflib","styles_difflib","table_template_difflib","legend_difflib","HtmlDiff","CRLF","NL","_QUOPRI_MAP","_QUOPRI_HEADER_MAP","_QUOPRI_BODY_MAP","ascii_lowercase","ascii_uppercase","ascii_letters","digits","hexdigits","unquote","quote","_QUOPRI_BODY_ENCODE_MAP","body_encode","decode","Whitespace","_raise_serialization_error","_escape_cdata","_law_world","_law_page","_law_edges","_law_column","_law_pieces","_law_cell"]
def q0:xg:={pw with main:={pw.main with body:=[st 41]}}
noncomputable def fr{U:Type}(g:Nat->PO->U):Nat->List Nat->List PO->List U
 |_,_,[]=>[]
 |i,s,f::l=>bif bL (s.headD 999) i then fr g (i+1) s.tail l else g i f::fr g (i+1) s l
noncomputable def M5:List Nat:=[8,12,16,19,24,27,34,39,42,48,51,55,56,60,63,67,70,74,77,81,84,88,91,95,98,103,106,133,136,140,143,153,156,161,164,171,178,181,185,188,192,195,199,202,206,209,213,216,220,223,234,237,241,244,248,251,255,258,262,263,267,270,274,277,281,282,286,287]
def K0(P:cH):Frag:=fr (λi f=>(i,f P)) 0 M5<|LF CL Ad mu nj
def M6:List ak:=fr (λi _=>i) 0 M5<|LF CL Ad mu nj
theorem Wd(P:cH):M6=(K0 P).map (·.1):=by kernel_rfl
abbrev qb:Hook:=kmHook K0 M6 Wd [55]
noncomputable abbrev GS:RowW:=B8.row.toRowW
def GU(s:au):Bool:=xlAt q0 [] s&&recOk (RowW.records GS) s
theorem We(w:aC)(os:xj):(staticsOk (ajX pw.main.body) (H0 w.params) (HF w.params)&&namesBound pw (HF w.params)&&gensDone ⟨HF w.params,g0,{},2162,os⟩&&laidKept (H0 w.params) (HF w.params))=true:=by kernel_rfl
theorem Wf(w:aC)(os:xj):openSeen q0 xO (ajX pw.main.body) GU true ⟨HF w.params,g0,{},2162,os⟩=openGood q0 xO:=by kernel_rfl
theorem Wg(w:aC)(os:xj):qb.obs ⟨HF w.params,g0,{},2162,os⟩=qb.val w:=by kernel_rfl
theorem Wh:LeftO pw q0 xO GU qb.obs qb.val 40000:=
 LeftO.of_pieces VV VW Wb Wc λw=>funext λos=>Ug (We w os)<|Ug (Wf w os)<|Wg w os
abbrev d0:DefRec:=⟨"law",MJ<|st 41,GJ<|st 41,MK<|st 41,(st 41).pos⟩
theorem ami(a:B8.row.wellSaid=true)(f_:WalkO q0 xO (XL q0 []) qb.says GS d0 [] λf vs=>f_ f vs):B8.row.Holds:=by
 refine holds_open (r:=B8.row) (q:=q0) (loose:=xO) (Xt:=GU) (XP:=XL q0 []) (Yf:=qb.obs) (Ya:=qb.val) (YP:=qb.says) (N:=40000) Wh qb.of qb.keeps (λs e=>xl_of s (k8.mp e).1) XL.keeps (by kernel_rfl) (by kernel_rfl) (by kernel_rfl) (λs e=>recFacts_of (k8.mp e).2) (by rfl) a (by decide+kernel) ⟨rfl,rfl,rfl,rfl,rfl,by decide+kernel⟩ ?b f_
 case b=>w_witness2
theorem aK{a b c:Nat}(h:autoParam (a<=b) ByteArray.get._auto_1)(d:autoParam (jm b c=true) PyProof.Rows.glC_str._auto_1):a<=c:=ic h<|TS d
theorem gI{a b c:Nat}(h:a<=b)(d:jm (b+1) c=true):a<c:=zu h<|TS d
def kN(P:cH)(a:ak):bh:=((K0 P).lookup a).getD {cls:= .none}
noncomputable def Wi:kI:=⟨"","",⟨[],[],Z,[],[],Z,[]⟩,.stmts [],⟨.module,[],false,false,[]⟩,0,[],.none,.none,.none,.none,Z,.none,.none,0⟩
def Wj(o:bh):kI:=match o.data with
 | .func a=>a
 |_=>Wi
noncomputable def cF(a:kI):List bu:=match a.body with
 | .stmts b=>b
 |_=>[]
noncomputable def nk:cH:={strHash:=λU=>0,shareClass:=λU=>0,mergeTok:=id,idOf:=λU=>0,idOfShared:=λU U=>0,followText:=λU=>false,idOfImm:=λU=>0}
abbrev aM(a:ak):kI:=Wj<|kN nk a
def CN:SV:=sv<|hS<|cF<|aM 58
def CO:Ue:=CN.ar
def xP:List bu:=CN.a
def rj:jo:=CN.sc
noncomputable def xQ:H:="HtmlDiff._tab_newline_replace.<locals>.expand_tabs"
abbrev FM:=ak->Option bh
def FM.le(J j:FM):Prop:=∀a o,J a=Y o->j a=Y o
def FM.sY(J j:FM):Prop:=∀a o,J a=Y o->(∀v,o.data≠ .cell v)->j a=Y o
theorem FM.le.N(x:FM.le J j):FM.sY J j:=λa o e U=>x a o e
abbrev FM.jw(J j:FM):Prop:=FM.le J j
theorem FM.le.C(x:FM.le J j):FM.jw J j:=x
theorem FM.le.refl(J:FM):FM.le J J:=λU U e=>e
theorem FM.le.trans(x:FM.le J j)(y:FM.le j b):FM.le J b:=λa o e=>y a o<|x a o e
noncomputable def FM.cY(J:FM)(a:ak)(o:bh):FM:=λb=>if b=a then Y o else J b
theorem FM.iZ(h:J a=Z):FM.le J (J.cY a o):=λb x e=>by
 unfold FM.cY
 by_cases q:b=a
 ·subst q;rw[h] at e;cases e
 ·refine V (if_neg q) ?_;exact e
theorem FM.eZ(J:FM)(a:ak)(o:bh):J.cY a o a=Y o:=by unfold FM.cY;exact V (if_pos rfl) rfl
abbrev ao:=List<|ak×bh
noncomputable def ao.jx(l:ao)(a:ak)(o:bh):ao:=l.map λp=>if p.1=a then(a,o) else p
theorem ao.sZ{l:ao}{a:ak}{o u:bh}(h:(a,o)∈l):(a,u)∈l.jx a u:=by
 exact bg.mpr ⟨(a,o),h,by simp⟩
theorem ao.rm{l:ao}{a b:ak}{o u:bh}(h:(b,o)∈l)(c:b≠a):(b,o)∈l.jx a u:=by
 exact bg.mpr ⟨(b,o),h,by simp[c]⟩
theorem ao.xR{l:ao}{a b:ak}{o u:bh}(h:(b,o)∈l.jx a u):(b=a/\o=u)\/(b≠a/\(b,o)∈l):=by
 obtain⟨⟨c,x⟩,d,e⟩:=bg.mp h
 by_cases q:c=a
 ·simp only[q,if_true,B9] at e
  exact .inl ⟨e.1.symm,e.2.symm⟩
 ·simp only[q,if_false,B9] at e
  obtain⟨rfl,rfl⟩:=e
  exact .inr ⟨q,d⟩
structure bz(w:aC)(J:FM)(l:ao)(h:fk):Prop where
 keep:∀a o,J a=Y o->h.get? a=Y o
 led:∀p∈l,h.get? p.1=Y p.2
 cU:∀p∈l,J p.1=Z
 K:∀a o,(K0 w.params).lookup a=Y o->J a=Y o
section
variable {w:aC} {J j:FM} {f D:ao} {h A:fk} {a:ak} {o u:bh}
theorem bz.e7(B:bz w J f h):(K0 w.params).In h:=λa o e=>B.keep a o<|B.K a o e
theorem bz.get(B:bz w J f h)(m:(a,o)∈f):h.get? a=Y o:=B.led _ m
theorem bz.lt(B:bz w J f h)(e:J a=Y o):a<h.objs.size:=iC<|B.keep a o e
theorem bz.mw(B:bz w J f h)(m:(a,o)∈f):a<h.objs.size:=iC<|B.led _ m
theorem bz.fresh(B:bz w J f h):J h.objs.size=Z:=by
 cases e:J h.objs.size with
 |none=>rfl
 |some o=>exact absurd (B.lt e)<|zw _
theorem bz.Af(B:bz w J f h)(m:(a,o)∈f):a≠h.objs.size:=gu<|B.mw m
theorem bz.aO(B:bz w J f h)(k:∀b o,h.get? b=Y o->A.get? b=Y o):bz w J f A:=
 ⟨λa o e=>k _ _<|B.keep a o e,λp m=>k _ _<|B.led p m,B.cU,B.K⟩
theorem bz.sub(B:bz w J f h)(s:∀p∈D,p∈f):bz w J D h:=⟨B.keep,λp m=>B.led p<|s p m,λp m=>B.cU p<|s p m,B.K⟩
theorem bz.alloc(B:bz w J f h)(c:o.isFreed=false):bz w (J.cY h.objs.size o) f (h.push o):=by
 refine⟨λb x e=>?_,λp m=>ie _<|B.led p m,λp m=>?_,λb x e=>FM.iZ B.fresh _ _<|B.K b x e⟩
 ·unfold FM.cY at e
  by_cases q:b=h.objs.size
  ·rw[if_pos q] at e;cases e;subst q;exact qM _ c
  ·rw[if_neg q] at e;exact ie _<|B.keep b x e
 ·unfold FM.cY
  refine V (if_neg<|B.Af (a:=p.1) (o:=p.2) m) ?_
  exact B.cU p m
theorem bz.Wk(B:bz w J f h)(c:o.isFreed=false):bz w J ((h.objs.size,o)::f) (h.push o):=by
 refine⟨λb x e=>ie _<|B.keep b x e,λp m=>?_,λp m=>?_,B.K⟩
 ·refine bN m ?_ λm=>?_
  ·exact qM _ c
  ·exact ie _<|B.led p m
 ·refine bN m ?_ λm=>?_
  ·exact B.fresh
  ·exact B.cU p m
theorem bz.update(B:bz w J f h)(m:(a,o)∈f)(hs:pS a h A)(d:A.get? a=Y u):bz w J (f.jx a u) A:=by
 have ha:=B.cU _ m
 refine⟨λb x e=>?_,λp q=>?_,λp q=>?_,B.K⟩
 ·have:b≠a:=by rintro rfl;rw[ha] at e;cases e
  exact(hs.2 b this).trans<|B.keep b x e
 ·obtain⟨b,x⟩:=p
  rcases ao.xR q with⟨rfl,rfl⟩|⟨c,q⟩
  ·exact d
  ·exact(hs.2 b c).trans<|B.led _ q
 ·obtain⟨b,x⟩:=p
  rcases ao.xR q with⟨rfl,rfl⟩|⟨c,q⟩
  ·exact ha
  ·exact B.cU _ q
theorem bz.Ag(B:bz w J f h)(m:(a,o)∈f):bz w (J.cY a o) (f.filter λp=>p.1 !=a) h:=by
 have ha:=B.cU _ m
 refine⟨λb x e=>?_,λp q=>B.led p (jq.mp q).1,λp q=>?_,λb x e=>FM.iZ ha _ _<|B.K b x e⟩
 ·unfold FM.cY at e
  by_cases z:b=a
  ·rw[if_pos z] at e;cases e;subst z;exact B.led _ m
  ·rw[if_neg z] at e;exact B.keep b x e
 ·have:=jq.mp q
  unfold FM.cY
  exact V (if_neg<|by simpa using this.2)<|
   B.cU p this.1
end
mutual
inductive RD(J:FM):aa->af->Prop
 |none:RD J .none .none
 |bool (b):RD J (.bool b) (.bool b)
 |int (i t):RD J (.int i t) (.int i)
 |str (x t):RD J (.str x t) (.str x)
 |list {a vs n xs}:J a=Y {cls:= .type "list",data:= .seq vs n}->bD J vs.toList xs->RD J (.ref a) (.list xs)
 |tuple {a vs n xs}:J a=Y {cls:= .type "tuple",data:= .seq vs n}->bD J vs.toList xs->RD J (.ref a) (.tuple xs)
inductive bD(J:FM):List aa->List af->Prop
 |nil:bD J [] []
 |cons {v vs d c}:RD J v d->bD J vs c->bD J (v::vs) (d::c)
end
theorem bD.kO{J:FM}{P:List aa->List af->Prop}(b:P [] [])(e:∀v vs d c,RD J v d->bD J vs c->P vs c->P (v::vs) (d::c)){vs c}(r:bD J vs c):P vs c:=
 bD.rec (motive_1:=λU U U=>True) (motive_2:=λvs c U=>P vs c) trivial (λU=>trivial) (λU U=>trivial) (λU U=>trivial) (λU U U=>trivial) (λU U U=>trivial) b (λx y U h=>e _ _ _ _ x y h) r
theorem RD.sY(k:FM.sY J j){v d}(r:RD J v d):RD j v d:=
 RD.rec (motive_1:=λv d U=>RD j v d) (motive_2:=λvs c U=>bD j vs c) .none .bool .int .str (λh U r=> .list (k _ _ h λU q=>nomatch q) r) (λh U r=> .tuple (k _ _ h λU q=>nomatch q) r) .nil (λU U x y=> .cons x y) r
theorem bD.sY{J j:FM}(k:FM.sY J j){v d}(r:bD J v d):bD j v d:=r.kO .nil λU U U U x U y=> .cons (RD.sY k x) y
inductive M7(J:FM)(xs:List af):aa->Prop
 |mk (a:ak) (vs:Array aa) (n:Nat):J a=Y {cls:= .type "list",data:= .seq vs n}->bD J vs.toList xs->M7 J xs (.ref a)
inductive M8(J:FM)(xs:List af):aa->Prop
 |mk (a:ak) (vs:Array aa) (n:Nat):J a=Y {cls:= .type "tuple",data:= .seq vs n}->bD J vs.toList xs->M8 J xs (.ref a)
theorem xS(r:RD J v (.list xs)):M7 J xs v:=by
 cases r with
 |list g r=>exact .mk _ _ _ g r
theorem CP(r:RD J v (.tuple xs)):M8 J xs v:=by
 cases r with
 |tuple g r=>exact .mk _ _ _ g r
inductive M9(J:FM)(d:af)(c:List af):List aa->Prop
 |mk (v:aa) (vs:List aa):RD J v d->bD J vs c->M9 J d c (v::vs)
theorem Wl(r:bD J vs (d::c)):M9 J d c vs:=by
 cases r with
 |cons a b=>exact .mk _ _ a b
theorem M_(r:bD J vs []):vs=[]:=by
 cases r with
 |nil=>rfl
theorem RD.le(k:FM.jw J j){v d}(r:RD J v d):RD j v d:=r.sY<|FM.le.N k
theorem bD.le(k:FM.jw J j){v d}(r:bD J v d):bD j v d:=r.sY<|FM.le.N k
theorem RD.aO(k:FM.le J j){v d}(r:RD J v d):RD j v d:=r.le k.C
theorem bD.aO(k:FM.le J j){v d}(r:bD J v d):bD j v d:=r.le k.C
theorem RD.reads(k:∀a o,J a=Y o->h.get? a=Y o){v d}(r:RD J v d):∃as,Reads h v d as:=
 RD.rec (motive_1:=λv d U=>∃as,Reads h v d as) (motive_2:=λvs c U=>∃as,ReadsAll h vs c as) ⟨_,.none⟩ (λb=>⟨_,.bool b⟩) (λi t=>⟨_,.int i t⟩) (λx t=>⟨_,.str x t⟩) (λe U x=>x.elim λU x=>⟨_,.list (k _ _ e) rfl rfl x⟩) (λe U x=>x.elim λU x=>⟨_,.tuple (k _ _ e) rfl rfl x⟩)
  ⟨_,.nil⟩ (λU U x y=>x.elim λU x=>y.elim λU y=>⟨_,.cons x y⟩) r
theorem bD.length{J:FM}{vs c}(r:bD J vs c):vs.length=c.length:=r.kO (P:=λvs c=>vs.length=c.length) rfl λU U U U U U h=>congrArg xm h
theorem bD.get{J:FM}{vs c}(r:bD J vs c){i:Nat}{d}(e:c[i]?=Y d):∃v,vs[i]?=Y v/\RD J v d:=
 r.kO (P:=λvs c=>∀(i:Nat) d,c[i]?=Y d->∃v,vs[i]?=Y v/\RD J v d) (λU U e=>nS e) (λv U U U x U h i d e=>by
  cases i with
  |zero=>exact⟨v,rfl,iD e▸x⟩
  |succ i=>exact h i d e) i d e
theorem bD.append{J:FM}{vs c us b}(r:bD J vs c)(y:bD J us b):bD J (vs++us) (c++b):=r.kO (P:=λvs c=>bD J (vs++us)<|c++b) y λU U U U x U h=> .cons x h
theorem bD.take{J:FM}{vs c}(r:bD J vs c)(n:Nat):bD J (vs.take n) (c.take n):=
 r.kO (P:=λvs c=>∀n,bD J (vs.take n)<|c.take n) (λn=>by cases n<;>exact .nil) (λU U U U x U h n=>by
  cases n with
  |zero=>exact .nil
  |succ n=>exact .cons x<|h n) n
theorem bD.drop{J:FM}{vs c}(r:bD J vs c)(n:Nat):bD J (vs.drop n) (c.drop n):=
 r.kO (P:=λvs c=>∀n,bD J (vs.drop n)<|c.drop n) (λn=>by cases n<;>exact .nil) (λU U U U x y h n=>by
  cases n with
  |zero=>exact .cons x y
  |succ n=>exact h n) n
theorem bD.set{J:FM}{vs c}(r:bD J vs c)(i:Nat){v d}(x:RD J v d):bD J (vs.set i v) (c.set i d):=
 r.kO (P:=λvs c=>∀i,bD J (vs.set i v)<|c.set i d) (λU=> .nil) (λU U U U y r h i=>by
  cases i with
  |zero=>exact .cons x r
  |succ i=>exact .cons y<|h i) i
inductive AV where
 |d (x:af)
 |m (i:Nat)
 |gA (i:Nat) (C:ak)
 |ap (i:Nat)
 |k (a:ak)
 |ty (n:String)
 |bi (id:String)
 |bF (g d:Int)
 |ws (j:List Int) (b k:Int)
 |e_ (g:Int)
 |iJ (xs:List Int)
 |dt (w:aC) (f:List (H×H))
 |en (xs:List af)|zp (xs e:List af)|rg (a b c:Int)
inductive AO where
 |ai (xs:List af)
 |gJ (C:ak) (L:List (H×AV))
 |tab
 |fX
 |nq (d:Data)
structure St where
 v:List (Option AV)
 μ:List (Option AO)
noncomputable abbrev Wm:ak:=111
noncomputable abbrev Wn:ak:=228
def Wo(J:FM)(e:eY)(n:H)(x:af):Prop:=(∃t,e.key= .str n t)/\RD J e.val x
inductive qc(J:FM):List eY->List (H×af)->Prop
 |nil:qc J [] []
 |cons {e f n x L}:Wo J e n x->qc J f L->qc J (e::f) ((n,x)::L)
theorem qc.le(k:FM.jw J Q){f L}(t:qc J f L):qc Q f L:=by
 induction t with
 |nil=>exact .nil
 |cons a _ r=>exact .cons ⟨a.1,a.2.le k⟩ r
inductive uJ(J:FM)(v:aa)(g d:Int):Prop
 |mk (x e:ak) (K L f a b:Int) (k1 j k l o G p:k_) (i:aa) (n:Nat):v= .ref x->J x=Y (lq Wm e)->
  J e=Y (jP [⟨K,.str "_tabsize" k1,.int g G⟩,⟨L,.str "_wrapcolumn" j,.int d p⟩,⟨f,.str "_linejunk" k,.none⟩,⟨a,.str "_charjunk" l,.ref 29⟩,⟨b,.str "_prefix" o,i⟩] n)->
  RD J i (.list [.str "old_",.str "new_"])->uJ J v g d
inductive xT(J:FM)(v:aa)(j:List Int)(b k:Int):Prop
 |mk (x e:ak) (f:List eY) (n:Nat) (a d g:af):v= .ref x->J x=Y (lq Wn e)->J e=Y (jP f n)->
  qc J f [("raw",a),("n",d),("nt",.int k),("norm",.tuple [.tuple (j.map .int),.int b]),("is_simple",g)]->xT J v j b k
inductive uK:List (H×aa)->List (H×H)->Prop
 |nil:uK [] []
 |cons {k y t d f}:uK d f->uK ((k,.str y t)::d) ((k,y)::f)
inductive uL(J:FM)(v:aa)(n:Int):Prop
 |mk (a f:ak) (g i l:aa) (j:bh) (vs:Array aa) (t:k_) (e:ak) (b:bh) (k:aa) (d:Int):v= .ref a->J a=Y {cls:= .type "function",data:= .func (fnX "expand_tabs" xQ CO xP rj [("self",e)] .none .none i l Z (.ref f) g)}->
  J f=Y j->j.data= .fields vs->vs[1]?=Y (.str xQ t)->J e=Y b->b.data= .cell (Y k)->uJ J k n d->uL J v n
theorem uJ.le(k:FM.jw J Q)(t:uJ J v s c):uJ Q v s c:=by
 obtain⟨_,_,_,_,_,_,_,_,_,_,_,_,_,_,_,_,a,b,f,d⟩:=t
 exact .mk _ _ _ _ _ _ _ _ _ _ _ _ _ _ _ _ a (k _ _ b) (k _ _ f)<|d.le k
theorem xT.le(k:FM.jw J Q)(t:xT J v c b n):xT Q v c b n:=by
 obtain⟨_,_,_,_,_,_,_,a,e,f,g⟩:=t
 exact .mk _ _ _ _ _ _ _ a (k _ _ e) (k _ _ f)<|g.le k
theorem uL.le(k:FM.jw J Q)(t:uL J v n):uL Q v n:=by
 obtain⟨_,_,_,_,_,_,_,_,_,_,_,_,e,K,L,f,a,b,d,g⟩:=t
 exact .mk _ _ _ _ _ _ _ _ _ _ _ _ e (k _ _ K) (k _ _ L) f a (k _ _ b) d<|g.le k
def RV(J:FM)(as:List ak)(v:aa):AV->Prop
 | .d x=>RD J v x
 | .m i=>∃a,as[i]?=Y a/\v= .ref a
 | .gA i C=>∃x e,as[i]?=Y e/\v= .ref x/\J x=Y (lq C e)
 | .ap i=>∃g l o,as[i]?=Y l/\v= .ref g/\J g=Y o/\o.cls= .type "builtin_function_or_method"/\o.data= .fields #[.builtin "list.append",.ref l]
 | .k a=>v= .ref a
 | .ty n=>v= .type n
 | .bi id=>v= .builtin id
 | .bF s c=>uJ J v s c
 | .ws c b n=>xT J v c b n
 | .e_ n=>uL J v n
 | .iJ xs=>∃a o vs n,v= .ref a/\J a=Y o/\o.cls= .type "list"/\o.data= .seq vs n/\bD J vs.toList (xs.map .int)
 | .dt w f=>∃a o d,v= .ref a/\(a==Uh)=false/\J a=Y o/\o.IsDictOf (Fv pw w) d/\uK d f
 | .rg a b c=>∃r t u p,v= .ref r/\J r=Y {cls:= .type "range",data:= .fields #[.int a t,.int b u,.int c p]}
 | .en _=>False
 | .zp _ _=>False
theorem RV.le(k:FM.jw J Q)(p:∀(i:Nat) (a:ak),as[i]?=Y a->j[i]?=Y a)(r:RV J as v u):RV Q j v u:=by
 cases u with
 |d x=>exact RD.le k r
 |m i=>exact r.imp λa t=>⟨p _ _ t.1,t.2⟩
 |gA i C=>exact r.imp λx t=>t.imp λe t=>(bJ (p _ _ t.1) t.2.1<|k _ _ t.2.2)
 |ap i=>exact r.imp λg t=>t.imp λl t=>t.imp λo t=>(g5 (p _ _ t.1) t.2.1 (k _ _ t.2.2.1) t.2.2.2)
 |k a=>exact r
 |ty n=>exact r
 |bi id=>exact r
 |bF s c=>exact uJ.le k r
 |ws c b n=>exact xT.le k r
 |e_ n=>exact uL.le k r
 |iJ xs=>exact r.imp λa t=>t.imp λo t=>t.imp λvs t=>t.imp λn t=>(sS t.1 (k _ _ t.2.1) t.2.2.1 t.2.2.2.1<|bD.le k t.2.2.2.2)
 |dt w f=>exact r.imp λa t=>t.imp λo t=>t.imp λd t=>(g5 t.1 t.2.1 (k _ _ t.2.2.1) t.2.2.2)
 |en _=>exact r
 |zp _ _=>exact r
 |rg a b c=>exact r.imp λa t=>t.imp λo t=>t.imp λvs t=>t.imp λn t=>⟨t.1,k _ _ t.2⟩
theorem RV.aO(k:FM.le J Q)(r:RV J as v u):RV Q as v u:=r.le k.C λ_ _ e=>e
structure Cx where
 w:aC
 A:cR
 aj:dw
 cl:List (H×ak)
 g:Array sq
 os:xj
 d:Nat
 fr:List ak
abbrev Cx.M(c:Cx):k9:=aX pw c.w
noncomputable abbrev Cx.L(c:Cx):ak:=c.aj.locals
structure aW(c:Cx):Prop where
 hand:c.A.handled=Z
 depth:c.A.depth<=900
 units:c.A.units<=6000
 iK:c.A.depth+c.d<=900/\c.A.units+8*c.d<=6000
 kind:c.aj.scope.kind= .function
 kg:c.aj.globals=gW
 blt:c.aj.builtins=nV
def own(c:Cx)(as:List ak):List ak:=c.L::(c.cl.map (·.2)++as)
inductive xU(b:dw)(e:List (H×ak))(J:FM)(as:List ak)(E:ao)(m:H->Option aa)(x:H)(v:Option AV):Prop
 |mz:b.kindOf x=Y .local->(∀u,v=Y u->∃d,m x=Y d/\RV J as d u)->xU b e J as E m x v
 |own (a o w):b.kindOf x=Y .cell->(x,a)∈e->b.cells.lookup x=Y a->(a,o)∈E->o.data= .cell w->(∀u,v=Y u->∃d,w=Y d/\RV J as d u)->xU b e J as E m x v
 |free (a o w):(b.kindOf x=Y .cell\/b.kindOf x=Y .free)->b.cells.lookup x=Y a->J a=Y o->o.data= .cell w->(∀u,v=Y u->∃d,w=Y d/\RV J as d u)->xU b e J as E m x v
abbrev xV(c:Cx):=xU c.aj c.cl
inductive jy(J:FM):List eY->List (H×AV)->Prop
 |nil:jy J [] []
 |cons {e f n x L}:(∃t,e.key= .str n t)->RV J [] e.val x->jy J f L->jy J (e::f) ((n,x)::L)
theorem jy.le(k:FM.jw J Q){f L}(t:jy J f L):jy Q f L:=by
 induction t with
 |nil=>exact .nil
 |cons a b _ r=>exact .cons a (b.le k λ_ _ e=>e) r
def gK(J:FM)(o:bh):AO->Prop
 | .ai xs=>∃vs n,o={cls:= .type "list",data:= .seq vs n}/\bD J vs.toList xs
 | .gJ C L=>∃f n,o=jP f n/\jy J f L
 | .tab=>o=iE #[]
 | .fX=>∃a,o=iE a
 | .nq d=>o.data=d
theorem gK.le(k:FM.jw J Q)(t:gK J o x):gK Q o x:=by
 cases x with
 |ai xs=>exact t.imp λvs t=>t.imp λn t=>⟨t.1,t.2.le k⟩
 |gJ C L=>exact t.imp λf t=>t.imp λn t=>⟨t.1,t.2.le k⟩
 |_=>exact t
inductive Na(J:FM)(as:List ak)(E:ao)(i:Nat)(x:AO):Prop
 |mk (a:ak) (o:bh):as[i]?=Y a->(a,o)∈E->gK J o x->Na J as E i x
inductive Nb(E:ao)(a:ak):Prop
 |mk (o:bh) (w:Option aa):(a,o)∈E->o.data= .cell w->Nb E a
structure dZ(c:Cx)(N:List H)(h:ao)(q:St)(J:FM)(as:List ak)(E:ao)(m:H->Option aa)(s:au):Prop where
 base:bz c.w J E s.heap
 sub:∀p∈h,p∈E
 apart:∀a∈own c as,∀p∈h,p.1≠a
 nd:(own c as).Nodup
 ns:s.heap.Ns c.L m
 lo:∃o,(c.L,o)∈E
 e_:∀x a,(x,a)∈c.cl->Nb E a
 nv:N.length=q.v.length
 vars:∀(i:Nat) (x:H),N[i]?=Y x->xV c J as E m x (q.v[i]?.join)
 gj:as.length=q.μ.length/\∀(i:Nat) (a:ak),c.fr[i]?=Y a->as[i]?=Y a
 ff:∀(i:Nat) (x:AO),q.μ[i]?=Y (Y x)->Na J as E i x
 gens:s.gens=c.g
 os:s.os=c.os
 al:∀a∈as,(∃o,(a,o)∈E)\/∃o,J a=Y o
def aH(c:Cx)(N:List H)(h:ao)(q:St)(J:FM)(as:List ak)(s:au):Prop:=∃E m,dZ c N h q J as E m s
theorem ao.Wq{E:ao}{a b:ak}{o d:bh}{J:FM}(m:(a,o)∈E)(t:(∃x,(b,x)∈E)\/∃x,J b=Y x):(∃x,(b,x)∈E.jx a d)\/∃x,J b=Y x:=by
 rcases t with⟨x,t⟩|t
 ·by_cases g:b=a
  ·subst g;exact .inl ⟨d,ao.sZ t⟩
  ·exact .inl ⟨x,ao.rm t g⟩
 ·exact .inr t
section
variable {c:Cx} {N:List H} {h:ao} {q:St} {J Q:FM} {as:List ak} {E D:ao} {m m':H->Option aa} {s s':au}
theorem xU.map(k:FM.le J Q)(f:∀a o,(x,a)∈c.cl->(a,o)∈E->(a,o)∈D)(A:m' x=m x)(R:∀r,p=Y r->∃u,v=Y u/\∀d,RV J as d u->RV Q j d r)(t:xV c J as E m x v):xV c Q j D m' x p:=by
 have l {w:Option aa} (b:∀u,v=Y u->∃d,w=Y d/\RV J as d u) (r:AV) (e:p=Y r):∃d,w=Y d/\RV Q j d r:=(R r e).elim λu t=>(b u t.1).imp λd g=>⟨g.1,t.2 d g.2⟩
 cases t with
 |mz a b=>exact .mz a<|A▸l b
 |own a o w n i s y z B=>exact .own a o w n i s (f _ _ i y) z<|l B
 |free a o w n i s y z=>exact .free a o w n i (k _ _ s) y<|l z
theorem xU.le(k:FM.le J Q)(p:∀(i:Nat) (a:ak),as[i]?=Y a->j[i]?=Y a)(f:∀g∈E,g∈D)(t:xV c J as E m x v):xV c Q j D m x v:=
 t.map k (λ_ _ _=>f _) rfl λu e=>(ah u e λ_ r=>r.le k.C p)
theorem CQ{t g:fk}{a:ak}{m:H->Option aa}(n:t.Ns a m)(e:∀o,t.get? a=Y o->g.get? a=Y o):g.Ns a m:=by
 refine sV n λo f b a1 r=>?_;clear n
 exact xF o f b (e _ a1) r
theorem CR(c:Cx)(as:List ak):c.L∈own c as:=aZ
theorem GV(t:(x,a)∈c.cl):a∈own c as:=
 a_ _ (iF _<|bg.mpr<|ah _ t rfl)
theorem CS{c:Cx}{as:List ak}{i:Nat}{a:ak}(t:as[i]?=Y a):a∈own c as:=
 a_ _ (gw _<|m_ t)
theorem GW(d:(own c as).Nodup)(t:(x,a)∈c.cl):a≠c.L:=λe=>
 (lu.mp d).1 (iF _<|bg.mpr<|ah _ t e)
theorem GX{c:Cx}{as:List ak}(d:(own c as).Nodup){i:Nat}{a:ak}(t:as[i]?=Y a):a≠c.L:=λe=>
 (lu.mp d).1 (gw _<|e▸m_ t)
theorem GZ{c:Cx}{as:List ak}(d:(own c as).Nodup){x:H}{a b:ak}{i:Nat}(t:(x,a)∈c.cl)(g:as[i]?=Y b):b≠a:=λe=>
 (zx.mp (lu.mp d).2).2.2 a (bg.mpr<|ah _ t rfl) b (m_ g) e.symm
theorem G1{C:Type}{l:List C}{i j:Nat}{a:C}(d:l.Nodup)(K:l[i]?=Y a)(L:l[j]?=Y a):i=j:=(List.getElem?_inj (fF.mp K).1 d).mp<|K.trans L.symm
theorem Nc{l:List (H×ak)}(d:(l.map (·.2)).Nodup){x y:H}{a:ak}(t:(x,a)∈l)(g:(y,a)∈l):x=y:=by
 refine Ex (Ui t) λi b=>?_
 refine Ex (Ui g) λj u=>?_
 have e:=G1 d (i:=i) (j:=j) (a:=a) (by refine V iW (V b ?_);rfl)<|by refine V iW (V u ?_);rfl
 rw[e,u] at b
 cases b;rfl
theorem Wr(d:(own c as).Nodup):(c.cl.map (·.2)).Nodup:=(zx.mp (lu.mp d).2).1
theorem Nd(d:(own c as).Nodup):as.Nodup:=(zx.mp (lu.mp d).2).2.1
theorem Nf{c:Cx}{as:List ak}(d:(own c as).Nodup){i j:Nat}{a:ak}(K:as[i]?=Y a)(L:as[j]?=Y a):i=j:=G1 (Nd d) K L
theorem Ws{C:Type}{l:List (Option C)}{x y:C}(t:l.length<=j)(e:(l++[Y x])[j]?=Y (Y y)):j=l.length/\x=y:=by
 refine Ex (Nat.le.dest t) λn a=>?_;subst a
 rw[kJ t,Lm] at e
 cases n with
 |zero=>cases e;exact⟨rfl,rfl⟩
 |succ n=>exact nS e
theorem dZ.Ng(I:dZ c N h q J as E m s):∀b∈own c as,b<s.heap.objs.size:=λb v=>by
 rcases iX.mp v with rfl|v
 ·refine Ex I.lo λlo y=>?_;exact I.base.mw y
 ·rcases cj.mp v with v|v
  ·refine aD (bg.mp v) λp l a=>?_;subst a
   obtain⟨x,w,g,_⟩:=I.e_ p.1 p.2 l
   exact I.base.mw g
  ·rcases I.al b v with⟨o,t⟩|⟨o,t⟩
   ·exact I.base.mw t
   ·exact I.base.lt t
theorem Nh:own c (as++[a])=own c as++[a]:=by unfold own;refine az (eO ..) ?_;rfl
theorem dZ.Ni(I:dZ c N h q J as E m s)(B:bz c.w J ((a,o)::E) s.heap)(A:a∉own c as)(y:∀p∈h,p.1≠a)(r:gK J o x)(e:n=⟨q.v,q.μ++[Y x]⟩):
  dZ c N h n J (as++[a]) ((a,o)::E) m s:=by
 subst e
 have k:∀(i:Nat) (b:ak),as[i]?=Y b->(as++[a])[i]?=Y b:=λi b e=>by refine V (pT (fF.mp e).1) ?_;exact e
 have f:∀g∈E,g∈(a,o)::E:=λg t=>a_ _ t
 refine⟨B,λp l=>f _<|I.sub p l,λb v p l=>?_,?_,I.ns,I.lo.imp λ_=>f _,λz b v=>let ⟨o,w,g,G⟩:=I.e_ z b v;⟨o,w,f _ g,G⟩,I.nv,λj z u=>(I.vars j z u).le (FM.le.refl J) k f,⟨by refine V bQ (V bQ<|V I.gj.1 ?_);rfl,λi b e=>k i b<|I.gj.2 i b e⟩,λj z u=>?_,I.gens,I.os,λb v=>?_⟩
 ·rw[Nh] at v
  rcases cj.mp v with t|t
  ·exact I.apart b t p l
  ·exact bH.mp t▸y p l
 ·exact V Nh<|
   zx.mpr (bJ I.nd (lu.mpr ⟨lW,uf⟩) λb v d K e=>A<|bH.mp K▸e▸v)
 ·by_cases e:j<q.μ.length
  ·rw[pT e] at u
   obtain⟨b,C,L,M,R⟩:=I.ff j z u;exact⟨b,C,k _ _ L,f _ M,R⟩
  ·refine Ea (Ws (TZ e) u) λg u=>?_
   subst u
   exact⟨a,o,by refine V g (az I.gj.1<|V (kJ<|bM _)<|V (Fx ..) ?_);rfl,aZ,r⟩
 ·rcases cj.mp v with t|t
  ·exact(I.al b t).imp (λt=>t.imp λ_=>f _) id
  ·exact .inl ⟨o,bH.mp t▸aZ⟩
theorem dZ.to{A:ao}{n:St}{X:ak->Prop}(I:dZ c N h q J as E m s)(k:FM.le J Q)(B:bz c.w Q D s'.heap)(f:∀b o,(b,o)∈E->¬X b->(b,o)∈D)(hX:∀b,X b->b≠c.L/\∀x,(x,b)∉c.cl)
  (hr:∀p∈A,p∈D)(U:∀a∈own c as,∀p∈A,p.1≠a)(hn:n.v.length=q.v.length)(R:∀(j:Nat) (r:AV),(n.v[j]?.join)=Y r->∃u,(q.v[j]?.join)=Y u/\∀d,RV J as d u->RV Q as d r)(hl:n.μ.length=q.μ.length)
  (hs:∀(j:Nat) (a:ak) (z:AO),as[j]?=Y a->n.μ[j]?=Y (Y z)->(¬X a/\q.μ[j]?=Y (Y z))\/∃o,(a,o)∈D/\gK Q o z)(al:∀b∈as,X b->(∃o,(b,o)∈D)\/∃o,Q b=Y o)(C:s'.gens=s.gens)(G:s'.os=s.os):dZ c N A n Q as D m s':=by
 refine Ex I.lo λlo y=>?_
 have M:=f _ _ y λt=>(hX _ t).1 rfl
 refine⟨B,hr,U,I.nd,CQ I.ns λo e=>by rw[I.base.get y] at e;cases e;exact B.get M,⟨lo,M⟩,λx a t=>let ⟨o,w,p,p'⟩:=I.e_ x a t;⟨o,w,f _ _ p λg=>(hX _ g).2 x t,p'⟩,I.nv.trans hn.symm,
  λi x e=>(I.vars i x e).map k (λa o t p=>f _ _ p λg=>(hX _ g).2 x t) rfl<|R i,⟨I.gj.1.trans hl.symm,I.gj.2⟩,λj z e=>?_,C.trans I.gens,G.trans I.os,λb v=>?_⟩
 ·have ha:=fM (l:=as) (i:=j) (by refine V I.gj.1 (az hl ?_);exact(fF.mp e).1)
  rcases hs j _ z ha e with⟨K,L⟩|⟨o,t⟩
  ·obtain⟨a',o,g1,g2,g3⟩:=I.ff j z L
   rw[ha] at g1;cases g1
   exact⟨_,o,ha,f _ _ g2 K,g3.le k.C⟩
  ·exact⟨_,o,ha,t.1,t.2⟩
 ·by_cases g:X b
  ·exact al b v g
  ·exact(I.al b v).imp (λ⟨o,t⟩=>⟨o,f _ _ t g⟩) λ⟨o,t⟩=>⟨o,k _ _ t⟩
theorem dZ.gz(I:dZ c N h q J as E m s)(ha:as[i]?=Y a)(k:FM.le J Q)(B:bz c.w Q D s'.heap)(f:∀b o,(b,o)∈E->b≠a->(b,o)∈D)(hn:n.v.length=q.v.length)(R:∀(j:Nat) (r:AV),(n.v[j]?.join)=Y r->∃u,(q.v[j]?.join)=Y u/\∀d,RV J as d u->RV Q as d r)
  (w:n.μ=q.μ.set i y)(K:∀z,y=Y z->∃o,(a,o)∈D/\gK Q o z)(A:(∃o,(a,o)∈D)\/∃o,Q a=Y o)(C:s'.gens=s.gens)(G:s'.os=s.os):dZ c N h n Q as D m s':=
 I.to (X:=(·=a)) k B f (λb e=>e▸⟨GX I.nd ha,λx t=>GZ I.nd t ha rfl⟩) (λp l=>f p.1 p.2 (I.sub p l)<|I.apart _ (CS ha) p l) I.apart hn R (by exact V w<|V ug rfl) (λj b z v e=>by
  rw[w] at e
  by_cases g:i=j
  ·subst g
   rw[ha] at v;cases v
   rw[qN (I.gj.1▸(fF.mp ha).1)] at e
   exact .inr<|K z<|iD e
  ·rw[gX g] at e
   exact .inl ⟨λz=>g<|Nf I.nd ha<|z▸v,e⟩) (λb v e=>e▸A) C G
theorem dZ.Nj{n:St}{i:Nat}{a:ak}{o:bh}(I:dZ c N h q J as E m s)(ha:as[i]?=Y a)(hl:(a,o)∈E){f:AV->Option AV}(e:n=⟨q.v.map λo=>o.bind f,q.μ.set i Z⟩)
  (R:∀u r,Y u∈q.v->f u=Y r->∀d,RV J as d u->RV (J.cY a o) as d r):aH c N h n (J.cY a o) as s:=
 (dU (E.filter λp=>p.1 !=a) m<|I.gz ha (FM.iZ<|I.base.cU _ hl) (I.base.Ag hl) (λb C t k=>jq.mpr ⟨t,bne_iff_ne.mpr k⟩) (by refine V e ?_;exact bC ..) (λj r g=>by
  rw[e,iW] at g
  cases t:q.v[j]? with
  |none=>rw[t] at g;exact nS g
  |some w=>cases w with
   |none=>rw[t] at g;exact nS g
   |some u=>rw[t] at g;exact ah u rfl<|R u r (m_ t) g) (y:=Z) (by exact V e rfl) (λz g=>nS g) (.inr ⟨_,FM.eZ J a _⟩) rfl rfl)
theorem dZ.frame(I:dZ c N h q J as E m s)(k:FM.le J Q)(B:bz c.w Q E s'.heap)(C:s'.gens=s.gens)(G:s'.os=s.os):dZ c N h q Q as E m s':=
 ⟨B,I.sub,I.apart,I.nd,let ⟨lo,y⟩:=I.lo;CQ I.ns (λo e=>by rw[I.base.get y] at e;cases e;exact B.get y),I.lo,I.e_,I.nv,λi x e=>(I.vars i x e).le k (λ_ _ e=>e) λ_ g=>g,I.gj,λi x e=>let ⟨a,o,K,L,f⟩:=I.ff i x e;⟨a,o,K,L,f.le k.C⟩,C.trans I.gens,G.trans I.os,λa ha=>(I.al a ha).imp id λ⟨o,e⟩=>⟨o,k _ _ e⟩⟩
theorem dZ.more(I:dZ c N h q J as E m s)(B:bz c.w Q E s'.heap)(k:FM.le J Q)(d:∀b o,s.heap.get? b=Y o->s'.heap.get? b=Y o)(C:s'.gens=s.gens)(G:s'.os=s.os):
  dZ c N h q Q as E m s':=
 ⟨B,I.sub,I.apart,I.nd,I.ns.keeps d,I.lo,I.e_,I.nv,λi x e=>(I.vars i x e).le k (λ_ _ e=>e) λ_ g=>g,I.gj,λi x e=>let ⟨a,o,K,L,f⟩:=I.ff i x e;⟨a,o,K,L,f.le k.C⟩,C.trans I.gens,G.trans I.os,λa ha=>(I.al a ha).imp id λ⟨o,e⟩=>⟨o,k _ _ e⟩⟩
theorem dZ.G2(I:dZ c N h q J as E m s):∀a∈as,∃o,s.heap.get? a=Y o:=λa ha=>by
 rcases I.al a ha with⟨o,t⟩|⟨o,t⟩
 ·exact⟨o,I.base.get t⟩
 ·exact⟨o,I.base.keep _ _ t⟩
theorem aH.s6(I:aH c N h q J as s)(d:∀b o,s.heap.get? b=Y o->s'.heap.get? b=Y o)(C:s'.gens=s.gens)(G:s'.os=s.os):aH c N h q J as s':=
 let ⟨E,m,I⟩:=I;⟨E,m,I.more (I.base.aO d) (FM.le.refl _) d C G⟩
theorem aH.toks(I:aH c N h q J as s)(t:Nat):aH c N h q J as {s with toks:=t}:=I.s6 (λ_ _ e=>e) rfl rfl
theorem aH.alloc(I:aH c N h q J as s)(a:o.isFreed=false)(t:Nat):
  FM.le J (J.cY s.heap.objs.size o)/\aH c N h q (J.cY s.heap.objs.size o) as {s with heap:=s.heap.push o,toks:=t}:=by
 refine cC I λE m I=>?_
 exact⟨FM.iZ I.base.fresh,E,m,I.more (s':={s with heap:=s.heap.push o,toks:=t}) (I.base.alloc a) (FM.iZ I.base.fresh) (λb x e=>ie _ e) rfl rfl⟩
theorem aH.keep(I:aH c N h q J as s):∀a o,J a=Y o->s.heap.get? a=Y o:=let ⟨_,_,I⟩:=I;I.base.keep
theorem aH.e7(I:aH c N h q J as s):(K0 c.w.params).In s.heap:=let ⟨_,_,I⟩:=I;I.base.e7
theorem aH.K(I:aH c N h q J as s):∀a o,(K0 c.w.params).lookup a=Y o->J a=Y o:=let ⟨_,_,I⟩:=I;I.base.K
end
structure n9(c:Cx):Prop where
 kind:c.aj.scope.kind= .function
 kg:c.aj.globals=gW
 blt:c.aj.builtins=nV
theorem aW.K(ok:aW c):n9 c:=⟨ok.kind,ok.kg,ok.blt⟩
section
variable {c:Cx} {N:List H} {h:ao} {q:St} {J ψ:FM} {as:List ak} {s s':au} {E:aa->au->Prop}
theorem aH.Nk(I:aH c N h q J as s)(ok:n9 c){i:Nat}{x:H}{u:AV}(l:N[i]?=Y x)(v:q.v[i]?=Y (Y u))(e:(x==("__classdict__":H))=false){Q:aa->au->Prop}
  (f:∀d,RV J as d u->Q d s):aF c.M c.A (B_ c.aj x) Q E s:=by
 refine cC I λn m I=>?_
 have t:(q.v[i]?.join)=Y u:=by refine V v ?_;rfl
 cases I.vars i x l with
 |mz a b=>
  exact aD (b u t) λd g r=>
   wpAny_loadName_local ok.kind a I.ns g (f d r)
 |own a o w y z A B k C=>
  refine aD (C u t) λd j r=>?_;clear C;subst j
  exact ajY ok.kind y A (ah _ (I.base.get B) k)<|f d r
 |free a o w y z A B k=>
  refine aD (k u t) λd j r=>?_;clear k;subst j
  have p:s.heap.IsCell a (Y d):=(ah _ (I.base.keep _ _ A) B)
  exact y.elim (λg=>ajY ok.kind g z p<|f _ r) λg=>wpAny_loadName_free ok.kind g z p (f _ r) e
theorem aH.load(I:aH c N h q J as s)(ok:aW c){i:Nat}{x:H}{u:AV}(l:N[i]?=Y x)(v:q.v[i]?=Y (Y u))(e:(x==("__classdict__":H))=false){Q:aa->au->Prop}
  (f:∀d,RV J as d u->Q d s):aF c.M c.A (B_ c.aj x) Q E s:=I.Nk ok.K l v e f
theorem Nl(I:aH c N h q J as s)(ok:n9 c)(a:c.aj.kindOf x=Y .globalImplicit)
  (e:ig (K0 c.w.params) gW x=Y (Y v)\/(ig (K0 c.w.params) gW x=Y Z/\ig (K0 c.w.params) nV x=Y (Y v)))(f:Q v s):
  aF c.M c.A (B_ c.aj x) Q E s:=by
 have X:=I.e7
 have:B_ c.aj x=loadGlobal c.aj x:=by
  unfold B_
  simp only[Uj,ok.kind,a,Uk,Bool.false_and,ly,if_false]
 refine V this ?_
 unfold loadGlobal
 refine V ok.kg<|V ok.blt ?_
 rcases e with e|⟨e,j⟩
 ·exact aB<|(Ul X e).here<|bf f
 ·exact aB<|(Ul X e).here<|aB<|(Ul X j).here<|bf f
theorem Wt(I:aH c N h q J as s)(ok:aW c)(a:c.aj.kindOf x=Y .globalImplicit)
  (e:ig (K0 c.w.params) gW x=Y (Y v)\/(ig (K0 c.w.params) gW x=Y Z/\ig (K0 c.w.params) nV x=Y (Y v)))(f:Q v s):
  aF c.M c.A (B_ c.aj x) Q E s:=Nl I ok.K a e f
noncomputable def St.jz(q:St)(i:Nat)(u:AV):St:=⟨q.v.set i<|Y u,q.μ⟩
theorem Wu{v:List (Option AV)}{i:Nat}{u:AV}(f:i<v.length):((v.set i<|Y u)[i]?.join)=Y u:=by
 refine V (qN f) ?_;rfl
theorem Wv{v:List (Option AV)}{i j:Nat}{u:AV}(f:i≠j):((v.set i<|Y u)[j]?.join)=(v[j]?.join):=by
 exact V (gX f) rfl
theorem dZ.bind(I:dZ c N h q J as n m s)(k:N.Nodup)(l:N[i]?=Y x)(Q:(A,o)∈n)(d:A∈c.L::c.cl.map (·.2))(hs:pS A s.heap s'.heap)(B:s'.heap.get? A=Y z)
  (R:s'.heap.Ns c.L m')(C:∀y,y≠x->m' y=m y)(v:∀y,(y,A)∈c.cl->y=x/\∃w,z.data= .cell w)(hx:xV c J as (n.jx A z) m' x (Y u))(hg:s'.gens=s.gens)(Bu:s'.os=s.os):aH c N h (q.jz i u) J as s':=by
 have K:i<q.v.length:=I.nv▸(fF.mp l).1
 have D:A∈own c as:=(iX.mp d).elim (λe=>e▸CR c as) λf=>a_ _<|iF _ f
 have G:∀{j b},as[j]?=Y b->b≠A:=λf e=>(iX.mp d).elim (λg=>GX I.nd f<|e.trans g) λg=>by
  exact aD (bg.mp g) λp U g=>
   GZ I.nd (x:=p.1) (a:=p.2) U f (e.trans g.symm)
 refine⟨n.jx A z,m',I.base.update Q hs B,λp U=>ao.rm (b:=p.1) (o:=p.2) (I.sub _ U)<|I.apart _ D _ U,I.apart,I.nd,R,?_,λy b hb=>?_,by show N.length=(q.v.set i _).length;refine V ug ?_;exact I.nv,λj y t=>?_,I.gj,λj y t=>?_,hg.trans I.gens,Bu.trans I.os,λa ha=>ao.Wq Q<|I.al a ha⟩
 ·refine Ex I.lo λlo L=>?_
  by_cases g:c.L=A
  ·clear d G D v B hs hx;refine V g ?_;exact⟨z,ao.sZ Q⟩
  ·exact⟨lo,ao.rm L g⟩
 ·by_cases g:b=A
  ·clear d G D B hs hx;subst g
   refine Ea (v y hb) λ_ q'=>?_;refine Ex q' λw f=>?_;clear q'
   exact⟨z,w,ao.sZ Q,f⟩
  ·obtain⟨o,w,p,p'⟩:=I.e_ y b hb;exact⟨o,w,ao.rm p g,p'⟩
 ·by_cases e:j=i
  ·subst e
   rw[l] at t;cases t
   refine V (show(q.jz j u).v=q.v.set j (Y u) from rfl)<|V (Wu K) ?_
   exact hx
  ·refine V (show(q.jz i u).v=q.v.set i (Y u) from rfl) (V (Wv<|pU e) ?_)
   have M:y≠x:=λg=>e<|G1 k (g▸t) l
   exact(I.vars j y t).map (FM.le.refl J) (λa o f p=>ao.rm p λg=>M (v y<|g▸f).1) (C y M) λu e=>(ah u e λ_ r=>r)
 ·obtain⟨b,ob,e1,e2,e3⟩:=I.ff j y t
  exact⟨b,ob,e1,ao.rm e2<|G e1,e3⟩
theorem aH.Nm(I:aH c N h q J as s)(ok:n9 c)(k:N.Nodup)(l:N[i]?=Y x)
  (b:c.aj.kindOf x=Y .local\/(c.aj.kindOf x=Y .cell/\∃a,(x,a)∈c.cl/\c.aj.cells.lookup x=Y a))(r:RV J as d u)
  (f:∀s',aH c N h (q.jz i u) J as s'->Q () s'):aF c.M c.A (storeName c.aj x d) Q E s:=by
 refine cC I λn m I=>?_
 have rv:∀G,Y u=Y G->∃v,Y d=Y v/\RV J as v G:=λG e=>(ah d rfl<|iD e▸r)
 rcases b with hl|⟨p,a,C,t⟩
 ·refine ajZ hl I.ns (λM R hs=>f _ ?_) (V ok.kind rfl)
  exact Ex I.lo λlo L=>
   sV (id R) λz es ep j r'=>
   I.bind (s':={s with heap:=M,toks:=s.toks+1}) k l L aZ hs j R (λy g=>if_neg g) (λy g=>absurd rfl<|GW I.nd g) (.mz hl<|(if_pos rfl:(if x=x then Y d else m x)=Y d).symm▸rv) rfl rfl
 ·obtain⟨o,w,B,U⟩:=I.e_ x a C
  refine wpAny_storeName_cell ok.kind p t (ah o (I.base.get B) U) λM A hs=>f _ ?_
  refine aD A λz j D=>?_;clear A
  exact I.bind (s':={s with heap:=M}) k l B (a_ _<|bg.mpr<|ah _ C rfl) hs j (I.ns.sameBut hs<|pU<|GW I.nd C) (λy _=>rfl) (λy g=>⟨Nc (Wr I.nd) g C,_,D⟩) (.own a z _ p C t (ao.sZ B) D rv) rfl rfl
theorem aH.Ah(I:aH c N h q J as s)(ok:aW c)(k:N.Nodup)(l:N[i]?=Y x)
  (b:c.aj.kindOf x=Y .local\/(c.aj.kindOf x=Y .cell/\∃a,(x,a)∈c.cl/\c.aj.cells.lookup x=Y a))(r:RV J as d u)
  (f:∀s',aH c N h (q.jz i u) J as s'->Q () s'):aF c.M c.A (storeName c.aj x d) Q E s:=I.Nm ok.K k l b r f
end
abbrev bU(as d:List ak):Prop:=∀(i:Nat) (a:ak),as[i]?=Y a->d[i]?=Y a
theorem bU.rfl'(as:List ak):bU as as:=λ_ _ e=>e
theorem bU.trans(x:bU as d)(y:bU d b):bU as b:=λi a e=>y i a<|x i a e
theorem bU.Ai(as:List ak)(a:ak):bU as (as++[a]):=λi b e=>by
 have:=(fF.mp e).1
 refine V (pT this) ?_;exact e
noncomputable def b_(J:FM)(as:List ak):List aa->List AV->Prop
 |[],[]=>True
 |v::vs,u::us=>RV J as v u/\b_ J as vs us
 |_,_=>False
theorem b_.kO{J:FM}{as:List ak}{P:List aa->List AV->Prop}(a:P [] [])(b:∀v vs u us,RV J as v u->b_ J as vs us->P vs us->P (v::vs) (u::us)){vs:List aa}{us:List AV}(w:b_ J as vs us):P vs us:=by
 induction vs generalizing us with
 |nil=>cases us with
  |nil=>exact a
  |cons=>exact w.elim
 |cons v vs d=>cases us with
  |nil=>exact w.elim
  |cons u us=>exact b _ _ _ _ w.1 w.2<|d w.2
theorem b_.le{J e:FM}{as d:List ak}(k:FM.jw J e)(p:bU as d){vs:List aa}{us:List AV}(w:b_ J as vs us):b_ e d vs us:=w.kO (P:=b_ e d) trivial λ_ _ _ _ a _ b=>⟨a.le k p,b⟩
theorem b_.length{J:FM}{as:List ak}{vs:List aa}{us:List AV}(w:b_ J as vs us):vs.length=us.length:=w.kO (P:=λvs us=>vs.length=us.length) rfl λ_ _ _ _ _ _ w=>congrArg xm w
abbrev qd(c:Cx)(N:List H)(h:ao){C U:Type}(lU:FM->List ak->C->U->Prop)(J:FM)(as:List ak)(Q:U->St->Prop)(R:C->au->Prop):Prop:=
 ∀d aJ s' a b e,FM.le J d->bU as aJ->aH c N h e d aJ s'->lU d aJ a b->Q b e->R a s'
abbrev aN(c:Cx)(N:List H)(h:ao){C U:Type}(lU:FM->List ak->C->U->Prop)(m:bT C)(q:St)(Q:U->St->Prop):Prop:=
 ∀J as s R (E:aa->au->Prop),aH c N h q J as s->0<s.toks->qd c N h lU J as Q R->aF c.M c.A m R E s
abbrev rB(_:FM)(_:List ak)(a b:Bool):Prop:=a=b
abbrev rU(_:FM)(_:List ak)(_ _:Unit):Prop:=True
abbrev aG(c:Cx)(N:List H)(h:ao)(e:ay)(q:St)(Q:AV->St->Prop):Prop:=aN c N h RV (eval e c.aj) q Q
abbrev iL(c:Cx)(N:List H)(h:ao)(e:ay)(q:St)(Q:Bool->St->Prop):Prop:=aN c N h rB (Fy e c.aj<|eval e c.aj) q Q
abbrev dD(c:Cx)(N:List H)(h:ao)(l:List ay)(q:St)(Q:List AV->St->Prop):Prop:=
 ∀D,aN c N h b_ (sA<|iG D<|gi l c.aj) q Q
abbrev P1(c:Cx)(N:List H)(h:ao){C U:Type}(lU:FM->List ak->C->U->Prop)(m:aa->bT C)(u:AV)(q:St)(Q:U->St->Prop):Prop:=
 ∀J as s R (E:aa->au->Prop) a,aH c N h q J as s->RV J as a u->qd c N h lU J as Q R->aF c.M c.A (m a) R E s
abbrev P2(c:Cx)(N:List H)(h:ao){C U:Type}(lU:FM->List ak->C->U->Prop)(m:aa->aa->bT C)(u v:AV)(q:St)(Q:U->St->Prop):Prop:=
 ∀J as s R (E:aa->au->Prop) a b,aH c N h q J as s->RV J as a u->RV J as b v->qd c N h lU J as Q R->aF c.M c.A (m a b) R E s
abbrev P3(c:Cx)(N:List H)(h:ao){C U:Type}(lU:FM->List ak->C->U->Prop)(m:aa->aa->aa->bT C)(u v x:AV)(q:St)(Q:U->St->Prop):Prop:=
 ∀J as s R (E:aa->au->Prop) a b d,aH c N h q J as s->RV J as a u->RV J as b v->RV J as d x->qd c N h lU J as Q R->aF c.M c.A (m a b d) R E s
section
variable {c:Cx} {N:List H} {h:ao} {q:St} {C U:Type} {lU:FM->List ak->C->U->Prop}
theorem qd.trans{Q:U->St->Prop}{R:C->au->Prop}(w:qd c N h lU J as Q R)(k:FM.le J g)(p:bU as i):qd c N h lU g i Q R:=
 λd aJ s' a b e f j=>w d aJ s' a b e (k.trans f)<|p.trans j
theorem qd.now{Q:U->St->Prop}{R:C->au->Prop}{a:C}{b:U}(w:qd c N h lU J as Q R)(I:aH c N h q J as s)(r:lU J as a b)(f:Q b q):R a s:=
 w J as s a b q (FM.le.refl _) (bU.rfl' _) I r f
theorem aN.bw{m:bT C}{Q:U->St->Prop}{R:C->au->Prop}(w:aN c N h lU m q Q)(I:aH c N h q J as s)(tk:0<s.toks)
  (K:∀d aJ s' a b e,FM.le J d->bU as aJ->aH c N h e d aJ s'->0<s'.toks->lU d aJ a b->Q b e->R a s'):aF c.M c.A m R E s:=
 kK (n:=1) tk (w J as s _ _ I tk λd aJ s' a b e k p g r f i=>K d aJ s' a b e k p g i r f)
theorem aG.Nn(w:Q (.d .none) q):aG c N h (.Constant .none k D) q Q:=
 λJ as s R E I tk K=>wpAny_Constant_none<|K.now (b:=AV.d PyData.none) I RD.none w
theorem aG.Ww(w:Q (.d<|.bool b) q):aG c N h (.Constant (.bool b) k D) q Q:=
 λJ as s R E I tk K=>wpAny_Constant_bool<|K.now (b:=AV.d<|PyData.bool b) I (RD.bool b) w
theorem aG.Wx(w:Q (.d<|.int i) q):aG c N h (.Constant (.int i) k D) q Q:=
 λJ as s R E I tk K=>wpAny_Constant_int<|K.now (b:=AV.d<|jr i) (I.toks _) (RD.int i _) w
theorem aG.Np(w:Q (.d<|.str x) q):aG c N h (.Constant (.str x) k D) q Q:=
 λJ as s R E I tk K=>zy<|K.now (b:=AV.d<|oU x) (I.toks _) (RD.str x _) w
noncomputable def mC(x:H):Bool:= !(x==("__debug__":H))&& !(x==("__classdict__":H))
theorem aG.var{D:aV}{i:Nat}{x:H}{u:AV}{Q:AV->St->Prop}(d:aW c)(a:N[i]?=Y x)(b:mC x=true)(e:q.v[i]?=Y (Y u))(w:Q u q):aG c N h (.Name x D) q Q:=
 λJ as s R E I tk K=>by
  simp only[mC,jQ,Fz] at b
  exact Ln (I.load d a e b.2 λf r=>K.now I r w) b.1
theorem aG.kg(d:aW c)(b:mC x=true)(f:c.aj.kindOf x=Y .globalImplicit)(v:aa)
  (e:ig (K0 c.w.params) gW x=Y (Y v)\/(ig (K0 c.w.params) gW x=Y Z/\ig (K0 c.w.params) nV x=Y (Y v)))
  (g:∀J as,(∀a o,(K0 c.w.params).lookup a=Y o->J a=Y o)->RV J as v u)(w:Q u q):aG c N h (.Name x D) q Q:=
 λJ as s R E I tk K=>by
  simp only[mC,jQ,Fz] at b
  exact Ln (Wt I d f e<|K.now I (g _ _ I.K) w) b.1
theorem aG.aI(w:aG c N h l q λu d=>aG c N h r d λv t=>P2 c N h RV (lX e) u v t Q):aG c N h (.BinOp l e r D) q Q:=
 λJ as s R E I tk K=>aj0<|aN.bw (w) I tk λg i z a u d k m o j p f=>aN.bw (f) o j λL M dJ b v t A B cI dY cG G=>
  G L M dJ R E a b cI (p.le A.C B) cG (K.trans (k.trans A)<|m.trans B)
theorem aG.neg(w:aG c N h l q λu d=>P1 c N h RV (unaryOp e) u d Q):aG c N h (.UnaryOp e l D) q Q:=
 λJ as s R E I tk K=>wpAny_UnaryOp<|aN.bw (w) I tk λg i z a u d k m o j p f=>f g i z _ E a o p<|K.trans k m
theorem aG.bx(hm:Um e r=false)(w:aG c N h l q λu d=>aG c N h r d λv t=>P2 c N h RV (lY e) u v t Q):aG c N h (.Compare l [e] [r] D) q Q:=
 λJ as s R E I tk K=>wpAny_Compare1 (aN.bw (w) I tk λg i z a u d k m o j p f=>aN.bw (f) o j λL M dJ b v t A B cI dY cG G=>
  G L M dJ R E a b cI (p.le A.C B) cG (K.trans (k.trans A)<|m.trans B)) hm
theorem aG.Wy(w:aG c N h l q λu d=>P1 c N h rB xo u d λb t=>if b=true then aG c N h r t Q else Q u t):aG c N h (.BoolOp .And [l,r] D) q Q:=
 λJ as s R E I tk K=>wpAny_And2 (aN.bw (w) I tk λg i z a u d k m o j p f=>kK (n:=1) j (f g i z _ _ a o p λL M dJ b v t A B cI cG G dY=>by
  obtain rfl:b=v:=cG
  split
  ·rename_i e;rw[if_pos e] at G
   exact G L M dJ R E cI dY<|K.trans (k.trans A)<|m.trans B
  ·rename_i e;rw[if_neg e] at G
   exact(K.trans (k.trans A)<|m.trans B).now cI (p.le A.C B) G))
theorem aG.ite(w:iL c N h t q λx d=>if x=true then aG c N h a d Q else aG c N h b d Q):aG c N h (.IfExp t a b D) q Q:=
 λJ as s R E I tk K=>wpAny_IfExp (aN.bw (w) I tk λg i z x n d k m o j p f=>by
  obtain rfl:x=n:=p
  split
  ·rename_i e;rw[if_pos e] at f
   exact f g i z R E o j<|K.trans k m
  ·rename_i e;rw[if_neg e] at f
   exact f g i z R E o j<|K.trans k m)
theorem iL.nt(w:iL c N h x q λb d=>Q (!b) d):iL c N h (.UnaryOp .Not x D) q Q:=
 λJ as s R E I tk K=>wpAny_isTrue_Not<|aN.bw (w) I tk λg i z x n d k m o j p f=>by obtain rfl:x=n:=p;exact(K.trans k m).now o rfl f
theorem iL.bx(hm:Um e r=false)(w:aG c N h l q λu d=>aG c N h r d λv t=>P2 c N h RV (lY e) u v t λx n=>P1 c N h rB xo x n Q):iL c N h (.Compare l [e] [r] D) q Q:=
 λJ as s R E I tk K=>wpAny_isTrue_Compare1 (aN.bw (w) I tk λg i z a u d k m o j p f=>aN.bw (f) o j λL M dJ b v t A B cI dY cG G=>
  G L M dJ _ E a b cI (p.le A.C B) cG λh_ iz fV x y n c_ eV gq m5 jh=>jh h_ iz fV R E x gq m5<|K.trans ((k.trans A).trans c_)<|(m.trans B).trans eV) hm
abbrev kP(c:Cx)(N:List H)(h:ao)(e:Lk)(l:List ay)(q:St)(Q:Bool->St->Prop):Prop:=aN c N h rB (allTrue e l c.aj) q Q
theorem kP.Wz(w:Q true q):kP c N h .And [] q Q:=λJ as s R E I tk K=>wpAny_allTrue_And_nil<|K.now I rfl w
theorem kP.WA(w:Q false q):kP c N h .Or [] q Q:=λJ as s R E I tk K=>wpAny_allTrue_Or_nil<|K.now I rfl w
theorem kP.WB(w:iL c N h e q λb d=>if b=true then kP c N h .And l d Q else Q false d):kP c N h .And (e::l) q Q:=
 λJ as s R E I tk K=>wpAny_allTrue_And_cons (aN.bw (w) I tk λg i z x n d k m o j p f=>by
  obtain rfl:x=n:=p
  split
  ·rename_i e;rw[if_pos e] at f
   exact f g i z R E o j<|K.trans k m
  ·rename_i e;rw[if_neg e] at f
   exact(K.trans k m).now o rfl f)
theorem kP.WD(w:iL c N h e q λb d=>if b=true then Q true d else kP c N h .Or l d Q):kP c N h .Or (e::l) q Q:=
 λJ as s R E I tk K=>wpAny_allTrue_Or_cons (aN.bw (w) I tk λg i z x n d k m o j p f=>by
  obtain rfl:x=n:=p
  split
  ·rename_i e;rw[if_pos e] at f
   exact(K.trans k m).now o rfl f
  ·rename_i e;rw[if_neg e] at f
   exact f g i z R E o j<|K.trans k m)
theorem iL.all(w:kP c N h e l q Q):iL c N h (.BoolOp e l D) q Q:=
 λJ as s R E I tk K=>wpAny_isTrue_BoolOp<|w J as s R E I tk K
theorem iL.value(b:ME e=true)(w:aG c N h e q λu d=>P1 c N h rB xo u d Q):iL c N h e q Q:=
 λJ as s R E I tk K=>wpAny_isTrue_value (aN.bw (w) I tk λg i z a u d k m o j p f=>f g i z R E a o p<|K.trans k m)<|by
  cases e<;>first|rfl|exact fT b
theorem n_(w:dB e=true)(l:List ay)(a:dw):gi (e::l) a=(false,eval e a)::gi l a:=by
 cases e<;>first|rfl|exact fT w
theorem dD.nil(w:Q [] q):dD c N h [] q Q:=λD J as s R E I tk K=>Lo<|K.now (b:=[]) I trivial w
theorem dD.cons(hs:dB e=true)(w:aG c N h e q λu d=>dD c N h l d λus t=>Q (u::us) t):dD c N h (e::l) q Q:=
 λD J as s R E I tk K=>zA (aN.bw (w) I tk λg i z a u d k m o j p f=>aN.bw (f D) o j λL M dJ b us t A B cI dY cG G=>
  (K.trans (k.trans A)<|m.trans B).now (b:=u::us) cI ⟨p.le A.C B,cG⟩ G)<|n_ hs l c.aj
end
section
variable {c:Cx} {N:List H} {h:ao} {q:St}
noncomputable abbrev AV.i(n:Int):AV:= .d<|.int n
noncomputable abbrev AV.s(x:H):AV:= .d<|.str x
noncomputable abbrev AV.b(x:Bool):AV:= .d<|.bool x
noncomputable abbrev AV.l(xs:List af):AV:= .d<|.list xs
noncomputable abbrev AV.t(xs:List af):AV:= .d<|.tuple xs
noncomputable abbrev AV.n:AV:= .d .none
inductive Nq(n:Int):aa->Prop
 |mk (t:k_):Nq n (.int n t)
inductive Nr(x:H):aa->Prop
 |mk (t:k_):Nr x (.str x t)
theorem cL(r:RV J as v (.i n)):Nq n v:=by
 cases r;exact⟨_⟩
theorem dG(r:RV J as v (.s x)):Nr x v:=by
 cases r;exact⟨_⟩
theorem WE(r:RV J as v (.b x)):v= .bool x:=by
 cases(show RD J v (.bool x) from r);rfl
theorem G3(r:RV J as v .n):v= .none:=by
 cases(show RD J v .none from r);rfl
theorem jW(n:Int)(t:k_):RV J as (.int n t) (.i n):=RD.int n t
theorem i6(x:H)(t:k_):RV J as (.str x t) (.s x):=RD.str x t
theorem mD(x:Bool):RV J as (.bool x) (.b x):=RD.bool x
section
variable {Q:AV->St->Prop}
theorem WG(d:Q (.i<|a+b) q):P2 c N h RV (lX .Add) (.i a) (.i b) q Q:=λJ as s R E g i I e f K=>by
 obtain⟨t⟩:=cL e;obtain⟨u⟩:=cL f
 exact P.add_int<|K.now (I.toks _) (jW _ _) d
theorem WH(d:Q (.i<|a-b) q):P2 c N h RV (lX .Sub) (.i a) (.i b) q Q:=λJ as s R E g i I e f K=>by
 obtain⟨t⟩:=cL e;obtain⟨u⟩:=cL f
 exact P.sub_int<|K.now (I.toks _) (jW _ _) d
theorem WJ(n:IntMulOk a b)(d:Q (.i<|a*b) q):P2 c N h RV (lX .Mult) (.i a) (.i b) q Q:=λJ as s R E g i I e f K=>by
 obtain⟨t⟩:=cL e;obtain⟨u⟩:=cL f
 exact P.mul_int (K.now (I.toks _) (jW _ _) d) n
theorem WK(j:b≠0)(k:Lp a b=false)(d:Q (.i<|a.fdiv b) q):P2 c N h RV (lX .FloorDiv) (.i a) (.i b) q Q:=λJ as s R E g i I e f K=>by
 obtain⟨t⟩:=cL e;obtain⟨u⟩:=cL f
 exact floordiv_int j (K.now (I.toks _) (jW _ _) d)<|.inl k
theorem WM(j:b≠0)(d:Q (.i<|a.fmod b) q):P2 c N h RV (lX .Mod) (.i a) (.i b) q Q:=λJ as s R E g i I e f K=>by
 obtain⟨t⟩:=cL e;obtain⟨u⟩:=cL f
 exact mod_int j<|K.now (I.toks _) (jW _ _) d
theorem WN(b:0<=n)(j:n<=1000000)(k:a.natAbs<2^64)(d:Q (.i<|a^n.toNat) q):P2 c N h RV (lX .Pow) (.i a) (.i n) q Q:=λJ as s R E g i I e f K=>by
 obtain⟨t⟩:=cL e;obtain⟨u⟩:=cL f
 exact pow_int_small b j k<|K.now (I.toks _) (jW _ _) d
theorem WO(a:x.length+y.length<=aL)(d:Q (.s<|x++y) q):P2 c N h RV (lX .Add) (.s x) (.s y) q Q:=λJ as s R E g i I e f K=>by
 obtain⟨t⟩:=dG e;obtain⟨u⟩:=dG f
 exact SB.add (λb k=>K.now (I.toks _) (i6 _ _) d) a
theorem WQ(a:Lq x n)(d:Q (.s<|Lr x n) q):P2 c N h RV (lX .Mult) (.s x) (.i n) q Q:=λJ as s R E g i I e f K=>by
 obtain⟨t⟩:=dG e;obtain⟨u⟩:=cL f
 exact SB.mul a λb k=>K.now (I.toks _) (i6 _ _) d
theorem WR(d:Q (.i<|a+b) q):P2 c N h RV (zC .Add) (.i a) (.i b) q Q:=λJ as s R E g i I e f K=>by
 obtain⟨t⟩:=cL e;obtain⟨u⟩:=cL f
 exact wpAny_iadd_int<|K.now (I.toks _) (jW _ _) d
theorem WU(a:x.length+y.length<=aL)(d:Q (.s<|x++y) q):P2 c N h RV (zC .Add) (.s x) (.s y) q Q:=λJ as s R E g i I e f K=>by
 obtain⟨t⟩:=dG e;obtain⟨u⟩:=dG f
 exact SB.iadd (λb k=>K.now (I.toks _) (i6 _ _) d) a
theorem WV(d:Q (.i<|-a) q):P1 c N h RV (unaryOp .USub) (.i a) q Q:=λJ as s R E g I e K=>by
 obtain⟨t⟩:=cL e
 exact neg_int<|K.now (I.toks _) (jW _ _) d
theorem WW(d:Q (.b<|a==b) q):P2 c N h RV (lY .Eq) (.i a) (.i b) q Q:=λJ as s R E g i I e f K=>by
 obtain⟨t⟩:=cL e;obtain⟨u⟩:=cL f
 exact P.eq_int<|K.now I (mD _) d
theorem WX(d:Q (.b<|decide<|a<b) q):P2 c N h RV (lY .Lt) (.i a) (.i b) q Q:=λJ as s R E g i I e f K=>by
 obtain⟨t⟩:=cL e;obtain⟨u⟩:=cL f
 exact P.lt_int<|K.now I (mD _) d
theorem WY(d:Q (.b<|decide<|a<=b) q):P2 c N h RV (lY .LtE) (.i a) (.i b) q Q:=λJ as s R E g i I e f K=>by
 obtain⟨t⟩:=cL e;obtain⟨u⟩:=cL f
 exact P.le_int<|K.now I (mD _) d
theorem WZ(d:Q (.b<|decide<|a>b) q):P2 c N h RV (lY .Gt) (.i a) (.i b) q Q:=λJ as s R E g i I e f K=>by
 obtain⟨t⟩:=cL e;obtain⟨u⟩:=cL f
 exact P.gt_int<|K.now I (mD _) d
theorem W0(d:Q (.b<|decide<|a>=b) q):P2 c N h RV (lY .GtE) (.i a) (.i b) q Q:=λJ as s R E g i I e f K=>by
 obtain⟨t⟩:=cL e;obtain⟨u⟩:=cL f
 exact P.ge_int<|K.now I (mD _) d
theorem W2(d:Q (.b<|a !=b) q):P2 c N h RV (lY .NotEq) (.i a) (.i b) q Q:=λJ as s R E g i I e f K=>by
 obtain⟨t⟩:=cL e;obtain⟨u⟩:=cL f
 exact P.ne_int<|K.now I (mD _) d
theorem W3(d:Q (.b<|a==b) q):P2 c N h RV (lY .Eq) (.s a) (.s b) q Q:=λJ as s R E g i I e f K=>by
 obtain⟨t⟩:=dG e;obtain⟨u⟩:=dG f
 exact eq_str<|K.now I (mD _) d
theorem W4(d:Q (.b<|a !=b) q):P2 c N h RV (lY .NotEq) (.s a) (.s b) q Q:=λJ as s R E g i I e f K=>by
 obtain⟨t⟩:=dG e;obtain⟨u⟩:=dG f
 exact ne_str<|K.now I (mD _) d
theorem W5(d:Q (.b<|!(nW x y 0 x.length 1).isEmpty) q):P2 c N h RV (lY .In) (.s y) (.s x) q Q:=λJ as s R E g i I e f K=>by
 obtain⟨t⟩:=dG e;obtain⟨u⟩:=dG f
 exact P.in_str<|K.now I (mD _) d
theorem W6(d:Q (.b<|!!(nW x y 0 x.length 1).isEmpty) q):P2 c N h RV (lY .NotIn) (.s y) (.s x) q Q:=λJ as s R E g i I e f K=>by
 obtain⟨t⟩:=dG e;obtain⟨u⟩:=dG f
 exact P.notIn_str<|K.now I (mD _) d
theorem W7(d:Q (.b (match x with| .none=>true|_=>false)) q):P2 c N h RV (lY .Is) (.d x) .n q Q:=λJ as s R E g i I e f K=>by
 obtain rfl:=G3 f
 cases(show RD J g x from e) with
 |none=>exact is_none_none<|K.now I (mD _) d
 |_=>exact is_none_ne (by simp)<|K.now I (mD _) d
theorem W8(b:aW c)(j:x.layable0=true)(k:y.layable0=true)(d:Q (.b<|x.eqv y) q):P2 c N h RV (lY .Eq) (.d x) (.d y) q Q:=λJ as s R E g i I e f K=>by
 obtain⟨xs,l⟩:=RD.reads I.keep (show RD J g x from e)
 obtain⟨a,m⟩:=RD.reads I.keep (show RD J i y from f)
 exact eq_dataS l m j k (zu (Ls b.units 64)<|by decide)<|K.now I (mD _) d
theorem W9(b:aW c)(j:x.layable0=true)(k:y.layable0=true)(d:Q (.b<|!x.eqv y) q):P2 c N h RV (lY .NotEq) (.d x) (.d y) q Q:=λJ as s R E g i I e f K=>by
 obtain⟨xs,l⟩:=RD.reads I.keep (show RD J g x from e)
 obtain⟨a,m⟩:=RD.reads I.keep (show RD J i y from f)
 exact ne_dataS l m j k (zu (Ls b.units 64)<|by decide)<|K.now I (mD _) d
theorem W_(b:aW c)(j:x.layable0=true)(k:(j8 a).layable0=true)(n:∀y∈a,FA y x=true)
  (d:Q (.b<|decide<|Lu x a≠0) q):P2 c N h RV (lY .In) (.d x) (.l a) q Q:=λJ as s R E g i I e f K=>by
 obtain⟨xs,l⟩:=RD.reads I.keep (show RD J g x from e)
 obtain⟨o,m⟩:=RD.reads I.keep (show RD J i (.list a) from f)
 exact in_list_dataS m l k j (zu (Ls b.units 65)<|by decide) n<|K.now I (mD _) d
end
section
variable {Q:Bool->St->Prop}
theorem Xa(d:Q b q):P1 c N h rB xo (.b b) q Q:=λJ as s R E g I e K=>by
 obtain rfl:=WE e
 exact wpAny_truthy_bool<|K.now I rfl d
theorem Xb(d:Q (a !=0) q):P1 c N h rB xo (.i a) q Q:=λJ as s R E g I e K=>by
 obtain⟨t⟩:=cL e
 exact P.truthy_int<|K.now I rfl d
theorem Xc(a:x.length<=aL)(d:Q ((x.length:Int) !=0) q):P1 c N h rB xo (.s x) q Q:=λJ as s R E g I e K=>by
 obtain⟨t⟩:=dG e
 exact SBL.truthy (by unfold aL at a;lia)<|K.now (I.toks _) rfl d
end
end
noncomputable abbrev eg(vs:Array aa)(n:Nat):bh:={cls:= .type "list",data:= .seq vs n}
noncomputable abbrev CT(vs:Array aa)(n:Nat):bh:={cls:= .type "tuple",data:= .seq vs n}
noncomputable def St.fR(q:St)(i:Nat)(x:AO):St:=⟨q.v,q.μ.set i<|Y x⟩
noncomputable def St.pn(q:St)(x:AO):St:=⟨q.v,q.μ++[Y x]⟩
noncomputable def AV.gk(i:Nat)(xs:List af):AV->Option AV
 | .m j=>if j=i then Y (.d<|.list xs) else Y (.m j)
 | .ap j=>if j=i then Z else Y (.ap j)
 |u=>Y u
def St.gk(q:St)(i:Nat)(xs:List af):St:=⟨q.v.map λo=>o.bind<|AV.gk i xs,q.μ.set i Z⟩
noncomputable def Aj:Option (Option AO)->Option (List af)
 |some (Y<|.ai xs)=>Y xs
 |_=>Z
theorem G4{o:Option (Option AO)}{xs:List af}(d:Aj o=Y xs):o=Y (Y<|.ai xs):=by
 cases o with
 |none=>exact nS d
 |some o=>cases o with
  |none=>exact nS d
  |some o=>cases o with
   |ai b=>cases d;rfl
   |_=>exact nS d
def fJ(q:St):AV->Option (List af)
 | .d (.list xs)=>Y xs
 | .m i=>Aj q.μ[i]?
 |_=>Z
theorem CU{q:St}{i:Nat}{xs:List af}(d:q.μ[i]?=Y (Y<|.ai xs)):fJ q (.m i)=Y xs:=congrArg Aj d
def xW(q:St):AV->Option (List af)
 | .iJ xs=>Y<|xs.map .int
 |u=>fJ q u
section
variable {c:Cx} {N:List H} {h:ao} {q:St} {J C:FM} {as:List ak} {s s':au}
inductive Nt(J:FM)(s:au)(xs:List af)(a:ak):Prop
 |mk (vs:Array aa) (n:Nat):s.heap.get? a=Y (eg vs n)->bD J vs.toList xs->Nt J s xs a
inductive Nu(J:FM)(s:au)(xs:List af):aa->Prop
 |mk (a:ak) (vs:Array aa) (n:Nat):s.heap.get? a=Y (eg vs n)->bD J vs.toList xs->Nu J s xs (.ref a)
theorem aH.rq(I:aH c N h q J as s){i:Nat}{xs:List af}(e:q.μ[i]?=Y (Y<|.ai xs)){a:ak}(ha:as[i]?=Y a):
  Nt J s xs a:=by
 refine cC I λl m I=>?_
 obtain⟨v,o,g,f,vs,n,rfl,r⟩:=I.ff i _ e
 rw[ha] at g;cases g
 exact⟨vs,n,I.base.get f,r⟩
theorem aH.ai(I:aH c N h q J as s){v:aa}{u:AV}{xs:List af}(r:RV J as v u)(e:fJ q u=Y xs):
  Nu J s xs v:=by
 cases u with
 |d x=>cases x with
  |list=>
   cases e
   cases r with
   |list d b=>exact⟨_,_,_,I.keep _ _ d,b⟩
  |_=>exact nS e
 |m i=>
  refine aD r λa g j=>?_;clear r;subst j
  obtain⟨vs,n,f,p⟩:=I.rq (G4 e) g
  exact⟨a,vs,n,f,p⟩
 |_=>exact nS e
theorem aH.xW(I:aH c N h q J as s){v:aa}{u:AV}{xs:List af}(r:RV J as v u)(e:Mine.xW q u=Y xs):
  ∃a o vs n,v= .ref a/\s.heap.get? a=Y o/\o.cls= .type "list"/\o.data= .seq vs n/\bD J vs.toList xs:=by
 have j (e:fJ q u=Y xs):∃a o vs n,v= .ref a/\s.heap.get? a=Y o/\o.cls= .type "list"/\o.data= .seq vs n/\bD J vs.toList xs:=by
  obtain⟨a,vs,n,f,p⟩:=I.ai r e
  exact n6 a _ vs n rfl f rfl rfl p
 cases u with
 |iJ b=>
  refine q8 r λa o vs n g f p d i=>?_;clear r
  cases e
  exact n6 a o vs n g (I.keep _ _ f) p d i
 |_=>exact j e
theorem aH.v8(I:aH c N h q J as s){i:Nat}{x:AO}(w:q.μ[i]?=Y (Y x)){a:ak}(ha:as[i]?=Y a){n:fk}{k:bh}{y:AO}
  (hs:pS a s.heap n)(A:n.get? a=Y k)(r:gK J k y)(t:Nat):aH c N h (q.fR i y) J as {s with heap:=n,toks:=t}:=by
 refine cC I λl m I=>?_
 obtain⟨v,o,g,f,p⟩:=I.ff i _ w
 rw[ha] at g;cases g
 exact dU (l.jx a k) m<|I.gz (s':={s with heap:=n,toks:=t}) ha (FM.le.refl J) (I.base.update f hs A) (λb D d B=>ao.rm d B) rfl (λj u e=>(ah u e λ_ r=>r)) (y:=Y y) rfl (λz e=>(ah k (ao.sZ f)<|iD e▸r)) (.inl ⟨k,ao.sZ f⟩) rfl rfl
theorem aH.Nv(I:aH c N h q J as s){o:bh}{x:AO}(f:o.isFreed=false)(r:gK J o x)(t:Nat):
  aH c N h (q.pn x) J (as++[s.heap.objs.size]) {s with heap:=s.heap.push o,toks:=t}:=by
 refine cC I λl m I=>?_
 have a:∀b k,s.heap.get? b=Y k->(s.heap.push o).get? b=Y k:=λb x e=>ie _ e
 exact dU _ m<|(I.more (s':={s with heap:=s.heap.push o,toks:=t}) (I.base.aO a) (FM.le.refl J) a rfl rfl).Ni (I.base.Wk f) (λd=>zw _<|I.Ng _ d) (λp g=>I.base.Af (o:=p.2)<|I.sub p g) r rfl
end
section
variable {c:Cx} {N:List H} {h:ao} {q:St} {J L:FM} {as:List ak} {s s':au}
theorem RV.gk(ha:as[i]?=Y a)(d:J a=Z)(r:bD J vs.toList xs)(f:RV J as v u)(e:AV.gk i xs u=Y y):
  RV (J.cY a<|eg vs n) as v y:=by
 have k:FM.le J (J.cY a<|eg vs n):=FM.iZ d
 cases u with
 |m j=>
  by_cases p:j=i
  ·subst p
   rw[show AV.gk j xs (.m j)=Y (.d<|.list xs) from if_pos rfl] at e
   cases e
   refine aD f λb g o=>?_;clear f;refine V o ?_
   rw[ha] at g;cases g
   exact RD.list (FM.eZ J a _)<|r.aO k
  ·rw[show AV.gk i xs (.m j)=Y (.m j) from if_neg p] at e
   cases e;exact RV.aO k f
 |ap j=>
  by_cases p:j=i
  ·rw[show AV.gk i xs (.ap j)=Z from if_pos p] at e;exact nS e
  ·rw[show AV.gk i xs (.ap j)=Y (.ap j) from if_neg p] at e
   cases e;exact RV.aO k f
 |_=>cases e;exact RV.aO k f
theorem aH.Ag(I:aH c N h q J as s)(B:q.μ[i]?=Y (Y<|.ai xs)):∃L,FM.le J L/\aH c N h (q.gk i xs) L as s:=by
 refine cC I λb m I=>?_
 obtain⟨a,o,ha,w,vs,n,rfl,r⟩:=I.ff i _ B
 have d:=I.base.cU _ w
 exact ah _ (FM.iZ d)<|I.Nj ha w rfl λu y _ e g f=>f.gk ha d r e
end
section
variable {c:Cx} {N:List H} {h:ao} {q:St}
abbrev PN(c:Cx)(N:List H)(h:ao)(f:aa)(us:List AV)(q:St)(Q:AV->St->Prop):Prop:=
 ∀J as s R (E:aa->au->Prop) vs,aH c N h q J as s->0<s.toks->b_ J as vs us->qd c N h RV J as Q R->aF c.M c.A (f_ f vs) R E s
theorem fS(f:b_ J as vs []):vs=[]:=by
 induction vs with
 |nil=>
  exact rfl
 |cons a _ e=>
  exact f.elim
inductive Ny(J:FM)(as:List ak)(u:AV)(us:List AV):List aa->Prop
 |mk (v:aa) (vs:List aa):RV J as v u->b_ J as vs us->Ny J as u us (v::vs)
theorem cT(f:b_ J as vs (u::us)):Ny J as u us vs:=by
 cases vs with
 |nil=>exact f.elim
 |cons v vs=>exact⟨_,_,f.1,f.2⟩
section
variable {Q:AV->St->Prop}
theorem Xd(l:fJ q u=Y xs)(e:fJ q y=Y d)(w:xs.length+d.length<=aL)(f:Q (.l<|xs++d) q):
  P2 c N h RV (lX .Add) u y q Q:=λJ as s R E B G I m z K=>by
 obtain⟨a,vs,n,g,i⟩:=I.ai m l
 obtain⟨b,A,k,C,t⟩:=I.ai z e
 refine P.add_list g C ?_<|by refine az fN (az fN<|V i.length<|V t.length ?_);exact w
 refine Ea (I.alloc (o:=eg (vs++A) 0) rfl s.toks) λp r=>?_
 exact K _ as _ _ (.l<|xs++d) _ p (bU.rfl' _) r (RD.list (FM.eZ _ _ _)<|by refine V Ca ?_;exact(i.append t).aO p) f
theorem Xe(l:fJ q u=Y xs)(e:fJ q y=Y d)(w:xs.length+d.length<=aL)(f:Q (.m q.μ.length) (q.pn<|.ai<|xs++d)):
  P2 c N h RV (lX .Add) u y q Q:=λJ as s R E B G I m z K=>by
 obtain⟨a,vs,n,g,i⟩:=I.ai m l
 obtain⟨b,A,k,C,t⟩:=I.ai z e
 refine P.add_list g C ?_<|by refine az fN (az fN<|V i.length<|V t.length ?_);exact w
 have r:=I.Nv (o:=eg (vs++A) 0) (x:= .ai<|xs++d) rfl (iI _ _ rfl<|by refine V Ca ?_;exact i.append t) s.toks
 have j:as.length=q.μ.length:=let ⟨_,_,r⟩:=I;r.gj.1
 exact K J _ _ _ (.m q.μ.length) _ (FM.le.refl _) (bU.Ai _ _) r (ah s.heap.objs.size (by refine az j (V (kJ<|bM _) ?_);simp) rfl) f
theorem Xf(l:fJ q u=Y xs)(h0: -(2^63)<=n)(h1:n<2^63)(w:xs.length*n.toNat<=2^24)(f:Q (.l (bV n.toNat xs).flatten) q):
  P2 c N h RV (lX .Mult) u (.i n) q Q:=λJ as s R E B G I m z K=>by
 obtain⟨a,vs,k,g,i⟩:=I.ai m l
 obtain⟨t⟩:=cL z
 have d:vs.size=xs.length:=by exact az fN<|V i.length rfl
 refine wpAny_binaryOp_repeat_ref (T:="list") (U:="int") (by decide) (ah _ g rfl) (λs'=>Lv s' n t) noFill_list_mul F.fills_int_mul aj1 repeat_list F.slot_int_index.lookup
  (uh aj1 (Lv s n t) F.entry_int_rmul (F.args_int_rmul_2 _ _) (int___rmul___int_list n t a vs k)
   (g5 g rfl (ah _ g rfl)<|uh F.slot_list_mul (ah _ g rfl) F.entry_list_mul (F.args_list_mul_2 _ _)
    (am2 a vs k n t (by simp[am3];lia) (by refine V d ?_;lia)<|by simp[Un,aL,d];assumption)
    ⟨g,?_⟩))
 have A:∀(j:Nat) (b:Array aa),(aj2 (λv x=>v++x) b<|bV j vs).toList=b.toList++(bV j vs.toList).flatten:=by
  intro j
  induction j with
  |zero=>intro b;simp
  |succ j e=>intro b;exact V nX<|V aj3<|V (e ..)<|V Ca<|V nX<|V nc<|V (eO ..) rfl
 have C:∀j:Nat,bD J (bV j vs.toList).flatten (bV j xs).flatten:=by
  intro j
  induction j with
  |zero=>exact .nil
  |succ j e=>refine V nX (V nX<|V nc<|V nc ?_);exact i.append e
 refine Ea (I.alloc (o:=eg (aj2 (λv x=>v++x) #[]<|bV (if vs.isEmpty=true then 0 else n.toNat) vs) 0) rfl s.toks) λp r=>?_
 refine K _ as _ _ (.l _) _ p (bU.rfl' _) r (RD.list (FM.eZ _ _ _) ?_) f
 refine V (A ..) ?_
 simp only[jt]
 refine bD.aO p ?_
 by_cases y:vs.isEmpty=true
 ·refine V (if_pos y) ?_
  have D:vs.toList=[]:=by simpa using y
  have M:xs=[]:=by rw[D] at i;clear C f w d l;cases i;rfl
  refine V M ?_
  have:(bV n.toNat ([]:List af)).flatten=[]:=by simp
  refine V this ?_;simpa using bD.nil
 ·refine V (if_neg y) ?_
  exact C _
theorem Xg{Q:Bool->St->Prop}{xs:List af}{u:AV}(l:fJ q u=Y xs)(w:xs.length<=aL)(f:Q (!xs.isEmpty) q):P1 c N h rB xo u q Q:=λJ as s R E B I m K=>by
 obtain⟨a,vs,n,g,i⟩:=I.ai m l
 have d:vs.size=xs.length:=by exact az fN<|V i.length rfl
 refine wpAny_truthy_list (g8 _ g rfl _ rfl) (by refine V d ?_;unfold aL at w;lia)<|K.now (b:= !xs.isEmpty) (I.toks _) ?_ f
 show(!vs.isEmpty)= !xs.isEmpty
 congr 1
 (rewrite[Array.isEmpty];refine V d ?_)
 cases xs<;>simp
theorem Xh(l:fJ q u=Y xs)(w:xs.length<=aL)(f:Q (.i xs.length) q):PN c N h (.builtin "len") [u] q Q:=λJ as s R E vs I tk e K=>by
 replace e:=cT e;obtain⟨v,j,m,e⟩:=e
 obtain rfl:=fS e
 obtain⟨a,vs,n,g,i⟩:=I.ai m l
 have d:vs.size=xs.length:=by exact az fN<|V i.length rfl
 refine Calls.call_len_list (g8 _ g rfl _ rfl) (by refine V d ?_;unfold aL at w;lia) ?_
 refine V d ?_
 exact K.now (I.toks _) (jW _ _) f
theorem Xi(w:x.length<=aL)(f:Q (.i x.length) q):PN c N h (.builtin "len") [.s x] q Q:=λJ as s R E vs I tk e K=>by
 replace e:=cT e;obtain⟨v,j,m,e⟩:=e
 obtain rfl:=fS e
 obtain⟨t⟩:=dG m
 exact SBL.len (by unfold aL at w;lia)<|K.now (I.toks _) (jW _ _) f
theorem Nz(l:fJ q u=Y xs)(w:xs.length<=aL)(h0:0<=k)(e:xs[k.toNat]?=Y x)(f:Q (.d x) q):P2 c N h RV um u (.i k) q Q:=λJ as s R E B G I m z K=>by
 obtain⟨a,vs,n,g,i⟩:=I.ai m l
 obtain⟨t⟩:=cL z
 refine aD (i.get e) λv j r=>?_
 have:=(fF.mp e).1
 exact aj4 (g8 _ g rfl _ rfl) h0 (by unfold aL at w;lia) (by refine az oV ?_;exact j)<|K.now (b:=AV.d x) I r f
theorem Xj(l:fJ q u=Y xs)(w:xs.length<=aL)(e:xs[xs.length-1]?=Y x)(f:Q (.d x) q):P2 c N h RV um u (.i<|-1) q Q:=λJ as s R E B G I m z K=>by
 obtain⟨a,vs,n,g,i⟩:=I.ai m l
 obtain⟨t⟩:=cL z
 refine aD (i.get e) λv j r=>?_
 have:=(fF.mp e).1
 have d:vs.size=xs.length:=by exact az fN<|V i.length rfl
 refine wpAny_getItem_list_neg (g8 _ g rfl _ rfl) (by decide) (by exact li 0x4a3913a2044810047862045860 [_,_,_] rfl (Li.ct this) (Li.ce d)<|Li.cp _) (by decide) ?_<|K.now (b:=AV.d x) I r f
 refine az oV<|V d<|V (show((-1:Int)+(xs.length:Int)).toNat=xs.length-1 by exact dK (gV.mp<|li 0x12a388118246384118280e462044860 [_,_,_,_] rfl (Li.cl<|La.ls _ _) (vD<|li 0x128284e450044810045860 [_,_] rfl (Li.ct this)<|Li.cp _)<|Li.ca _ _)<|gV.mp<|li 0x12a28011c284e462045860 [_,_,_] rfl (Li.ct this)<|vD<|li 0x128284e450044810045860 [_,_] rfl (Li.ct this)<|Li.cp _) ?_
 exact j
theorem Xk(w:xs.length<=aL)(h0:0<=k)(e:xs[k.toNat]?=Y x)(f:Q (.d x) q):P2 c N h RV um (.t xs) (.i k) q Q:=λJ as s R E B G I m z K=>by
 obtain⟨a,vs,n,g,i⟩:=CP m
 obtain⟨t⟩:=cL z
 refine aD (i.get e) λv j r=>?_
 have:=(fF.mp e).1
 have d:vs.size=xs.length:=by exact az fN<|V i.length rfl
 refine P.getItem_tuple (k:=k.toNat) (I.keep _ _ g) (by lia) (by unfold aL at w;lia) ?_ (by refine az oV ?_;exact j)<|K.now (b:=AV.d x) I r f
 unfold Lx
 simp only[Fl.mpr h0,if_false,d]
 exact V (if_pos<|by simp;exact⟨li 0x4a810044810 [_] rfl h0,li 0x4b8620478a0045860 [_,_,_] rfl (Li.ct this)<|vD<|li 0x4a810044810 [_] rfl h0⟩) rfl
theorem Ak(B:q.μ[i]?=Y (Y<|.ai xs))(w:xs.length<=aL)(f:Q .n (q.fR i<|.ai<|xs++[x])):PN c N h (.builtin "list.append") [.m i,.d x] q Q:=λJ as s R E vs I tk e K=>by
 replace e:=cT e;obtain⟨v,j,m,e⟩:=e
 replace e:=cT e;obtain⟨G,j,z,e⟩:=e
 obtain rfl:=fS e
 refine aD m λa ha o=>?_;clear m;refine V o ?_
 obtain⟨A,n,g,r⟩:=I.rq B ha
 refine wpAny_list_append_plain ⟨n,g⟩ (λb ⟨k,d⟩ hs=>?_)<|by refine az fN (V r.length ?_);exact w
 exact K J as _ _ .n _ (FM.le.refl _) (bU.rfl' _) (I.v8 (y:= .ai<|xs++[x]) B ha hs d (iI _ _ rfl<|by refine V Ly ?_;exact r.append<|.cons z .nil) s.toks) RD.none f
theorem Xl(B:q.μ[i]?=Y (Y<|.ai xs))(l:fJ q u=Y d)(w:xs.length+d.length<=aL)(f:Q .n (q.fR i<|.ai<|xs++d)):PN c N h (.builtin "list.extend") [.m i,u] q Q:=λJ as s R E vs I tk e K=>by
 replace e:=cT e;obtain⟨v,j,m,e⟩:=e
 replace e:=cT e;obtain⟨G,j,z,e⟩:=e
 obtain rfl:=fS e
 refine aD m λa ha o=>?_;clear m;refine V o ?_
 obtain⟨A,n,g,r⟩:=I.rq B ha
 obtain⟨b,p,k,C,t⟩:=I.ai z l
 have D:A.size=xs.length:=by exact az fN<|V r.length rfl
 have M:p.size=d.length:=by exact az fN<|V t.length rfl
 refine uh aj5 (ah _ g rfl) F.entry_list_extend (F.args_list_extend_2 _ _) (am4 a A n b p k (by simp[Un,D,M];unfold aL at*;lia) (by lia)<|by lia)<|bJ g C ?_
 exact K J as _ _ .n _ (FM.le.refl _) (bU.rfl' _) (I.v8 (y:= .ai<|xs++d) B ha (sC ..) (Uo g _) (iI _ _ rfl<|by refine V Ca ?_;exact r.append t) s.toks) RD.none f
theorem Xm(B:q.μ[i]?=Y (Y<|.ai (x::xs)))(w:xs.length<aL)(f:Q (.d x) (q.fR i<|.ai xs)):PN c N h (.builtin "list.pop") [.m i,.i 0] q Q:=λJ as s R E vs I tk e K=>by
 replace e:=cT e;obtain⟨v,j,m,e⟩:=e
 replace e:=cT e;obtain⟨G,j,z,e⟩:=e
 obtain rfl:=fS e
 refine aD m λa ha o=>?_;clear m;refine V o ?_
 obtain⟨t⟩:=cL z
 obtain⟨A,n,g,r⟩:=I.rq B ha
 have D:A.size=xs.length+1:=by refine az fN (V r.length ?_);rfl
 refine aD (r.get (i:=0) (d:=x) rfl) λy b k=>?_
 refine uh aj6 (ah _ g rfl) F.entry_list_pop (F.args_list_pop_2 _ _) (am5 a A n 0 t 0 y (by decide) (by simp[Lx,D]) (by refine az oV ?_;exact b)<|by lia) ⟨g,?_⟩
 refine K J as _ _ (.d x) _ (FM.le.refl _) (bU.rfl' _) (I.v8 (y:= .ai xs) B ha (sC ..) (Uo g _) (iI _ _ rfl ?_) s.toks) k f
 have:(A.eraseIdxIfInBounds 0).toList=A.toList.drop 1:=by
  obtain⟨l⟩:=A
  cases l with
  |nil=>simp at D
  |cons p l=>simp[Array.eraseIdxIfInBounds]
 refine V this ?_
 exact r.drop 1
end
end
noncomputable def gM:List AV->Option (List af)
 |[]=>Y []
 | .d x::us=>(gM us).map (x::·)
 |_=>Z
theorem b_.gM(C:b_ J as vs us)(e:gM us=Y b):bD J vs b:=by
 refine C.kO (P:=λvs us=>∀b,Mine.gM us=Y b->bD J vs b) (λb e=>by cases e;exact .nil) (λv vs u us a _ d b e=>?_) b e
 cases u with
 |d x=>
  change aj7 (x::·) (Mine.gM us)=Y b at e
  cases C:Mine.gM us with
  |none=>rw[C] at e;exact nS e
  |some g=>rw[C] at e;cases e;exact .cons a<|d _ C
 |_=>exact nS e
noncomputable def xX:AV->Option (String×String)
 | .d (.list _)| .m _| .iJ _=>Y ("list","list.__getitem__")
 | .d (.tuple _)=>Y ("tuple","tuple.__getitem__")
 | .d (.str _)=>Y ("str","str.__getitem__")
 |_=>Z
theorem NB:qO (.type "str") "__getitem__"=pure (Y<|.builtin "str.__getitem__"):=by refine V (qP ..) (V qQ ?_);kernel_rfl
theorem CV:qO (.type "list") "__getitem__"=pure (Y<|.builtin "list.__getitem__"):=by refine V (qP ..) (V qQ ?_);kernel_rfl
theorem Xn:qO (.type "tuple") "__getitem__"=pure (Y<|.builtin "tuple.__getitem__"):=by refine V (qP ..) (V qQ ?_);kernel_rfl
section
variable {c:Cx} {N:List H} {h:ao} {q:St} {J:FM} {as:List ak} {s:au}
theorem aH.xX(I:aH c N h q J as s){v:aa}{u:AV}(r:RV J as v u)(k:∀i,u= .m i->∃xs,q.μ[i]?=Y (Y<|.ai xs)){T id:String}(e:xX u=Y (T,id)):s.TypeIs v T/\qO (.type T) "__getitem__"=pure (Y<|.builtin id):=by
 cases u with
 |d x=>clear k;cases x with
  |str=>cases e;obtain⟨t⟩:=dG r;exact⟨lZ _ _ _,NB⟩
  |list=>cases e;cases r with
   |list C av=>exact⟨(ah _ (I.keep _ _ C) rfl),CV⟩
  |tuple=>cases e;cases r with
   |tuple C av=>exact⟨(ah _ (I.keep _ _ C) rfl),Xn⟩
  |_=>exact nS e
 |m i=>
  cases e
  refine Ex (k _ rfl) λxs av=>?_
  refine aD r λa b e'=>?_;clear r;subst e'
  obtain⟨vs,n,d,f⟩:=I.rq av b
  exact⟨(ah _ d rfl),CV⟩
 |iJ=>
  cases e
  refine q8 r λa o vs n e' b d f g=>?_;clear r;subst e'
  exact⟨(ah _ (I.keep _ _ b) d),CV⟩
 |_=>exact nS e
section
variable {c:Cx} {N:List H} {h:ao} {q:St} {Q:AV->St->Prop}
theorem Xo(g:ay)(va d:aa):aj8 g false va d=operate [d,va] (um va d)\/aj8 g false va d=operate [va,d] (um va d):=by
 cases g<;>first|exact .inr rfl|(rename_i s _;cases s<;>first|exact .inl rfl|exact .inr rfl)
theorem uM{j g:ay}{u v:AV}{T id:String}(m:xX u=Y (T,id))(k:∀i,u= .m i->∃xs,q.μ[i]?=Y (Y<|.ai xs))(C:P2 c N h RV um u v q Q):
  P2 c N h RV (subscriptTail j g) u v q Q:=λJ as s R E va d I f l K=>by
 refine Ea (I.xX f k m) λb p=>?_
 have a:=C J as s R E va d I f l K
 rcases Xo g va d with e|e
 ·exact Lz b p a e
 ·exact Lz b p a e
theorem aG.sub{j g:ay}{M:aV}(C:aG c N h j q λu d=>aG c N h g d λv e=>(∃T id,xX u=Y (T,id))/\(∀i,u= .m i->∃xs,e.μ[i]?=Y (Y<|.ai xs))/\P2 c N h RV um u v e Q):
  aG c N h (.Subscript j g M) q Q:=λJ as s R E I tk K=>by
 refine Up<|aN.bw (C) I tk λU G D a u d y z m B w f=>aN.bw (f) m B λfB iA dJ b v e cZ ji cI dY cG L=>?_
 refine gy L λt k L=>?_;refine cC t λT id av=>?_;clear t
 exact uM av k L fB iA dJ R E a b cI (w.le cZ.C ji) cG<|K.trans (y.trans cZ)<|z.trans ji
theorem aG.ai(C:dD c N h g q λus d=>∃b,gM us=Y b/\b.length<=aL/\Q (.l b) d):aG c N h (.List g M) q Q:=λJ as s R E I tk K=>
 wpAny_List (aN.bw (C M) I tk λU G D vs us d y z m B w f=>by
  refine jU f λb e p f=>?_
  have r:=w.gM e
  refine⟨by refine V r.length ?_;exact p,?_⟩
  refine Ea (m.alloc (o:=eg vs.toArray 0) rfl D.toks) λav eX=>?_
  exact K _ _ _ _ (.l b) _ (y.trans av) z eX (RD.list (FM.eZ _ _ _)<|r.aO av) f)
theorem aG.lF(C:dD c N h g q λus d=>∃b,gM us=Y b/\b.length<=aL/\Q (.m d.μ.length) (d.pn<|.ai b)):aG c N h (.List g M) q Q:=λJ as s R E I tk K=>
 wpAny_List (aN.bw (C M) I tk λU G D vs us d y z m B w f=>by
  refine jU f λb e p f=>?_
  have r:=w.gM e
  refine⟨by refine V r.length ?_;exact p,?_⟩
  have eX:=m.Nv (o:=eg vs.toArray 0) (x:= .ai b) rfl (iI _ _ rfl r) D.toks
  have a:G.length=d.μ.length:=let ⟨_,_,eX⟩:=m;eX.gj.1
  exact K _ _ _ _ (.m d.μ.length) _ y (z.trans<|bU.Ai _ _) eX (ah D.heap.objs.size (by refine az a (V (kJ<|bM _) ?_);simp) rfl) f)
theorem aG.bZ(C:dD c N h g q λus d=>∃b,gM us=Y b/\b.length<=aL/\Q (.t b) d):aG c N h (.Tuple g k M) q Q:=λJ as s R E I tk K=>
 aj9 (aN.bw (C M) I tk λU G D vs us d y z m B w f=>by
  refine jU f λb e p f=>?_
  have r:=w.gM e
  refine⟨by refine V r.length ?_;exact p,?_⟩
  refine Ea (m.alloc (o:=CT vs.toArray 0) rfl D.toks) λav eX=>?_
  exact K _ _ _ _ (.t b) _ (y.trans av) z eX (RD.tuple (FM.eZ _ _ _)<|r.aO av) f)
noncomputable def oh:AV->Option (Option Int)
 | .d .none=>Y Z
 | .d (.int i)=>Y<|Y i
 |_=>Z
theorem CW(r:RV J as v u)(e:oh u=Y o):IsPart v o/\∃p,v=Uq p/\p.map (·.1)=o:=by
 cases u with
 |d x=>cases x with
  |none=>cases e;obtain rfl:=G3 r;exact bR .none Z rfl rfl
  |int=>cases e;obtain⟨t⟩:=cL r;exact bR (.int _ _) (Y (_,t)) rfl rfl
  |_=>exact nS e
 |_=>exact nS e
abbrev qe(c:Cx)(N:List H)(h:ao)(e:Option ay)(q:St)(Q:AV->St->Prop):Prop:=aN c N h RV (evalPart e c.aj) q Q
theorem qe.none(C:Q .n q):qe c N h Z q Q:=λJ as s R E I tk K=>Ur<|K.now (b:=AV.n) I RD.none C
theorem qe.some(C:aG c N h e q Q):qe c N h (Y e) q Q:=λJ as s R E I tk K=>wpAny_evalPart_some<|C J as s R E I tk K
noncomputable def d7(n:Nat)(v:Option Int)(d:Nat):Nat:=match v with
 |none=>d
 |some x=>if x<0 then n-(-x).toNat else min x.toNat n
theorem NC(v:Option Int)(n:Nat):kms_lo v n=d7 n v 0:=by cases v<;>rfl
theorem ND(v:Option Int)(n:Nat):kms_hi v n=d7 n v n:=by cases v<;>rfl
def kQ{C:Type}(l:List C)(lo hi:Option Int):List C:=(l.drop<|d7 l.length lo 0).take<|d7 l.length hi l.length-d7 l.length lo 0
theorem Xp(vs:Array aa)(a b:Option Int):(slicePick vs a b Z).toList=kQ vs.toList a b:=by
 refine V (kms_pick_eq ..)<|V Cb ?_
 unfold kms_pick
 refine V (NC ..) (V (ND ..) ?_);rfl
theorem bD.kQ(r:bD J vs xs)(a b:Option Int):bD J (Mine.kQ vs a b) (Mine.kQ xs a b):=by
 unfold Mine.kQ
 refine V r.length ?_
 exact(r.drop _).take _
theorem aG.Xq{j:ay}{lo hi:Option ay}{p M:aV}(C:aG c N h j q λu d=>qe c N h lo d λl e=>qe c N h hi e λr i=>∃xs a b,xW i u=Y xs/\xs.length<=aL/\oh l=Y a/\oh r=Y b/\Q (.l<|kQ xs a b) i):
  aG c N h (.Subscript j (.Slice lo hi Z p) M) q Q:=λJ as s R E I tk K=>by
 refine Up<|aN.bw (C) I tk λU G D va u d y z m B w f=>aka<|aN.bw (f) m B λfB iA dJ vl l e cZ ji cI dY cG L=>aN.bw L cI dY λh_ iz fV vr r i c_ eV gq iT m5 v=>Ur ?_
 refine uG v λxs a b e1 e2 e3 e4 v=>?_
 refine Ea (gq.alloc (o:={cls:= .type "slice",data:= .fields #[vl,vr,.none]}) rfl fV.toks) λav eX=>?_
 refine q8 (eX.xW (w.le (cZ.trans<|c_.trans av).C<|ji.trans eV) e1) λA oA vs n e' g x gd rr=>?_;clear w;subst e'
 have k:vs.size=xs.length:=by exact az fN<|V rr.length rfl
 refine Lz (ops:=[.ref fV.heap.objs.size,.ref A]) (ah _ g x) CV ?_ rfl
 refine wpAny_getItem_list_slice (lo:=a) (hi:=b) (st:=Z) (g8 _ g x _ gd) (bk _ (qM _ rfl) rfl rfl) (CW cG e3).1 (CW m5 e4).1 .none (by decide) ?_<|by refine V k ?_;exact e2
 refine Ea (eX.alloc (o:=eg (slicePick vs a b Z) 0) rfl fV.toks) λt J'=>?_
 refine K _ iz _ _ (.l<|kQ xs a b) _ (((y.trans cZ).trans c_).trans<|av.trans t) ((z.trans ji).trans eV) J' (RD.list (FM.eZ _ _ _) ?_) v
 refine bD.aO t ?_
 refine V (Xp ..) ?_
 exact rr.kQ a b
theorem aG.Xr{j:ay}{lo hi:Option ay}{p M:aV}(C:aG c N h j q λu d=>qe c N h lo d λl e=>qe c N h hi e λr i=>∃x a b,u= .s x/\x.length<=aL/\oh l=Y a/\oh r=Y b/\Q (.s<|sD x a b) i):
  aG c N h (.Subscript j (.Slice lo hi Z p) M) q Q:=λJ as s R E I tk K=>by
 refine Up<|aN.bw (C) I tk λU G D va u d y z m B w f=>aka<|aN.bw (f) m B λfB iA dJ vl l e cZ ji cI dY cG L=>aN.bw L cI dY λh_ iz fV vr r i c_ eV gq iT m5 v=>Ur ?_
 refine uG v λx a b e' e2 e3 e4 v=>?_;clear f L;subst e'
 obtain⟨t⟩:=dG w
 refine aD ((CW cG e3).2) λn e' g=>?_;clear cG;subst e';clear e3;subst g
 refine aD ((CW m5 e4).2) λA e' g=>?_;clear m5;subst e';clear e4;subst g
 refine Ea (gq.alloc (o:={cls:= .type "slice",data:= .fields #[Uq n,Uq A,.none]}) rfl fV.toks) λav eX=>?_
 refine Lz (ops:=[.ref fV.heap.objs.size,.str x t]) (lZ _ _ _) NB ?_ rfl
 exact wpAny_getItem_str_slice (l:=n) (u:=A) (st:=Z) (bk _ (qM _ rfl) rfl rfl) rfl
  (post_val_or_str ⟨ic (Txt.slice_le x _ _) e2,λt' k=>K _ iz _ _ (.s (sD x (n.map (·.1)) (A.map (·.1)))) _ (((y.trans cZ).trans c_).trans av) ((z.trans ji).trans eV) (eX.toks k) (i6 _ _) v⟩)
theorem Xu(b:LA i=true)(a:(Cc x i).isSome=true)(C:Q (.s<|FD x i) q):P2 c N h RV um (.s x) (.i i) q Q:=λJ as s R E va d I f l K=>by
 obtain⟨t⟩:=dG f;obtain⟨u⟩:=cL l
 exact SB.getItem b a<|K.now (I.toks _) (i6 _ _) C
theorem Xv{d:xg}{w:aC}{A:cR}{E:aa->au->Prop}{s:au}{l:ak}{C:Array aa}{n:Nat}{k:Int}{t:k_}{v:aa}{Q:Unit->au->Prop}(p:IsL s.heap l C n)
  (m:0<=k)(a:k<2^63)(o:k<C.size)
  (f:∀u,IsL (s.heap.update l (pV (·.setIfInBounds k.toNat v))) l (C.setIfInBounds k.toNat v) u->Q () {s with heap:=s.heap.update l (pV (·.setIfInBounds k.toNat v))}):
  aF (aX d w) A (Ce (.ref l) (.int k t) v) Q E s:=by
 have g:=p
 have i:(eg C n).data= .seq C n:=rfl
 have b:s.TypeIs (.ref l) "list":=(ah _ p rfl)
 unfold Ce
 try with_reducible refine j9 ?_
 first|refine aB (bf ?_)|skip
 refine aB<|wpAny_sequenceKey b (by decide) ?_
 refine aB<|Us (name:=sF "__setitem__") b akb
  (FE akb b entry_list_setitem ?_<|args_list_setitem _ _ _)
 refine(?_:aF _ _ (am6 (.int k t)>>=_) _ _ s)
 refine aB<|wpAny_listSubscript_int (fitsIndex_of m a) ?_
 clear a
 refine Ex (Int.eq_ofNat_of_zero_le m) λj e'=>?_;subst e'
 have r:j<C.size:=by exact qJ.mp<|li 0x4b860045860 [_,_] rfl o
 have e:C[j]?=Y C[j]:=akc r
 refine aB<|aB<|wpAny_seqItemAt g i<|bf ?_
 refine V e ?_
 refine aB<|wpAny_setSeqItemAt g i ?_
 first
  |exact aB<|bf<|bf<|ah .none rfl<|bf<|f _<|p.update _
  |exact bf ⟨.none,rfl,bf<|f _<|p.update _⟩
theorem Xw{i:Nat}{xs:List af}{k:Int}{x:af}{Q:Unit->St->Prop}(hi:q.μ[i]?=Y (Y<|.ai xs))(p:xs.length<=aL)(m:0<=k)(v:k.toNat<xs.length)(C:Q () (q.fR i<|.ai<|xs.set k.toNat x)):
  P3 c N h rU Ce (.m i) (.i k) (.d x) q Q:=λJ as s R E va d w I f l b K=>by
 refine aD f λa e e'=>?_;clear f;subst e'
 obtain⟨t⟩:=cL l
 obtain⟨o,n,g,r⟩:=I.rq hi e
 have e1:o.size=xs.length:=by exact az fN<|V r.length rfl
 refine Xv g m (by unfold aL at*;lia) (by(clear m;lia)) λu j=>?_
 refine K J as _ () () _ (FM.le.refl _) (bU.rfl' _) (I.v8 (y:= .ai<|xs.set k.toNat x) hi e (sC ..) j (iI _ _ rfl ?_) s.toks) trivial C
 refine V Array.toList_setIfInBounds ?_
 exact r.set _ b
theorem Xx{M:k9}{A:cR}{E:aa->au->Prop}{s:au}{a b:aa}{Q:aa->au->Prop}(e:s.TypeIs a "list")(g:s.TypeIs b "list")
  (i:aF M A (f_ (.builtin "list.__iadd__") [a,b]) Q E s):aF M A (zC .Add a b) Q E s:=by
 refine j9 ?_
 have d:fillsInplaceSlot (.type "list") "add" (am7== .Add)=pure false:=by
  refine V Ut.lookup ?_;rfl
 have f:seqSlot? (.type "list") (dunderI "add")=pure (Y<|.builtin "list.__iadd__"):=PySem.seqSlot_of Ut.lookup<|by decide+kernel
 refine aB<|akd e<|aB<|gH d ?_
 refine V (if_neg ue) ?_
 refine aB<|wpAny_binaryOp1_none (nm:="add") e g noFill_list_add ?_
 refine aB<|gH f ?_
 exact aB<|uq i
theorem Xy{i:Nat}{xs j:List af}{u:AV}(hi:q.μ[i]?=Y (Y<|.ai xs))(m:fJ q u=Y j)(p:xs.length+j.length<=aL)(C:Q (.m i) (q.fR i<|.ai<|xs++j)):P2 c N h RV (zC .Add) (.m i) u q Q:=λJ as s R E va d I f l K=>by
 refine aD f λa e e'=>?_;clear f;subst e'
 obtain⟨o,n,g,r⟩:=I.rq hi e
 obtain⟨b,t,k,v,w⟩:=I.ai l m
 have e1:o.size=xs.length:=by exact az fN<|V r.length rfl
 have e2:t.size=j.length:=by exact az fN<|V w.length rfl
 refine Xx (ah _ g rfl) (ah _ v rfl)<|uh Ut (ah _ g rfl) F.entry_list_iadd (F.args_list_iadd_2 _ _) (am8 a o n b t k (by simp[Un,e1,e2];lia) (by lia)<|by lia)<|bJ g v ?_
 exact K J as _ _ (.m i) _ (FM.le.refl _) (bU.rfl' _) (I.v8 (y:= .ai<|xs++j) hi e (sC ..) (Uo g _) (iI _ _ rfl<|by refine V Ca ?_;exact r.append w) s.toks) (ah a e rfl) C
end
end
theorem G5{d:dw}:Uu [] d=[]:=rfl
theorem s7{d:dw}{a:aV}{g:List ay}(b:∀e∈g,dB e=true):((iG a<|gi g d).any (·.1))=false:=by
 induction g with
 |nil=>rfl
 |cons e g f=>
  refine V (n_ (b e aZ) ..) ?_
  exact f λx i=>b x<|a_ _ i
inductive jA where
 |join|replace|count|v_|rstrip|split|uN|xY|wc|append|nu|pop|get
noncomputable def jA.T:jA->String
 | .append| .nu| .pop=>"list"
 | .get=>"dict"
 |_=>"str"
noncomputable def jA.nm:jA->H
 | .join=>"join"| .replace=>"replace"| .count=>"count"| .v_=>"expandtabs"| .rstrip=>"rstrip"| .split=>"split"
 | .uN=>"splitlines"| .xY=>"endswith"| .wc=>"translate"| .append=>"append"| .nu=>"extend"| .pop=>"pop"| .get=>"get"
noncomputable def jA.id:jA->String
 | .join=>"str.join"| .replace=>"str.replace"| .count=>"str.count"| .v_=>"str.expandtabs"| .rstrip=>"str.rstrip"| .split=>"str.split"
 | .uN=>"str.splitlines"| .xY=>"str.endswith"| .wc=>"str.translate"| .append=>"list.append"| .nu=>"list.extend"| .pop=>"list.pop"| .get=>"dict.get"
theorem jA.attrs:∀m:jA,PlainAttrs m.T
 | .append| .nu| .pop=>F.plainAttrs_list
 | .get=>F.plainAttrs_dict
 | .join| .replace| .count| .v_| .rstrip| .split| .uN| .xY| .wc=>ake
theorem jA.slot:∀m:jA,Slot m.T m.nm m.id
 | .append=>akf| .nu=>aj5| .pop=>aj6| .get=>akg
 | .join=>F.slot_str_join| .replace=>akh| .count=>aki| .v_=>akj| .rstrip=>F.slot_str_rstrip
 | .split=>LB| .uN=>akk| .xY=>F.slot_str_endswith| .wc=>akl
theorem jA.type:∀m:jA,typeOf (.builtin m.id)=pure (.type "method_descriptor")
 | .append=>LC| .nu=>F.type_list_extend| .pop=>F.type_list_pop| .get=>F.type_dict_get
 | .join=>F.type_str_join| .replace=>akm| .count=>F.type_str_count| .v_=>F.type_str_expandtabs| .rstrip=>F.type_str_rstrip
 | .split=>F.type_str_split| .uN=>F.type_str_splitlines| .xY=>F.type_str_endswith| .wc=>F.type_str_translate
def xZ(o:Option (Option AO)):Option String:=(Aj o).bind λ_=>Y "list"
theorem Xz{o:Option (Option AO)}{T:String}(b:xZ o=Y T):∃xs,o=Y (Y<|.ai xs)/\"list"=T:=by
 unfold xZ at b
 cases e:Aj o with
 |none=>rw[e] at b;exact nS b
 |some xs=>rw[e] at b;exact ah xs (G4 e)<|iD b
def rz(q:St):AV->Option String
 | .d (.str _)=>Y "str"
 | .d (.list _)=>Y "list"
 | .m i=>xZ q.μ[i]?
 | .dt _ _=>Y "dict"
 |_=>Z
theorem x6{o:ay}{a:H}{d:dw}{w:bT aa}(b:lE o=true):akn o a d w=w:=by
 cases o<;>first|rfl|(rename_i f l _ _;cases l<;>first|exact fT b|(clear b;cases f<;>rfl))
section
variable {c:Cx} {N:List H} {h:ao} {q:St} {J:FM} {as:List ak} {s:au} {Q:AV->St->Prop}
theorem aH.rz(I:aH c N h q J as s){v:aa}{u:AV}(r:RV J as v u){T:String}(e:rz q u=Y T):s.TypeIs v T/\∀a,v= .ref a->∃l,s.heap.get? a=Y l/\l.dict=Z:=by
 cases u with
 |d x=>cases x with
  |str=>cases e;obtain⟨t⟩:=dG r;exact⟨lZ _ _ _,λ_ d=>nomatch d⟩
  |list=>cases e;cases r with
   |list b d=>exact⟨(ah _ (I.keep _ _ b) rfl),λ_ d=>by cases d;exact(ah _ (I.keep _ _ b) rfl)⟩
  |_=>exact nS e
 |m i=>
  refine aD (Xz e) λxs d f=>?_;clear e;subst f
  refine aD r λa k f=>?_;clear r;subst f
  obtain⟨vs,n,j,p⟩:=I.rq d k
  exact⟨(ah _ j rfl),λ_ d=>by cases d;exact(ah _ j rfl)⟩
 |dt=>
  cases e
  refine uG r λa o w f y k j p=>?_;clear r;subst f
  refine sU j λg z m _=>?_;clear j
  exact⟨(ah _ (I.keep _ _ k) m.1),λ_ d=>by cases d;exact(ah _ (I.keep _ _ k) m.2.1)⟩
 |_=>exact nS e
theorem s8{c:Cx}{N:List H}{h:ao}{q:St}{g:List ay}{a:aV}{f:aa}{J:FM}{as:List ak}{s:au}{E:aa->au->Prop}{Q:List AV->St->Prop}{R:Args->au->Prop}
  (hs:∀e∈g,dB e=true)(b:dD c N h g q Q)(I:aH c N h q J as s)(tk:0<s.toks)
  (K:∀d aJ s' vs us i,FM.le J d->bU as aJ->aH c N h i d aJ s'->0<s'.toks->b_ d aJ vs us->Q us i->R ⟨vs,[]⟩ s'):
  aF c.M c.A (evalArgs f true (iG a<|gi g c.aj) []) R E s:=by
 have j:=aN.bw (E:=E) (R:=λvs s'=>R ⟨vs,[]⟩ s') (b a) I tk K
 cases g with
 |nil=>
  refine aB<|cQ j (λvs s' k=>?_) λ_ _ e=>e
  refine aB<|bf ?_
  refine j9 ?_
  exact aB<|bf<|aB<|bf<|bf k
 |cons e g=>
  rw[n_ (hs e aZ)] at j ⊢
  exact FG j
end
section
variable {c:Cx} {N:List H} {h:ao} {q:St} {J:FM} {as:List ak} {s s':au}
theorem aH.XA(I:aH c N h q J as s)(y:∀b o,s.heap.get? b=Y o->s'.heap.get? b=Y o)(r:s'.gens=s.gens)(ho:s'.os=s.os)(n:s.heap.objs.size<=a)(e:s'.heap.get? a=Y o):
  FM.le J (J.cY a o)/\aH c N h q (J.cY a o) as s':=by
 refine cC I λg m I=>?_
 have A:J a=Z:=by
  cases f:J a with
  |none=>rfl
  |some x=>exact absurd (I.base.lt f)<|jn.mpr n
 have G:∀p∈g,p.1≠a:=λp A f=>absurd (I.base.mw (a:=p.1) (o:=p.2) A)<|V f<|jn.mpr n
 refine⟨FM.iZ A,g,m,I.more ⟨λb x f=>?_,λp f=>y _ _<|I.base.led p f,λp f=>?_,λb x f=>FM.iZ A _ _<|I.base.K b x f⟩ (FM.iZ A) y r ho⟩
 ·unfold FM.cY at f
  by_cases z:b=a
  ·rw[if_pos z] at f;cases f;clear n G A;subst z;exact e
  ·rw[if_neg z] at f;exact y _ _<|I.base.keep _ _ f
 ·unfold FM.cY
  exact V (if_neg<|G p f)<|
   I.base.cU p f
theorem aH.XC(I:aH c N h q J as s)(y:∀b o,s.heap.get? b=Y o->s'.heap.get? b=Y o)(r:s'.gens=s.gens)(ho:s'.os=s.os)(n:s.heap.objs.size<=a)(e:s'.heap.get? a=Y o):
  aH c N ((a,o)::h) q J as s':=by
 refine cC I λg m I=>?_
 have A:J a=Z:=by
  cases f:J a with
  |none=>rfl
  |some x=>exact absurd (I.base.lt f)<|jn.mpr n
 have k:∀b∈own c as,∃o,s.heap.get? b=Y o:=λb d=>by
  refine bN d ?_ λd=>?_
  ·refine Ex I.lo λu t=>?_;exact⟨_,I.base.get t⟩
  ·rcases cj.mp d with d|d
   ·refine aD (bg.mp d) λp A v=>?_;clear d;subst v
    obtain⟨x,U,f,_⟩:=I.e_ p.1 p.2 A
    exact⟨_,I.base.get f⟩
   ·exact I.G2 b d
 have j:dZ c N h q J as g m s':=I.more (I.base.aO y) (FM.le.refl _) y r ho
 refine⟨(a,o)::g,m,⟨j.base.keep,λp f=>?_,λp f=>?_,j.base.K⟩,λp A=>?_,λb d p A=>?_,j.nd,j.ns,?_,λz b d=>?_,j.nv,λi x hx=>?_,j.gj,λi x hx=>?_,j.gens,j.os,λb d=>(j.al b d).imp (λ⟨x,e⟩=>⟨x,a_ _ e⟩) id⟩
 ·refine bN f ?_ λf=>?_
  ·exact e
  ·exact j.base.led p f
 ·refine bN f ?_ λf=>?_
  ·exact A
  ·exact j.base.cU p f
 ·refine bN A ?_ λA=>?_
  ·exact aZ
  ·exact a_ _<|j.sub p A
 ·refine bN A ?_ λA=>?_
  ·refine Ex (k b d) λx f=>?_
   exact λz=>absurd (iC f)<|az z<|jn.mpr n
  ·exact j.apart b d p A
 ·refine Ex j.lo λu l=>?_;exact⟨u,a_ _ l⟩
 ·obtain⟨w,B,C,D⟩:=j.e_ z b d;exact⟨w,B,a_ _ C,D⟩
 ·exact(j.vars i x hx).le (FM.le.refl J) (bU.rfl' _) λf E=>a_ _ E
 ·obtain⟨b,G,L,M,R⟩:=j.ff i x hx;exact⟨b,G,L,a_ _ M,R⟩
end
section
variable {c:Cx} {N:List H} {h:ao} {q:St} {Q:AV->St->Prop}
def ny(L:List ay):Bool:=L.all dB&&decide (L.length<30)
theorem aG.G6(m:jA)(ho:lE o=true)(hs:ny L=true)(G:(a.endLine==M.line)=true)
  (l:aG c N h o q λu z=>rz z u=Y m.T/\dD c N h L z λus b=>PN c N h (.builtin m.id) (u::us) b Q):
  aG c N h (.Call (.Attribute o m.nm a) L [] M) q Q:=λJ as s R E I tk K=>by
 simp only[ny,jQ,l6,decide_eq_true_eq] at hs
 have A:((iG M<|gi L c.aj).any (·.1))=false:=s7 hs.1
 refine Uv (x6 ho) ?_ G m.attrs m.slot m.type<|aN.bw l I tk λU iU jJ v u z j3 gr C B D r=>?_
 ·have:((iG M<|gi L c.aj).all λx=> !x.1)=true:=by
   rw[l6];intro x hx
   have:=LD.mp A x hx
   simpa using this
  refine V this ?_
  simp only[G5,FH,j_,List.all_nil,l7,List.isEmpty_nil,if_true,oW,Uw,decide_eq_true_eq]
  exact hs.2
 ·refine Ea r λf r=>
   Ea (C.rz D f) λx y=>?_
  exact bJ x y<|LG A<|s8 hs.1 r C B λd e i vs us b k n p g t w=>
   w d e i R E (v::vs) p g ⟨D.le k.C n,t⟩ (K.trans (j3.trans k)<|gr.trans n)
def NF(u:AV)(f:aa):Prop:=
 (∃id,u= .bi id/\f= .builtin id)\/(∃T,u= .ty T/\f= .type T)\/(∃a,u= .k a/\f= .ref a/\∀P,Cf (K0 P) (.ref a)=true)
theorem aG.XD(hs:ny L=true)
  (l:aG c N h (.Name x m) q λu z=>∃f,NF u f/\dD c N h L z λus b=>PN c N h f us b Q):
  aG c N h (.Call (.Name x m) L [] M) q Q:=λJ as s R E I tk K=>by
 simp only[ny,jQ,l6,decide_eq_true_eq] at hs
 have A:((iG M<|gi L c.aj).any (·.1))=false:=s7 hs.1
 refine Cg<|aN.bw l I tk λU iU jJ v u z j3 gr C B D r=>
  aD r λf o r=>?_
 have j:∀d e i vs us b,FM.le U d->bU iU e->aH c N h b d e i->0<i.toks->b_ d e vs us->PN c N h f us b Q->aF c.M c.A (f_ f vs) R E i:=λd e i vs us b k n p g t w=>
  w d e i R E vs p g t (K.trans (j3.trans k)<|gr.trans n)
 rcases o with⟨id,rfl,rfl⟩|⟨T,rfl,rfl⟩|⟨a,rfl,rfl,y⟩
 ·obtain rfl:v= .builtin id:=D
  exact LG A<|s8 hs.1 r C B λd e i vs us b k n p g t w=>j _ _ _ _ _ _ k n p g t w
 ·obtain rfl:v= .type T:=D
  exact LH A<|s8 hs.1 r C B λd e i vs us b k n p g t w=>j _ _ _ _ _ _ k n p g t w
 ·obtain rfl:v= .ref a:=D
  exact LI (P:=λl=>(K0 c.w.params).In l) (V A rfl) (λl X=>keeps_K (y _) l X)<|s8 hs.1 r C B λd e i vs us b k n p g t w=>⟨p.e7,j _ _ _ _ _ _ k n p g t w⟩
theorem XE(l:Q (.i<|LJ x y) q):PN c N h (.builtin "str.count") [.s x,.s y] q Q:=λJ as s R E vs I tk e K=>by
 replace e:=cT e;obtain⟨v,g,m,e⟩:=e
 replace e:=cT e;obtain⟨p,g,i,e⟩:=e
 obtain rfl:=fS e
 obtain⟨t⟩:=dG m;obtain⟨u⟩:=dG i
 exact call_gives aki (lZ _ _ _) F.entry_str_count (F.args_str_count_2 _ _) (gives_str_count x y t u)<|K.now (I.toks _) (jW _ _) l
theorem XF(G:x.length<=aL)(l:Q (.s<|zD x) q):PN c N h (.builtin "str.rstrip") [.s x] q Q:=λJ as s R E vs I tk e K=>by
 replace e:=cT e;obtain⟨v,g,m,e⟩:=e
 obtain rfl:=fS e
 obtain⟨t⟩:=dG m
 exact SCL.rstrip (λf k _=>K.now (I.toks _) (i6 _ _) l) G
theorem XG(G:x.length<=aL)(l:Q (.s<|FI x y) q):PN c N h (.builtin "str.rstrip") [.s x,.s y] q Q:=λJ as s R E vs I tk e K=>by
 replace e:=cT e;obtain⟨v,g,m,e⟩:=e
 replace e:=cT e;obtain⟨p,g,i,e⟩:=e
 obtain rfl:=fS e
 obtain⟨t⟩:=dG m;obtain⟨u⟩:=dG i
 exact SCL.rstripChars (λf k _=>K.now (I.toks _) (i6 _ _) l) G
theorem XH(l:Q (.rg 0 n 1) q):PN c N h (.type "range") [.i n] q Q:=λJ as s R E vs I tk e K=>by
 replace e:=cT e;obtain⟨v,g,m,e⟩:=e
 obtain rfl:=fS e
 obtain⟨t⟩:=cL m
 exact call_range_1<|
  Ea (I.alloc (o:={cls:= .type "range",data:= .fields #[.int 0 s.toks,.int n t,.int 1 (s.toks+1)]}) rfl<|s.toks+1+1) λf j=>
  K _ as _ _ (.rg 0 n 1) _ f (bU.rfl' _) j (mq _ _ _<|ah _ rfl<|FM.eZ _ _ _) l
theorem XI(l:Q (.rg a b 1) q):PN c N h (.type "range") [.i a,.i b] q Q:=λJ as s R E vs I tk e K=>by
 replace e:=cT e;obtain⟨v,g,m,e⟩:=e
 replace e:=cT e;obtain⟨p,g,i,e⟩:=e
 obtain rfl:=fS e
 obtain⟨t⟩:=cL m;obtain⟨u⟩:=cL i
 exact call_range_2<|
  Ea (I.alloc (o:={cls:= .type "range",data:= .fields #[.int a t,.int b u,.int 1 s.toks]}) rfl<|s.toks+1) λf j=>
  K _ as _ _ (.rg a b 1) _ f (bU.rfl' _) j (mq _ _ _<|ah _ rfl<|FM.eZ _ _ _) l
theorem XJ(k:d≠0)(A:Lp (b-a) d=false)(l:Q (.rg a b d) q):PN c N h (.type "range") [.i a,.i b,.i d] q Q:=λJ as s R E vs I tk e K=>by
 replace e:=cT e;obtain⟨v,g,m,e⟩:=e
 replace e:=cT e;obtain⟨p,g,i,e⟩:=e
 replace e:=cT e;obtain⟨p,g,n,e⟩:=e
 obtain rfl:=fS e
 obtain⟨t⟩:=cL m;obtain⟨u⟩:=cL i;obtain⟨w⟩:=cL n
 refine call_range_3 k ?_<|.inl A
 exact Ea (I.alloc (o:={cls:= .type "range",data:= .fields #[.int a t,.int b u,.int d w]}) rfl s.toks) λf j=>
  K _ as _ _ (.rg a b d) _ f (bU.rfl' _) j (mq _ _ _<|ah _ rfl<|FM.eZ _ _ _) l
theorem XK(a:0<=i)(b:i<=1114111)(l:Q (.s ⟨#[i.toNat]⟩) q):PN c N h (.builtin "chr") [.i i] q Q:=λJ as s R E vs I tk e K=>by
 replace e:=cT e;obtain⟨v,g,m,e⟩:=e
 obtain rfl:=fS e
 obtain⟨t⟩:=cL m
 exact chr_of_range a b<|K.now (I.toks _) (i6 _ _) l
theorem XM{n:Nat}(l:Q (.i n) q):PN c N h (.builtin "ord") [.s ⟨#[n]⟩] q Q:=λJ as s R E vs I tk e K=>by
 replace e:=cT e;obtain⟨v,g,m,e⟩:=e
 obtain rfl:=fS e
 obtain⟨t⟩:=dG m
 exact P.ord_of_char<|K.now (I.toks _) (jW _ _) l
theorem XN(r:fJ q u=Y xs)(G:xs.length<=aL)(l:Q (.t xs) q):PN c N h (.type "tuple") [u] q Q:=λJ as s R E vs I tk e K=>by
 replace e:=cT e;obtain⟨v,g,m,e⟩:=e
 obtain rfl:=fS e
 obtain⟨a,vs,n,w,b⟩:=I.ai m r
 have d:vs.size=xs.length:=by exact az fN<|V b.length rfl
 refine call_tuple_list (g8 _ w rfl _ rfl) (λi y=>?_)<|V d G
 exact Ea ((I.s6 (s':={s with heap:=i}) y rfl rfl).alloc (o:=CT vs 0) rfl s.toks) λf j=>
  K _ as _ _ (.t xs) _ f (bU.rfl' _) j (RD.tuple (FM.eZ _ _ _)<|b.aO f) l
theorem bD.strs(l:bD J vs (d.map .str)):StrsAre vs d:=by
 induction d generalizing vs with
 |nil=>cases M_ l;exact .nil
 |cons y d e=>
  obtain⟨v,vs,a,b⟩:=Wl l
  obtain⟨t⟩:=dG (as:=[]) (show RV J [] v (.s y) from a)
  exact .cons _ _<|e b
theorem XO(r:fJ q u=Y (d.map .str))(G:(d.map (·.length)).sum+d.length*x.length<=16777216)(l:Q (.s<|Ci x d) q):PN c N h (.builtin "str.join") [.s x,u] q Q:=λJ as s R E vs I tk e K=>by
 replace e:=cT e;obtain⟨v,g,m,e⟩:=e
 replace e:=cT e;obtain⟨p,g,i,e⟩:=e
 obtain rfl:=fS e
 obtain⟨t⟩:=dG m
 obtain⟨a,vs,n,w,b⟩:=I.ai i r
 exact join_list (g8 _ w rfl _ rfl) b.strs G λf k=>K.now (I.toks _) (i6 _ _) l
end
abbrev PQ:=AV->St->Prop
noncomputable def G7:H:=" id=\"%s%d\""
noncomputable def Al(a b:H):H:=(" id=\"":H)++a++b++("\"":H)
def G8(x:H):Prop:=x.length<=100000
noncomputable def dh(n:Int):H:=sF<|toString n
def CX(n:Int):Prop:=0<=n/\n<10^10
noncomputable def rA(x y:H):Bool:= !(nW x y 0 x.length 1).isEmpty
section
variable {q:St}
theorem XQ(e:fJ q (.m i)=Y xs):q.μ[i]?=Y (Y<|.ai xs):=G4 e
end
section
variable {c:Cx} {N:List H} {h:ao} {q:St} {J:FM} {as:List ak} {s s':au}
theorem aH.G9{hs bW:ao}(I:aH c N (hs++h) q J as s)(D:∀p∈h,p.1∉hs.map (·.1))(G:∀b o,b∉hs.map (·.1)->s.heap.get? b=Y o->s'.heap.get? b=Y o)
  (n:∀p∈bW,p.1∈hs.map (·.1))(hv:∀p∈bW,s'.heap.get? p.1=Y p.2)(v:s'.gens=s.gens)(w:s'.os=s.os):
  ∃k m,dZ c N (bW++h) q J as k m s'/\(∀p∈k,p.1<s.heap.objs.size)/\∀p∈k,p∈bW\/p.1∉hs.map (·.1):=by
 refine cC I λk m I=>?_
 have t:∀b,b∈hs.map (·.1)->J b=Z:=λb L=>by
  refine aD (bg.mp L) λp d Q=>?_;clear L;subst Q
  exact I.base.cU p<|I.sub p<|iF _ d
 have l:∀b∈own c as,b∉hs.map (·.1):=λb L g=>by
  refine aD (bg.mp g) λp d e=>?_
  exact I.apart b L p (iF _ d) e
 let f:ak×bh->Bool:=λp=>decide (p.1∉hs.map (·.1))
 have M:∀b U,(b,U)∈k->b∉hs.map (·.1)->(b,U)∈bW++k.filter f:=λb U g R=>gw _<|jq.mpr ⟨g,decide_eq_true R⟩
 have E:∀b o,J b=Y o->b∉hs.map (·.1):=λb o e g=>by rw[t b g] at e;cases e
 refine gx (bW++k.filter f) m ?_ (λp d=>?_) (λp d=>?_)
 rotate_right
 ·rcases cj.mp d with d|d
  ·exact .inl d
  ·exact .inr (of_decide_eq_true (jq.mp d).2)
 rotate_right
 ·rcases cj.mp d with d|d
  ·refine aD (bg.mp<|n p d) λi hq e=>?_
   refine az e ?_;exact I.base.mw (a:=i.1) (o:=i.2)<|I.sub i<|iF _ hq
  ·exact I.base.mw (a:=p.1) (o:=p.2) (jq.mp d).1
 refine I.to (X:=λb=>b∈hs.map (·.1)) (FM.le.refl J) ⟨λb o e=>G _ _ (E b o e)<|I.base.keep _ _ e,λp d=>?_,λp d=>?_,I.base.K⟩ M (λb g=>⟨λe=>l _ (CR c as)<|e▸g,λx i=>l _ (GV i) g⟩) (λp d=>?_) (λb L p d=>?_) rfl (λj u e=>(ah u e λ_ r=>r)) rfl
  (λj a z y e=> .inl ⟨l _<|CS y,e⟩) (λb L g=>absurd g<|l _<|a_ _<|gw _ L) v w
 ·rcases cj.mp d with d|d
  ·exact hv p d
  ·refine Ea (jq.mp d) λh1 h2=>?_
   exact G _ _ (of_decide_eq_true h2)<|I.base.led p h1
 ·rcases cj.mp d with d|d
  ·exact t _<|n p d
  ·exact I.base.cU p (jq.mp d).1
 ·rcases cj.mp d with d|d
  ·exact iF _ d
  ·exact M p.1 p.2 (I.sub p<|gw _ d)<|D p d
 ·rcases cj.mp d with d|d
  ·exact λe=>l b L<|e▸n p d
  ·exact I.apart b L p<|gw _ d
theorem aH.qg{hs bW:ao}(I:aH c N (hs++h) q J as s)(D:∀p∈h,p.1∉hs.map (·.1))(G:∀b o,b∉hs.map (·.1)->s.heap.get? b=Y o->s'.heap.get? b=Y o)
  (n:∀p∈bW,p.1∈hs.map (·.1))(hv:∀p∈bW,s'.heap.get? p.1=Y p.2)(v:s'.gens=s.gens)(w:s'.os=s.os):aH c N (bW++h) q J as s':=
 o9 (I.G9 D G n hv v w) λk m f _ _=>dU k m f
theorem aH.NG{hs bW:ao}(I:aH c N (hs++h) q J as s)(D:∀p∈h,p.1∉hs.map (·.1))(G:∀b o,b∉hs.map (·.1)->s.heap.get? b=Y o->s'.heap.get? b=Y o)
  (n:∀p∈bW,p.1∈hs.map (·.1))(hv:∀p∈bW,s'.heap.get? p.1=Y p.2)(v:s'.gens=s.gens)(w:s'.os=s.os){a:ak}{o:bh}(y:s.heap.objs.size<=a)(e:s'.heap.get? a=Y o):
  FM.le J (J.cY a o)/\aH c N (bW++h) q (J.cY a o) as s':=by
 have d:J a=Z:=by
  cases i:J a with
  |none=>rfl
  |some x=>exact absurd (iC<|I.keep _ _ i)<|jn.mpr y
 refine o9 (I.G9 D G n hv v w) λk m f g _=>?_
 have hl:∀p∈k,p.1≠a:=λp d i=>absurd (g p d)<|by refine V i ?_;exact jn.mpr y
 refine⟨FM.iZ d,k,m,f.more ⟨λb x i=>?_,f.base.led,λp i=>?_,λb x i=>FM.iZ d _ _<|f.base.K b x i⟩ (FM.iZ d) (λ_ _ e=>e) rfl rfl⟩
 ·unfold FM.cY at i
  by_cases z:b=a
  ·rw[if_pos z] at i;cases i;clear y hl d;subst z;exact e
  ·rw[if_neg z] at i;exact f.base.keep _ _ i
 ·unfold FM.cY
  refine V (if_neg<|hl p i) ?_
  exact f.base.cU p i
theorem aH.jX{hs:ao}(I:aH c N (hs++h) q J as s){p:ak×bh}(g:p∈hs):s.heap.get? p.1=Y p.2:=by
 refine cC I λk m I=>?_
 exact I.base.led p<|I.sub p<|iF _ g
end
noncomputable def Am(w:aC)(A:cR)(B:ay)(b:aa):List af->FM->ao->Prop
 |[],C,hs=>∀(c:Cx) N h q J as s R (E:aa->au->Prop),c.w=w->c.A=A->aW c->FM.jw C J->aH c N (hs++h) q J as s->(∀p∈h,p.1∉hs.map (·.1))->
   (∀s',aH c N h q J as s'->R Z s')->aF c.M c.A (sG b) R E s
 |d::f,C,hs=>∀(c:Cx) N h q J as s (R:Option aa->au->Prop) (E M:aa->au->Prop),c.w=w->c.A=A->aW c->FM.jw C J->aH c N (hs++h) q J as s->(∀p∈h,p.1∉hs.map (·.1))->
   (∀a bW v s',FM.le J a->aH c N (bW++h) q a as s'->bW.map (·.1)=hs.map (·.1)->RD a v d->Am w A B b f a bW->R (Y v) s')->
   aF c.M c.A (sG b) (λr e=>∃v,r=Y v/\aF c.M c.A (qK B b v) (λ_ l=>R (Y v) l) M e) E s
abbrev Nx(w:aC)(A:cR)(C:FM)(B:ay)(b:aa)(f:List af)(hs:ao):Prop:=Am w A B b f C hs
theorem Am.aO{w:aC}{A:cR}{J l:FM}{B:ay}{b:aa}{a:List af}{hs:ao}(g:Am w A B b a J hs)(k:FM.le J l):Am w A B b a l hs:=by
 induction a generalizing hs with
 |nil=>
  exact λc N h q e as s R E i j ok m I D K=>g c N h q e as s R E i j ok (k.trans m) I D K
 |cons d f ih=>
  exact λc N h q e as s R E M i j ok m I D K=>g c N h q e as s R E M i j ok (k.trans m) I D K
noncomputable def CY(o:bh):Bool:=
 match o.cls with
 | .type n=> !["enumerate","zip","dict_itemiterator","dict_reverseitemiterator","odict_iterator","itertools.zip_longest","itertools.pairwise"].contains n
 |_=>true
theorem G_{M:k9}{A:cR}{s:au}{E:aa->au->Prop}{Q:Unit->au->Prop}{B:ay}{I:ak}{v:aa}{o:bh}(w:s.heap.get? I=Y o)(z:CY o=true)(g:Q () s):
  aF M A (qK B (.ref I) v) Q E s:=by
 cases B<;>first|exact bf g|(
  cases v<;>first|exact bf g|(
   refine aB<|wpAny_load w ?_
   obtain⟨a,d,b,f⟩:=o
   cases a<;>first|exact bf g|(cases b<;>first|exact bf g|exact xM (λe=>ue<|(bn z).symm.trans<|b1 e)<|bf g)))
section
variable {w:aC} {A:cR} {C:FM} {B:ay}
theorem NH{I l:ak}{vs:Array aa}{n:Nat}(hl:C l=Y (eg vs n)){xs:List af}(hr:bD C vs.toList xs):∀(k:Nat) (o:bh),k<=xs.length->o.cls= .type "list_iterator"->o.data= .fields #[.ref l,.int (k:Nat) 0]->
  Nx w A C B (.ref I) (xs.drop k) [(I,o)]:=by
 intro k
 generalize u:xs.length-k=j
 induction j generalizing k with
 |zero=>
  intro o G h1 h2
  refine V (Ux<|by exact la 0x4a862047882860046420 [_,_,_] rfl u<|aY G) ?_
  intro c N h q J as s R E ew eA ok m f D K
  have Q:=f.jX (p:=(I,o)) aZ
  have a:=f.keep _ _<|m _ _ hl
  have x:vs.size=xs.length:=by exact az fN<|V hr.length rfl
  refine wpAny_pyNext_list_end ok.hand (bk o Q h1 h2) (g8 _ a rfl _ rfl) (by rw[Uy];exact la 0x4a8e10478828e00468a1046420 [_,_,_,_] rfl u x<|aY G) λr he=>K _ ?_
  exact f.qg (bW:=[]) (s':={s with heap:=r}) D (λb U L e=>he b U (λi=>L<|by simp[i]) e) (λp d=>nomatch d) (λp d=>nomatch d) rfl rfl
 |succ j ih=>
  intro o G h1 h2
  have g:k<xs.length:=by(clear G;exact la 0x4b8e20468c28a0047091860 [_,_,_,_] rfl u<|La.sp<|la 0x4b810047091860 [_,_] rfl u)
  refine V (Cj g) ?_
  intro c N h q J as s R E M ew eA ok m f D K
  have Q:=f.jX (p:=(I,o)) aZ
  have a:=f.keep _ _<|m _ _ hl
  refine aD (hr.get<|fM g) λv hv rv=>?_
  refine wpAny_pyNext_list_item ⟨o,Q,h1,h2⟩ ⟨_,a,rfl,_,rfl⟩ (by refine az oV ?_;exact hv) λr t hs=>jU t λo' g1 g2 g3=>⟨v,rfl,?_⟩
  refine G_ g1 (by unfold CY;refine V g2 ?_;decide)<|K J [(I,o')] v _ (FM.le.refl _) ?_ rfl (rv.le m) ?_
  ·exact f.qg (bW:=[(I,o')]) (s':={s with heap:=r}) D (λb U L e=>(hs.2 b λi=>L<|by simp[i]).trans e) (λp d=>by refine q9 d ?_;simp) (λp d=>by
    refine q9 d ?_;exact g1) rfl rfl
  ·exact(ih (k+1) (by exact dK (la 0x4a8640468c20918a40478c28a0046091860 [_,_,_,_,_] rfl u (aY G)<|aY<|la 0x4a842460045860 [_,_] rfl g)<|la 0x4a9210478c20918a40468c28a0047091860 [_,_,_,_,_] rfl u (aY G)<|aY<|la 0x4a842460045860 [_,_] rfl g) o' (by assumption) g2 g3).aO m
noncomputable def qh(x:H):List af:=x.cps.toList.map λk=> .str ⟨#[k]⟩
theorem XR{I:ak}{x:H}{t:k_}{ty:String}(a:vE x=ty):∀(k:Nat) (o:bh),k<=x.cps.size->o.cls= .type ty->o.data= .fields #[.str x t,.int (k:Nat) 0]->
  Nx w A C B (.ref I) ((qh x).drop k) [(I,o)]:=by
 have y:(qh x).length=x.cps.size:=by simp[qh]
 intro k
 generalize u:x.cps.size-k=j
 induction j generalizing k with
 |zero=>
  intro o G h1 h2
  refine V (Ux<|by exact la 0x4a8e00478428e2046422046860 [_,_,_,_] rfl y u<|aY G) ?_
  intro c N h q J as s R E ew eA ok m f D K
  have Q:=f.jX (p:=(I,o)) aZ
  have n:∀r,Heap.ExtBut I s.heap r->R Z {s with heap:=r}:=λr he=>K _<|f.qg (bW:=[]) (s':={s with heap:=r}) D (λb U L e=>he b U (λi=>L<|by simp[i]) e) (λp d=>nomatch d) (λp d=>nomatch d) rfl rfl
  have z:x.cps[k]?=Z:=by rw[Uy];exact la 0x4a862047882860046420 [_,_,_] rfl u<|aY G
  unfold vE at a
  split at a
  ·subst a;exact wpAny_pyNext_ascii_end ok.hand (bk o Q h1 h2) z n
  ·subst a;exact wpAny_pyNext_wide_end ok.hand (bk o Q h1 h2) z n
 |succ j ih=>
  intro o G h1 h2
  have g:k<x.cps.size:=by(clear G;exact la 0x4b8e20468c28a0047091860 [_,_,_,_] rfl u<|La.sp<|la 0x4b810047091860 [_,_] rfl u)
  have hd:(qh x).drop k= .str ⟨#[x.cps[k]]⟩::(qh x).drop (k+1):=by
   refine V (Cj<|by exact la 0x4b822045862047860 [_,_,_] rfl y g) ?_
   congr 1
   simp[qh]
  refine V hd ?_
  intro c N h q J as s R E M ew eA ok m f D K
  have Q:=f.jX (p:=(I,o)) aZ
  have hx:x.cps[k]?=Y x.cps[k]:=akc g
  have n:∀r,r.IsStrIter I ty x t (k+1)->pS I s.heap r->∃v,Y (LK ⟨#[x.cps[k]]⟩ s.toks)=Y v/\aF c.M c.A (qK B (.ref I) v) (λ_ l=>R (Y v) l) M {s with heap:=r,toks:=s.toks+1}:=by
   intro r ⟨o',g1,g2,g3⟩ hs
   refine ah _ rfl<|G_ g1 ?_<|K J [(I,o')] _ _ (FM.le.refl _) ?_ rfl (RD.str _ _) ?_
   ·unfold CY;refine V g2 ?_;unfold vE at a;split at a<;>subst a<;>decide
   ·exact f.qg (bW:=[(I,o')]) (s':={s with heap:=r,toks:=s.toks+1}) D (λb U L e=>(hs.2 b λi=>L<|by simp[i]).trans e) (λp d=>by refine q9 d ?_;simp) (λp d=>by
     refine q9 d ?_;exact g1) rfl rfl
   ·exact(ih (k+1) (by exact dK (la 0x4a8640468c20918a40478c28a0046091860 [_,_,_,_,_] rfl u (aY G)<|aY<|la 0x4a842460045860 [_,_] rfl g)<|la 0x4a9210478c20918a40468c28a0047091860 [_,_,_,_,_] rfl u (aY G)<|aY<|la 0x4a842460045860 [_,_] rfl g) o' (by assumption) g2 g3).aO m
  unfold vE at a
  split at a
  ·clear ih;subst a;exact wpAny_pyNext_ascii_item (bk o Q h1 h2) hx n
  ·clear ih;subst a;exact wpAny_pyNext_wide_item (bk o Q h1 h2) hx n
noncomputable def rD(x a:Int):Nat->List af
 |0=>[]
 |k+1=> .int x::rD (x+a) a k
noncomputable abbrev x7(x left a:Int):bh:={cls:= .type "range_iterator",dict:=Z,data:= .fields #[l8 x,l8 left,l8 a],slots:=#[]}
theorem XS{I:ak}{a:Int}(j:Nat)(x:Int):Nx w A C B (.ref I) (rD x a j) [(I,x7 x j a)]:=by
 induction j generalizing x with
 |zero=>
  intro c N h q J as s R E ew eA ok m f D K
  have Q:=f.jX (p:=(I,x7 x (0:Nat) a)) aZ
  refine wpAny_pyNext_range_end ok.hand Q (by simp) λr he=>K _ ?_
  exact f.qg (bW:=[]) (s':={s with heap:=r}) D (λb U L e=>he b U (λi=>L<|by simp[i]) e) (λp d=>nomatch d) (λp d=>nomatch d) rfl rfl
 |succ k ih=>
  intro c N h q J as s R E M ew eA ok m f D K
  have Q:=f.jX (p:=(I,x7 x ((k+1:Nat):Int) a)) aZ
  refine wpAny_pyNext_range_item Q (by exact li 0x4b810044850047091860 [_,_] rfl (Li.ca _ _)<|Li.cp _) λr g hs=>(ah _ rfl ?_)
  have e:((k+1:Nat):Int)-1=(k:Nat):=by lia
  rw[e] at g
  refine G_ g (by unfold CY;simp only;decide)<|K J [(I,x7 (x+a) k a)] _ _ (FM.le.refl _) ?_ rfl (RD.int _ _)<|(ih _).aO m
  exact f.qg (bW:=[(I,x7 (x+a) k a)]) (s':={s with heap:=r,toks:=s.toks+1}) D (λb U L e=>(hs.2 b λi=>L<|by simp[i]).trans e) (λp d=>by refine q9 d ?_;simp) (λp d=>by
   refine q9 d ?_;exact g) rfl rfl
noncomputable abbrev x8(a:aa)(b:ak)(i:Int)(t:aa):bh:={cls:= .type "enumerate",dict:=Z,data:= .fields #[a,.bool false,.ref b,l8 i,.none,t],slots:=#[]}
noncomputable def we:Nat->List af->List af
 |_,[]=>[]
 |k,x::xs=> .tuple [.int k,x]::we (k+1) xs
theorem XT{e I l:ak}{vs:Array aa}{n:Nat}(ht:uI B=true)(nO:e≠I)(hl:C l=Y (eg vs n)){xs:List af}(hr:bD C vs.toList xs):∀(k:Nat) (o:bh) (t:aa),k<=xs.length->o.cls= .type "list_iterator"->o.data= .fields #[.ref l,.int (k:Nat) 0]->
  Nx w A C B (.ref e) (we k<|xs.drop k) [(e,x8 .none I k t),(I,o)]:=by
 intro k
 generalize u:xs.length-k=j
 induction j generalizing k with
 |zero=>
  intro o t G h1 h2
  refine V (Ux<|by exact la 0x4a862047882860046420 [_,_,_] rfl u<|aY G) ?_
  intro c N h q J as s R E ew eA ok m f D K
  have he:=f.jX (p:=(e,x8 .none I k t)) aZ
  have Q:=f.jX (p:=(I,o))<|a_ _ aZ
  have a:=f.keep _ _<|m _ _ hl
  have x:vs.size=xs.length:=by exact az fN<|V hr.length rfl
  refine wpAny_pyNext_enum_end ok.hand he (bk o Q h1 h2) (g8 _ a rfl _ rfl) (by rw[Uy];exact la 0x4a8e10478828e00468a1046420 [_,_,_,_] rfl u x<|aY G) λr he=>K _ ?_
  exact f.qg (bW:=[]) (s':={s with heap:=r}) D (λb U L e=>he b U (λi=>L<|by simp[i]) e) (λp d=>nomatch d) (λp d=>nomatch d) rfl rfl
 |succ j ih=>
  intro o t G h1 h2
  have g:k<xs.length:=by(clear G;exact la 0x4b8e20468c28a0047091860 [_,_,_,_] rfl u<|La.sp<|la 0x4b810047091860 [_,_] rfl u)
  refine V (Cj g) ?_
  intro c N h q J as s R E M ew eA ok m f D K
  have he:=f.jX (p:=(e,x8 .none I k t)) aZ
  have Q:=f.jX (p:=(I,o))<|a_ _ aZ
  have a:=f.keep _ _<|m _ _ hl
  refine aD (hr.get<|fM g) λv hv rv=>?_
  refine wpAny_pyNext_enum_item he (bk o Q h1 h2) (g8 _ a rfl _ rfl) (by refine az oV ?_;exact hv) nO λr q1 q2 q3 q4 q5=>(ah _ rfl ?_)
  refine jU q2 λo' g1 g2 g3=>?_;clear q2
  refine MG ht ?_
  ·refine wpAny_letOwnedTupleGo_enum q1 λEP w1 w2=>?_
   have x:s.heap.objs.size≠e:=λz=>absurd (iC he)<|by show¬e<_;refine V z ?_;exact zw _
   have hIe:EP.get? I=Y o':=(w2.2 I<|pU nO).trans g1
   refine Ea (f.NG (bW:=[(e,x8 .none I ((k:Int)+1) v),(I,o')]) (s':={s with heap:=EP,toks:=s.toks+1}) D
    (λb U L z=>(w2.2 b λy=>L<|by simp[y]).trans<|q5 b U (λy=>L<|by simp[y]) (λy=>L<|by simp[y]) z) (λp d=>by
     refine ni d ?_ ?_<;>simp) (λp d=>by
     refine ni d ?_ ?_<;>assumption) rfl rfl (bM _)<|(w2.2 _ x).trans q3) λi J'=>?_
   refine K _ [(e,x8 .none I ((k:Int)+1) v),(I,o')] _ _ i J' rfl (RD.tuple (FM.eZ _ _ _)<|.cons (RD.int _ _)<|.cons ((rv.le m).aO i) .nil) ?_
   have:=(ih (k+1) (by exact dK (la 0x4a8640468c20918a40478c28a0046091860 [_,_,_,_,_] rfl u (aY G)<|aY<|la 0x4a842460045860 [_,_] rfl g)<|la 0x4a9210478c20918a40468c28a0047091860 [_,_,_,_,_] rfl u (aY G)<|aY<|la 0x4a842460045860 [_,_] rfl g) o' v (by assumption) g2 g3).aO (m.trans i)
   rwa[show((k+1:Nat):Int)=(k:Int)+1 by lia] at this
end
structure Sc where
 N:List H
 names:List (H×qR)
 own:List H
structure bA(U:Sc)(c:Cx):Prop where
 names:c.aj.scope.names=U.names
 nd:U.N.Nodup
 own:∀x∈U.own,∃a,(x,a)∈c.cl/\c.aj.cells.lookup x=Y a
noncomputable def Sc.mF(U:Sc)(x:H):Bool:=U.names.lookup x==Y .local||(U.names.lookup x==Y .cell&&U.own.contains x)
inductive Fw where
 |nx|br|ct
 |rt (u:AV)
def rF(J:FM)(as:List ak)(f:pW):Fw->Prop
 | .nx=>f= .next
 | .br=>f= .brk
 | .ct=>f= .cont
 | .rt u=>∃v,f= .ret v/\RV J as v u
abbrev bq(c:Cx)(N:List H)(h:ao)(e:bu)(q:St)(Q:Fw->St->Prop):Prop:=aN c N h rF (l9 e c.aj) q Q
abbrev dH(c:Cx)(N:List H)(h:ao)(i:List bu)(q:St)(Q:Fw->St->Prop):Prop:=aN c N h rF (kc i c.aj) q Q
abbrev iM(c:Cx)(N:List H)(h:ao)(t:ay)(u:AV)(q:St)(K:St->Prop):Prop:=P1 c N h rU (pX t c.aj) u q λ_ a=>K a
section
variable {c:Cx} {U:Sc} {h:ao} {q:St}
theorem iM.name(d:aW c)(n:bA U c){x:H}{L:aV}{i:Nat}{u:AV}{K:St->Prop}(o:U.N[i]?=Y x)(hs:U.mF x=true)(C:K (q.jz i u)):iM c U.N h (.Name x L) u q K:=
 λJ as s R E t I r f=>Uz (I.Ah d n.nd o (by
  simp only[Sc.mF,FJ,jQ,beq_iff_eq] at hs
  rcases hs with C|⟨C,y⟩
  ·exact .inl<|by show c.aj.scope.names.lookup x=_;refine V n.names ?_;exact C
  ·exact .inr ⟨by show c.aj.scope.names.lookup x=_;refine V n.names ?_;exact C,n.own x<|by simpa using y⟩) r λs' G=>f.now (a:=()) (b:=()) G trivial C)
theorem wg(C:dB e=true)(i:List ay)(b:dw):pY (e::i) b=(false,pX e b)::pY i b:=by
 cases e<;>first|rfl|exact fT C
theorem Hf(b:dw)(a:List ay):(pY a b).length=a.length:=by
 induction a with
 |nil=>
  exact rfl
 |cons e i d=>
  cases e<;>exact congrArg xm<|d
theorem Hg(b:dw)(C:(∀e∈a,dB e=true)):(pY a b).findIdx? (·.1)=Z:=by
 induction a with
 |nil=>
  exact rfl
 |cons e i d=>
  refine V (wg (C e aZ) ..)<|V List.findIdx?_cons ?_
  simp[d λx hx=>C x<|a_ _ hx]
abbrev rE(c:Cx)(N:List H)(h:ao)(i:List ay)(j:List af)(q:St)(K:St->Prop):Prop:=
 ∀J as s R (E:aa->au->Prop) vs,aH c N h q J as s->bD J vs j->qd c N h rU J as (λ_ a=>K a) R->aF c.M c.A (LL ((pY i c.aj).map (·.2)) vs) R E s
variable {N:List H}
theorem rE.nil{K:St->Prop}(C:K q):rE c N h [] [] q K:=λJ as s R E vs I r f=>by
 cases r
 exact UA<|f.now (a:=()) (b:=()) I trivial C
theorem rE.cons{e:ay}{i:List ay}{d:af}{j:List af}(b:dB e=true){K:St->Prop}(C:iM c N h e (.d d) q λg=>rE c N h i j g K):rE c N h (e::i) (d::j) q K:=λJ as s R E vs I r f=>by
 cases r with
 |cons u a=>
  exact V (wg b ..)<|
   UB (C J as s _ E _ I u λl m B _ _ g k p A _ z=>z l m B R E _ A (a.aO k)<|f.trans k p)
theorem iM.bZ(d:aW c){i:List ay}{k:Nat}{L:aV}{j:List af}{K:St->Prop}(hs:∀e∈i,dB e=true)(l:i.length=j.length)(C:rE c N h i j q K):iM c N h (.Tuple i k L) (.t j) q K:=
 λJ as s R E t I r f=>by
  obtain⟨a,vs,n,g,u⟩:=CP r
  have m:=I.keep _ _ g
  exact ako d.hand (g8 _ m rfl _ rfl) (by exact V (Hf ..)<|V l<|az u.length<|V fN rfl) (Hg c.aj hs) λy hx=>
   C J as _ R E _ (I.s6 (s':={s with heap:=y}) (λb o e=>hx b o (gu<|iC e) e) rfl rfl) u f
theorem iM.XU(d:aW c){i:List ay}{k:Nat}{L:aV}{j:List af}{K:St->Prop}(hs:∀e∈i,dB e=true)(l:i.length=j.length)(C:rE c N h i j q K):iM c N h (.Tuple i k L) (.l j) q K:=
 λJ as s R E t I r f=>by
  obtain⟨a,vs,n,g,u⟩:=xS r
  have m:=I.keep _ _ g
  have e:pX (.Tuple i k L) c.aj (.ref a)=(do vF L;unpack (.ref a) (pY i c.aj)):=rfl
  refine V e<|
   aB (kL ?_)
  unfold unpack
  exact V (Hg c.aj hs)<|V (Hf ..)<|V l<|az u.length<|V fN<|
   aB (j9<|kun_itemsOf d.hand (g8 _ m rfl _ rfl) λy hx=>
   C J as _ R E _ (I.s6 (s':={s with heap:=y}) (λb o e=>hx b o (gu<|iC e) e) rfl rfl) u f)
theorem dH.nil(C:Q .nx q):dH c N h [] q Q:=λJ as s R E I tk K=>Ck<|K.now (b:=Fw.nx) I rfl C
theorem dH.cons(C:bq c N h e q λf g=>match f with
  | .nx=>dH c N h i g Q
  |f=>Q f g):dH c N h (e::i) q Q:=λJ as s R E I tk K=>Cm<|aN.bw C I tk λl m B f w g k p A D j z=>by
 cases w with
 |nx=>obtain rfl:f= .next:=j;exact z l m B R E A D<|K.trans k p
 |br=>obtain rfl:f= .brk:=j;exact(K.trans k p).now (b:=Fw.br) A rfl z
 |ct=>obtain rfl:f= .cont:=j;exact(K.trans k p).now (b:=Fw.ct) A rfl z
 |rt u=>
  refine aD j λv a rv=>?_;clear j;subst a
  exact(K.trans k p).now (b:=Fw.rt u) A (ah v rfl rv) z
theorem bq.brk(C:Q .br q):bq c N h (.Break L) q Q:=λJ as s R E I tk K=>wpAny_Break<|K.now (b:=Fw.br) I rfl C
theorem bq.cnt(C:Q .ct q):bq c N h (.Continue L) q Q:=λJ as s R E I tk K=>wpAny_Continue<|K.now (b:=Fw.ct) I rfl C
theorem bq.ret(C:aG c N h e q λu g=>Q (.rt u) g):bq c N h (.Return (Y e) L) q Q:=λJ as s R E I tk K=>
 wpAny_Return_some (aN.bw C I tk λl m B v u g k p A D j z=>(K.trans k p).now (b:=Fw.rt u) A (ah v rfl j) z)
theorem bq.x9(C:Q (.rt .n) q):bq c N h (.Return Z L) q Q:=λJ as s R E I tk K=>
 wpAny_Return_none (K.now (b:=Fw.rt .n) I (ah _ rfl RD.none) C)
theorem bq.ck(C:iL c N h t q λx g=>if x=true then dH c N h a g Q else dH c N h b g Q):bq c N h (.If t a b L) q Q:=λJ as s R E I tk K=>
 wpAny_If (aN.bw C I tk λl m B x d g k p A D j z=>by
  obtain rfl:x=d:=j
  split
  ·rename_i e;rw[if_pos e] at z
   exact z l m B R E A D<|K.trans k p
  ·rename_i e;rw[if_neg e] at z
   exact z l m B R E A D<|K.trans k p)
theorem uO(C:q_ e=true):zF e t l b=pure false:=by
 cases e<;>first|rfl|exact fT C
theorem bq.ex(d:aW c)(a:q_ e=true)(C:aG c N h e q λ_ g=>Q .nx g):bq c N h (.Expr e L) q Q:=λJ as s R E I tk K=>
 UC (aN.bw C I tk λl m B v u g k p A D j z=>(K.trans k p).now (b:=Fw.nx) A rfl z) (by unfold LM;refine V d.kind ?_;rfl) (uO a)
abbrev pq(c:Cx)(N:List H)(h:ao)(i:List ay)(u:AV)(q:St)(K:St->Prop):Prop:=
 P1 c N h rU (λv=>UD v ((pY i c.aj).map (·.2))) u q λ_ a=>K a
theorem pq.gz{e:ay}{u:AV}{K:St->Prop}(b:dB e=true)(C:iM c N h e u q K):pq c N h [e] u q K:=λJ as s R E t I r f=>by
 exact V (wg b ..)<|
  C J as s R E t I r f
theorem pq.more{e a:ay}{i:List ay}{u:AV}{K:St->Prop}(b:dB e=true)(d:dB a=true)(C:iM c N h e u q λg=>pq c N h (a::i) u g K):pq c N h (e::a::i) u q K:=λJ as s R E t I r f=>by
 refine V (wg b ..) ?_
 have j:=λl m B g (k:FM.le J l) (p:bU as m) (A:aH c N h g l m B) (z:pq c N h (a::i) u g K)=>z l m B R E t A (r.le k.C p)<|f.trans k p
 rw[wg d] at j ⊢
 exact aB<|j9<|C J as s _ E t I r λl m B _ _ g k p A _ z=>j l m B g k p A z
theorem bq.aT(n:LN G e L.line c.aj=pure false)(a:vG G e c.aj=pure Z)
  (C:aG c N h e q λu g=>pq c N h G u g λf=>Q .nx f):bq c N h (.Assign G e L) q Q:=λJ as s R E I tk K=>
 LO (aN.bw C I tk λl m B v u g k p A D j z=>z l m B _ E v A j λfB iA dJ _ _ f t M cI _ kF=>(K.trans (k.trans t)<|p.trans M).now (b:=Fw.nx) cI rfl kF) n a
theorem bq.XW(d:aW c)(n:bA U c)(o:U.N[i]?=Y x)(hx:mC x=true)(hs:U.mF x=true)(hv:q.v[i]?=Y (Y u))
  (C:aG c U.N h e q λv g=>P2 c U.N h RV (zC op) u v g λr f=>Q .nx<|f.jz i r):bq c U.N h (.AugAssign (.Name x np) op e L) q Q:=λJ as s R E I tk K=>by
 have hk:c.aj.kindOf x=Y .local\/(c.aj.kindOf x=Y .cell/\∃a,(x,a)∈c.cl/\c.aj.cells.lookup x=Y a):=by
  simp only[Sc.mF,FJ,jQ,beq_iff_eq] at hs
  rcases hs with C|⟨C,y⟩
  ·exact .inl<|by show c.aj.scope.names.lookup x=_;refine V n.names ?_;exact C
  ·exact .inr ⟨by show c.aj.scope.names.lookup x=_;refine V n.names ?_;exact C,n.own x<|by simpa using y⟩
 simp only[mC,jQ,Fz] at hx
 exact wpAny_AugAssign_Name<|I.load d o hv hx.2 λkH rv=>aN.bw C I tk λl m B v w g k p A D j z=>z l m B _ E kH v A (rv.le k.C p) j λfB iA dJ r r' f t M cI cG kF=>
  cI.Ah d n.nd o hk cG λs' G=>(K.trans (k.trans t)<|p.trans M).now (b:=Fw.nx) G rfl kF
theorem bq.An(hi:et i 11=false)
  (C:aG c N h o q λu g=>aG c N h i g λv f=>P2 c N h RV um u v f λwZ G=>aG c N h e G λw j4=>P2 c N h RV (zC op) wZ w j4 λr r_=>P3 c N h rU Ce u v r r_ λ_ Bv=>Q .nx Bv):
  bq c N h (.AugAssign (.Subscript o i sp) op e L) q Q:=λJ as s R E I tk K=>by
 refine wpAny_AugAssign_Subscript_any (aN.bw C I tk λl m B a u g k p A D j z=>aN.bw z A D λfB iA dJ b v f t M cI dY cG kF=>kK (n:=1) dY<|kF fB iA dJ _ _ a b cI (j.le t.C M) cG λh_ iz fV d wZ G c_ eV gq m5 jh iT=>aN.bw jh gq iT λj6 m6 kG x w j4 fL j5 iV qD qC pO=>
  pO j6 m6 kG _ _ d x iV (m5.le fL.C j5) qC λkZ oN nQ y r r_ nP tW w4 zb Bw=>?_) ?_
 ·refine Bw kZ oN nQ _ _ a b y w4 (j.le (t.trans<|c_.trans<|fL.trans nP).C<|M.trans<|eV.trans<|j5.trans tW) (cG.le (c_.trans<|fL.trans nP).C<|eV.trans<|j5.trans tW) zb λtY w5 oO _ _ Bv m7 zc tX _ ahB=>
   (K.trans (k.trans<|t.trans<|c_.trans<|fL.trans<|nP.trans m7)<|p.trans<|M.trans<|eV.trans<|j5.trans<|tW.trans zc).now (b:=Fw.nx) tX rfl ahB
 ·intro ov iv new
  cases i<;>first|rfl|exact fT hi.symm
theorem bq.x_(n:q_ e=true)
  (C:aG c N h e q λw g=>aG c N h o g λu f=>aG c N h i f λv G=>P3 c N h rU Ce u v w G λ_ j4=>Q .nx j4):bq c N h (.Assign [.Subscript o i sp] e L) q Q:=λJ as s R E I tk K=>
 wpAny_Assign_Subscript (aN.bw C I tk λl m B a w g k p A D j z=>aN.bw z A D λfB iA dJ b u f t M cI dY cG kF=>aN.bw kF cI dY λh_ iz fV d v G c_ eV gq iT m5 jh=>
  jh h_ iz fV _ _ b d a gq (cG.le c_.C eV) m5 (j.le (t.trans c_).C<|M.trans eV) λj6 m6 kG _ _ j4 fL j5 iV _ pO=>(K.trans (k.trans<|t.trans<|c_.trans fL)<|p.trans<|M.trans<|eV.trans j5).now (b:=Fw.nx) iV rfl pO) (uO n)
end
abbrev NI(t:aa)(hs:ao):Prop:=∀(w:aC) (A:cR) (R:aa->au->Prop) (E:aa->au->Prop) (s:au),(∀p∈hs,s.heap.get? p.1=Y p.2)->R t s->aF (aX pw w) A (zG t) R E s
abbrev d8(c:Cx)(N:List H)(h:ao)(U B:ay)(q:St)(Q:List af->St->Prop):Prop:=
 ∀J as s (R:aa->au->Prop) (E:aa->au->Prop),aH c N h q J as s->0<s.toks->
  (∀g aJ s' t i C hs,FM.le J g->bU as aJ->aH c N (hs++h) i g aJ s'->(∀p∈h,p.1∉hs.map (·.1))->Nx c.w c.A g B t C hs->NI t hs->Q C i->R t s')->
  aF c.M c.A (eval U c.aj) (λx G=>aF c.M c.A (zG x) R E G) E s
section
variable {c:Cx} {N:List H} {h:ao} {q:St}
theorem P1.bw{C U:Type}{e:FM->List ak->C->U->Prop}{m:aa->bT C}{Q:U->St->Prop}{R:C->au->Prop}(aU:P1 c N h e m u q Q)(I:aH c N h q J as s)(tk:0<s.toks)(r:RV J as j u)
  (K:∀g aJ s' a b i,FM.le J g->bU as aJ->aH c N h i g aJ s'->0<s'.toks->e g aJ a b->Q b i->R a s'):aF c.M c.A (m j) R E s:=
 kK (n:=1) tk (aU J as s _ _ j I r λg aJ s' a b i k p I' l d f=>K g aJ s' a b i k p I' f l d)
theorem d8.bw(aU:d8 c N h U B q Q)(I:aH c N h q J as s)(tk:0<s.toks)
  (K:∀g aJ s' t i C hs,FM.le J g->bU as aJ->aH c N (hs++h) i g aJ s'->0<s'.toks->(∀p∈h,p.1∉hs.map (·.1))->Nx c.w c.A g B t C hs->NI t hs->Q C i->R t s'):
  aF c.M c.A (eval U c.aj) (λx G=>aF c.M c.A (zG x) R E G) E s:=
 cQ (ur (n:=1) tk<|aU J as s (λt s'=>0<s'.toks->R t s') E I tk λg aJ s' t i C hs k p I' D nx sf d f=>K g aJ s' t i C hs k p I' f D nx sf d)
  (λx G y=>kK (n:=1) y.1<|cQ y.2 (λ_ _ z=>z) λ_ _ z _=>z) λ_ _ y=>y.2
noncomputable def ya(c:Cx)(N:List H)(h:ao)(B:ay)(D:List bu):List af->St->(Fw->St->Prop)->Prop
 |[],q,Q=>Q .nx q
 |d::ds,q,Q=>∀hs,iM c N (hs++h) B (.d d) q λj=>dH c N (hs++h) D j λf a=>match f with
  | .nx=>ya c N h B D ds a Q
  | .ct=>ya c N h B D ds a Q
  | .br=>Q .nx a
  | .rt u=>Q (.rt u) a
theorem aH.NJ(I:aH c N (hs++h) q J as s):aH c N h q J as s:=by
 exact cC I λb m I=>
  ⟨b,m,I.base,λd e=>I.sub d<|gw _ e,λa f d e=>I.apart a f d<|gw _ e,I.nd,I.ns,I.lo,I.e_,I.nv,I.vars,I.gj,I.ff,I.gens,I.os,I.al⟩
inductive Hh(c:Cx)(N:List H)(h:ao)(B:ay)(D:List bu)(Q:Fw->St->Prop)(k:FM)(as:List ak)(t:aa)(n:Nat)(s:au):Prop
 |mk (ds:List af) (i:St) (g:FM) (aJ:List ak) (bW:ao):ds.length=n->FM.le k g->bU as aJ->aH c N (bW++h) i g aJ s->0<s.toks->(∀p∈h,p.1∉bW.map (·.1))->Nx c.w c.A g B t ds bW->ya c N h B D ds i Q->Hh c N h B D Q k as t n s
def XX(c:Cx)(B:ay)(D:List bu)(P:au->Prop)(R:pW->au->Prop)(E:aa->au->Prop)(v:aa)(s:au):Prop:=
 aF c.M c.A (pX B c.aj v) (λ_ dJ=>aF c.M c.A (kc D c.aj) (λf a=>match f with
  | .next=>P a
  | .cont=>P a
  | .brk=>R .next a
  | .ret v=>R (.ret v) a) E dJ) E s
theorem bq.kR(ok:aW c)(hi:∀x,qS U c.aj x=pure x)(aU:d8 c N h U B q λC j=>ya c N h B D C j Q):
  bq c N h (.For B U D [] cK) q Q:=λJ as s R E I tk K=>by
 refine wpAny_For (d8.bw aU I tk λk iU G t j C hs l L jK gR Km nx sf k6=>?_) hi
 refine codeAny_forLoop_any (s:=G) (Hh c N h B D Q k as t) ?_ C.length ⟨C,j,k,iU,hs,rfl,FM.le.refl _,L,jK,gR,Km,nx,k6⟩
 rintro n s ⟨ds,i,g,aJ,bW,rfl,k',p',I',fW,D',m8,h'⟩
 cases ds with
 |nil=>
  exact m8 c N h i g aJ s _ _ rfl rfl ok (FM.le.refl _) I' D' λdJ A=>
   Ck ((K.trans (l.trans k') p').now (b:=Fw.nx) A rfl h')
 |cons d ds=>
  refine cQ (ur (n:=1) fW<|m8 c N h i g aJ s (λr a=>0<a.toks->∃v,r=Y v/\XX c B D (λa=>∃m,m<(d::ds).length/\Hh c N h B D Q k as t m a) R (qT c.M c.A c.aj λe s'=>UE c.M c.A c.aj E e s') v a) _ (qT c.M c.A c.aj λe s'=>UE c.M c.A c.aj E e s') rfl rfl ok (FM.le.refl _) I' D' λfB By v dJ o A BA M nR dY=>(ah v rfl ?_))
   (λr a y=>?_) λ_ _ y=>y.2
  ·refine P1.bw (h' By) A dY M λh_ iz a _ _ t6 c_ eV gq iT _ jh=>aN.bw jh gq iT λj6 m6 kG f w j4 fL j5 iV qD qC pO=>?_
   have tZ:∀p∈h,p.1∉By.map (·.1):=λp hp=>by refine V BA ?_;exact D' p hp
   cases w with
   |nx=>obtain rfl:f= .next:=qC;exact⟨_,lz _,ds,j4,j6,m6,By,rfl,k'.trans<|o.trans<|c_.trans fL,p'.trans<|eV.trans j5,iV,qD,tZ,nR.aO<|c_.trans fL,pO⟩
   |ct=>obtain rfl:f= .cont:=qC;exact⟨_,lz _,ds,j4,j6,m6,By,rfl,k'.trans<|o.trans<|c_.trans fL,p'.trans<|eV.trans j5,iV,qD,tZ,nR.aO<|c_.trans fL,pO⟩
   |br=>obtain rfl:f= .brk:=qC;exact(K.trans (l.trans<|k'.trans<|o.trans<|c_.trans fL)<|p'.trans<|eV.trans j5).now (b:=Fw.nx) iV.NJ rfl pO
   |rt u=>refine aD qC λx e' rx=>?_;clear qC;subst e';exact(K.trans (l.trans<|k'.trans<|o.trans<|c_.trans fL)<|p'.trans<|eV.trans j5).now (b:=Fw.rt u) iV.NJ (ah x rfl rx) pO
  ·obtain⟨iT,v,rfl,y⟩:=y
   exact cQ (ur (n:=1) iT y) (λ_ kG z=>by
    refine Ea z λqD z=>?_
    obtain⟨v',e',z⟩:=z qD
    cases e'
    exact z) λ_ _ z=>z.2
noncomputable def Ao(c:Cx)(N:List H)(h:ao)(t:ay)(D:List bu):Nat->St->(Fw->St->Prop)->Prop
 |0,_,_=>False
 |n+1,q,Q=>iL c N h t q λx j=>if x=true then dH c N h D j (λf a=>match f with
   | .nx=>Ao c N h t D n a Q
   | .ct=>Ao c N h t D n a Q
   | .br=>Q .nx a
   | .rt u=>Q (.rt u) a) else Q .nx j
inductive NK(c:Cx)(N:List H)(h:ao)(t:ay)(D:List bu)(Q:Fw->St->Prop)(J:FM)(as:List ak)(n:Nat)(s:au):Prop
 |mk (i:St) (g:FM) (aJ:List ak):FM.le J g->bU as aJ->aH c N h i g aJ s->0<s.toks->Ao c N h t D n i Q->NK c N h t D Q J as n s
theorem bq.rG(n:Nat)(aU:Ao c N h t D n q Q):bq c N h (.While t D [] cK) q Q:=λJ as s R E I tk K=>by
 refine wpAny_While (codeAny_whileLoop (s:=s) (NK c N h t D Q J as) ?_ n ⟨q,J,as,FM.le.refl _,bU.rfl' _,I,tk,aU⟩)
 rintro n s ⟨i,g,aJ,k',p',I',fW,h'⟩
 cases n with
 |zero=>exact h'.elim
 |succ n=>
  refine aN.bw h' I' fW λk iU G x v j l L jK gR r k6=>?_
  obtain rfl:x=v:=r
  split
  ·rename_i e;rw[if_pos e] at k6
   refine aN.bw k6 jK gR λfB p dJ f w a o d A dY M m=>?_
   cases w with
   |nx=>obtain rfl:f= .next:=M;exact⟨n,lz _,a,fB,p,k'.trans<|l.trans o,p'.trans<|L.trans d,A,dY,m⟩
   |ct=>obtain rfl:f= .cont:=M;exact⟨n,lz _,a,fB,p,k'.trans<|l.trans o,p'.trans<|L.trans d,A,dY,m⟩
   |br=>obtain rfl:f= .brk:=M;exact(K.trans (k'.trans<|l.trans o)<|p'.trans<|L.trans d).now (b:=Fw.nx) A rfl m
   |rt u=>refine aD M λy e' z=>?_;clear M;subst e';exact(K.trans (k'.trans<|l.trans o)<|p'.trans<|L.trans d).now (b:=Fw.rt u) A (ah y rfl z) m
  ·rename_i e;rw[if_neg e] at k6
   exact Ck<|(K.trans (k'.trans l)<|p'.trans L).now (b:=Fw.nx) jK rfl k6
end
section
variable {c:Cx} {N:List H} {h:ao} {q:St}
theorem aH.Hi(I:aH c N h q J as s):∀p∈h,p.1<s.heap.objs.size:=by
 exact cC I λg m I=>
  λp d=>I.base.mw (a:=p.1) (o:=p.2)<|I.sub p d
theorem aH.holds(I:aH c N h q J as s)(t:∀b o,s.heap.get? b=Y o->s'.heap.get? b=Y o)(v:s'.gens=s.gens)(w:s'.os=s.os)
  (n:∀p∈hs,s.heap.objs.size<=p.1/\s'.heap.get? p.1=Y p.2):aH c N (hs++h) q J as s'/\∀p∈h,p.1∉hs.map (·.1):=by
 have j:=I.Hi
 have al:=λb o (e:s.heap.get? b=Y o)=>iC e
 refine cC I λg m I=>?_
 have d:∀p∈hs,J p.1=Z:=λp aU=>by
  cases G:J p.1 with
  |none=>rfl
  |some x=>exact absurd (I.base.lt G)<|jn.mpr (n p aU).1
 have f:∀b∈own c as,∃o,s.heap.get? b=Y o:=λb a=>by
  refine bN a ?_ λa=>?_
  ·refine Ex I.lo λu k=>?_;exact⟨_,I.base.get k⟩
  ·rcases cj.mp a with a|a
   ·refine aD (bg.mp a) λp d e'=>?_;clear a;subst e'
    obtain⟨x,cv,G,_⟩:=I.e_ p.1 p.2 d
    exact⟨_,I.base.get G⟩
   ·exact I.G2 b a
 have L:dZ c N h q J as g m s':=I.more (I.base.aO t) (FM.le.refl _) t v w
 refine⟨⟨hs++g,m,⟨L.base.keep,λp G=>?_,λp G=>?_,L.base.K⟩,λp d=>?_,λb a p d=>?_,L.nd,L.ns,?_,λz b a=>?_,L.nv,λi x l=>?_,L.gj,λi x l=>?_,L.gens,L.os,λb a=>(L.al b a).imp (λ⟨x,e⟩=>⟨x,gw _ e⟩) id⟩,λp d aU=>?_⟩
 ·rcases cj.mp G with G|G
  ·exact(n p G).2
  ·exact L.base.led p G
 ·rcases cj.mp G with G|G
  ·exact d p G
  ·exact L.base.cU p G
 ·rcases cj.mp d with d|d
  ·exact iF _ d
  ·exact gw _<|L.sub p d
 ·rcases cj.mp d with d|d
  ·refine Ex (f b a) λx G=>?_
   exact λz=>absurd (iC G)<|az z<|jn.mpr (n p d).1
  ·exact L.apart b a p d
 ·refine Ex L.lo λu aU=>?_;exact⟨u,gw _ aU⟩
 ·obtain⟨y,A,C,D⟩:=L.e_ z b a;exact⟨y,A,gw _ C,D⟩
 ·exact(L.vars i x l).le (FM.le.refl J) (bU.rfl' _) λG r=>gw _ r
 ·obtain⟨b,E,M,R,U⟩:=L.ff i x l;exact⟨b,E,M,gw _ R,U⟩
 ·refine aD (bg.mp aU) λG r e=>?_
  exact absurd (j p d)<|az e<|jn.mpr (n G r).1
theorem aH.CZ(I:aH c N h q J as s)(a:o.isFreed=false)(t:Nat):
  aH c N ([(s.heap.objs.size,o)]++h) q J as {s with heap:=s.heap.push o,toks:=t}/\∀p∈h,p.1∉[(s.heap.objs.size,o)].map (·.1):=
 ⟨I.XC (s':={s with heap:=s.heap.push o,toks:=t}) (λb x e=>ie _ e) rfl rfl (bM _)<|qM _ a,λp d aU=>by
  simp only[ee,j_,bH] at aU
  exact absurd (I.Hi p d)<|V aU<|zw _⟩
variable {vB B:ay} {Q:List af->St->Prop}
theorem d8.list(aU:aG c N h vB q λu f=>∃xs,u= .l xs/\Q xs f):d8 c N h vB B q Q:=λJ as s R E I tk K=>by
 refine aN.bw aU I tk λj m z v u f M U l gR jL i=>?_
 obtain⟨xs,rfl,i⟩:=i
 obtain⟨a,vs,n,g,r⟩:=xS jL
 refine akp ⟨_,l.keep _ _ g,rfl,_,rfl⟩ ?_
 obtain⟨L,D⟩:=l.CZ (o:={cls:= .type "list_iterator",data:= .fields #[.ref a,.int 0 0]}) rfl z.toks
 exact K j m _ _ f xs _ M U L D (by have:=NH (w:=c.w) (A:=c.A) (B:=B) (I:=z.heap.objs.size) g r 0 {cls:= .type "list_iterator",data:= .fields #[.ref a,.int 0 0]} (eL _) rfl rfl;rwa[nY] at this) (λw A R E s hh hr=>wpAny_pyIter_listiter ⟨_,hh _ aZ,rfl,rfl⟩ hr) i
theorem d8.text(aU:aG c N h vB q λu f=>∃x,u= .s x/\Q (qh x) f):d8 c N h vB B q Q:=λJ as s R E I tk K=>by
 refine aN.bw aU I tk λj m z v u f M U l gR jL i=>?_
 obtain⟨x,rfl,i⟩:=i
 obtain⟨t⟩:=dG jL
 refine wpAny_pyIter_strU ?_
 obtain⟨L,D⟩:=l.CZ (o:={cls:= .type<|vE x,data:= .fields #[.str x t,.int 0 0]}) rfl z.toks
 exact K j m _ _ f _ _ M U L D (by have:=XR (w:=c.w) (A:=c.A) (C:=j) (B:=B) (I:=z.heap.objs.size) (x:=x) (t:=t) rfl 0 {cls:= .type<|vE x,data:= .fields #[.str x t,.int 0 0]} (eL _) rfl rfl;rwa[nY] at this) (λw A R E s hh hr=>by
  have g:=hh _ aZ
  by_cases G:vE x="str_ascii_iterator"
  ·exact wpAny_pyIter_striter_ascii ⟨_,g,by exact az G rfl,rfl⟩ hr
  ·have a:vE x="str_iterator":=by unfold vE at G ⊢;split<;>simp_all
   exact wpAny_pyIter_striter_wide ⟨_,g,by exact az a rfl,rfl⟩ hr) i
theorem d8.range(aU:aG c N h vB q λu f=>∃a b d k,u= .rg a b d/\Cn a b d=true/\uu a b d=((k:Nat):Int)/\Q (rD a d k) f):d8 c N h vB B q Q:=λJ as s R E I tk K=>by
 refine aN.bw aU I tk λj m z v u f M U l gR jL i=>?_
 obtain⟨a,b,d,k,rfl,hs,n,i⟩:=i
 obtain⟨r,t,u,w,rfl,g⟩:=jL
 refine wpAny_pyIter_range (l.keep _ _ g) hs<|
  V n ?_
 obtain⟨L,D⟩:=l.CZ (o:=x7 a k d) rfl z.toks
 exact K j m _ _ f _ _ M U L D (XS k a) (λw A R E s hh hr=>wpAny_pyIter_rangeiter (hh _ aZ) hr) i
theorem d8.XY(ht:uI B=true)(hs:dB e=true)(aU:aG c N h (.Name x np) q λu f=>u= .ty "enumerate"/\aG c N h e f λu o=>∃xs,u= .l xs/\Q (we 0 xs) o):
  d8 c N h (.Call (.Name x np) [e] [] cK) B q Q:=λJ as s R E I tk K=>by
 have d:((iG cK<|gi [e] c.aj).any (·.1))=false:=s7 λy hy=>by refine q9 hy ?_;exact hs
 refine Cg<|aN.bw aU I tk λj m z v u f M U l gR jL i=>?_
 obtain⟨rfl,i⟩:=i
 obtain rfl:v= .type "enumerate":=jL
 refine LH d<|s8 (Q:=λus o=>∃u,us=[u]/\∃xs,u= .l xs/\Q (we 0 xs) o) (λy hy=>by refine q9 hy ?_;exact hs) (dD.cons hs λJ as s R E I tk K=>i J as s R E I tk λcN aJ s' a b ez k p I' r G=>K cN aJ s' a b ez k p I' r<|dD.nil ⟨_,rfl,G⟩) l gR λfB iA t vs us o cZ ji cI dY cG C=>?_
 refine aD C λu e' qE=>?_;clear C;subst e';refine aD qE λxs BB C=>?_;clear qE;subst BB
 obtain⟨v,oQ,ra,rs⟩:=cT cG
 obtain rfl:=fS rs
 obtain⟨a,vs,n,g,r⟩:=xS ra
 refine call_enumerate_list (g8 _ (cI.keep _ _ g) rfl _ rfl) λh' q1 q2 q3 q4=>
  akq q1 ?_
 refine jU q2 λo' g1 g2 g3=>?_;clear q2
 refine Ea (cI.holds (s':={t with heap:=h'}) (hs:=[(t.heap.objs.size+1,x8 .none t.heap.objs.size 0 .none),(t.heap.objs.size,o')]) q4 rfl rfl (λp d=>by
  refine ni d ?_ ?_
  ·exact⟨sH _,q1⟩
  ·exact⟨bM _,g1⟩)) λL D=>?_
 exact K fB iA _ _ o _ _ (M.trans cZ) (U.trans ji) L D (by
  have:=XT (w:=c.w) (A:=c.A) (e:=t.heap.objs.size+1) (I:=t.heap.objs.size) ht (Nat.succ_ne_self _) g r 0 o' .none (eL _) g2 g3
  rwa[nY] at this) (λw A R E s hh hr=>akq (hh _ aZ) hr) C
end
def iN(w:aC)(k:Nat)(f:aa)(us:List AV)(r:AV):Prop:=
 ∀(A:cR) (J:FM) (h:ao) (s:au) (R:aa->au->Prop) (E:aa->au->Prop) (vs:List aa),A.handled=Z->A.depth+k<=900->A.units+8*k<=6000->
  bz w J h s.heap->b_ J [] vs us->0<s.toks->
  (∀a s' v,FM.le J a->bz w a h s'.heap->s'.gens=s.gens->s'.os=s.os->RV a [] v r->R v s')->aF (aX pw w) A (f_ f vs) R E s
noncomputable def AV.aq:AV->Bool
 | .m _| .gA .. | .ap _=>false
 |_=>true
theorem RV.aq{J:FM}{as e:List ak}{v:aa}{u:AV}(d:u.aq=true)(r:RV J as v u):RV J e v u:=by
 cases u<;>first|exact r|exact fT d
theorem b_.aq{J:FM}{as e:List ak}{vs:List aa}{us:List AV}(f:us.all AV.aq=true)(d:b_ J as vs us):b_ J e vs us:=
 d.kO (P:=λvs us=>us.all AV.aq=true->b_ J e vs us) (λ_=>trivial) (λ_ _ _ _ a _ b f=>⟨a.aq<|b1 f,b<|b2 f⟩) f
section
variable {c:Cx} {N:List H} {h:ao} {q:St} {Q:AV->St->Prop}
theorem XZ(ok:aW c){k:Nat}{f:aa}{us:List AV}{r:AV}(i:k<=c.d)(l:iN c.w k f us r)(n:us.all AV.aq=true)(o:r.aq=true)(d:Q r q):PN c N h f us q Q:=λJ as s R E vs I tk g K=>by
 refine cC I λe m I=>?_
 have b:=ok.iK
 refine l c.A J e s R E vs ok.hand (by exact la 0x4a3840810a088110e102042862044860 [_,_,_] rfl i b.1) (by exact la 0x4a05dc030420e062204405dc030420e1622204860 [_,_,_] rfl i b.2) I.base (g.aq n) tk λa s' v j B p t u=>?_
 exact K a as s' v r q j (bU.rfl' _) (dU e m<|I.frame j B p t) (u.aq o) d
end
theorem wh{P:cH}{d:fk}(X:(K0 P).In d):d.NoLimit:=by
 refine ah (λ_=>Z) (xG (o2 P) (#[]) 0 (X 2 (o2 P)<|by kernel_rfl) rfl ?_ λ_=>rfl) rfl
 intro e a
 exact absurd a<|by simp
theorem yb{C:Type}{x:H}{v:C}{l:List (H×C)}(a:(l.map (·.1)).Nodup)(d:(x,v)∈l):l.lookup x=Y v:=by
 induction l with
 |nil=>cases d
 |cons p l b=>
  have a:=lu.mp a
  refine V vH ?_
  rcases iX.mp d with rfl|d
  ·exact V (beq_self_eq_true ..) rfl
  ·refine V (beq_false_of_ne λf=>a.1<|bg.mpr<|ah _ d f) ?_
   exact b a.2 d
theorem b_.get{J:FM}{as:List ak}{vs:List aa}{us:List AV}(d:b_ J as vs us){i:Nat}{u:AV}(e:us[i]?=Y u):∃v,vs[i]?=Y v/\RV J as v u:=
 d.kO (P:=λvs us=>∀(i:Nat) u,us[i]?=Y u->∃v,vs[i]?=Y v/\RV J as v u) (λ_ _ e=>nS e) (λv _ _ _ a _ b i u e=>by
  cases i with
  |zero=>exact ah v rfl<|iD e▸a
  |succ i=>exact b i u e) i u e
structure fY(a:ak)(b:kI)(body:List bu)(U:Sc):Prop where
 «at»:∀P,∃o,(K0 P).lookup a=Y o/\o.data= .func b
 code:∀P,codeIn (K0 P) b.code b.qualname=true
 body:b.body= .stmts body
 kind:b.scope.kind= .function
 co:b.scope.isCoroutine=false
 kg:b.globals=gW
 blt:b.builtins=nV
 names:b.scope.names=U.names
 nd:U.N.Nodup
noncomputable abbrev Hj(N:List H)(us:List AV):St:=⟨us.map Y++bV (N.length-us.length) Z,[]⟩
abbrev uP(r:AV)(f:Fw)(_:St):Prop:=f= .rt r\/(f= .nx/\r= .n)
def i7(w:aC)(b:kI)(N:List H)(us cP:List AV):Prop:=
 cP.length<=N.length/\∀(A:cR) (J:FM) (h:ao) (s:au) (Q:List (H×aa)->au->Prop) (E:aa->au->Prop) (g:List aa),bz w J h s.heap->b_ J [] g us->
  (∀a t,b_ J [] a cP->Q ((N.take cP.length).zip a) {s with toks:=t})->aF (aX pw w) A (sJ b ⟨g,[]⟩) Q E s
theorem X0{N:List H}{us:List AV}{i:Nat}{u:AV}(d:((Hj N us).v[i]?.join)=Y u):us[i]?=Y u:=by
 show us[i]?=Y u
 have d:((us.map Y++bV (N.length-us.length) Z)[i]?.join)=Y u:=d
 by_cases f:i<us.length
 ·rw[pT (by simpa using f),iW] at d
  cases e:us[i]? with
  |none=>rw[e] at d;cases d
  |some x=>rw[e] at d;cases d;rfl
 ·rw[kJ (by simpa using f)] at d
  exfalso
  cases e:(bV (N.length-us.length) (Z:Option AV))[i-(us.map Y).length]? with
  |none=>rw[e] at d;cases d
  |some x=>
   rw[e] at d
   have:=UG<|m_ e
   subst this
   cases d
def Hl(w:aC)(k:Nat)(f:aa)(us:List AV)(r:AV):Prop:=
 ∀(A:cR) (J:FM) (h:ao) (s:au) (R:aa->au->Prop) (E:aa->au->Prop) (vs:List aa),A.handled=Z->A.depth+k<=900->A.units+8*k<=6000->
  bz w J h s.heap->b_ J [] vs us->0<s.toks->
  (∀a s' v,FM.le J a->bz w a h s'.heap->s'.gens=s.gens->s'.os=s.os->RV a [] v r->R v s')->
  iY (aX pw w) A (.call f ⟨vs,[]⟩) (λr s'=>match r with| .ok (.ret v)=>R v s'| .ok _=>False| .error e=>E e s') s
theorem Hl.X3{w:aC}{k:Nat}{f:aa}{us:List AV}{r:AV}(d:Hl w k f us r):iN w k f us r:=λA J h s R E vs a b e B g tk K=>sM<|d A J h s R E vs a b e B g tk K
noncomputable def yc(b:dw)(c:List (H×qR)):List (H×ak):=((c.filter (·.2== .free)).map λp=>(p.1,(b.cells.lookup p.1).getD 0)).reverse
theorem X4{f:jo}{b:dw}(h:∀x,(x,uv)∈f.names->∃a,b.cells.lookup x=Y a):LP f b=pure (yc b f.names):=by
 delta LP yc
 generalize f.names=l at h ⊢
 have j:∀(l:List (H×qR)) (g:List (H×ak)),(∀x,(x,uv)∈l->∃a,b.cells.lookup x=Y a)->
   (forIn l g λ(p:H×qR) (n:List (H×ak))=>(if (p.2==uv)=true then(do let a<-FL b p.1;pure (qU ((p.1,a)::n))) else pure (qU n):bT (ForInStep<|List<|H×ak)))
    =pure (((l.filter (·.2== .free)).map λp=>(p.1,(b.cells.lookup p.1).getD 0)).reverse++g):=by
  intro l
  induction l with
  |nil=>intro g U;rfl
  |cons p l o=>
   intro g h
   obtain⟨x,k⟩:=p
   refine V (Co ..) ?_
   by_cases c:(k==uv)=true
   ·refine Ex (h x<|by refine V (show k= .free by simpa using c) ?_;exact aZ) λa q=>?_
    have e:FL b x=pure a:=by delta FL;exact V q rfl
    simp only[c,if_true,e,pure_bind]
    refine V (o _ λy i=>h y<|a_ _ i) ?_
    refine V (akr<|by simpa using c)<|V ee<|V LQ<|V (eO ..)<|V q ?_
    rfl
   ·refine V (if_neg c) (V (pure_bind ..) ?_)
    simp only[]
    refine V (o _ λy i=>h y<|a_ _ i) ?_
    exact V (aks<|by simpa using c) rfl
 have:=j l [] h
 rw[iH] at this
 exact(congrArg (λm:bT (List<|H×ak)=>m>>=λs=>pure s) this).trans rfl
theorem NL{C:Type}(f:H->C):∀{l:List H} {x:H},x∈l->(l.map λy=>(y,f y)).lookup x=Y (f x)
 |y::l,x,h=>by
  refine V ee<|V vH ?_
  by_cases q:(x==y)=true
  ·refine V q ?_;exact V (show x=y by simpa using q) rfl
  ·refine V (show(x==y)=false by simpa using q) ?_
   rcases iX.mp h with e|h
   ·exact absurd (by simpa using e) q
   ·exact NL f h
theorem NN{b:dw}{c:List (H×qR)}{x:H}{a:ak}(h:(x,uv)∈c)(e:b.cells.lookup x=Y a):(yc b c).lookup x=Y a:=by
 have:yc b c=(((c.filter (·.2== .free)).map (·.1)).reverse).map λy=>(y,(b.cells.lookup y).getD 0):=by
  delta yc
  refine V akt<|V bY ?_
  rfl
 (refine V this ?_;rw[NL (λy=>(b.cells.lookup y).getD 0)])
 ·refine V e ?_;rfl
 ·rw[UH,bg]
  exact ah (x,.free) (jq.mpr ⟨h,rfl⟩) rfl
section
variable {d:xg} {w:aC} {A:cR} {R:sN->au->Prop} {s:au}
theorem X5{z a o:ay}{B:List ay}{f:jo}{D:aV}{M g:aa}{b:dw}(I:Nat->au->Prop)
  (E:∀n s,I n s->aF (aX d w) A (sG M) (λr i=>match r with
   |none=>R (.ok .next) i
   |some v=>aF (aX d w) A (qK a M v) (λU j=>aF (aX d w) A (pX a b v) (λU p=>
     aF (aX d w) A (forIn B true λc r=>if r=true then do let G<-Fy c b (eval c b);pure (qU G) else pure (qU r)) (λG k=>
      if G=true then aF (aX d w) A (eval z b) (λx q=>
       aF (aX d w) A (f_ (.builtin "list.append") [g,x]) (λU t=>∃m,m<n/\I m t) (qT (aX d w) A b λe s'=>R (.error e) s') q) (qT (aX d w) A b λe s'=>R (.error e) s') k
      else∃m,m<n/\I m k) (qT (aX d w) A b λe s'=>R (.error e) s') p) (qT (aX d w) A b λe s'=>R (.error e) s') j) (qT (aX d w) A b λe s'=>R (.error e) s') i) (qT (aX d w) A b λe s'=>R (.error e) s') s)
  (n:Nat)(h:I n s):
  iY (aX d w) A (.compLoop (.ListComp z [⟨a,o,B,0⟩] f D) 0 M g b) R s:=by
 refine UI rfl I (λn s N=>?_) n h
 refine(?_:aF _ A ((FN (.ListComp z [⟨a,o,B,0⟩] f D) 0 M g b).onRaise λx=>do vI x b;zH x) _ _ s)
 refine UJ ?_
 refine V (compTurn_list ..) ?_
 refine aB<|kL<|aB<|cQ (E n s N) (λr i u=>?_) λU U l=>l
 cases r with
 |none=>exact bf u
 |some v=>
  refine aB<|cQ u (λU j C=>?_) λU U l=>l
  refine aB<|cQ C (λU p J=>aB<|cQ J (λG k y=>?_) λU U l=>l) λU U l=>l
  cases G with
  |false=>exact bf ⟨rfl,y⟩
  |true=>
   exact aB<|aB<|cQ y (λx q K=>aB<|cQ K (λU t L=>bf<|bf ⟨rfl,L⟩) λU U l=>l) λU U l=>l
end
noncomputable def C0(U:Sc)(a:List (H×qR)):List (H×qR):=a.map λp=>if (p.2== .free&&U.names.lookup p.1==Y .cell)=true then(p.1,.cell) else p
noncomputable def gO(b:List (Option Nat))(v:List (Option AV)):List (Option AV):=b.map λo=>o.bind λj=>(v[j]?.join)
structure yd(U:Sc)(a:jo)(f:Sc)(b:List (Option Nat)):Prop where
 kind:a.kind= .function
 mz:∀x∈a.names,x.2= .local->a.names.lookup x.1=Y .local
 nn:(a.names.map (·.1)).Nodup
 names:f.names=C0 U a.names
 own:∀x∈f.own,(x,jR)∈a.names
 nd:f.N.Nodup
 len:b.length=f.N.length
 free:∀x,(x,uv)∈a.names->∃j:Nat,U.N[j]?=Y x/\(U.names.lookup x=Y .cell\/U.names.lookup x=Y .free)
 locals:∀(i:Nat) (x:H),f.N[i]?=Y x->b[i]?=Y Z->f.names.lookup x=Y .local\/(f.names.lookup x=Y .cell/\(x,jR)∈a.names)
 imports:∀(i:Nat) (x:H) (j:Nat),f.N[i]?=Y x->b[i]?=Y (Y j)->U.N[j]?=Y x/\(x,uv)∈a.names/\(f.names.lookup x=Y .cell\/f.names.lookup x=Y .free)
abbrev uQ(c:Cx)(N:List H)(h:ao)(j:List ay)(q:St)(Q:Bool->St->Prop):Prop:=
 aN c N h rB (forIn j true λt r=>if r=true then do let ok<-Fy t c.aj (eval t c.aj);pure (qU ok) else pure (qU r)) q Q
theorem uQ.nil{c:Cx}{N:List H}{h:ao}{q:St}{Q:Bool->St->Prop}(aU:Q true q):uQ c N h [] q Q:=λJ as s R E I tk K=>wpAny_tests_nil<|K.now (b:=true) I rfl aU
theorem uQ.gz{c:Cx}{N:List H}{h:ao}{q:St}{t:ay}{Q:Bool->St->Prop}(aU:iL c N h t q Q):uQ c N h [t] q Q:=λJ as s R E I tk K=>wpAny_tests_one<|aU J as s R E I tk K
noncomputable def s9(w:aC)(d:Nat)(f:Sc)(B:ay)(j:List ay)(o:ay):List af->List (Option AV)->List af->(List af->Prop)->Prop
 |[],_,g,K=>K g
 |x::xs,v,g,K=>∀(c:Cx) h,aW c->bA f c->c.w=w->c.d=d->iM c f.N h B (.d x) ⟨v,[Y (.ai g)]⟩ λe=>uQ c f.N h j e λb a=>
   if b=true then aG c f.N h o a (λu I=>∃y,u= .d y/\I.μ=[Y (.ai g)]/\g.length<=aL/\s9 w d f B j o xs I.v (g++[y]) K)
   else a.μ=[Y (.ai g)]/\s9 w d f B j o xs a.v g K
section
variable {k:Cx} {f:Sc} {h:ao}
inductive C1(k:Cx)(f:Sc)(h:ao)(B:ay)(j:List ay)(o:ay)(K:List af->Prop)(l:FM)(D:ak)(it:aa)(n:Nat)(s:au):Prop
 |mk (ds:List af) (v:List (Option AV)) (g:List af) (w:FM) (bW:ao):ds.length=n->FM.le l w->aH k f.N (bW++h) ⟨v,[Y (.ai g)]⟩ w [D] s->0<s.toks->(∀p∈h,p.1∉bW.map (·.1))->Nx k.w k.A w B it ds bW->s9 k.w k.d f B j o ds v g K->C1 k f h B j o K l D it n s
theorem ye{N:List H}{q:St}{J:FM}{as:List ak}{s:au}{D:ak}{g:List af}(I:aH k N h q J as s)(p:bU [D] as)(aU:q.μ=[Y (.ai g)]):as=[D]:=by
 obtain⟨c,m,I⟩:=I
 have hl:as.length=1:=by refine V I.gj.1 (V aU ?_);rfl
 have b:=p 0 D rfl
 refine Ex (List.length_eq_one_iff.mp hl) λa e=>?_
 subst e;simp at b;exact V b rfl
theorem X6(ok:aW k)(so:bA f k){B o vB:ay}{j:List ay}{a:jo}{cK:aV}{K:List af->Prop}{l:FM}{D:ak}{it:aa}{R:sN->au->Prop}
  (gF:∀v g w s',FM.le l w->aH k f.N h ⟨v,[Y (.ai g)]⟩ w [D] s'->K g->R (.ok .next) s'){n:Nat}{s:au}(aU:C1 k f h B j o K l D it n s):
  iY k.M k.A (.compLoop (.ListComp o [⟨B,vB,j,0⟩] a cK) 0 it (.ref D) k.aj) R s:=by
 refine X5 (C1 k f h B j o K l D it) ?_ n aU
 rintro n s ⟨ds,v,g,w,bW,rfl,k',I',fW,D',m8,h'⟩
 cases ds with
 |nil=>exact m8 k f.N h _ w [D] s _ _ rfl rfl ok (FM.le.refl _) I' D' λL cI=>gF v g w L k' cI h'
 |cons d ds=>
  let M:aa->au->Prop:=qT k.M k.A k.aj λe s'=>R (.error e) s'
  let CI:au->Prop:=λG=>∃m,m<(d::ds).length/\C1 k f h B j o K l D it m G
  let RR:Option aa->au->Prop:=λr t=>0<t.toks->∃v,r=Y v/\aF k.M k.A (pX B k.aj v) (λ_ L=>
     aF k.M k.A (forIn j true λc r=>if r=true then do let ok<-Fy c k.aj (eval c k.aj);pure (qU ok) else pure (qU r)) (λok t=>
      if ok=true then aF k.M k.A (eval o k.aj) (λx kG=>
       aF k.M k.A (f_ (.builtin "list.append") [.ref D,x]) (λ_ G=>CI G) M kG) M t
      else CI t) M L) M t
  refine cQ (ur (n:=1) fW<|m8 k f.N h _ w [D] s RR M M rfl rfl ok (FM.le.refl _) I' D' λfB C se L cZ cI BA cG nR dY=>⟨se,rfl,?_⟩) (λr t y=>?_) λ_ _ y=>y.2
  ·have tZ:∀p∈h,p.1∉C.map (·.1):=λp hp=>by refine V BA ?_;exact D' p hp
   refine P1.bw (h' k (C++h) ok so rfl rfl) cI dY cG λh_ iz t _ _ I N eV gq J _ jh=>aN.bw jh gq J λj6 m6 kG b b' j4 U j5 iV E qC A=>?_
   obtain rfl:b=b':=qC
   split
   ·rename_i e;rw[if_pos e] at A
    refine aN.bw A iV E λkZ oN G x u r_ nP tW w4 ER zb Bw=>?_
    obtain⟨y,rfl,jM,hl,Bw⟩:=Bw
    obtain rfl:=ye w4 (eV.trans<|j5.trans tW) jM
    obtain⟨t7,Kn⟩:=r_
    obtain rfl:Kn=[Y (.ai g)]:=jM
    refine kK (n:=1) ER<|(Ak (i:=0) (xs:=g) (x:=y) (Q:=λ_ q=>q=(⟨t7,[Y (.ai<|g++[y])]⟩:St)) rfl hl rfl) kZ [D] G _ _ [.ref D,x] w4 ER ⟨⟨D,rfl,rfl⟩,zb,trivial⟩ λtY w5 oO _ _ Bv m7 zc tX _ Kp BC=>?_
    subst Kp
    obtain rfl:=ye tX zc rfl
    exact⟨ds.length,lz _,ds,t7,g++[y],tY,C,rfl,k'.trans<|cZ.trans<|N.trans<|U.trans<|nP.trans m7,tX,BC,tZ,nR.aO<|N.trans<|U.trans<|nP.trans m7,Bw⟩
   ·rename_i e;rw[if_neg e] at A
    obtain⟨jM,A⟩:=A
    obtain rfl:=ye iV (eV.trans j5) jM
    obtain⟨Kq,Ko⟩:=j4
    obtain rfl:Ko=[Y (.ai g)]:=jM
    exact⟨ds.length,lz _,ds,Kq,g,j6,C,rfl,k'.trans<|cZ.trans<|N.trans U,iV,E,tZ,nR.aO<|N.trans U,A⟩
  ·obtain⟨J,se,rfl,y⟩:=y
   refine cQ (ur (n:=1) J y) (λ_ kG z=>?_) λ_ _ z=>z.2
   obtain⟨E,z⟩:=z
   obtain⟨v',e',z⟩:=z E
   cases e'
   exact z
end
theorem Aq:∀(b:List (H×qR)) (n:Nat) (a:List (H×ak)),(jS n b a).map (·.1)=((b.filter (·.2== .cell)).map (·.1)).reverse++a.map (·.1)
 |[],n,a=>rfl
 |(x,k)::r,n,a=>by
  unfold jS
  by_cases c:(k==jR)=true
  ·refine V (if_pos c) (V (Aq r ..)<|V (akr<|by simpa using c) ?_)
   simp
  ·exact V (if_neg c)<|V (Aq r ..)<|V (aks<|by simpa using c) rfl
theorem C2:∀(b:List (H×qR)) (n:Nat) (a:List (H×ak)),jS n b a=jS n b []++a
 |[],n,a=>rfl
 |(x,k)::r,n,a=>by
  unfold jS
  by_cases c:(k==jR)=true
  ·refine V (if_pos c) (V (if_pos c)<|V (C2 r _ ((x,n)::a))<|V (C2 r _ [(x,n)])<|V (eO ..) ?_);rfl
  ·refine V (if_neg c) (V (if_neg c) ?_);exact C2 r n a
theorem X7{C:Type}{l:List (H×C)}(h:x∈l.map (·.1)):∃a,(x,a)∈l:=by
 obtain⟨⟨y,a⟩,d,e⟩:=bg.mp h
 skip;clear h;subst e
 exact⟨a,d⟩
theorem C3(a:(b.map (·.1)).Nodup)(n:Nat):((jS n b []).map (·.1)).Nodup:=by
 exact V (Aq ..)<|V j_<|V (iH ..)<|
  (List.reverse_perm _).nodup_iff.mpr (a.sublist<|(List.filter_sublist).map _)
theorem Ho(h:(x,jR)∈b):∃a,(x,a)∈jS n b []:=by
 refine X7 ?_
 (refine V (Aq ..) (V j_<|V (iH ..) ?_);rw[UH,bg])
 exact⟨_,jq.mpr ⟨h,rfl⟩,rfl⟩
theorem X8(h:(x,a)∈jS n b []):(x,jR)∈b:=by
 have:x∈(jS n b []).map (·.1):=bg.mpr ⟨_,h,rfl⟩
 rw[Aq,j_,iH,UH,bg] at this
 obtain⟨⟨y,k⟩,d,e⟩:=this
 obtain⟨d,c⟩:=jq.mp d
 skip;clear h;subst e
 rwa[show k= .cell by simpa using c] at d
section
variable {M:k9} {A:cR} {E:aa->au->Prop} {s:au}
theorem X_
  (h:∀d,d.Ns s.heap.objs.size (λ_=>Z)->(∀b o,s.heap.get? b=Y o->d.get? b=Y o)->CellsOk d (s.heap.objs.size+1) (jS (s.heap.objs.size+1) scope.names [])->
   Q {scope,locals:=s.heap.objs.size,globals,cells:=jS (s.heap.objs.size+1) scope.names []++j,qual,func:=Z,code:=a.code,frame:=a.frame,builtins:=a.builtins} {s with heap:=d}):
  aF M A (UK scope globals j [] qual Z .none<|Y a) Q E s:=by
 refine aB<|aku<|
  aB (akv _ (λname c f=>by cases g:c==jR<;>simp[g]) _ _ _ _ ?_)
 have i:=akw scope.names (s.heap.push {cls:= .type "dict",data:= .dict #[]}) (s.heap.objs.size+1) [] ⟨λ_ _ k=>(nomatch k),akx⟩<|V (sO ..)<|bM _
 rw[sO] at i
 refine V (show({s with heap:=s.heap.push {cls:= .type "dict",data:= .dict #[]}}:au).heap.objs.size=s.heap.objs.size+1 from sO ..)<|
  V (C2 ..) (
  aB (bf<|bf ?_))
 exact h _ ((aky s.heap<|.type "dict").keeps<|LR _ _) (λb o e=>LR _ _ b o<|ie _ e) i
end
section
variable {c:Cx} {U nT:Sc} {h:ao} {q:St}
noncomputable def Yb(c:Cx)(J:FM)(aU:fk):FM:=λa=>if a∈c.cl.map (·.2) then aU.get? a else J a
noncomputable def Yc(c:Cx)(J:FM):FM:=λa=>if a∈c.cl.map (·.2) then Z else J a
theorem FM.jw.trans(x:FM.jw J ψ)(y:FM.jw ψ b):FM.jw J b:=λa o e=>y a o<|x a o e
theorem Yd(hk:a.scope.kind= .function)(r:a.scope.names=U.names):(relabel t a).names=C0 U t.names:=by
 delta relabel C0
 refine sP λp _=>?_
 obtain⟨n,k⟩:=p
 have:(a.scope.kind==akz)=true:=by refine V hk ?_;rfl
 simp only[this,Bool.and_true,FO,r]
theorem NO(ok:aW c)(so:bA U c){jj B A:ay}{gG:List ay}{M:List sj}{L:List af->List (Option AV)->(List af->Prop)->Prop}{t:jo}{cK:aV}{jk:List (Option Nat)}(cs:yd U t nT jk)(lV:∀x,qS A c.aj x=pure x){Q:AV->St->Prop}{zg:Option (aa->bT Unit)}
  (aU:d8 c U.N h A B q λC d=>(∀o∈gO jk d.v,∀u,o=Y u->u.aq=true)/\
   L C (gO jk d.v) λN=>Q (.l N) d)
  (ahE:∀(c':Cx) (w:ao) (l:FM) (D:ak) (it:aa) (C:List af) (hs:ao) (v:List (Option AV)) (K:List af->Prop) (R:sN->au->Prop) (s:au),aW c'->bA nT c'->c'.w=c.w->c'.d=c.d->aH c' nT.N (hs++w) ⟨v,[Y (.ai [])]⟩ l [D] s->0<s.toks->(∀p∈w,p.1∉hs.map (·.1))->
   Nx c'.w c'.A l B it C hs->L C v K->(∀v N cN s',FM.le l cN->aH c' nT.N w ⟨v,[Y (.ai N)]⟩ cN [D] s'->K N->R (.ok .next) s')->iY c'.M c'.A (.compLoop (.ListComp jj (⟨B,A,gG,0⟩::M) t cK) 0 it (.ref D) c'.aj) R s)(I:aH c U.N h q J as s)(tk:0<s.toks)
  (gF:∀ψ aJ s' (bB:ak) (oC:bh) m v N d,FM.le J ψ->bU as aJ->aH c U.N ([(bB,oC)]++h) d ψ aJ s'->(∀p∈h,p.1∉[(bB,oC)].map (·.1))->s'.heap.Ns bB m->RV ψ aJ v (.l N)->Q (.l N) d->UL c.M c.A E zg R v bB (.ok .next) s'):
  aF c.M c.A (FP (.ListComp jj (⟨B,A,gG,0⟩::M) t cK) t c.aj (FT (⟨B,A,gG,0⟩::M) cK) (FU []) false (eval A c.aj) zg) R E s:=by
 have Kw:∀x,(x,uv)∈t.names->∃a,c.aj.cells.lookup x=Y a:=λx hx=>by
  refine aD (cs.free x hx) λj hj hk=>?_
  refine cC I λjO m I=>?_
  have EW:c.aj.kindOf x=Y .cell\/c.aj.kindOf x=Y .free:=by
   delta FO;refine V so.names ?_;exact hk
  cases I.vars j x hj with
  |mz k1=>rw[k1] at EW;rcases EW with e|e<;>cases e
  |own a o cv _ _ av=>exact⟨a,av⟩
  |free a o cv _ av=>exact⟨a,av⟩
 have ahF:=X4 Kw
 refine wpAny_comprehension_free (g:=⟨B,A,gG,0⟩) (gs:=M) rfl lV ahF cs.kind cs.mz<|d8.bw aU I tk λjl iU k it d C hs j3 gr jK gR Km nx sf k6=>?_
 refine Ea k6 λahG hC=>?_;clear k6
 have SI:=jK
 refine cC SI λams amt Ku=>?_;clear SI
 refine o9 (jK.G9 (bW:=[]) (s':=k) Km (λ_ _ _ e=>e) (λp G=>nomatch G) (λp G=>nomatch G) rfl rfl) λze mO IO jN Ky=>?_
 have Ky:∀p∈ze,p.1∉hs.map (·.1):=λp G=>(Ky p G).resolve_left λav=>nomatch av
 let D:=k.heap.objs.size
 let KA:=c.cl.map (·.2)
 have SJ:∀a∈KA,∃o cv,(a,o)∈ze/\o.data= .cell cv:=λa ha=>by
  refine aD (bg.mp ha) λp G e'=>?_;clear ha;subst e'
  obtain⟨o,cv,av,q'⟩:=IO.e_ p.1 p.2 G
  exact iI o cv av q'
 have SK:∀a o,jl a=Y o->a∉KA:=λa o e aU=>by
  refine sU (SJ a aU) λo' cv av _=>?_
  rw[IO.base.cU _ av] at e;cases e
 let l:=Yb c jl k.heap
 have w6:FM.le jl l:=λa o e=>by
  refine(?_:(if a∈KA then _ else _)=_)
  refine V (if_neg<|SK a o e) ?_;exact e
 have SD:∀a o,l a=Y o->k.heap.get? a=Y o:=λa o e=>by
  have e:(if a∈KA then k.heap.get? a else jl a)=Y o:=e
  split at e
  ·exact e
  ·exact IO.base.keep _ _ e
 let w:ao:=ze.filter λp=>decide<|p.1∉KA
 have zd:∀p,p∈w↔p∈ze/\p.1∉KA:=λp=>by
  rw[jq,decide_eq_true_iff]
 have EU:∀p∈hs,k.heap.get? p.1=Y p.2:=λp G=>jK.jX G
 have ahC:∀p∈hs,jl p.1=Z:=λp G=>Ku.base.cU p<|Ku.sub p<|iF _ G
 have ahM:∀p∈hs,p.1∉KA:=λp G aU=>by
  refine aD (bg.mp aU) λav hq e=>?_
  exact Ku.apart av.2 (GV (x:=av.1) hq) p (iF _ G) e.symm
 have ahH:∀p∈hs,p.1<k.heap.objs.size:=λp G=>iC<|EU p G
 refine wpAny_newList ?_<|by decide
 refine X_ λh' w7 SM SG=>?_
 let H2:=k.heap.push<|eg #[] 0
 have BE:H2.objs.size=k.heap.objs.size+1:=by exact V (sO ..) rfl
 let bB:=H2.objs.size
 have SP:D≠bB:=by refine(?_:k.heap.objs.size≠H2.objs.size);refine V BE ?_;exact gu<|lz _
 have wZ:∀b o,k.heap.get? b=Y o->h'.get? b=Y o:=λb o e=>SM _ _<|ie _ e
 have hD:h'.get? D=Y (eg #[] 0):=SM _ _<|qM _ rfl
 refine sV (id w7) λoC es ep hoC rC=>?_
 let cl:=yc c.aj t.names
 let m9:List (H×ak):=jS (bB+1) t.names []
 have SA:∀x b,(x,b)∈m9->h'.IsCell b Z/\bB+1<=b:=λx b hx=>SG.empty x b hx
 have SH:∀x,(x,jR)∈t.names->∃b,(x,b)∈m9/\(m9++cl).lookup x=Y b:=λx hx=>by
  refine Ex (Ho (n:=bB+1) hx) λb hb=>?_
  refine ah b hb ?_
  refine V akA (V (yb (C3 cs.nn _) hb) ?_);rfl
 have SE:∀x b,(x,uv)∈t.names->cl.lookup x=Y b->(m9++cl).lookup x=Y b:=λx b hx hb=>by
  have:m9.lookup x=Z:=by
   cases e:m9.lookup x with
   |none=>rfl
   |some z=>
    exfalso
    have h1:=X8<|UM e
    have l1:=yb cs.nn h1
    have l2:=yb cs.nn hx
    rw[l1] at l2;cases l2
  refine V akA (V this ?_);exact hb
 let c':Cx:=⟨c.w,c.A,compEnvC t (m9++cl) bB c.aj,m9,c.g,c.os,c.d,[]⟩
 have qF:aW c':=⟨ok.hand,ok.depth,ok.units,ok.iK,cs.kind,ok.kg,ok.blt⟩
 have fC:bA nT c':=⟨(Yd ok.kind so.names).trans cs.names.symm,cs.nd,λx hx=>SH x<|cs.own x hx⟩
 let BF:ak->bh:=λb=>(h'.get? b).getD {cls:= .none}
 have Kv:∀x b,(x,b)∈m9->h'.get? b=Y (BF b)/\(BF b).data= .cell Z:=λx b hx=>by
  refine Ea (SA x b hx) λq' _=>?_;refine aD q' λo e hd=>?_;clear q'
  have:BF b=o:=by refine(?_:(h'.get? b).getD _=o);refine V e ?_;rfl
  refine V this ?_;exact⟨e,hd⟩
 have ahI:∀a o,l a=Y o->a<k.heap.objs.size:=λa o e=>iC<|SD a o e
 have Ks:∀a,k.heap.objs.size<=a->l a=Z:=λa ha=>by
  cases av:l a with
  |none=>rfl
  |some o=>exact absurd (ahI a o av)<|jn.mpr ha
 have zf:k.heap.objs.size<=bB:=by refine(?_:_<=H2.objs.size);refine V BE ?_;exact sH _
 have ahJ:∀p∈hs++w,p.1<k.heap.objs.size:=λp G=>by
  rcases cj.mp G with G|G
  ·exact ahH p G
  ·exact jN p ((zd p).mp G).1
 have ES:∀x b,(x,b)∈m9->bB<b:=λx b hx=>FW (lz _) (SA x b hx).2
 have hCD:D<bB:=by refine(?_:k.heap.objs.size<H2.objs.size);refine V BE ?_;exact lz _
 let Kr:ao:=m9.map λp=>(p.2,BF p.2)
 have I':aH c' nT.N (hs++w) ⟨gO jk d.v,[Y (.ai [])]⟩ l [D] ⟨h',k.gens,k.drawn,k.toks,k.os⟩:=by
  have inl:∀p∈hs++w,p∈(bB,oC)::(D,eg #[] 0)::(Kr++(hs++w)):=λp G=>a_ _<|a_ _<|gw _ G
  have SQ:∀x b,(x,b)∈m9->(b,BF b)∈(bB,oC)::(D,eg #[] 0)::(Kr++(hs++w)):=λx b hx=>a_ _<|a_ _<|iF _<|bg.mpr<|ah _ hx rfl
  refine⟨(bB,oC)::(D,eg #[] 0)::(Kr++(hs++w)),_,⟨λa o e=>wZ _ _<|SD a o e,λp G=>?_,λp G=>?_,λa o e=>w6 _ _<|IO.base.K a o e⟩,inl,λa ha p G=>?_,?_,w7,⟨oC,aZ⟩,λx a hx=>⟨_,Z,SQ x a hx,(Kv x a hx).2⟩,?_,λi x hx=>?_,⟨rfl,λ_ _ e=>nomatch e⟩,λi x hx=>?_,IO.gens,IO.os,λa ha=>?_⟩
  ·refine bN G ?_ λG=>?_
   ·exact hoC
   ·refine bN G ?_ λG=>?_
    ·exact hD
    ·rcases cj.mp G with G|G
     ·obtain⟨⟨x,b⟩,hx,rfl⟩:=bg.mp G
      exact(Kv x b hx).1
     ·rcases cj.mp G with G|G
      ·exact wZ _ _<|EU p G
      ·exact wZ _ _<|IO.base.led p ((zd p).mp G).1
  ·refine bN G ?_ λG=>?_
   ·exact Ks _ zf
   ·refine bN G ?_ λG=>?_
    ·exact Ks _<|bM _
    ·rcases cj.mp G with G|G
     ·obtain⟨⟨x,b⟩,hx,rfl⟩:=bg.mp G
      exact Ks _<|j7<|zu zf<|ES x b hx
     ·refine(?_:(if p.1∈KA then _ else _)=_)
      rcases cj.mp G with G|G
      ·refine V (if_neg<|ahM p G) ?_;exact ahC p G
      ·refine Ea ((zd p).mp G) λh1 h2=>?_
       refine V (if_neg h2) ?_;exact IO.base.cU p h1
  ·have ha:a∈bB::(m9.map (·.2)++[D]):=ha
   have Kz:=ahJ p G
   refine bN ha ?_ λha=>?_
   ·exact gu<|FW Kz zf
   ·rcases cj.mp ha with ha|ha
    ·obtain⟨⟨x,b⟩,hx,rfl⟩:=bg.mp ha
     exact gu<|Cp (FW Kz zf)<|ES x b hx
    ·rw[bH] at ha
     refine V ha ?_
     exact gu Kz
  ·refine(?_:(bB::(m9.map (·.2)++[D])).Nodup)
   rw[lu]
   refine⟨λhm=>?_,?_⟩
   ·rcases cj.mp hm with hm|hm
    ·obtain⟨⟨x,b⟩,hx,e⟩:=bg.mp hm
     have:=ES x b hx
     have e:b=bB:=e
     rw[e] at this;exact zw _ this
    ·rw[bH] at hm
     exact SP hm.symm
   ·rw[zx]
    refine bJ ?_ (by simp) λx hx y hy=>?_
    ·delta UN
     rw[UO]
     exact SG.apart
    ·rw[bH] at hy
     refine V hy ?_
     obtain⟨⟨z,b⟩,hz,rfl⟩:=bg.mp hx
     exact vJ<|Cp hCD<|ES z b hz
  ·skip
   skip;exact V (bC ..)<|V cs.len rfl
  ·have hi:i<jk.length:=by refine V cs.len ?_;exact(fF.mp hx).1
   have ahK:((gO jk d.v)[i]?.join)=jk[i].bind λj=>(d.v[j]?.join):=by
    refine V iW<|V (fM hi) ?_
    rfl
   refine V ahK ?_
   have zh:∀y,c'.aj.kindOf y=nT.names.lookup y:=λy=>by delta FO;exact V fC.names rfl
   cases ho:jk[i] with
   |none=>
    rcases cs.locals i x hx (by exact V (fM hi)<|V ho rfl) with hk|⟨hk,hc⟩
    ·exact .mz ((zh x).trans hk) λu e=>nS e
    ·refine aD (SH x hc) λb hb KG=>?_
     exact .own b _ Z ((zh x).trans hk) hb KG (SQ x b hb) (Kv x b hb).2 λu e=>nS e
   |some j=>
    refine gy (cs.imports i x j hx<|by exact V (fM hi)<|V ho rfl) λhj BD hk=>?_
    have KD:c'.aj.kindOf x=Y .cell\/c'.aj.kindOf x=Y .free:=by refine V (zh x) ?_;exact hk
    have EX:c.aj.kindOf x=Y .cell\/c.aj.kindOf x=Y .free:=by
     refine aD (cs.free x BD) λ_ _ av=>?_
     delta FO;refine V so.names ?_;exact av
    have KH:∀u,(d.v[j]?.join)=Y u->u.aq=true:=λu e=>ahG (Y u) (by
     refine bg.mpr<|ah (Y j) ?_ e
     refine az ho ?_;exact FY _) u rfl
    have rvs:∀kH u,RV jl iU kH u->u.aq=true->RV l [D] kH u:=λkH u r f=>(r.le w6.C<|bU.rfl' _).aq f
    have hw {cv:Option aa} (b:∀u,(d.v[j]?.join)=Y u->∃kH,cv=Y kH/\RV jl iU kH u) (u:AV) (e:(d.v[j]?.join)=Y u):∃kH,cv=Y kH/\RV l [D] kH u:=(b u e).imp λkH av=>⟨av.1,rvs kH u av.2<|KH u e⟩
    cases IO.vars j x hj with
    |mz k1=>rw[k1] at EX;rcases EX with e|e<;>cases e
    |own b1 b2 b3 k1 b4 b5 b6 b7 b8=>
     refine .free b1 b2 b3 KD (SE x _ BD<|NN BD b5) ?_ b7<|hw b8
     have:b1∈KA:=bg.mpr<|ah _ b4 rfl
     refine(?_:(if b1∈KA then _ else _)=_)
     refine V (if_pos this) ?_;exact IO.base.get b6
    |free b1 b2 b3 k1 b4 b5 b6 b7=>exact .free b1 b2 b3 KD (SE x _ BD<|NN BD b4) (w6 _ _ b5) b6<|hw b7
  ·match i,hx with
   |0,hx=>
    simp only[List.getElem?_cons_zero,LU] at hx
    subst hx
    exact⟨D,eg #[] 0,rfl,a_ _ aZ,#[],0,rfl,.nil⟩
   |i+1,hx=>simp at hx
  ·have ha:a=D:=by simpa using ha
   refine V ha ?_
   exact .inl ⟨_,a_ _ aZ⟩
 have BH:iY c.M c.A (.compLoop (.ListComp jj (⟨B,A,gG,0⟩::M) t cK) 0 it (.ref D)<|compEnvC t (m9++cl) bB c.aj) (UL c.M c.A E zg R (.ref D) bB) ⟨h',k.gens,k.drawn,k.toks,k.os⟩:=by
  refine ahE c' w l D it C hs (gO jk d.v) (λN=>Q (.l N) d) _ _ qF fC rfl rfl I' gR (λp G=>Ky p ((zd p).mp G).1) (nx.aO w6) hC λv N cN s' k' I2 hq=>?_
  ·refine cC I2 λahN m2 J2=>?_;clear I2
   obtain⟨oD,SR,vs,n,rfl,rr⟩:∃oD,(D,oD)∈ahN/\gK cN oD (.ai N):=by
    obtain⟨a,o,e1,e2,e3⟩:=J2.ff 0 _ rfl
    cases e1
    exact ah o e2 e3
   refine Ex J2.lo λBG SN=>?_
   have ahO:cN bB=Z:=J2.base.cU _ SN
   have ahP:cN D=Z:=J2.base.cU _ SR
   let ψ:FM:=(Yc c cN).cY D<|eg vs n
   have SO:∀a o,cN a=Y o->a∉KA->ψ a=Y o:=λa o e ne=>by
    have nO:a≠D:=λav=>by rw[av,ahP] at e;cases e
    refine(?_:(if a=D then _ else(if a∈KA then Z else cN a))=_)
    refine V (if_neg nO) (V (if_neg ne) ?_);exact e
   have KC:FM.le jl ψ:=λa o e=>SO a o (k' _ _<|w6 _ _ e)<|SK a o e
   have ahQ:ψ bB=Z:=by
    refine(?_:(if bB=D then Y (eg vs n) else(if bB∈KA then Z else cN bB))=Z)
    refine V (if_neg<|pU SP) ?_
    split
    ·rfl
    ·exact ahO
   have SS:bz c.w ψ ((bB,BG)::ze) s'.heap:=by
    refine⟨λa o e=>?_,λp G=>?_,λp G=>?_,λa o e=>KC _ _<|IO.base.K a o e⟩
    ·have e:(if a=D then Y (eg vs n) else(if a∈KA then Z else cN a))=Y o:=e
     split at e
     ·rename_i av;cases e;clear e;refine V av ?_;exact J2.base.get SR
     ·split at e
      ·cases e
      ·exact J2.base.keep _ _ e
    ·refine bN G ?_ λG=>?_
     ·exact J2.base.get SN
     ·by_cases av:p.1∈KA
      ·have:l p.1=Y p.2:=by
        refine(?_:(if p.1∈KA then _ else _)=_)
        refine V (if_pos av) ?_;exact IO.base.led p G
       exact J2.base.keep _ _<|k' _ _ this
      ·exact J2.base.led p<|J2.sub p<|(zd p).mpr ⟨G,av⟩
    ·refine bN G ?_ λG=>?_
     ·exact ahQ
     ·refine(?_:(if p.1=D then Y (eg vs n) else(if p.1∈KA then Z else cN p.1))=Z)
      refine V (if_neg<|gu<|jN p G) ?_
      split
      ·rfl
      ·rename_i av;exact J2.base.cU p<|J2.sub p<|(zd p).mpr ⟨G,av⟩
   have JF:=IO.frame (s':=s') KC (SS.sub λp G=>a_ _ G) (J2.gens.trans IO.gens.symm)<|J2.os.trans IO.os.symm
   have ahD:∀p∈h,p.1∉[(bB,BG)].map (·.1):=λp G hq=>by
    simp only[ee,j_,bH] at hq
    exact absurd (jN p<|IO.sub p G)<|by refine V hq ?_;exact jn.mpr zf
   have ahL:∀b∈own c iU,b<k.heap.objs.size:=λb hb=>by
    refine bN hb ?_ λhb=>?_
    ·refine Ex IO.lo λlo hlo=>?_;exact jN _ hlo
    ·rcases cj.mp hb with hb|hb
     ·refine aD (bg.mp hb) λp G e'=>?_;clear hb;subst e'
      obtain⟨x,cv,av,_⟩:=IO.e_ p.1 p.2 G
      exact jN _ av
     ·refine Ex (IO.G2 b hb) λo e=>?_;exact iC e
   have JI:aH c U.N ([(bB,BG)]++h) d ψ iU s':=
    ⟨(bB,BG)::ze,mO,SS,λp G=>by
     refine bN G ?_ λG=>?_
     ·exact aZ
     ·exact a_ _<|IO.sub p G,λb hb p G=>by
     refine bN G ?_ λG=>?_
     ·exact λav=>absurd (ahL b hb)<|by refine az av ?_;exact jn.mpr zf
     ·exact IO.apart b hb p G,JF.nd,JF.ns,(let ⟨lo,av⟩:=JF.lo;⟨lo,a_ _ av⟩),λz b hb=>(let ⟨p1,p2,p3,p4⟩:=JF.e_ z b hb;⟨p1,p2,a_ _ p3,p4⟩),JF.nv,
     λi x hx=>(JF.vars i x hx).le (FM.le.refl ψ) (bU.rfl' _) λav hq=>a_ _ hq,JF.gj,λi x hx=>(let ⟨b,ob,q1,q2,q3⟩:=JF.ff i x hx;⟨b,ob,q1,a_ _ q2,q3⟩),JF.gens,JF.os,λb hb=>(JF.al b hb).imp (λ⟨x,e⟩=>⟨x,a_ _ e⟩) id⟩
   refine gF ψ iU s' bB BG m2 (.ref D) N d (j3.trans KC) gr JI ahD J2.ns (RD.list (FM.eZ _ _ _)<|rr.sY λa o e hnc=>?_) hq
   refine SO a o e λav=>?_
   refine sU (SJ a av) λo' cv q1 q2=>?_
   have:l a=Y o':=by
    refine(?_:(if a∈KA then _ else _)=_)
    refine V (if_pos av) ?_;exact IO.base.get q1
   rw[k' _ _ this] at e
   clear q1 this;cases e
   exact hnc cv q2
 exact codeAny_compStart_list BH<|sf c.w c.A _ _ _ (λp G=>wZ _ _<|EU p G) BH
theorem NP(ok:aW c)(so:bA U c){jj B A:ay}{gG:List ay}{t:jo}{cK:aV}{jk:List (Option Nat)}(cs:yd U t nT jk)(lV:∀x,qS A c.aj x=pure x){Q:AV->St->Prop}{zg:Option (aa->bT Unit)}
  (aU:d8 c U.N h A B q λC d=>(∀o∈gO jk d.v,∀u,o=Y u->u.aq=true)/\
   s9 c.w c.d nT B gG jj C (gO jk d.v) [] λN=>Q (.l N) d){J:FM}{as:List ak}{s:au}{R E:aa->au->Prop}(I:aH c U.N h q J as s)(tk:0<s.toks)
  (gF:∀ψ aJ s' (bB:ak) (oC:bh) m v N d,FM.le J ψ->bU as aJ->aH c U.N ([(bB,oC)]++h) d ψ aJ s'->(∀p∈h,p.1∉[(bB,oC)].map (·.1))->s'.heap.Ns bB m->RV ψ aJ v (.l N)->Q (.l N) d->UL c.M c.A E zg R v bB (.ok .next) s'):
  aF c.M c.A (FP (.ListComp jj [⟨B,A,gG,0⟩] t cK) t c.aj (FT [⟨B,A,gG,0⟩] cK) (FU []) false (eval A c.aj) zg) R E s:=by
 refine NO (M:=[]) (L:=λC v K=>s9 c.w c.d nT B gG jj C v [] K) ok so cs lV aU (λc' w l D it C hs v K R s qF fC e f I' a g b hC gF=>?_) I tk gF
 rw[<-e,<-f] at hC
 exact X6 qF fC (l:=l) gF (n:=C.length) ⟨C,v,[],l,hs,rfl,FM.le.refl _,I',a,g,b,hC⟩
theorem aG.comp(ok:aW c)(so:bA U c){jj B A:ay}{gG:List ay}{t:jo}{cK:aV}{jk:List (Option Nat)}(cs:yd U t nT jk)(lV:∀x,qS A c.aj x=pure x){Q:AV->St->Prop}
  (aU:d8 c U.N h A B q λC d=>(∀o∈gO jk d.v,∀u,o=Y u->u.aq=true)/\
   s9 c.w c.d nT B gG jj C (gO jk d.v) [] λN=>Q (.l N) d):aG c U.N h (.ListComp jj [⟨B,A,gG,0⟩] t cK) q Q:=λJ as s R E I tk K=>by
 refine V (show aF c.M c.A (eval (.ListComp jj [⟨B,A,gG,0⟩] t cK) c.aj) R E s=aF c.M c.A (FP (.ListComp jj [⟨B,A,gG,0⟩] t cK) t c.aj (FT [⟨B,A,gG,0⟩] cK) (FU []) false<|eval A c.aj) R E s from rfl) ?_
 refine NP ok so cs lV aU I tk λψ aJ s' bB oC m v N d k p M D r rv hq=>(ah m r λg hs=>?_)
 refine K ψ aJ _ v (.l N) d k p ?_ rv hq
 exact M.qg (bW:=[]) (s':={s' with heap:=g}) D (λb o hb e=>(hs.2 b λav=>hb<|by simp[av]).trans e) (λp G=>nomatch G) (λp G=>nomatch G) rfl rfl
theorem bq.pA(ok:aW c)(so:bA U c){jj B A:ay}{gG:List ay}{t:jo}{cK a n:aV}{x:H}{i:Nat}{jk:List (Option Nat)}(cs:yd U t nT jk)(lV:∀x,qS A c.aj x=pure x){Q:Fw->St->Prop}
  (hsw:zF (.ListComp jj [⟨B,A,gG,0⟩] t cK) (Y<|.Name x n) a.line c.aj=pure true)(hN:U.N[i]?=Y x)(BI:U.mF x=true)
  (aU:d8 c U.N h A B q λC d=>(∀o∈gO jk d.v,∀u,o=Y u->u.aq=true)/\
   s9 c.w c.d nT B gG jj C (gO jk d.v) [] λN=>Q .nx<|d.jz i<|.d<|.list N):bq c U.N h (.Assign [.Name x n] (.ListComp jj [⟨B,A,gG,0⟩] t cK) a) q Q:=λJ as s R E I tk K=>by
 have e:l9 (.Assign [.Name x n] (.ListComp jj [⟨B,A,gG,0⟩] t cK) a) c.aj=(vF a>>=λ_=>zF (.ListComp jj [⟨B,A,gG,0⟩] t cK) (Y<|.Name x n) a.line c.aj>>=λb=>
   if b=true then(FP (.ListComp jj [⟨B,A,gG,0⟩] t cK) t c.aj (FT [⟨B,A,gG,0⟩] cK) (FU []) false (eval A c.aj) (Y λv=>UD v ((pY [.Name x n] c.aj).map (·.2)))>>=λ_=>pure ())>>=λ_=>pure .next
   else eval (.ListComp jj [⟨B,A,gG,0⟩] t cK) c.aj>>=λv=>vG [.Name x n] (.ListComp jj [⟨B,A,gG,0⟩] t cK) c.aj>>=λw=>akB c.aj v w ((pY [.Name x n] c.aj).map (·.2))):=rfl
 refine V e<|V hsw ?_
 refine aB<|kL<|aB<|bf ?_
 refine V (if_pos rfl) ?_
 refine aB<|aB<|NP (Q:=λu q=>match u with
  | .d (.list N)=>Q .nx<|q.jz i<|.d<|.list N
  |_=>False) ok so cs lV aU I tk λψ aJ s' bB oC m v N d k p M D r rv hq=>?_
 refine(pq.gz (h:=[(bB,oC)]++h) (K:=λf=>f=d.jz i (.d<|.list N)) rfl<|iM.name ok so hN BI rfl) ψ aJ s' _ E v M rv λfB iA j _ _ f y z l _ L=>?_
 subst L
 have hC:=l.jX (p:=(bB,oC)) (hs:=[(bB,oC)]) aZ
 have BE:=M.jX (p:=(bB,oC)) (hs:=[(bB,oC)]) aZ
 refine ah m (CQ r λo e=>by rw[BE] at e;cases e;exact hC) λg hs=>?_
 refine bf<|bf ?_
 refine(K.trans (k.trans y)<|p.trans z).now (b:=Fw.nx) (s:={j with heap:=g}) ?_ rfl hq
 exact l.qg (bW:=[]) (s':={j with heap:=g}) D (λb o hb e=>(hs.2 b λav=>hb<|by simp[av]).trans e) (λp G=>nomatch G) (λp G=>nomatch G) rfl rfl
end
theorem NQ{a:H->Option qR}{x:H}{v:aa}{l:List (H×aa)}{m:H->Option aa}(r:(l.map (·.1)).Nodup)(j:(x,v)∈l):(a x=Y .local->zI a l m x=Y v)/\(a x≠Y .local->uw a l m x=Y v):=by
 have c:∀{l:List (H×aa)} {m:H->Option aa},x∉l.map (·.1)->zI a l m x=m x/\uw a l m x=m x:=λ{l} {m} j=>by
  induction l generalizing m with
  |nil=>exact⟨rfl,rfl⟩
  |cons p l b=>
   have j:=not_or.mp λz=>j<|iX.mpr z
   have u (w:Option aa):(if x=p.1 then w else m x)=m x:=if_neg j.1
   refine V ((b j.2).1)<|V ((b j.2).2) ?_
   by_cases z:a p.1=Y .local
   ·(rewrite[if_pos z];refine V (if_pos z) ?_);exact⟨u _,rfl⟩
   ·(refine V (if_neg z) ?_;rw[if_neg z]);exact⟨rfl,u _⟩
 induction l generalizing m with
 |nil=>cases j
 |cons p l b=>
  have r:=lu.mp r
  rcases iX.mp j with rfl|j
  ·exact⟨λz=>by(refine V ((c r.1).1) ?_;rw[if_pos z]);exact if_pos rfl,λz=>by(refine V ((c r.1).2) ?_;rw[if_neg z]);exact if_pos rfl⟩
  ·exact⟨(b r.2 j).1,(b r.2 j).2⟩
theorem Hp{a:H->Option qR}{x:H}{v:aa}(R:a x=Y .local){l:List (H×aa)}{m:H->Option aa}(r:(l.map (·.1)).Nodup)(j:(x,v)∈l):zI a l m x=Y v:=(NQ r j).1 R
theorem NR{a:H->Option qR}{x:H}{v:aa}(R:a x≠Y .local){l:List (H×aa)}{m:H->Option aa}(r:(l.map (·.1)).Nodup)(j:(x,v)∈l):uw a l m x=Y v:=(NQ r j).2 R
theorem Ye{a:List H}{vs:List aa}{i:Nat}{x:H}{v:aa}(l:a[i]?=Y x)(hv:vs[i]?=Y v):(x,v)∈a.zip vs:=by
 refine m_ (i:=i) ?_
 rw[akC]
 exact⟨l,hv⟩
structure wj(q:kI)(U:Sc):Prop where
 nn:(q.scope.names.map (·.1)).Nodup
 yf:∀x∈U.N,U.names.lookup x=Y .local\/(U.names.lookup x=Y .cell/\(x,jR)∈q.scope.names)
 own:∀x∈U.own,(x,jR)∈q.scope.names
noncomputable def Ar(q:kI)(U:Sc):Bool:= !q.scope.isGenerator&&(q.closure.isEmpty&&(decide ((q.scope.names.map (·.1)).Nodup)&&(decide (∀x∈U.N,U.names.lookup x=Y .local\/(U.names.lookup x=Y .cell/\(x,jR)∈q.scope.names))&&decide (∀x∈U.own,(x,jR)∈q.scope.names))))
theorem yg(j:Ar q U=true):q.scope.isGenerator=false/\q.closure=[]/\wj q U:=by
 have j:=k8.mp j
 have g:=k8.mp j.2
 have k:=k8.mp g.2
 have l:=k8.mp k.2
 exact⟨by simpa using j.1,ajU.mp g.1,of_decide_eq_true k.1,of_decide_eq_true l.1,of_decide_eq_true l.2⟩
theorem wj.cell(d_:wj q U)(n:Nat)(l:(x,jR)∈q.scope.names):∃b,(x,b)∈jS n q.scope.names []/\(jS n q.scope.names []).lookup x=Y b:=by
 refine Ex (Ho (n:=n) l) λb j=>?_
 exact ah b j<|yb (C3 d_.nn _) j
theorem NS{w:aC}{A:cR}{J:FM}{s s':au}{G h:ao}{a:ak}{q:kI}{D:List bu}{U:Sc}{us:List AV}{g:List aa}{μ:List (Option AO)}{C:List ak}{d:Nat}{f:dw}{ahY:H}{ahZ:Option ak}{gU:aa}(F:fY a q D U)(d_:wj q U)
  (B:bz w J (G++h) s.heap)(r:(G.map (·.1)).Nodup)(BJ:∀p∈h,p.1∉G.map (·.1))(hl:μ.length=G.length)(hG:∀(i:Nat) (x:AO) (p:ak×bh),μ[i]?=Y (Y x)->G[i]?=Y p->gK J p.2 x)(t8:∀(i:Nat) (b:ak),C[i]?=Y b->(G.map (·.1))[i]?=Y b)
  (K:us.length<=U.N.length)(rs:b_ J (G.map (·.1)) g us)(m:f=FZ q.scope s.heap.objs.size q.globals (jS (s.heap.objs.size+1) q.scope.names []) ahY ahZ gU Z q.builtins)
  (IC:UP s f.locals (zI f.kindOf ((U.N.take us.length).zip g) λL=>Z) f.cells (uw f.kindOf ((U.N.take us.length).zip g) λL=>Z) s'):
  bA U ⟨w,A,f,f.cells,s.gens,s.os,d,C⟩/\aH ⟨w,A,f,f.cells,s.gens,s.os,d,C⟩ U.N h ⟨us.map Y++bV (U.N.length-us.length) Z,μ⟩ J (G.map (·.1)) s':=by
 refine cC IC.toInCall.same λhp SY e'=>?_;subst e'
 have n:f.locals=s.heap.objs.size:=by refine V m ?_;rfl
 have BK:f.cells=jS (s.heap.objs.size+1) q.scope.names []:=by refine V m ?_;rfl
 have SW:f.scope.names=U.names:=by refine V m ?_;exact F.names
 have hL:∀b o,s.heap.get? b=Y o->hp.get? b=Y o:=IC.toInCall.keep
 refine sV (id IC.toInCall.ns) λoL es ep EY rL=>?_
 have c:∀x b,(x,b)∈f.cells->s.heap.objs.size<b:=λx b l=>n▸IC.above x b l
 have Kw:∀x b,(x,b)∈f.cells->hp.IsCell b (uw f.kindOf ((U.N.take us.length).zip g) (λL=>Z) x):=λx b l=>IC.cell x b<|by rw[BK] at l ⊢;exact yb (C3 d_.nn _) l
 let k:ak->bh:=λb=>(hp.get? b).getD {cls:= .none}
 have E:∀x b,(x,b)∈f.cells->hp.get? b=Y (k b)/\(k b).data= .cell (uw f.kindOf ((U.N.take us.length).zip g) (λL=>Z) x):=λx b l=>by
  refine aD (Kw x b l) λo e j=>?_
  have z:k b=o:=by refine(?_:(hp.get? b).getD _=_);refine V e ?_;rfl
  exact⟨z▸e,z▸j⟩
 have I:∀{x b},(x,b)∈f.cells->(b,k b)∈((s.heap.objs.size,oL)::(f.cells.map (λp=>(p.2,k p.2))++(G++h)):ao):=λl=>a_ _<|iF _<|bg.mpr<|ah _ l rfl
 have mG:∀{p},p∈G++h->p∈((s.heap.objs.size,oL)::(f.cells.map (λp=>(p.2,k p.2))++(G++h)):ao):=λj=>a_ _<|gw _ j
 have jN:∀{p},p∈G++h->p.1<s.heap.objs.size:=λ{p} j=>B.mw (a:=p.1) (o:=p.2) j
 have M:∀{b},b∈G.map (·.1)->∃p∈G,p.1=b:=bg.mp
 have zj:∀{b},b∈f.cells.map (·.2)->∃x,(x,b)∈f.cells:=λj=>by
  obtain⟨⟨x,b'⟩,l,rfl⟩:=bg.mp j
  exact⟨x,l⟩
 have B':bz w J ((s.heap.objs.size,oL)::(f.cells.map (λp=>(p.2,k p.2))++(G++h))) hp:=by
  refine⟨λb o e=>hL _ _<|B.keep _ _ e,λp j=>?_,λp j=>?_,B.K⟩
  ·refine bN j ?_ λj=>?_
   ·exact n▸EY
   ·rcases cj.mp j with j|j
    ·obtain⟨⟨x,b⟩,l,rfl⟩:=bg.mp j
     exact(E x b l).1
    ·exact hL _ _<|B.led p j
  ·refine bN j ?_ λj=>?_
   ·exact B.fresh
   ·rcases cj.mp j with j|j
    ·obtain⟨⟨x,b⟩,l,rfl⟩:=bg.mp j
     cases z:J b with
     |none=>rfl
     |some o=>exact absurd (B.lt z)<|jn.mpr<|j7<|c x b l
    ·exact B.cU p j
 refine⟨⟨SW,F.nd,λx l=>BK▸d_.cell _ (d_.own x l)⟩,_,_,B',λp j=>mG<|gw _ j,λb t p j=>?_,?_,IC.toInCall.ns,⟨oL,n▸aZ⟩,λx b l=>⟨_,_,I l,(E x b l).2⟩,?_,λi x l=>?_,⟨(bC ..).trans hl.symm,t8⟩,λi x l=>?_,rfl,rfl,λb t=>?_⟩
 ·have t9:=jN (gw _ j)
  rcases iX.mp t with e|t
  ·refine V e (V (show Cx.L _=_ from n) ?_);exact gu t9
  ·rcases cj.mp t with t|t
   ·refine Ex (zj t) λx l=>?_
    exact gu<|Cp t9<|c x b l
   ·exact λe=>BJ p j<|e▸t
 ·refine lu.mpr ⟨λhm=>?_,zx.mpr<|bJ ?_ r λb t b' BN e=>?_⟩
  ·rw[show Cx.L _=_ from n] at hm
   rcases cj.mp hm with hm|hm
   ·refine Ex (zj hm) λx l=>?_
    exact zw _<|c x _ l
   ·refine aD (M hm) λp j e=>?_
    exact gu (jN<|iF _ j) e
  ·unfold UN
   rw[UO]
   exact IC.apart
  ·refine Ex (zj t) λx l=>?_
   refine aD (M BN) λp j z=>?_
   exact Nat.lt_asymm (c x b l)<|e▸z▸jN (iF _ j)
 ·skip
  exact V bQ<|V (bC ..)<|V sQ<|V (Nat.add_sub_of_le K) rfl
 ·have R:∀y,f.kindOf y=U.names.lookup y:=λy=>by unfold FO;exact V SW rfl
  have kH:∀u,((us.map Y++bV (U.N.length-us.length) Z)[i]?.join)=Y u->∃v,(x,v)∈(U.N.take us.length).zip g/\RV J (G.map (·.1)) v u:=λu hu=>by
   have hi:=X0 (N:=U.N) hu
   refine aD (rs.get hi) λv hv rv=>?_
   exact ah v (Ye (by refine V (List.getElem?_take_of_lt (fF.mp hi).1) ?_;exact l) hv) rv
  have SX:(((U.N.take us.length).zip g).map (·.1)).Nodup:=by
   refine V (List.map_fst_zip<|by refine V qV (V rs.length ?_);exact Cq _ _) ?_
   exact F.nd.sublist<|akD _ _
  rcases d_.yf x (m_ l) with z|⟨z,q'⟩
  ·exact .mz ((R x).trans z) λu hu=>(kH u hu).imp λv j=>⟨Hp ((R x).trans z) SX j.1,j.2⟩
  ·refine aD (d_.cell (s.heap.objs.size+1) q') λb Q oR=>?_
   rw[<-BK] at Q oR
   exact .own b _ _ ((R x).trans z) Q oR (I Q) (E x b Q).2 λu hu=>(kH u hu).imp λv j=>⟨NR (by refine V (R x) (V z ?_);decide) SX j.1,j.2⟩
 ·have hi:i<G.length:=hl▸(fF.mp l).1
  have e:G[i]?=Y G[i]:=fM hi
  exact⟨G[i].1,G[i].2,by refine V iW (V e ?_);rfl,mG<|iF _<|FY hi,hG i x _ l e⟩
 ·refine aD (M t) λp j e'=>?_;subst e'
  exact .inl ⟨p.2,mG<|iF _ j⟩
theorem enter{w:aC}{A:cR}{J:FM}{s:au}{G h:ao}{a:ak}{q:kI}{D:List bu}{U:Sc}{us:List AV}{args:List aa}{μ:List (Option AO)}{C:List ak}{k:Nat}{R:sN->au->Prop}(F:fY a q D U)(u:q.scope.isGenerator=false)(y:q.closure=[])(d_:wj q U)
  (hh:A.handled=Z)(N:A.depth+(k+1)<=900)(hu:A.units+8*(k+1)<=6000)(B:bz w J (G++h) s.heap)(r:(G.map (·.1)).Nodup)(BJ:∀p∈h,p.1∉G.map (·.1))(hl:μ.length=G.length)(hG:∀(i:Nat) (x:AO) (p:ak×bh),μ[i]?=Y (Y x)->G[i]?=Y p->gK J p.2 x)(t8:∀(i:Nat) (b:ak),C[i]?=Y b->(G.map (·.1))[i]?=Y b)
  (K:us.length<=U.N.length)(bind:∀(Q:List (H×aa)->au->Prop) E,(∀g t,b_ J (G.map (·.1)) g us->1<=t->Q ((U.N.take us.length).zip g) {s with toks:=t})->aF (aX pw w) A.in1 (sJ q ⟨args,[]⟩) Q E s)
  (v:∀(c:Cx) s',aW c->bA U c->c.w=w->c.d=k->c.fr=C->c.A=A.deeper c.aj->c.aj.frame=Y c.L->aH c U.N h ⟨us.map Y++bV (U.N.length-us.length) Z,μ⟩ J (G.map (·.1)) s'->0<s'.toks->c.g=s.gens->c.os=s.os->iY (aX pw w) A (.func D c.aj) R s'):iY (aX pw w) A (.call (.ref a) ⟨args,[]⟩) R s:=by
 refine aD (F.at w.params) λo ho j=>?_
 have X:=B.e7
 refine LV (by exact la 0x4b3e808180110e102042091860 [_,_] rfl N) (X _ _ ho) j F.co u F.body (LX X<|F.code _)<|bind _ _ λg t rs M=>?_
 refine V y ?_
 refine kK (n:=1) M<|akE F.kind (λx l=>?_) λf m s' IC tk=>?_
 ·rcases d_.yf x.1 (F0 (akF l).1) with z|⟨z,q'⟩
  ·exact .inl<|F.names▸z
  ·refine aD (d_.cell (s.heap.objs.size+1) q') λb L e=>?_
   exact .inr ⟨F.names▸z,by refine V e ?_;rfl⟩
 refine Ea (NS (s:={s with toks:=t}) (A:=A.deeper f) (d:=k) F d_ B r BJ hl hG t8 K rs m IC) λso I=>?_
 refine⟨wh I.e7,v _ s' ⟨hh,by exact la 0x4a38408109180110e102042091860 [_,_] rfl N,by exact la 0x4a05dc030424e004405dc030420c2461620 [_,_] rfl hu,⟨by exact la 0x4a3840810a109180110e102042091860 [_,_] rfl N,by exact la 0x4a05dc030420e16024e004405dc030420c2461620 [_,_] rfl hu⟩,?_,?_,?_⟩ so rfl rfl rfl rfl ?_ I tk rfl rfl⟩
 all_goals subst m
 ·exact F.kind
 ·exact F.kg
 ·exact F.blt
 ·rfl
theorem Yg{w:aC}{k:Nat}{a:ak}{q:kI}{D:List bu}{U:Sc}{us cP:List AV}{r:AV}(F:fY a q D U)(u:q.scope.isGenerator=false)(y:q.closure=[])(d_:wj q U)(t:i7 w q U.N us cP)(l:r.aq=true)(d:0<k)
  (j:∀(c:Cx) h,aW c->bA U c->c.w=w->c.d+1=k->dH c U.N h D (Hj U.N cP) (uP r)):Hl w k (.ref a) us r:=by
 intro A J h s R E vs hh N hu B rs tk K
 obtain⟨k,rfl⟩:∃n,k=n+1:=⟨k-1,(aY d).symm⟩
 refine enter (G:=[]) (μ:=[]) (C:=[]) F u y d_ hh N hu B uf (λL L j=>nomatch j) rfl (λL L L j=>nS j) (λL L j=>nS j) t.1 (λQ M hq=>kK (n:=1) tk<|t.2 A.in1 J h s _ _ vs B rs hq) λc s' ok so hw o L hA L I p hg ho=>zJ ?_
 subst hw
 have:=j c h ok so rfl (by exact V o rfl) J [] _ (λf s'=>∃v,(match f with| .ret v=>v|_=>ux)=v/\R v s') (λe s'=>aF c.M (A.deeper c.aj) (xq c.aj e) (λL g=>E e g) (λe' g=>E e' g) s') I p λi aJ s' f wf ez k' p' b x z=>?_
 ·rw[hA] at this
  exact cQ this (λf s' zz=>aD zz λv e hv=>by subst e;exact hv) λL L e=>e
 ·refine cC b λjO m b=>?_
  have Bx:bz c.w i h s'.heap:=b.base.sub b.sub
  rcases z with rfl|⟨rfl,rfl⟩
  ·refine aD x λv e' rv=>?_;clear x;subst e'
   exact ah v rfl<|K i s' v k' Bx (b.gens.trans hg) (b.os.trans ho)<|rv.aq l
  ·obtain rfl:f= .next:=x
   exact ah _ rfl<|K i s' .none k' Bx (b.gens.trans hg) (b.os.trans ho) RD.none
theorem pB(F:fY a q D U)(b:Ar q U=true)(t:i7 w q U.N us cP)(l:r.aq=true)(d:0<k)
  (j:∀(c:Cx) h,aW c->bA U c->c.w=w->c.d+1=k->dH c U.N h D (Hj U.N cP) (uP r)):iN w k (.ref a) us r:=(Yg F (yg b).1 (yg b).2.1 (yg b).2.2 t l d j).X3
section
variable {c:Cx} {N:List H} {h:ao} {q:St} {Q:AV->St->Prop}
theorem aG.nA{o:ay}{y z:H}{k1 A:Nat}{B C i e:aV}(M:lE o=true)(U:(i.endLine==e.line)=true)(D:(y==z)=false)
  (f:aG c N h o q λu a=>∃x,u= .s x/\x.length+(x.length+1)*z.length<=16777216/\Q (.s<|fP x y z) a):
  aG c N h (.Call (.Attribute o "replace" i) [.Constant (.str y) k1 B,.Constant (.str z) A C] [] e) q Q:=λJ as s R E I tk K=>by
 have hp:((iG e<|gi [.Constant (.str y) k1 B,.Constant (.str z) A C] c.aj).any (·.1))=false:=rfl
 refine Uv (x6 M) rfl U ake akh akm<|aN.bw f I tk λG L m v u a n p r l w d=>?_
 obtain⟨x,rfl,hb,d⟩:=d
 obtain⟨t⟩:=dG w
 refine⟨lZ _ _ _,(λ_ g=>nomatch g),LG hp ?_⟩
 have j:aF c.M c.A (sA<|iG e<|gi [.Constant (.str y) k1 B,.Constant (.str z) A C] c.aj) (λvs s'=>aF c.M c.A (f_ (.builtin "str.replace") ([.str x t]++vs) []) R E s') E m:=
  zA (zy<|zA<|zy<|Lo<|SC.replace (vJ l) (Nat.succ_ne_zero _) (gu<|lz _) D hb λt' k=>(K.trans n p).now (b:=AV.s<|fP x y z) (r.toks k) (i6 _ _) d)
 rw[n_ rfl] at j ⊢
 exact FG j
theorem NT{J:FM}(n:Nat)(a:List H):bD J (UQ n a) (a.map .str):=by
 induction a generalizing n with
 |nil=>
  exact .nil
 |cons y b d=>
  exact .cons (RD.str y n)<|d<|n+1
theorem Yh{x:H}(l:x.length<=aL)(n:(Cr x).length<=aL)(f:Q (.l<|(F1 x).map .str) q):PN c N h (.builtin "str.splitlines") [.s x] q Q:=λJ as s R E vs I tk d K=>by
 replace d:=cT d;obtain⟨v,i,m,d⟩:=d
 obtain rfl:=fS d
 obtain⟨t⟩:=dG m
 refine uh akk (lZ _ _ _) F.entry_str_splitlines (F.args_str_splitlines_1 _) (meets_str_splitlines x t l n) ?_
 unfold F1 at f
 split
 ·rename_i e
  rw[if_pos e] at f
  refine Ea (I.alloc (o:=eg #[.str x t] 0) rfl s.toks) λg j=>?_
  exact K _ as _ _ (.l [.str x]) _ g (bU.rfl' _) j (RD.list (FM.eZ _ _ _)<|.cons (RD.str x t) .nil) f
 ·rename_i e
  rw[if_neg e] at f
  refine Ea (I.alloc (o:=eg (UQ s.toks<|UR x).toArray 0) rfl<|s.toks+(Cr x).length) λg j=>?_
  exact K _ as _ _ (.l _) _ g (bU.rfl' _) j (RD.list (FM.eZ _ _ _)<|NT _ _) f
theorem Yi{x y:H}(r:(y.length==0)=false)(l:x.length<=aL)(n:(uy x (nW x y 0 x.length<|x.length+1) y.length).length<=aL)(f:Q (.l<|(xr x y).map .str) q):
  PN c N h (.builtin "str.split") [.s x,.s y] q Q:=λJ as s R E vs I tk d K=>by
 replace d:=cT d;obtain⟨v,i,m,d⟩:=d
 replace d:=cT d;obtain⟨w,i,p,d⟩:=d
 obtain rfl:=fS d
 obtain⟨t⟩:=dG m;obtain⟨u⟩:=dG p
 have a:∀_:xr x y=[x],listOfItself x t c.A (wants R E) s:=λe=>by
  rw[e] at f
  refine Ea (I.alloc (o:=eg #[.str x t] 0) rfl s.toks) λg j=>?_
  exact K _ as _ _ (.l [.str x]) _ g (bU.rfl' _) j (RD.list (FM.eZ _ _ _)<|.cons (RD.str x t) .nil) f
 cases k:(decide (x.length<y.length)||decide (F2 x<F2 y))
 ·cases b:(nW x y 0 x.length<|x.length+1).isEmpty
  ·refine uh LB (lZ _ _ _) US (UT _ _) (meets_str_split_sep x y t u k r b l n) ?_
   have e:xr x y=uy x (nW x y 0 x.length<|x.length+1) y.length:=(if_neg<|ne_true_of_eq_false k).trans<|if_neg<|ne_true_of_eq_false b
   rw[e] at f
   refine Ea (I.alloc (o:=eg (UQ s.toks<|uy x (nW x y 0 x.length<|x.length+1) y.length).toArray 0) rfl<|s.toks+(uy x (nW x y 0 x.length<|x.length+1) y.length).length) λg j=>?_
   exact K _ as _ _ (.l _) _ g (bU.rfl' _) j (RD.list (FM.eZ _ _ _)<|NT _ _) f
  ·exact uh LB (lZ _ _ _) US (UT _ _) (meets_str_split_not_found x y t u k r b)<|a<|(if_neg<|ne_true_of_eq_false k).trans<|if_pos b
 ·exact uh LB (lZ _ _ _) US (UT _ _) (meets_str_split_cannot_occur x y t u k)<|a<|if_pos k
theorem Yj{J:FM}{vs:List aa}{o:List Int}(f:bD J vs (o.map .int)):(∀v∈vs,∃a t,v= .int a t)/\numsOf vs=o:=by
 induction o generalizing vs with
 |nil=>cases M_ f;exact⟨(λ_ f=>nomatch f),rfl⟩
 |cons n o d=>
   obtain⟨v,vs,a,b⟩:=Wl f
   obtain⟨t⟩:=cL (as:=[]) (show RV J [] v (.i n) from a)
   refine Ea (d b) λk p=>?_
   refine⟨λv e=>?_,congrArg (n::·) p⟩
   refine bN e ?_ λe=>?_
   ·exact dU _ _ rfl
   ·exact k v e
theorem Yk(ok:aW c){o:List Int}{u:AV}(B:fJ q u=Y (o.map .int))(C:o≠[])(f:∀M,M∈o->(∀a∈o,a<=M)->Q (.i M) q):PN c N h (.builtin "max") [u] q Q:=λJ as s R E vs I tk d K=>by
 replace d:=cT d;obtain⟨v,i,m,d⟩:=d
 obtain rfl:=fS d
 obtain⟨a,vs,n,D,G⟩:=I.ai m B
 refine Ea (Yj G) λk p=>?_
 have g:AllInts vs:=λv e=>k v<|by simpa using e
 refine Ex g.items λxs w=>?_;clear k g;subst w
 rw[nums_intItems] at p
 have b:xs.size=o.length:=by exact az p<|V (bC ..)<|V fN rfl
 have l:0<o.length:=by clear f p b B;cases o with|nil=>exact absurd rfl C|cons _ _=>simp
 refine max_intList ok.hand (g8 _ D rfl _ rfl) (by exact la 0x4b810045850047860 [_,_] rfl b l) λv x r e y=>?_
 refine Ex (intItems_at e) λt w=>?_;clear e;subst w
 refine Ea (argBest_gt (numAt xs)<|xs.size-1) λL U=>?_
 refine K.now (I.s6 (s':=⟨x,s.gens,s.drawn,r,s.os⟩) y rfl rfl) (jW _ _)<|f _ ?_ λa z=>?_
 ·refine az p (V (numAt_eq ..) ?_);exact getD_mem<|by refine V (bC ..) (V fN ?_);exact la 0x4b8a0046882461044860 [_,_,_] rfl L<|aY<|la 0x4a811045850047860 [_,_] rfl b l
 ·rw[<-p] at z
  refine aD (mem_getD z) λj A w=>?_;clear z;subst w
  rw[bC,fN] at A
  refine az (numAt_eq ..) ?_;exact U j<|by(clear b;exact la 0x4a8a0047842462045860 [_,_,_] rfl A<|aY<|la 0x4a851045860 [_,_] rfl A)
theorem Yl(ok:aW c){a b:Int}(f:Q (.i (if b>a then b else a)) q):PN c N h (.builtin "max") [.i a,.i b] q Q:=λJ as s R E vs I tk d K=>by
 replace d:=cT d;obtain⟨v,i,m,d⟩:=d
 replace d:=cT d;obtain⟨w,i,p,d⟩:=d
 obtain rfl:=fS d
 obtain⟨t⟩:=cL m;obtain⟨u⟩:=cL p
 refine max_two_ints ok.hand λx r y=>?_
 have j:=I.s6 (s':=⟨x,s.gens,s.drawn,r,s.os⟩) y rfl rfl
 split
 ·rename_i g;rw[if_pos g] at f;exact K.now j (jW _ _) f
 ·rename_i g;rw[if_neg g] at f;exact K.now j (jW _ _) f
end
structure uR(C:ak)(name:H):Prop where
 ga:∀P,oX (K0 P) (.ref C) "__getattribute__"=Y (Y<|.builtin "object.__getattribute__")
 hd:∀P,UU (K0 P) C=true
 nm:∀P,oX (K0 P) (.ref C) name=Y Z
theorem yh(a:∀P,(oX (K0 P) (.ref C) "__getattribute__",UU (K0 P) C,oX (K0 P) (.ref C) name)=(Y<|Y<|.builtin "object.__getattribute__",true,Y Z)):uR C name:=⟨λP=>congrArg (·.1)<|a P,λP=>congrArg (·.2.1)<|a P,λP=>congrArg (·.2.2)<|a P⟩
theorem Ym:uR 111 "_wrapcolumn":=yh λP=>by kernel_rfl
theorem Yn:uR 111 "_tabsize":=yh λP=>by kernel_rfl
theorem Yo:uR 111 "_prefix":=yh λP=>by kernel_rfl
theorem Yp:uR 228 "norm":=yh λP=>by kernel_rfl
theorem Yq:uR 228 "nt":=yh λP=>by kernel_rfl
theorem Yr:uR 228 "raw":=yh λP=>by kernel_rfl
theorem C4(e:a.get? x=Y (lq C n))(g:a.get? n=Y b):W.InstAt a x (lq C n) C (Y b):=⟨e,rfl,rfl,g⟩
theorem yi(X:(K0 w.params).In s.heap)(d:uR C name)
  (e:s.heap.get? x=Y (lq C n))(g:s.heap.get? n=Y b)(k:vK name b=Y (Y v))(z:handedIn v=true)(a:Q v {s with toks:=s.toks+1}):
  aF (aX pw w) A (zL (.ref x) name f) Q E s:=
 get_value X (C4 e g) (d.ga _) (findObj_own (d.hd _) (d.nm _) rfl k) z a
theorem C5(r:RD J v d):handedIn v=true:=by cases r<;>rfl
theorem NU:∀{f:List eY} {L:List (H×af)} {d:af} (n:Nat),qc J f L->L.lookup name=Y d->∃v,vK name (jP f n)=Y (Y v)/\RD J v d:=by
 have j:∀{f:List eY} {L:List (H×af)} {d:af},qc J f L->L.lookup name=Y d->∃e,f.find? (·.key.isStr name)=Y e/\RD J e.val d:=by
  intro f L d a
  induction a with
  |nil=>intro e;cases e
  |cons l p o=>
   rename_i e f n x L
   refine Ea l λw s=>?_;clear l;refine Ex w λt u=>?_;clear w
   intro k
   rw[vH] at k
   have g:e.key.isStr name=(name==n):=by
    refine V u ?_
    refine(?_:(n==name)=(name==n))
    exact zM.mpr ⟨λb=>by simpa using(by simpa using b:n=name).symm,λb=>by simpa using(by simpa using b:name=n).symm⟩
   cases b:name==n with
   |true=>
    rw[b] at k g;cases k
    exact ah e (by exact V vL<|V g rfl) s
   |false=>
    rw[b] at k g
    refine aD (o k) λr i m=>?_
    exact ah r (by refine V vL (V g ?_);exact i) m
 intro f L d n a e
 refine aD (j a e) λr i m=>?_
 refine ah r.val ?_ m
 refine(?_:(match f.toArray.toList.find? (·.key.isStr name) with|some e=>_|none=>_)=_)
 exact V Cb<|V i rfl
theorem Ys{J:FM}{name:H}{f:List eY}{L:List (H×AV)}{d:AV}(n:Nat)(a:jy J f L)(e:L.lookup name=Y d):∃v,vK name (jP f n)=Y (Y v)/\RV J [] v d:=by
 have j:∃e,f.find? (·.key.isStr name)=Y e/\RV J [] e.val d:=by
  induction a with
  |nil=>cases e
  |cons l s p o=>
   rename_i r f n x L
   refine Ex l λt u=>?_;clear l
   rw[vH] at e
   have g:r.key.isStr name=(name==n):=by
    refine V u ?_
    refine(?_:(n==name)=(name==n))
    exact zM.mpr ⟨λb=>by simpa using(by simpa using b:n=name).symm,λb=>by simpa using(by simpa using b:name=n).symm⟩
   cases b:name==n with
   |true=>
    rw[b] at e g;cases e
    exact ah r (by exact V vL<|V g rfl) s
   |false=>
    rw[b] at e g
    refine aD (o e) λk i m=>?_
    exact ah k (by refine V vL (V g ?_);exact i) m
 refine aD j λr i m=>?_;clear j
 refine ah r.val ?_ m
 refine(?_:(match f.toArray.toList.find? (·.key.isStr name) with|some e=>_|none=>_)=_)
 exact V Cb<|V i rfl
section
variable {c:Cx} {N:List H} {h:ao} {q:St} {Q:AV->St->Prop}
theorem aG.oi(z:lE b=true)(a:aG c N h b q λu d=>P1 c N h RV (λv=>zL v e true) u d Q):aG c N h (.Attribute b e L) q Q:=λJ as s R E I tk K=>by
 refine(?_:aF c.M c.A (akn b e c.aj (eval b c.aj)>>=_) R E s)
 refine V (x6 z) ?_
 exact aB<|aN.bw a I tk λf g i v u d j k l A m n=>aB<|kL<|aB<|j9<|n f g i _ E v l m λB C G r w D o p t x y=>
  aB (wpAny_letTemporaryGo<|bf<|(K.trans (j.trans o)<|k.trans p).now t x y)
abbrev wk(c:Cx)(N:List H)(h:ao)(u:AV)(n:H)(q:St)(Q:AV->St->Prop):Prop:=P1 c N h RV (λv=>zL v n true) u q Q
theorem Yt(a:Q (.i k) q):wk c N h (.bF s k) "_wrapcolumn" q Q:=λJ as s R E u I j K=>by
 obtain⟨x,n,i,m,f,l,o,k1,p,r,v,w,G,y,z,t,rfl,e,g,d⟩:=j
 exact yi I.e7 Ym (I.keep _ _ e) (I.keep _ _ g) rfl rfl<|K.now (I.toks _) (jW _ _) a
theorem Yu(a:Q (.i s) q):wk c N h (.bF s k) "_tabsize" q Q:=λJ as s R E u I j K=>by
 obtain⟨x,n,i,m,f,l,o,k1,p,r,v,w,G,y,z,t,rfl,e,g,d⟩:=j
 exact yi I.e7 Yn (I.keep _ _ e) (I.keep _ _ g) rfl rfl<|K.now (I.toks _) (jW _ _) a
theorem Yv(a:Q (.l [.str "old_",.str "new_"]) q):wk c N h (.bF s k) "_prefix" q Q:=λJ as s R E u I j K=>by
 obtain⟨x,n,i,m,f,l,o,k1,p,r,v,w,G,y,z,t,rfl,e,g,d⟩:=j
 exact yi I.e7 Yo (I.keep _ _ e) (I.keep _ _ g) rfl (C5 d)<|K.now (b:=AV.l [.str "old_",.str "new_"]) (I.toks _) d a
theorem Yw{i:List Int}{b m:Int}(a:Q (.t [.tuple (i.map .int),.int b]) q):wk c N h (.ws i b m) "norm" q Q:=λJ as s R E u I j K=>by
 obtain⟨x,n,f,t,o,r,w,rfl,e,g,l⟩:=j
 refine aD (NU t l (name:="norm") (d:= .tuple [.tuple (i.map .int),.int b])<|by kernel_rfl) λv k p=>?_
 exact yi I.e7 Yp (I.keep _ _ e) (I.keep _ _ g) k (C5 p)<|K.now (b:=AV.t [.tuple (i.map .int),.int b]) (I.toks _) p a
theorem Yx{i:List Int}{b m:Int}(a:Q (.i m) q):wk c N h (.ws i b m) "nt" q Q:=λJ as s R E u I j K=>by
 obtain⟨x,n,f,t,o,r,w,rfl,e,g,l⟩:=j
 refine aD (NU t l (name:="nt") (d:= .int m)<|by kernel_rfl) λv k p=>?_
 exact yi I.e7 Yq (I.keep _ _ e) (I.keep _ _ g) k (C5 p)<|K.now (b:=AV.i m) (I.toks _) p a
theorem Yy{i:Nat}{L:List (H×AV)}{d:af}(A:q.μ[i]?=Y (Y<|.gJ 228 L))(B:L.lookup ("raw":H)=Y (.d d))(a:Q (.d d) q):wk c N h (.gA i 228) "raw" q Q:=λJ as s R E u I j K=>by
 refine o9 j λx n ha r e=>?_;clear j;subst r
 have w:=I.keep _ _ e
 have g:=I.e7
 refine cC (id I) λC m y=>?_
 obtain⟨G,o,z,D,f,t,rfl,l⟩:=y.ff _ _ A
 rw[ha] at z;cases z
 refine aD (Ys t l B) λv k p=>?_
 exact yi g Yr w (y.base.get D) k (C5 p)<|K.now (b:=AV.d d) (I.toks _) p a
end
structure mH(C:ak)(name:H):Prop where
 sa:∀P,oX (K0 P) (.ref C) "__setattr__"=Y (Y<|.builtin "object.__setattr__")
 po:∀P,plainOver (K0 P) C=true
 tk:∀P,takerIn (K0 P) C name=Y Z
 hd:∀P,(clsIn (K0 P) C).any (·.hasDict)=true
theorem rH{C:ak}{name:H}(k:∀P,(oX (K0 P) (.ref C) "__setattr__",plainOver (K0 P) C,takerIn (K0 P) C name,(clsIn (K0 P) C).any (·.hasDict))=(Y<|Y<|.builtin "object.__setattr__",true,Y Z,true)):mH C name:=⟨λP=>congrArg (·.1)<|k P,λP=>congrArg (·.2.1)<|k P,λP=>congrArg (·.2.2.1)<|k P,λP=>congrArg (·.2.2.2)<|k P⟩
theorem Yz{J:FM}{name:H}{d:List eY}{L:List (H×AV)}(k:jy J d L)(e:L.lookup name=Z):d.find? (·.key.isStr name)=Z/\d.any (·.refKey)=false:=by
 induction k with
 |nil=>exact⟨rfl,rfl⟩
 |cons G l j f=>
  rename_i U d n x L
  refine Ex G λt b=>?_;clear G
  rw[vH] at e
  have g:U.key.isStr name=(name==n):=by
   refine V b ?_
   show(n==name)=(name==n)
   exact zM.mpr ⟨λa=>by simpa using(by simpa using a:n=name).symm,λa=>by simpa using(by simpa using a:name=n).symm⟩
  cases a:name==n with
  |true=>rw[a] at e;cases e
  |false=>
   rw[a] at e g
   refine Ea (f e) λh1 i=>?_
   refine⟨by refine V vL (V g ?_);exact h1,?_⟩
   refine V akG<|V i<|V (LY ..) ?_
   unfold akH
   exact V b rfl
theorem YA(k:d.find? (·.key.isStr name)=Z):putL name p j v d=d++[⟨p,j,v⟩]:=by
 induction d with
 |nil=>rfl
 |cons e r f=>
  rw[vL] at k
  unfold putL
  cases a:e.key.isStr name with
  |true=>rw[a] at k;cases k
  |false=>
   rw[a] at k
   simp only[ly,if_false]
   refine V (f k) ?_;rfl
theorem YB(X:(K0 w.params).In s.heap)(M:mH C name)
  (hx:s.heap.get? x=Y (lq C l))(f:s.heap.get? l=Y (jP d n))(hf:d.find? (·.key.isStr name)=Z)(j:d.any (·.refKey)=false)(hz:d.length<=900)
  (k:∀p t t' n' h',pS l s.heap h'->h'.get? l=Y (jP (d++[⟨p,.str name t,v⟩]) n')->Q () {s with heap:=h',toks:=t'}):aF (aX pw w) A (setAttr (.ref x) name v) Q E s:=by
 obtain⟨m,g,o,t,os⟩:=s
 dsimp only at X hx f k
 have I:=C4 hx f
 refine set_plain X I (M.sa _)<|
  osa_open (s:=⟨m,g,o,t+1,os⟩) X I (M.po _) (M.tk _) λb=>
  aD (any_some<|M.hd w.params) λu r i=>?_
 have D:(m.update l<|akI name (Fp w.params name) (.str name<|t+1) v).get? l=Y (jP (d++[⟨Fp w.params name,.str name<|t+1,v⟩])<|putN name d n):=by
  have e:akI name (Fp w.params name) (.str name<|t+1) v (jP d n)=jP (d++[⟨Fp w.params name,.str name<|t+1,v⟩]) (putN name d n):=by exact V (putName_dict ..)<|V (YA hf) rfl
  exact V (zN _ f<|by refine V e ?_;rfl)<|V e rfl
 refine aB<|bf<|aB<|aB<|akJ hx<|aB<|(looks_clsIn X r).here<|
  V i (
  bf (a:=Y l) (aB<|bf<|aB ?_))
 unfold nsSet
 refine aB<|aB<|akK<|bf<|aB<|wpAny_mkText<|aB<|akJ f ?_
 have c:(!d.toArray.any (·.key.isStr name)&&d.toArray.any (·.refKey))=false:=by
  exact az F3<|az F3<|V Cb<|V j<|V (akL ..) rfl
 dsimp only
 refine V (aRefKeyMayBeTheName_at ..)<|V c<|
  wpAny_updatePart f ?_
 refine aB<|wpAny_lookBehind D (pastItsLine_dict<|by refine V akM (V bI<|V bQ ?_);simp;exact aK) ?_
 exact bf<|k _ _ _ _ _ (sC ..) D
theorem jy.length{J:FM}{d:List eY}{L:List (H×AV)}(k:jy J d L):d.length=L.length:=by
 induction k with
 |nil=>rfl
 |cons _ _ _ f=>exact V cX<|V cX<|V f rfl
theorem jy.Ai{J:FM}{d:List eY}{L:List (H×AV)}{e:eY}{n:H}{u:AV}(k:jy J d L)(g:∃t,e.key= .str n t)(r:RV J [] e.val u):jy J (d++[e]) (L++[(n,u)]):=by
 induction k with
 |nil=>exact .cons g r .nil
 |cons a b _ f=>exact .cons a b f
section
variable {c:Cx} {N:List H} {h:ao} {q:St}
theorem bq.oj{o e:ay}{a:H}{ap cK:aV}{Q:Fw->St->Prop}(h1:q_ e=true)
  (k:aG c N h e q λw n=>aG c N h o n λu f=>∃i C L,u= .gA i C/\f.μ[i]?=Y (Y<|.gJ C L)/\mH C a/\L.lookup a=Z/\L.length<=900/\w.aq=true/\Q .nx (f.fR i<|.gJ C<|L++[(a,w)])):
  bq c N h (.Assign [.Attribute o a ap] e cK) q Q:=λJ as s R E I tk K=>by
 refine plainObj_wpAny_Assign_Attribute (aN.bw k I tk λjl iU jJ v w n j3 gr jK B jL k6=>aN.bw k6 jK B λD iA dJ b u f r z g dY A j=>?_)<|uO h1
 refine uG j λi C L U hi M hf qE=>?_;clear j;subst U;refine gy qE λhz hw j=>?_;clear qE
 refine o9 A λx l ha U hx=>?_;clear A;subst U
 have rw':RV D [] v w:=(jL.le r.C z).aq hw
 have X:=g.e7
 have w9:=g.keep _ _ hx
 refine cC (id g) λjO m eX=>?_
 obtain⟨a',o',e1,e2,d,n1,rfl,G⟩:=eX.ff _ _ hi
 rw[ha] at e1;cases e1
 refine Ea (Yz G hf) λq1 q2=>?_
 refine YB X M w9 (eX.base.get e2) q1 q2 (V G.length hz) λp t t' n' h' hs ho=>?_
 exact(K.trans (j3.trans r)<|gr.trans z).now (b:=Fw.nx) (g.v8 (y:= .gJ C<|L++[(a,w)]) hi ha hs ho (iI _ _ rfl<|G.Ai ⟨_,rfl⟩ rw') t') rfl j
end
structure C6(C f:ak):Prop where
 YC:∀P,makesIn (K0 P) C=true
 init:∀P,oX (K0 P) (.ref C) "__init__"=Y (Y<|.ref f)
 fn:∀P,LZ (K0 P) (.ref f)=Y (.type "function")
theorem NV{C f:ak}(k:∀P,(makesIn (K0 P) C,oX (K0 P) (.ref C) "__init__",LZ (K0 P)<|.ref f)=(true,Y<|Y<|.ref f,Y<|.type "function")):C6 C f:=⟨λP=>congrArg (·.1)<|k P,λP=>congrArg (·.2.1)<|k P,λP=>congrArg (·.2.2)<|k P⟩
def yj(w:aC)(k:Nat)(C:ak)(us:List AV)(L:List (H×AV)):Prop:=
 ∀(A:cR) (J:FM) (h:ao) (s:au) (R:aa->au->Prop) (E:aa->au->Prop) (vs:List aa),A.handled=Z->A.depth+k<=900->A.units+8*k<=6000->
  bz w J h s.heap->b_ J [] vs us->0<s.toks->
  (∀a s' x l d n,FM.le J a->a x=Y (lq C l)->bz w a ((l,jP d n)::h) s'.heap->(∀p∈h,p.1≠l)->s.heap.objs.size<=l->jy a d L->s'.gens=s.gens->s'.os=s.os->R (.ref x) s')->aF (aX pw w) A (f_ (.ref C) vs) R E s
def C7(w:aC)(fd:kI)(N:List H)(us cP:List AV):Prop:=
 cP.length+1<=N.length/\∀(A:cR) (J:FM) (h:ao) (s:au) (Q:List (H×aa)->au->Prop) (E:aa->au->Prop) (x:aa) (g:List aa),bz w J h s.heap->b_ J [] g us->
  (∀l t,b_ J [] l cP->Q ((N.take<|cP.length+1).zip (x::l)) {s with toks:=t})->aF (aX pw w) A (sJ fd ⟨x::g,[]⟩) Q E s
noncomputable abbrev YD(N:List H)(q:ak)(us:List AV):St:=⟨Y (.gA 0 q)::(us.map Y++bV (N.length-(us.length+1)) Z),[Y (.gJ q [])]⟩
theorem NW{w:aC}{k:Nat}{q f:ak}{fd:kI}{D:List bu}{U:Sc}{us cP:List AV}{L:List (H×AV)}(KJ:C6 q f)(F:fY f fd D U)(hf:Ar fd U=true)
  (hb:C7 w fd U.N us cP)(BO:2<=k)
  (aU:∀(c:Cx) h,aW c->bA U c->c.w=w->c.d+2=k->dH c U.N h D (YD U.N q cP) (λg ez=>g= .nx/\ez.μ[0]?=Y (Y<|.gJ q L))):yj w k q us L:=by
 obtain⟨BP,t_,d_⟩:=yg hf
 intro A J h s R E vs hh hd hu B rs tk K
 have X:=B.e7
 obtain⟨d,g,dr,t0,os⟩:=s
 dsimp only at B X tk K
 refine sM<|make_core (makes_of X<|KJ.YC _) (looks_findIn X<|KJ.init _) (λx=>bind_fn X x<|KJ.fn _) (.inl rfl) ?_
 have k1:∀b o,d.get? b=Y o->((d.push F4).push<|lq q d.objs.size).get? b=Y o:=λb o e=>ie _<|ie _ e
 have hdx:((d.push F4).push<|lq q d.objs.size).get? d.objs.size=Y (jP [] 0):=ie _<|qM _ rfl
 have ah1:(d.push F4).objs.size=d.objs.size+1:=sO ..
 have hx:((d.push F4).push<|lq q d.objs.size).get? (d.objs.size+1)=Y (lq q d.objs.size):=by
  refine az ah1 ?_;exact qM _ rfl
 let H':=(d.push F4).push<|lq q d.objs.size
 let y:FM:=J.cY (d.objs.size+1)<|lq q d.objs.size
 have ah2:J (d.objs.size+1)=Z:=by
  cases N:J (d.objs.size+1) with
  |none=>rfl
  |some o=>exact absurd (B.lt N)<|jn.mpr<|sH _
 have KI:FM.le J y:=FM.iZ ah2
 have ah3:y d.objs.size=Z:=by
  refine(?_:(if d.objs.size=d.objs.size+1 then _ else J d.objs.size)=Z)
  refine V (if_neg<|gu<|lz _) ?_;exact B.fresh
 have B0:bz w y ((d.objs.size,jP [] 0)::h) H':=by
  refine⟨λb o e=>?_,λp j=>?_,λp j=>?_,λb o e=>KI _ _<|B.K _ _ e⟩
  ·have e:(if b=d.objs.size+1 then Y (lq q d.objs.size) else J b)=Y o:=e
   split at e
   ·rename_i N;cases e;clear e;refine V N ?_;exact hx
   ·exact k1 _ _<|B.keep _ _ e
  ·refine bN j ?_ λj=>?_
   ·exact hdx
   ·exact k1 _ _<|B.led p j
  ·refine bN j ?_ λj=>?_
   ·exact ah3
   ·refine(?_:(if p.1=d.objs.size+1 then _ else J p.1)=Z)
    have:=B.mw (a:=p.1) (o:=p.2) j
    refine V (if_neg<|gu<|akN this) ?_;exact B.cU p j
 have u:∀p∈h,p.1≠d.objs.size:=λp j=>gu<|B.mw (a:=p.1) (o:=p.2) j
 let A1:cR:=A.under<|.builtin "type.__call__" ⟨.ref q::vs,[]⟩
 have a1:A1.handled=Z:=hh
 have a2:A1.depth=A.depth+1:=rfl
 have a3:A1.units=A.units+1:=rfl
 obtain⟨k,rfl⟩:∃n,k=n+2:=⟨k-2,(aY BO).symm⟩
 refine enter (A:=A1) (s:=⟨H',g,dr,t0,os⟩) (G:=[(d.objs.size,jP [] 0)]) (μ:=[Y (.gJ q [])]) (C:=[]) (us:= .gA 0 q::cP) (k:=k) F BP t_ d_ a1 (by refine V a2 ?_;exact la 0x4a38408108246109180110e102042092860 [_,_] rfl hd) (by refine V a3 ?_;exact la 0x4a05dc030420c246160246004405dc030420c24a1620 [_,_] rfl hu) B0 (lu.mpr ⟨lW,uf⟩) (λN hq e=>u N hq<|bH.mp e) rfl (λi z N e aU=>?_) (λ_ _ aU=>nS aU) hb.1
  (λQ M hq=>kK (n:=1) tk<|hb.2 A1.in1 y _ ⟨H',g,dr,t0,os⟩ _ _ (.ref<|d.objs.size+1) vs B0 (rs.le KI.C<|bU.rfl' _) λl t rs' ht=>hq (.ref (d.objs.size+1)::l) t ⟨(gx _ _ rfl rfl<|FM.eZ J _ _),rs'.le (FM.le.refl y).C λi a e=>nS e⟩ ht) λc s' ok so hw qG KL hA hf I fW hg ho=>zJ ?_
 ·cases i with
  |zero=>cases e;cases aU;exact iI [] 0 rfl .nil
  |succ i=>exact nS e
 subst hw
 have:=aU c h ok so rfl (by exact V qG rfl) y [d.objs.size] _ (λf s'=>f= .next/\R (.ref<|d.objs.size+1) s') (λe s'=>aF c.M (A1.deeper c.aj) (xq c.aj e) (λ_ w_=>InitBack (d.objs.size+1) (λr s'=>match r with| .ok (.ret v)=>R v s'| .ok _=>False| .error e=>E e s') (.error e) w_) (λe' w_=>InitBack (d.objs.size+1) (λr s'=>match r with| .ok (.ret v)=>R v s'| .ok _=>False| .error e=>E e s') (.error e') w_) s') I fW λcN aJ s' gf wf ez k' p' I' rf N=>?_
 ·rw[hA] at this
  exact cQ this (λgf s' ⟨e,hv⟩=>by refine V e ?_;exact⟨rfl,hv⟩) λ_ _ e=>e
 ·refine Ea N λe' jM=>?_;clear N;subst e'
  obtain rfl:gf= .next:=rf
  refine⟨rfl,?_⟩
  refine cC I' λjO m I'=>?_
  obtain⟨dx,od,e1,e2,es',n',rfl,he⟩:=I'.ff 0 _ jM
  have e3:=p' 0 _ rfl
  rw[e3] at e1;cases e1
  exact K cN s' (d.objs.size+1) d.objs.size es' n' (KI.trans k') (k' _ _<|FM.eZ J _ _) (I'.base.sub λp j=>by
   refine bN j ?_ λj=>?_
   ·exact e2
   ·exact I'.sub p j) u (bM _) he (I'.gens.trans hg)<|I'.os.trans ho
structure kT(C:ak)(name:H)(f:ak):Prop where
 ga:∀P,oX (K0 P) (.ref C) "__getattribute__"=Y (Y<|.builtin "object.__getattribute__")
 gt:∀P,oX (K0 P) (.ref C) "__getattr__"=Y Z
 nm:∀P,oX (K0 P) (.ref C) name=Y (Y<|.ref f)
 fn:∀P,LZ (K0 P) (.ref f)=Y (.type "function")
 keep:∀P,Cf (K0 P) (.ref f)=true
theorem yk(i:∀P,(oX (K0 P) (.ref C) "__getattribute__",oX (K0 P) (.ref C) "__getattr__",oX (K0 P) (.ref C) name,LZ (K0 P)<|.ref f,Cf (K0 P)<|.ref f)=(Y<|Y<|.builtin "object.__getattribute__",Y Z,Y<|Y<|.ref f,Y<|.type "function",true)):kT C name f:=⟨λP=>congrArg (·.1)<|i P,λP=>congrArg (·.2.1)<|i P,λP=>congrArg (·.2.2.1)<|i P,λP=>congrArg (·.2.2.2.1)<|i P,λP=>congrArg (·.2.2.2.2)<|i P⟩
noncomputable def mJ:AV->Option ak
 | .bF _ _=>Y 111
 | .ws _ _ _=>Y 228
 |_=>Z
noncomputable def rI(name:H):Bool:= !(["_tabsize","_wrapcolumn","_linejunk","_charjunk","_prefix","raw","n","nt","norm","is_simple"]:List H).contains name
theorem YE{J:FM}{name:H}{d:List eY}{L:List (H×af)}(n:Nat)(i:qc J d L)(e:L.lookup name=Z):vK name (jP d n)=Y Z:=by
 have j:d.find? (·.key.isStr name)=Z/\d.any (·.refKey)=false:=by
  induction i with
  |nil=>exact⟨rfl,rfl⟩
  |cons f p o=>
   rename_i e' d n x L
   refine Ea f λa r=>?_;clear f;refine Ex a λt g=>?_;clear a
   rw[vH] at e
   have k:e'.key.isStr name=(name==n):=by
    refine V g ?_
    refine(?_:(n==name)=(name==n))
    exact zM.mpr ⟨λb=>by simpa using(by simpa using b:n=name).symm,λb=>by simpa using(by simpa using b:name=n).symm⟩
   cases b:name==n with
   |true=>rw[b] at e;cases e
   |false=>
    rw[b] at e k
    refine Ea (o e) λl m=>?_
    refine⟨by refine V vL (V k ?_);exact l,?_⟩
    refine V akG<|V m<|V (LY ..) ?_
    unfold akH
    exact V g rfl
 refine(?_:(match d.toArray.toList.find? (·.key.isStr name) with|some e=>_|none=>_)=_)
 refine V Cb<|V j.1 ?_
 refine(?_:(if d.toArray.toList.any (·.refKey)=true then Z else Y Z)=Y Z)
 refine V Cb (V j.2 ?_);rfl
section
variable {c:Cx} {N:List H} {h:ao} {q:St}
theorem NX{J:FM}{as:List ak}{s:au}(I:aH c N h q J as s){v:aa}{u:AV}{C:ak}(hu:mJ u=Y C)(r:RV J as v u){name:H}(B:rI name=true):
  ∃x U od,v= .ref x/\W.InstAt s.heap x (lq C U) C (Y od)/\shadowIn (Y od) name=Y false:=by
 have a:∀y∈(["_tabsize","_wrapcolumn","_linejunk","_charjunk","_prefix","raw","n","nt","norm","is_simple"]:List H),(y==name)=false:=λy g=>by
  rw[beq_eq_false_iff_ne];intro b;subst b
  unfold rI at B
  rw[Fz] at B
  exact absurd (F5.mpr g)<|by refine V B ?_;decide
 cases u with
 |bF=>
  cases hu
  obtain⟨x,U,l,m,n,o,p,k1,t,w,z,A,G,D,E,i,rfl,hx,j,hp⟩:=r
  refine z3 x U _ rfl (C4 (I.keep _ _ hx)<|I.keep _ _ j) ?_
  unfold shadowIn vK
  simp only[vL,Value.isStr]
  refine V (a "_tabsize"<|by simp)<|V (a "_wrapcolumn"<|by simp)<|V (a "_linejunk"<|by simp)<|V (a "_charjunk"<|by simp)<|V (a "_prefix"<|by simp) ?_
  rfl
 |ws=>
  cases hu
  obtain⟨x,U,d,i,k,K,L,rfl,hx,j,f⟩:=r
  refine z3 x U _ rfl (C4 (I.keep _ _ hx)<|I.keep _ _ j) ?_
  refine(?_:aj7 (λx=>x.isSome) (vK name<|jP d i)=Y false)
  have e:∀y∈(["_tabsize","_wrapcolumn","_linejunk","_charjunk","_prefix","raw","n","nt","norm","is_simple"]:List H),(name==y)=false:=λy g=>by
   have:=a y g
   rw[beq_eq_false_iff_ne] at this ⊢;exact λb=>this b.symm
  refine V (YE i f<|by
   simp only[vH]
   refine V (e "raw"<|by simp)<|V (e "n"<|by simp)<|V (e "nt"<|by simp)<|V (e "norm"<|by simp)<|V (e "is_simple"<|by simp) ?_
   rfl) ?_
  rfl
 |_=>exact nS hu
theorem C8{o:ay}{d:List ay}{name:H}{f C:ak}{g b:aV}{Q:List AV->St->Prop}(D:kT C name f)(B:rI name=true)(ho:lE o=true)(hs:ny d=true)(hl:(g.endLine==b.line)=true)
  (i:aG c N h o q λu e=>mJ u=Y C/\dD c N h d e λus a=>Q (u::us) a){J:FM}{as:List ak}{s:au}{R E:aa->au->Prop}(I:aH c N h q J as s)(tk:0<s.toks)
  (K:∀G aJ s' vs us ez,FM.le J G->bU as aJ->aH c N h ez G aJ s'->0<s'.toks->b_ G aJ vs us->Q us ez->aF c.M c.A (f_ (.ref f) vs) R E s'):
  aF c.M c.A (eval (.Call (.Attribute o name g) d [] b) c.aj) R E s:=by
 simp only[ny,jQ,l6,decide_eq_true_eq] at hs
 have hp:((iG b<|gi d c.aj).any (·.1))=false:=s7 hs.1
 have ah7:((iG b<|gi d c.aj).all λx=> !x.1)=true:=by
  rw[l6];intro x hx
  have:=LD.mp hp x hx
  simpa using this
 have L:UW (d.length+([]:List Ud).length) (iG b<|gi d c.aj) (FH b<|Uu [] c.aj)=true:=by
  unfold UW
  refine V ah7 ?_
  simp only[G5,FH,j_,List.all_nil,l7,List.isEmpty_nil,if_true,oW,Uw,decide_eq_true_eq]
  exact hs.2
 have zk:L0 true o c.aj g b=pure b:=by unfold L0;simp[hl]
 refine V (akO ..)<|V (x6 ho) ?_
 refine aB<|aN.bw i I tk λjl iU jJ v u e j3 gr r M A t=>?_
 refine Ea t λhu t=>?_
 refine vQ (NX r hu A B) λx U od e' ia sh=>?_;subst e'
 refine aB<|kL ?_
 unfold methodCall
 refine V L ?_
 refine aB<|j9<|method_fn r.e7 ia (D.ga _) (D.gt _) (D.nm _) (D.fn _) sh ?_
 refine aB<|gH zk ?_
 exact LI (P:=λi=>(K0 c.w.params).In i) (by refine V hp ?_;rfl) (λi X=>keeps_K (D.keep _) i X)<|s8 hs.1 t r M λj k w vs us a m n p l y z=>
  ⟨p.e7,K j k w (.ref x::vs) (u::us) a (j3.trans m) (gr.trans n) p l ⟨A.le m.C n,y⟩ z⟩
theorem aG.own(D:kT C name f)(B:rI name=true)(ho:lE o=true)(hs:ny d=true)(hl:(g.endLine==b.line)=true)
  (i:aG c N h o q λu e=>mJ u=Y C/\dD c N h d e λus a=>PN c N h (.ref f) (u::us) a Q):
  aG c N h (.Call (.Attribute o name g) d [] b) q Q:=λJ as s R E I tk K=>
 C8 (Q:=λus a=>PN c N h (.ref f) us a Q) D B ho hs hl i I tk λj k w vs us a m n p l y z=>z j k w R E vs p l y<|K.trans m n
end
theorem YF{w:aC}{k:Nat}{C:ak}{us:List AV}{L:List (H×AV)}{r:AV}(v:yj w k C us L)
  (Q:∀(J:FM) x e f n,J x=Y (lq C e)->J e=Y (jP f n)->jy J f L->RV J [] (.ref x) r):iN w k (.ref C) us r:=by
 intro A J h s R E vs hh hd hu B y tk K
 refine v A J h s R E vs hh hd hu B y tk λd s' x e f n u z j l g G M U=>?_
 have b:=j.cU _ aZ
 have B2:=(j.Ag (a:=e) (o:=jP f n) aZ).sub (D:=h) λp i=>jq.mpr ⟨a_ _ i,by simpa using l p i⟩
 have I:FM.le d (d.cY e<|jP f n):=FM.iZ b
 exact K _ s' (.ref x) (u.trans I) B2 M U<|Q _ x e f n (I _ _ z) (FM.eZ _ _ _)<|G.le I.C
section
variable {c:Cx} {N:List H} {h:ao} {q:St} {J:FM} {as:List ak} {t:ao} {m:H->Option aa} {s:au}
theorem YG(ok:aW c){k:Nat}{C:ak}{us:List AV}{L:List (H×AV)}{Q:AV->St->Prop}(w:k<=c.d)(v:yj c.w k C us L)(A:us.all AV.aq=true)(B:Q (.gA q.μ.length C) (q.pn<|.gJ C L)):
  PN c N h (.ref C) us q Q:=λJ as s R E vs I tk y K=>by
 have a:=I.Hi
 refine cC I λt m I=>?_
 have o:=I.Ng
 have b:=ok.iK
 refine v c.A J t s R E vs ok.hand (by exact la 0x4a3840810a088110e102042862044860 [_,_,_] rfl w b.1) (by exact la 0x4a05dc030420e062204405dc030420e1622204860 [_,_,_] rfl w b.2) I.base (y.aq A) tk λd s' x e f n u z j l g G M U=>?_
 have r:as.length=q.μ.length:=I.gj.1
 have D:aH c N h (q.pn<|.gJ C L) d (as++[e]) s':=(dU _ _<|(I.frame u (j.sub λp i=>a_ _ i) M U).Ni (x:= .gJ C L) j (λav=>absurd (o _ av)<|jn.mpr g) (λp i=>gu<|FW (a p i) g) (iI f n rfl G) rfl)
 exact K d (as++[e]) s' (.ref x) (.gA q.μ.length C) _ u (bU.Ai _ _) D (gx x e (by refine az r (V (kJ<|bM _) ?_);simp) rfl z) B
end
section
variable {c:Cx} {N:List H} {h:ao} {q:St} {Q:AV->St->Prop}
theorem YH(i:uK f l):(match l.lookup x with|some z=>∃t,UX f x=Y (.str z t)|none=>UX f x=Z):=by
 induction i with
 |nil=>rfl
 |@cons k y t f l i g=>
  unfold UX at g ⊢
  refine V vH<|V vL ?_
  by_cases a:x=k
  ·subst a;simp
  ·have A:(x==k)=false:=by simpa using a
   have m:decide ((k,LK y t).1=x)=false:=by simpa using λi=>a i.symm
   exact V A<|V m
    g
theorem YI(i:Q (.d (match l.lookup x with|some z=> .str z|none=>y)) q):PN c N h (.builtin "dict.get") [.dt c.w l,.s x,.d y] q Q:=λJ as s R E vs I tk d K=>by
 replace d:=cT d;obtain⟨v,g,p,d⟩:=d
 replace d:=cT d;obtain⟨v',g,B,d⟩:=d
 replace d:=cT d;obtain⟨k,g,n,d⟩:=d
 obtain rfl:=fS d
 obtain⟨t⟩:=dG B
 refine uG p λa o f r w D h2 u=>?_;clear p;subst r
 have m:s.heap.DictOf (Fv pw c.w) a f:=UY.mpr<|ah o (I.keep _ _ D) h2
 refine call_meetsIn akg m.typeIs F.entry_dict_get (F.args_dict_get_3 _ _ _) (meets_dict_get_default (Fv pw c.w) a (strKind_is _ _ x t) w k)<|ah _ m.mapOf ?_
 have j:=YH (x:=x) u
 refine(?_:R _ _)
 refine K.now (b:=AV.d (match l.lookup x with|some z=> .str z|none=>y)) (I.toks _) ?_ i
 cases e:l.lookup x with
 |some z=>
  rw[e] at j
  refine Ex j λA j=>?_
  refine V j ?_;exact RD.str _ _
 |none=>
  rw[e] at j
  refine V j ?_;exact n
noncomputable def eT(n:Nat):Nat->List Nat->List Nat
 |_,[]=>[]
 |a,k::d=>if k=9 then bV (n-a%n) 32++eT n (a+(n-a%n)) d else k::eT n (if k=10\/k=13 then 0 else a+1) d
theorem yl:eT n a []=[]:=rfl
theorem uS:eT n a (k::d)=if k=9 then bV (n-a%n) 32++eT n (a+(n-a%n)) d else k::eT n (if k=10\/k=13 then 0 else a+1) d:=rfl
theorem YJ(i:9∉b):eT n a b=b:=by
 induction b generalizing a with
 |nil=>
  exact rfl
 |cons k d g=>
  simp only[iX,not_or] at i
  simp only[yl,uS]
  exact V (if_neg<|pU i.1)<|V (g i.2) rfl
theorem Hq:∀(a:Nat) (d:List Nat),(eT n a d).length<=d.length*(n+1)
 |_,[]=>eL _
 |a,k::d=>by
  simp only[yl,uS]
  split
  ·have:=Hq (n:=n) (a+(n-a%n)) d
   exact V bQ<|V sQ<|V cX<|V (F6 ..)<|
    la 0x4a0824638428220448e2044860 [_,_,_,_] rfl this (qW _ _)
  ·have:=Hq (n:=n) (if k=10\/k=13 then 0 else a+1) d
   exact V cX<|V cX<|V (F6 ..)<|
    la 0x4a082462842460044860 [_,_,_] rfl this
theorem YK{C U:Type}{f:C->U->bT (ForInStep U)}(P:List C->U->Prop)(p:∀x l b,P (x::l) b->∃a,f x b=pure (qU a)/\P l a)(d:List C)(b:U)(i:P d b):∃a,forIn d b f=pure a/\P [] a:=by
 induction d generalizing b with
 |nil=>
  exact ah b rfl i
 |cons x l g=>
  refine aD (p x l b i) λj e k=>
   aD (g j k) λm n o=>?_
  refine ah m ?_ o
  exact V (Co ..)<|V e
   n
theorem YL{M:k9}{A:cR}{E:aa->au->Prop}{s:au}{C U d:Type}{f:C->U->bT (ForInStep U)}{g:U->bT d}{Q:d->au->Prop}(P:List C->U->Prop){l:List C}{b:U}(i:P l b)
  (p:∀x l b,P (x::l) b->∃a,f x b=pure (qU a)/\P l a)(j:∀a,P [] a->aF M A (g a) Q E s):aF M A (forIn l b f>>=g) Q E s:=by
 exact aD (YK P p l b i) λa e hb=>
  V e (
  aB (bf<|j a hb))
theorem YM(w:0<n)(D:n<=100)(hx:x.length<=50000)(i:Q (.s ⟨(eT n.toNat 0 x.cps.toList).toArray⟩) q):PN c N h (.builtin "str.expandtabs") [.s x,.i n] q Q:=λJ as s R E vs I tk d K=>by
 replace d:=cT d;obtain⟨v,g,p,d⟩:=d
 replace d:=cT d;obtain⟨v',g,B,d⟩:=d
 obtain rfl:=fS d
 obtain⟨t⟩:=dG p
 obtain⟨u⟩:=cL B
 refine FE akj (lZ _ _ _) F.entry_str_expandtabs ?_<|F.args_str_expandtabs_2 _ _
 refine aB<|gH (a:=(LK x t,x,[akP n u])) rfl ?_
 refine aB<|gH (a:=[Y (akP n u)]) (by first|rfl|kernel_rfl) ?_
 refine aB<|gH (a:=n) (by first|rfl|kernel_rfl) ?_
 have hb:(decide (n< -2^31)||decide (n>=2^31))=false:=by
  rw[Bool.or_eq_false_iff,decide_eq_false_iff_not,decide_eq_false_iff_not];lia
 simp only[hb,ly,if_false]
 obtain⟨k,rfl⟩:∃k:Nat,n=k:=⟨n.toNat,by exact lA (li 0x4a821047860 [_,_] rfl<|vD<|li 0x4a810045810 [_] rfl w)<|li 0x4a860046860 [_,_] rfl<|vD<|li 0x4a810045810 [_] rfl w⟩
 by_cases h9:x.cps.contains 9=true
 ·refine V h9 ?_
  simp only[Bool.not_true,ly,if_false]
  refine az L6 ?_
  have o:x.cps.toList.length<=50000:=hx
  have hk:0<k/\k<=100:=by exact⟨qJ.mp<|li 0x4b810045810 [_] rfl w,gV.mp<|li 0x4a064081801101902060 [_] rfl D⟩
  have hP:∀(y:Nat) (l:List Nat) (b:Array Nat×Nat),(b.1.toList++eT k b.2 (y::l)=eT k 0 x.cps.toList/\b.1.size+(y::l).length*(k+1)<=50000*(k+1))->
    ((b.1.toList++(if y=9 then bV (k-b.2%k) 32 else[y]))++eT k (if y=9 then b.2+(k-b.2%k) else if y=10\/y=13 then 0 else b.2+1) l=eT k 0 x.cps.toList)/\b.1.size+(k+1)+l.length*(k+1)<=50000*(k+1):=by
   intro y l b ⟨e,z⟩
   refine⟨?_,by rw[cX,F6] at z;exact la 0x4a0c246230d4030428420918a00440c246230d403042082462860 [_,_,_] rfl z⟩
   refine az e<|V (eO ..) ?_
   congr 1
   refine(?_:_=(if y=9 then bV (k-b.2%k) 32++eT k (b.2+(k-b.2%k)) l else y::eT k (if y=10\/y=13 then 0 else b.2+1) l))
   by_cases j:y=9
   ·simp[j]
   ·simp[j]
  refine YL (C:=Nat) (U:=Array Nat×Nat) (λl r=>r.1.toList++eT k r.2 l=eT k 0 x.cps.toList/\r.1.size+l.length*(k+1)<=50000*(k+1)) ⟨by simp,by
       refine V (pQ ..) ?_;exact ajJ _ o⟩ (λy l b hb=>?_) λb hb=>?_
  ·refine Ea (hP y l b hb) λA m=>?_
   have G:((k:Int)>0):=by assumption
   have hm:50000*(k+1)<=50000*101:=ajL _<|la 0x4a065081091801101902060 [_] rfl hk.2
   by_cases j:y=9
   ·subst j
    have ht:L7 (b.1.size+(k-b.2%k))=false:=by
     unfold L7 aL
     rw[decide_eq_false_iff_not];(clear m;omega)
    refine bk (b.1++Array.replicate (k-b.2%k) 32,b.2+(k-b.2%k)) ?_ ?_ ?_
    ·simp only[beq_self_eq_true,if_true,if_pos G,gY,ht,ly,if_false]
    ·simpa using A
    ·skip
     refine V Array.size_append (V Array.size_replicate ?_);exact la 0x4a0c246130d4030428828e00448630440c246130d403042882091860 [_,_,_,_] rfl m<|qW _ _
   ·have L:(y==9)=false:=by simpa using j
    refine bk (b.1.push y,if (y==10||y==13)=true then 0 else b.2+1) ?_ ?_ ?_
    ·simp only[L,ly,if_false]
    ·simpa[j] using A
    ·skip
     refine V (L8 ..) ?_;exact la 0x4a0c246130d4030428824600440c246130d403042882091860 [_,_,_] rfl m
  ·refine Ea hb λM oR=>?_;clear hb
   have e2:b.1=(eT k 0 x.cps.toList).toArray:=by
    refine az M ?_;simp[yl,uS]
   have z:(eT k 0 x.cps.toList).length<=aL:=by
    have:=Hq (n:=k) 0 x.cps.toList
    have h2:x.cps.toList.length*(k+1)<=50000*101:=ju o<|la 0x4a065081091801101902060 [_] rfl hk.2
    unfold aL;lia
   refine V e2 ?_
   exact aB<|akQ (bf<|ah _ rfl<|K.now (b:=AV.s ⟨(eT k 0 x.cps.toList).toArray⟩) (I.toks _) (i6 _ _) i)<|by refine(?_:(eT k 0 x.cps.toList).toArray.size<=_);simpa using z
 ·have f:x.cps.contains 9=false:=by simpa using h9
  refine V f<|
   aB (uq<|aB<|bf<|bf<|ah _ rfl ?_)
  have e:eT k 0 x.cps.toList=x.cps.toList:=YJ λhm=>by
   rw[Array.contains_iff_mem.mpr (by simpa using hm)] at f
   cases f
  have i:Q (.s ⟨(eT k 0 x.cps.toList).toArray⟩) q:=i
  rw[e,Array.toArray_toList] at i
  exact K.now (b:=AV.s x) I p i
end
section
theorem YN{M:k9}{A:cR}{E:aa->au->Prop}{C U d:Type}{f:C->U->bT (ForInStep U)}{g:U->bT d}{Q:d->au->Prop}(P:List C->U->au->Prop)
  (i:∀x l b s,P (x::l) b s->aF M A (f x b) (λr s'=>∃a,r=qU a/\P l a s') E s)(k:∀b s,P [] b s->aF M A (g b) Q E s):
  ∀{l:List C} {b:U} {s:au},P l b s->aF M A (forIn l b f>>=g) Q E s:=by
 have j:∀(l:List C) (b:U) (s:au),P l b s->aF M A (forIn l b f) (λa s'=>P [] a s') E s:=by
  intro l
  induction l with
  |nil=>intro b s o;exact bf o
  |cons x l t=>
   intro b s o
   refine V (Co ..) ?_
   refine aB<|cQ (i x l b s o) (λr s' m=>?_) λ_ _ e=>e
   refine aD m λa e' B=>?_;clear m;refine V e' ?_
   exact t a s' B
 intro l b s o
 exact aB<|cQ (j l b s o) (λa s' B=>k a s' B) λ_ _ e=>e
theorem YO{M:k9}{A:cR}{E:aa->au->Prop}{C U d:Type}{f:C->U->bT (ForInStep U)}{g:U->bT d}{Q:d->au->Prop}(P:List C->U->au->Prop)
  (i:∀x l b s,P (x::l) b s->aF M A (f x b) (λr s'=>∃a,r=qU a/\P l a s') E s)(k:∀b s,P [] b s->aF M A (g b) Q E s){l:Array C}{b:U}{s:au}(o:P l.toList b s):aF M A (forIn l b f>>=g) Q E s:=by
 exact az L6<|
  YN P i k o
theorem Hr(M:s.heap.IsList l C)(U:k<10000)(hx:C[k]?=Y (.str y t))
  (o:Q (.text y) {s with toks:=s.toks+1}):aF (aX pw w) A (akR (.ref l) k) Q E s:=by
 unfold akR
 refine aB<|UZ<|aB<|akS ?_
 refine aj4 (s:={s with toks:=s.toks+1}) M (by lia) (by lia) (by simpa using hx) ?_
 refine aB<|gH (a:=Z) rfl ?_
 refine aB<|gH (a:=Y y) rfl ?_
 exact bf o
theorem NY(o:n<=500000):¬L7 n=true:=λe=>absurd (of_decide_eq_true e)<|by unfold aL;lia
variable {c:Cx} {N:List H} {h:ao} {q:St} {Q:AV->St->Prop}
noncomputable def i8(j:List H)(a:List Nat):List Nat:=(a.map λk=>((j[k]?).getD ⟨#[]⟩).cps.toList).flatten
theorem YQ{J:FM}{j:List H}{vs:Array aa}(r1:bD J vs.toList (j.map .str)){k:Nat}(o:k<j.length):∃t,vs[k]?=Y (.str j[k] t):=by
 refine aD (r1.get (i:=k) (d:= .str j[k])<|by refine V iW (V (fM o) ?_);rfl) λv hv a=>?_
 rw[oV] at hv
 cases a;exact⟨_,hv⟩
inductive As(j:List H)(x:H)(s:au):List Nat->List H×Nat×Bool×List (Nat×Option Nat)×Bool->au->Prop
 |mk (tk w n f g) {l} (U:∀k∈l,k<j.length) (D:(w.reverse.map (·.cps.toList)).flatten++i8 j l=i8 j x.cps.toList) (B:n+l.length*10<=500000) (hs:(w.map (·.length)).sum=n) (i:∀k r,g.lookup k=Y r->∃d,r=Y d/\j[k]?=Y ⟨#[d]⟩):
  As j x s l (w,n,f,g,false) {s with toks:=tk}
theorem As.next{j:List H}{x:H}{s:au}{k:Nat}{l:List Nat}{w:List H}{n:Nat}{f tk g}(o:k<j.length)(hy:j[k].length<=10)(U:∀a∈k::l,a<j.length)(D:(w.reverse.map (·.cps.toList)).flatten++i8 j (k::l)=i8 j x.cps.toList)(B:n+(k::l).length*10<=500000)(hs:(w.map (·.length)).sum=n)
  (i:∀k r,g.lookup k=Y r->∃d,r=Y d/\j[k]?=Y ⟨#[d]⟩):As j x s l (j[k]::w,n+j[k].length,f,g,false) {s with toks:=tk}:=by
 refine⟨_,_,_,_,_,λk o=>U k<|a_ _ o,?_,?_,?_,i⟩
 ·refine az D ?_
  unfold i8
  refine V ee<|V nc<|V (fM o)<|V F7<|V LQ<|V gZ<|V U0 ?_
  simp
 ·rw[cX] at B;exact la 0x4a07a1201010836a20a0841101e848040420da0918a10446a0 [_,_,_] rfl hy B
 ·exact V ee<|V akT<|V hs<|V (zq ..) rfl
theorem YR{j:List H}{k d:Nat}{g:List (Nat×Option Nat)}(hd:j[k]?=Y ⟨#[d]⟩)(i:∀k r,g.lookup k=Y r->∃d,r=Y d/\j[k]?=Y ⟨#[d]⟩)(a:Nat)(r:Option Nat)(e:((k,Y d)::g).lookup a=Y r):∃d,r=Y d/\j[a]?=Y ⟨#[d]⟩:=by
 rw[vH] at e
 by_cases z:a=k
 ·subst z
  rw[beq_self_eq_true] at e
  exact ah d ((iD e).symm) hd
 ·rw[show(a==k)=false by simpa using z] at e
  exact i a r e
theorem YS{y:H}(G:(y.length==1&&y.cps.all λx=>decide<|x<128)=true):∃d,y=⟨#[d]⟩:=by
 rw[jQ,beq_iff_eq] at G
 exact Ex (Array.size_eq_one_iff.mp (show y.cps.size=1 from G.1)) λd hd=>
  ⟨d,by clear G;cases y;exact congrArg _ hd⟩
theorem YT{j:List H}{x:H}{w:List H}{n:Nat}(D:(w.reverse.map (·.cps.toList)).flatten++i8 j []=i8 j x.cps.toList)(B:n+0*10<=500000)(hs:(w.map (·.length)).sum=n):
  w.reverse.foldl (λm p=>m++p.cps) #[]=(i8 j x.cps.toList).toArray/\(i8 j x.cps.toList).toArray.size<=aL:=by
 have b:∀(l:List H) (m:Array Nat),(l.foldl (λm p=>m++p.cps) m).toList=m.toList++(l.map (·.cps.toList)).flatten:=by
  intro l
  induction l with
  |nil=>intro m;simp
  |cons y l t=>intro m;refine V aj3 (V (t ..) ?_);simp
 have a:(w.reverse.map (·.cps.toList)).flatten=i8 j x.cps.toList:=(iH _).symm.trans D
 exact⟨Array.toList_inj.mp<|(b _ _).trans a,(
  V akM (az a<|V List.length_flatten<|V bY<|V akt<|V (List.sum_reverse ..)<|
  ic (Le hs) (by unfold aL;exact aK)))⟩
theorem YU{x:H}{j:List H}{u:AV}(hu:fJ q u=Y (j.map .str))(hc:∀k∈x.cps.toList,k<j.length)(ht:j.length<=1000)(hy:∀y∈j,y.length<=10)(hx:x.length<=50000)(o:Q (.s ⟨(i8 j x.cps.toList).toArray⟩) q):PN c N h (.builtin "str.translate") [.s x,u] q Q:=λJ as s R E vs I tk C K=>by
 replace C:=cT C;obtain⟨v,oQ,ra,C⟩:=C
 replace C:=cT C;obtain⟨v',oQ,rb,C⟩:=C
 obtain rfl:=fS C
 obtain⟨t⟩:=dG ra
 obtain⟨a,vs,n,g1,r1⟩:=I.ai rb hu
 have M:∀tk,({s with toks:=tk}:au).heap.IsList a vs:=λtk=>(g8 _ g1 rfl _ rfl)
 refine FE akl (lZ _ _ _) F.entry_str_translate ?_<|F.args_str_translate_2 _ _
 refine aB<|gH (a:=(LK x t,x,akU a)) rfl ?_
 by_cases h0:(x.length==0)=true
 ·refine MF h0<|
   aB (uq<|aB<|bf<|bf<|ah _ rfl ?_)
  have EZ:x.cps=#[]:=Array.eq_empty_of_size_eq_zero (show x.length=0 by simpa using h0)
  have e:(⟨(i8 j x.cps.toList).toArray⟩:H)=x:=by
   obtain⟨cps⟩:=x
   simp only at EZ
   exact V EZ
    rfl
  rw[e] at o
  exact K.now (b:=AV.s x) I ra o
 ·refine xM h0 ?_
  have w9:x.cps.toList.length<=50000:=hx
  refine YO (As j x s) (λk l b s' hP=>?_) (λb s' hP=>?_)<|.mk s.toks [] 0 _ [] hc rfl (by exact la 0x1281e848040420da81028430d403060 [_] rfl w9) rfl λk r e=>nomatch e
  ·obtain⟨tk,w,ah8,L,A,U,D,B,hs,i⟩:=hP
   have z:k<j.length:=U k aZ
   refine Ex (YQ r1 z) λtt hv=>?_
   have nx {f tk g}:=As.next (f:=f) (tk:=tk) (g:=g) (s:=s) z (hy _<|FY _) U D B hs
   have M:=M tk
   refine xM (NY<|la 0x4a07a120101801101e848040420da860 [_,_] rfl B) ?_
   cases L with
   |false=>exact xM ue<|xM ue<|aB<|Hr M (la 0x12c27100c184116084110fa02060 [_,_] rfl ht z) hv<|bf<|ah _ rfl<|nx i
   |true=>
    refine MF rfl ?_
    cases e:A.lookup k with
    |some r=>
     refine aD (i k r e) λd e' hd=>?_;clear e;refine V e' ?_
     have qG:j[k]=⟨#[d]⟩:=by rw[fM z] at hd;exact iD hd
     rw[qG] at nx
     exact aB<|bf<|bf<|ah _ rfl<|nx i
    |none=>
     refine aB<|Hr M (la 0x12c27100c184116084110fa02060 [_,_] rfl ht z) hv ?_
     by_cases G:(j[k].length==1&&j[k].cps.all λx=>decide<|x<128)=true
     ·simp only[G,if_true]
      refine Ex (YS G) λd hd=>?_
      rw[hd] at nx ⊢
      exact aB<|bf<|bf<|ah _ rfl<|nx<|YR ((fM z).trans<|congrArg Y hd) i
     ·rw[Bool.not_eq_true] at G
      simp only[G,ly,if_false]
      exact aB<|bf<|aB<|uq<|aB<|Hr M (la 0x12c27100c184116084110fa02060 [_,_] rfl ht z) hv<|bf<|ah _ rfl<|nx i
  ·obtain⟨tk,w,ah8,L,A,U,D,B,hs,i⟩:=hP
   refine Ea (YT D B hs) λe2 e3=>
    xM (NY<|by assumption) ?_
   show aF _ _ (retStr ⟨w.reverse.foldl (λm p=>m++p.cps) #[]⟩) _ _ _
   exact V e2<|
    aB (akQ (bf<|ah _ rfl<|K.now (b:=AV.s ⟨(i8 j x.cps.toList).toArray⟩) (I.toks _) (i6 _ _) o) e3)
end
section
open PySem.NumText
noncomputable def om:List Nat:=[48,49,50,51,52,53,54,55,56,57,97,98,99,100,101,102,65,66,67,68,69,70]
noncomputable def mK(k:Nat):Nat:=(digit? k).getD 0
def NZ(a b:Nat):Bool:=decide (sign ([a,b].dropWhile blank)=(false,[a,b]))&&decide (based 16 [a,b]=(16,false,[a,b]))&&decide (digits? 16 (([a,b].reverse.dropWhile blank).reverse)=Y #[mK a,mK b])&&decide (a<128)&&decide (b<128)&&a !=0&&b !=0
theorem YV:(om.all λa=>om.all λb=>NZ a b)=true:=by decide+kernel
theorem N1(f:a∈om)(j:b∈om):(int_private%"readNumeral") 0 16 [a,b]=(int_private%"Numeral.value") ((mK a*16+mK b:Nat):Int)/\a<128/\b<128/\a≠0/\b≠0:=by
 have i:=l6.mp (l6.mp YV a f) b j
 simp only[NZ,jQ,decide_eq_true_eq,bne_iff_ne] at i
 refine Ea i λr s=>?_;clear i;refine Ea r λk t=>?_;clear r;refine Ea k λg l=>?_;clear k;refine Ea g λe m=>?_;clear g;refine Ea e λd n=>?_;clear e;refine Ea d λo p=>?_;clear d
 refine sS ?_ m l t s
 refine V (readNumeral_eq ..)<|V o ?_
 simp only[p,n]
 unfold judge
 simp
theorem YW
  (hs:(a.takeWhile (·!=0)).length<=640)(b:(int_private%"readNumeral") 0 16 (a.takeWhile (·!=0))=(int_private%"Numeral.value") n)
  (f:((a.takeWhile (·!=0)).length==a.length)=true)(i:Q (.int n s.toks) {s with toks:=s.toks+1}):
  aF M A ((int_private%"intFromText") v a 16) Q E s:=by
 obtain⟨k,g,d,tk,os⟩:=s
 repeat (any_goals (first
  |assumption
  |(with_reducible refine F8 (decide_eq_true hs) ?_)
  |(with_reducible refine F8 (decide_eq_true f) ?_)
  |wp_step))
 all_goals (try refine V b ?_)
 all_goals (try dsimp only)
 repeat (any_goals (first
  |assumption
  |(with_reducible refine F8 (decide_eq_true hs) ?_)
  |(with_reducible refine F8 (decide_eq_true f) ?_)
  |wp_step))
theorem N2(f:a∈om)(j:b∈om)
  (i:Q (.int ((mK a*16+mK b:Nat):Int) s.toks) {s with toks:=s.toks+1}):aF M A ((int_private%"intFromText") v [a,b] 16) Q E s:=by
 refine GB (N1 f j) λo p n m l=>?_
 have e:[a,b].takeWhile (·!=0)=[a,b]:=by
  refine V (akV<|by simpa using m) (V (akV<|by simpa using l) ?_);rfl
 exact YW (by refine V e ?_;show 2<=640;decide) (V e o) (V e rfl) i
theorem YX(a b:aa):checkTypeCall "int" ⟨[a,b],[]⟩=pure ():=by kernel_rfl
theorem YY(a b:aa):checkBuiltinCall "int.__new__" ⟨[.type "int",a,b],[]⟩=pure ():=by kernel_rfl
set_option maxHeartbeats 4000000 in
theorem YZ(f:a∈om)(j:b∈om):Gives (Cs.«int.__new__» ⟨[.type "int",.str ⟨#[a,b]⟩ t,.int 16 u],[]⟩) (.int ((mK a*16+mK b:Nat):Int)):=
 .of_wp λM A E s Q i=>by
  obtain⟨k,g,d,tk,os⟩:=s
  have r:=F.conv_sub_int
  have w:=F.madeHere_int
  refine GB (N1 f j) λo p n m l=>?_
  have e:((⟨#[a,b]⟩:H).cps.all (·<128))=true:=by simp[p,n]
  clear o p n m l
  repeat (any_goals (first
   |assumption
   |(with_reducible refine F8 e ?_)
   |((with_reducible show aF _ _ ((int_private%"intFromText") _ _ _) _ _ _);refine N2 f j ?_)
   |wp_step))
  all_goals first|exact⟨_,rfl,i⟩|skip
  all_goals (refine V (if_pos e) ?_;refine N2 (v:= .str ⟨#[a,b]⟩ t) f j ?_)
  all_goals (repeat (any_goals (first|assumption|wp_step)))
  all_goals first|exact(ah _ rfl i)|skip
section
variable {c:Cx} {N:List H} {h:ao} {q:St} {Q:AV->St->Prop}
theorem Y0(f:a∈om)(j:b∈om)(i:Q (.i ((mK a*16+mK b:Nat):Int)) q):PN c N h (.type "int") [.s ⟨#[a,b]⟩,.i 16] q Q:=λJ as s R E vs I tk d K=>by
 replace d:=cT d;obtain⟨v,e,k,d⟩:=d
 replace d:=cT d;obtain⟨m,e,l,d⟩:=d
 obtain rfl:=fS d
 obtain⟨t⟩:=dG k
 obtain⟨u⟩:=cL l
 exact callType_new F.called_int F.newNe_int (YX _ _) (YY _ _) (λg=>F.args_object_init_3 g _ _) F.entry_int_new (YZ f j).meets (show(Made.int _).post _ s from⟨rfl,K.now (I.toks _) (jW _ _) i⟩)
end
end
namespace MD
theorem Hs:Slot "method_descriptor" "__get__" "method_descriptor.__get__":=
 .of (owner:="method_descriptor") (n:="__get__") (by refine V (qP ..) (V qQ ?_);kernel_rfl) (by decide+kernel) (by decide+kernel) (by decide+kernel)
  (by first|exact .inl (by decide+kernel)|exact .inr<|by decide+kernel) (by refine V (U1 ..) ?_;kernel_rfl)
theorem Y3:entryFor table "method_descriptor.__get__"=Y Cs.«method_descriptor.__get__»:=entryFor_of_tree<|by kernel_rfl
theorem Y4(a b c:aa):argsOk "method_descriptor.__get__" ⟨[a,b,c],[]⟩:=by kernel_rfl
theorem Y5:qO (.type "method_descriptor") "__set__"=pure Z:=by refine V (qP ..) (V qQ ?_);kernel_rfl
theorem Y6:qO (.type "method_descriptor") "__delete__"=pure Z:=by refine V (qP ..) (V qQ ?_);kernel_rfl
theorem Y7:U3 (.type "list") (.type "list")=pure true:=by refine V (U1 ..) ?_;kernel_rfl
theorem Y8:(".".intercalate ("list.append".cutAt '.').dropLast)="list":=by
 have b:"list.append".cutAt '.'=["list","append"]:=by first|rfl|decide+kernel
 refine V b ?_;first|rfl|decide+kernel
theorem Y9:U3 (.type "list") (.type<|".".intercalate ("list.append".cutAt '.').dropLast)=pure true:=by refine V Y8 ?_;exact Y7
theorem dI:am9.contains "list.append"=false:=by decide+kernel
end MD
noncomputable abbrev Au(l:ak):bh:={cls:= .type "builtin_function_or_method",data:= .fields #[.builtin "list.append",.ref l]}
section
variable {e:xg} {w:aC} {A:cR} {E:aa->au->Prop} {h:fk} {g:Array sq} {d:Drawn} {t:Nat} {os:xj} {a:ak} {o:bh}
theorem Y_(b:h.get? a=Y o)(j:o.cls= .type "list")(f:R (.ok<|.ret<|.ref h.objs.size) ⟨h.push<|Au a,g,d,t,os⟩):
  iY (aX e w) A (.call (.builtin "method_descriptor.__get__") ⟨[.builtin "list.append",.ref a,.type "list"],[]⟩) R ⟨h,g,d,t,os⟩:=by
 have i:(⟨h,g,d,t,os⟩:au).TypeIs (.ref a) "list":=(ah _ b j)
 have c:(⟨h,g,d,t,os⟩:au).TypeIs (.builtin "list.append") "method_descriptor":=LC
 have k:=MD.Y9
 refine akW MD.Hs.plain MD.Y3<|MD.Hs.check _ _ _ _ _ _ _ _ c (MD.Y4 _ _ _)<|
  aB (gH (a:=(.builtin "list.append",Y<|.ref a,Y<|.type "list")) (by first|rfl|kernel_rfl) ?_)
 repeat (any_goals (first|assumption|wp_step))
theorem Za(b:h.get? a=Y (eg vs n))(f:Q (.done<|.ret<|.ref h.objs.size) ⟨h.push<|Au a,g,d,t,os⟩):
  aF (aX e w) A (Cs.«object.__getattribute__» ⟨[.ref a,.str "append" tk],[]⟩) Q E ⟨h,g,d,t,os⟩:=by
 have i:(⟨h,g,d,t,os⟩:au).TypeIs (.ref a) "list":=(ah _ b rfl)
 have c:(⟨h,g,d,t,os⟩:au).TypeIs (.builtin "list.append") "method_descriptor":=LC
 have j:=akf.lookup
 have l:=LC
 have m:=MD.Hs.lookup
 have p:=MD.Y5
 have k:=MD.Y6
 repeat (any_goals (first|assumption|wp_step))
 refine Y_ b rfl ?_
 repeat (any_goals (first|assumption|wp_step))
theorem Zb(b:h.get? a=Y (eg vs n))(f:R (.ok<|.ret<|.ref h.objs.size) ⟨h.push<|Au a,g,d,t,os⟩):
  iY (aX e w) A (.call (.builtin "list.__getattribute__") ⟨[.ref a,.str "append" tk],[]⟩) R ⟨h,g,d,t,os⟩:=
 akW L_.plain F.entry_list_ga (L_.check _ _ _ _ _ _ _ _ (show(⟨h,g,d,t,os⟩:au).TypeIs (.ref a) "list" from(ah _ b rfl)) (F.args_list_getattribute_2 _ _)<|Za b f)
theorem Zc(b:h.get? a=Y (eg vs n))(f:Q (.ref h.objs.size) ⟨h.push<|Au a,g,d,t+1,os⟩):aF (aX e w) A (zL (.ref a) "append" true) Q E ⟨h,g,d,t,os⟩:=by
 have i:(⟨h,g,d,t,os⟩:au).TypeIs (.ref a) "list":=(ah _ b rfl)
 have c:=L_.lookup
 have j:=L_.bind<|.ref a
 repeat (any_goals (first|assumption|wp_step))
 refine Zb b ?_
 repeat (any_goals (first|assumption|wp_step))
end
noncomputable abbrev rJ(a G:aa)(i j:ak):bh:={cls:= .type "zip",dict:=Z,data:= .fields #[a,G,.bool false,.ref i,.ref j],slots:=#[]}
section
variable {q:xg} {w:aC} {A:cR} {E:aa->au->Prop} {s:au}
theorem Zd(y:Q (s.heap.get? a) s):aF M A (loadIfAlive a) Q E s:=λc p b=>by
 refine V (Sem.wp_loadIfAlive ..) ?_;exact y
theorem N3{z i j T:ak}{G:aa}{R:bh}{Q:Bool->au->Prop}(n:s.heap.get? z=Y (rJ (l8 T) G i j))(U:s.heap.get? T=Y R)
  (y:∀g k,g.get? z=Y (rJ (l8 T) k i j)->pS z s.heap g->Q false {s with heap:=g}):aF (aX q w) A (ana<|.ref z) Q E s:=by
 refine aB<|zO n rfl (x:=l8 T) rfl<|
  aB (Zd<|
  V U (
  aB (zO n rfl (x:=G) rfl ?_)))
 by_cases d:(G != .bool true)=true
 ·exact V (if_pos d)<|
   aB (wpAny_setField_rec n (by simp) λc a b=>bf<|y c (.bool true) a b)
 ·exact V (if_neg d)<|
   bf (y s.heap G n ⟨rfl,λ_ _=>rfl⟩)
theorem Ze{z i j T l m p r:ak}{k1 I:Nat}{xs J:Array aa}{x y a b G:aa}{R:bh}{Q:aa->au->Prop}(D:xu z i j l m p r)
  (n:s.heap.get? z=Y (rJ (l8 T) G i j))(U:s.heap.get? T=Y R)(u:uz s.heap i (.ref l) (.ref m))(K:uz s.heap j a b)
  (h1:s.heap.IsListIter l p k1)(h2:s.heap.IsListIter m r I)(t:s.heap.IsList p xs)(C:s.heap.IsList r J)(hx:xs[k1]?=Y x)(hy:J[I]?=Y y)
  (hQ:∀g k,g.get? z=Y (rJ (l8 T) k i j)->g.IsListIter l p (k1+1)->g.IsListIter m r (I+1)->uz g s.heap.objs.size x y->
   (∀c o,c≠z->c≠l->c≠m->s.heap.get? c=Y o->g.get? c=Y o)->Q (.ref s.heap.objs.size) {s with heap:=g}):
  aF (aX q w) A (Cs.«zip.__next__» ⟨[.ref z],[]⟩) (λgF s'=>∃v,gF= .done (.ret v)/\Q v s') E s:=by
 refine(?_:aF _ _ (field (.ref z) 2>>=_) _ _ _)
 refine aB<|zO n rfl (x:= .bool false) rfl<|
  aB (zO n rfl (x:= .ref i) rfl<|
  aB (Ma u rfl<|
  aB (N3 n U λaib k L d=>?_)))
 simp only[ly,if_false]
 refine az L6<|
  aB (aB<|aB<|j9<|
  aB (U4 (h1.extBut d.extBut D.i1z) (t.extBut d.extBut D.l1z) hx λM N f=>bf<|bf<|
  aB (aB<|j9<|
  aB (U4 ((h2.extBut d.extBut D.i2z).extBut f.extBut D.i12.symm) ((C.extBut d.extBut D.l2z).extBut f.extBut D.l2i1) hy λB ah9 h=>bf<|bf<|bf ?_))))
 have ua:B.objs.size=s.heap.objs.size:=by exact V h.1<|V f.1<|V d.1 rfl
 refine aB<|wpAny_newTuple (hsz:=by refine(?_:2<=aL);decide) ?_
 refine bf<|ah _ rfl<|
  V ua ?_
 have aia:B.get? z=Y (rJ (l8 T) k i j):=h.extBut _ _ D.i2z.symm<|f.extBut _ _ D.i1z.symm L
 refine hQ _ k (ie _ aia) ((N.extBut h.extBut D.i12).at λo e=>ie _ e) (ah9.at λo e=>ie _ e) (by refine az ua ?_;exact qM _ rfl) λc o c1 c3 c4 e=>?_
 exact ie _<|h.extBut _ _ c4<|f.extBut _ _ c3<|d.extBut _ _ c1 e
theorem Zf{z i j T l m p r:ak}{k1 I:Nat}{xs J:Array aa}{a b G:aa}{R:bh}{Q:Fin->au->Prop}(hh:A.handled=Z)(D:xu z i j l m p r)
  (n:s.heap.get? z=Y (rJ (l8 T) G i j))(U:s.heap.get? T=Y R)(u:uz s.heap i (.ref l) (.ref m))(K:uz s.heap j a b)
  (h1:s.heap.IsListIter l p k1)(h2:s.heap.IsListIter m r I)(t:s.heap.IsList p xs)(C:s.heap.IsList r J)(v:xs[k1]?=Z\/J[I]?=Z)
  (hE:∀g e,(∀c o,c≠z->c≠l->c≠m->s.heap.get? c=Y o->g.get? c=Y o)->(∃o,g.get? e=Y o/\o.cls= .type "StopIteration")->E (.ref e) {s with heap:=g}):
  aF (aX q w) A (Cs.«zip.__next__» ⟨[.ref z],[]⟩) Q E s:=by
 refine(?_:aF _ _ (field (.ref z) 2>>=_) _ _ _)
 refine aB<|zO n rfl (x:= .bool false) rfl<|
  aB (zO n rfl (x:= .ref i) rfl<|
  aB (Ma u rfl<|
  aB (N3 n U λaib k L d=>?_)))
 simp only[ly,if_false]
 refine az L6<|
  aB (aB<|aB<|j9 ?_)
 cases hx:xs[k1]? with
 |none=>
  exact aB<|akX hh (h1.extBut d.extBut D.i1z) (t.extBut d.extBut D.l1z) hx λM e f he=>
   hE M e (λc o c1 c3 c4 x=>f _ _ c3<|d.extBut _ _ c1 x) he
 |some x=>
  have hy:J[I]?=Z:=by rcases v with y|y;rw[hx] at y;cases y;exact y
  exact aB<|U4 (h1.extBut d.extBut D.i1z) (t.extBut d.extBut D.l1z) hx λM N f=>bf<|bf<|
   aB (aB<|j9<|
   aB (akX hh ((h2.extBut d.extBut D.i2z).extBut f.extBut D.i12.symm) ((C.extBut d.extBut D.l2z).extBut f.extBut D.l2i1) hy λB e h he=>
   hE B e (λc o c1 c3 c4 x=>h _ _ c4<|f.extBut _ _ c3<|d.extBut _ _ c1 x) he))
theorem Zg{z i j T l m p r:ak}{k1 I:Nat}{xs J:Array aa}{x y a b G:aa}{R:bh}{Q:Option aa->au->Prop}(D:xu z i j l m p r)
  (n:s.heap.get? z=Y (rJ (l8 T) G i j))(U:s.heap.get? T=Y R)(u:uz s.heap i (.ref l) (.ref m))(K:uz s.heap j a b)
  (h1:s.heap.IsListIter l p k1)(h2:s.heap.IsListIter m r I)(t:s.heap.IsList p xs)(C:s.heap.IsList r J)(hx:xs[k1]?=Y x)(hy:J[I]?=Y y)
  (hQ:∀g k,g.get? z=Y (rJ (l8 T) k i j)->g.IsListIter l p (k1+1)->g.IsListIter m r (I+1)->uz g s.heap.objs.size x y->
   (∀c o,c≠z->c≠l->c≠m->s.heap.get? c=Y o->g.get? c=Y o)->Q (Y<|.ref s.heap.objs.size) {s with heap:=g}):
  aF (aX q w) A (sG<|.ref z) Q E s:=by
 have d:s.TypeIs (.ref z) "zip":=(ah _ n rfl)
 exact aB<|UZ<|Us (name:=sF "__next__") d Mb
  (FE Mb d akY
   (Ze D n U u K h1 h2 t C hx hy λg k a1 a2 a3 M B=>bf<|hQ g k a1 a2 a3 M B)<|akZ _)
theorem Zh{z i j T l m p r:ak}{k1 I:Nat}{xs J:Array aa}{a b G:aa}{R:bh}{Q:Option aa->au->Prop}(hh:A.handled=Z)(D:xu z i j l m p r)
  (n:s.heap.get? z=Y (rJ (l8 T) G i j))(U:s.heap.get? T=Y R)(u:uz s.heap i (.ref l) (.ref m))(K:uz s.heap j a b)
  (h1:s.heap.IsListIter l p k1)(h2:s.heap.IsListIter m r I)(t:s.heap.IsList p xs)(C:s.heap.IsList r J)(v:xs[k1]?=Z\/J[I]?=Z)
  (hQ:∀g,(∀c o,c≠z->c≠l->c≠m->s.heap.get? c=Y o->g.get? c=Y o)->Q Z {s with heap:=g}):aF (aX q w) A (sG<|.ref z) Q E s:=by
 have d:s.TypeIs (.ref z) "zip":=(ah _ n rfl)
 refine aB<|UZ<|Us (name:=sF "__next__") d Mb
  (FE Mb d akY (Zf hh D n U u K h1 h2 t C v λg e f he=>?_)<|akZ _)
 refine aD he λo h k=>?_;clear he
 exact aB<|Mc (T:="StopIteration") (b:=true) (ah o h k) isSubtype_stop<|
  bf (hQ _ f)
end
noncomputable abbrev C9(a:aa)(j m:ak):bh:={cls:= .type "zip",dict:=Z,data:= .fields #[a,.bool false,.bool false,.ref j,.ref m],slots:=#[]}
noncomputable abbrev uT(a b:aa):bh:={cls:= .type "tuple",data:= .seq #[a,b]}
noncomputable def qi(xs ys:List af):List af:=(xs.zip ys).map λp=> .tuple [p.1,p.2]
theorem Zi{C:Type}{l g:List C}{v:C}(i:l.drop k=v::g):l[k]?=Y v/\l.drop (k+1)=g:=
 ⟨by refine az (oW k) (az vM<|V i ?_);rfl,by refine az List.tail_drop (V i ?_);rfl⟩
theorem N4{C:Type}{l:List C}(i:l.drop k=[]):l[k]?=Z:=by refine az (oW k) (az vM<|V i ?_);rfl
inductive N5(J:FM)(d:af)(f:List af)(vs:Array aa)(k:Nat):Prop
 |mk (v:aa):vs[k]?=Y v->RD J v d->bD J (vs.toList.drop<|k+1) f->N5 J d f vs k
theorem N6(r:bD J (vs.toList.drop k) (d::f)):N5 J d f vs k:=by
 generalize e:vs.toList.drop k=l at r
 obtain⟨v,g,a,b⟩:=Wl r
 refine Ea (Zi e) λi av=>?_
 exact⟨v,by refine az oV ?_;exact i,a,av▸b⟩
abbrev wm(z j m t L:ak)(n:bh)(a b:aa)(f l:bh):ao:=[(z,n),(j,uT (.ref t)<|.ref L),(m,uT a b),(t,f),(L,l)]
structure ZS(z j m t L l1 l2:ak)(k:Nat)(n:bh)(a b:aa)(f l:bh)(i:fk):Prop where
 hz:i.get? z=Y n
 rK:i.get? j=Y (uT (.ref t)<|.ref L)
 uU:i.get? m=Y (uT a b)
 g1:i.get? t=Y f
 g2:i.get? L=Y l
 c1:f.cls= .type "list_iterator"
 d1:f.data= .fields #[.ref l1,.int (k:Nat) 0]
 c2:l.cls= .type "list_iterator"
 d2:l.data= .fields #[.ref l2,.int (k:Nat) 0]
def N7(z j m t L:ak)(i h':fk):Prop:=∀c o,c≠z->c≠j->c≠m->c≠t->c≠L->i.get? c=Y o->h'.get? c=Y o
structure ZK(w:aC)(A:cR)(B:ay)(z j m t L l1 l2:ak)(G:FM->bh->Prop):Prop where
 ym:∀{J:FM} {s:au} {R:Option aa->au->Prop} {E:aa->au->Prop} {k n a b f l vs D},A.handled=Z->(∀x o,J x=Y o->s.heap.get? x=Y o)->G J n->ZS z j m t L l1 l2 k n a b f l s.heap->s.heap.IsList l1 vs->s.heap.IsList l2 D->(vs[k]?=Z\/D[k]?=Z)->
  (∀h',N7 z j m t L s.heap h'->R Z {s with heap:=h'})->aF (aX pw w) A (sG<|.ref z) R E s
 item:∀{J:FM} {s:au} {R:Option aa->au->Prop} {E M:aa->au->Prop} {k n a b f l vs D v u},(∀x o,J x=Y o->s.heap.get? x=Y o)->G J n->ZS z j m t L l1 l2 k n a b f l s.heap->s.heap.IsList l1 vs->s.heap.IsList l2 D->vs[k]?=Y v->D[k]?=Y u->
  (∀h' E1 a' b' i I,ZS z j m t L l1 l2 (k+1) E1 a' b' i I h'->h'.get? s.heap.objs.size=Y (uT v u)->(∀ψ,FM.jw J ψ->ψ s.heap.objs.size=Y (uT v u)->G ψ E1)->N7 z j m t L s.heap h'->R (Y<|.ref s.heap.objs.size) {s with heap:=h'})->
  aF (aX pw w) A (sG<|.ref z) (λr jJ=>∃v,r=Y v/\aF (aX pw w) A (qK B (.ref z) v) (λU dJ=>R (Y v) dJ) M jJ) E s
section
variable {w:aC} {A:cR} {B:ay} {z j m t L l1 l2:ak} {c:Cx} {N:List H} {h:ao} {q:St} {J:FM} {as:List ak} {s:au}
theorem Zj(l:uI B=true)(D:xu z j m t L l1 l2):ZK w A B z j m t L l1 l2 λU o=>o=C9 .none j m where
 ym hh n g d a b he K:=by
  subst g
  exact ak0 hh D d.hz d.rK d.uU (bk _ d.g1 d.c1 d.d1) (bk _ d.g2 d.c2 d.d2) a b he λh' p=>K h' λc o r n2 n3 n4 n5=>p c o r n3 n4 n5
 item n g d a b hv hu K:=by
  subst g
  refine ak1 D d.hz d.rK d.uU (bk _ d.g1 d.c1 d.d1) (bk _ d.g2 d.c2 d.d2) a b hv hu λh' q1 q2 q3 q4 q5 q6 q7=>(ah _ rfl<|MG l<|wpAny_letOwnedTupleGo_zip q1 λs u f=>?_)
  refine jU q3 λi a1 a2 a3=>?_;clear q3
  refine jU q4 λI b1 b2 b3=>?_;clear q4
  have k:=q7 _ _ D.TIz D.TITO D.TIi1 D.TIi2 d.rK
  exact K s _ _ _ i I ⟨u,(f.2 _ D.TIz).trans k,(f.2 _ D.TOz).trans q2,(f.2 _ D.i1z).trans a1,(f.2 _ D.i2z).trans b1,a2,a3,b2,b3⟩ ((f.2 _<|vJ<|iC d.hz).trans q5) (λU U U=>rfl) λc o r n2 n3 n4 n5 e=>(f.2 c r).trans<|q7 c o r n3 n4 n5 e
theorem Zk(l:z_ B=true)(D:xu z j m t L l1 l2):ZK w A B z j m t L l1 l2 λJ o=>o=C9 .none j m\/∃T u f,J T=Y f/\o=rJ (l8 T) u j m where
 ym hh n g d a b he K:=by
  rcases g with rfl|⟨T,u,f,s,rfl⟩
  ·exact ak0 hh D d.hz d.rK d.uU (bk _ d.g1 d.c1 d.d1) (bk _ d.g2 d.c2 d.d2) a b he λh' p=>K h' λc o r n2 n3 n4 n5=>p c o r n3 n4 n5
  ·exact Zh hh D d.hz (n _ _ s) d.rK d.uU (bk _ d.g1 d.c1 d.d1) (bk _ d.g2 d.c2 d.d2) a b he λh' p=>K h' λc o r n2 n3 n4 n5=>p c o r n4 n5
 item n g d a b hv hu K:=by
  rcases g with rfl|⟨T,u,f,s,rfl⟩
  ·refine ak1 D d.hz d.rK d.uU (bk _ d.g1 d.c1 d.d1) (bk _ d.g2 d.c2 d.d2) a b hv hu λh' q1 q2 q3 q4 q5 q6 q7=>(ah _ rfl<|MH l ?_)
   refine jU q3 λi a1 a2 a3=>?_;clear q3
   refine jU q4 λI b1 b2 b3=>?_;clear q4
   exact K h' _ _ _ i I ⟨q1,q7 _ _ D.TIz D.TITO D.TIi1 D.TIi2 d.rK,q2,a1,b1,a2,a3,b2,b3⟩ q5 (λψ U e=> .inr<|xF _ (.bool false) _ e rfl) λc o r n2 n3 n4 n5 e=>q7 c o r n3 n4 n5 e
  ·refine Zg D d.hz (n _ _ s) d.rK d.uU (bk _ d.g1 d.c1 d.d1) (bk _ d.g2 d.c2 d.d2) a b hv hu λh' v q1 q3 q4 q5 q7=>(ah _ rfl<|MH l ?_)
   refine jU q3 λi a1 a2 a3=>?_;clear q3
   refine jU q4 λI b1 b2 b3=>?_;clear q4
   exact K h' _ _ _ i I ⟨q1,q7 _ _ D.TIz D.TIi1 D.TIi2 d.rK,q7 _ _ D.TOz D.TOi1 D.TOi2 d.uU,a1,b1,a2,a3,b2,b3⟩ q5 (λψ k e=> .inr<|xF T v f (k _ _ s) rfl) λc o r n2 n3 n4 n5 e=>q7 c o r n4 n5 e
theorem N8{n:bh}{a b:aa}{f l:bh}{x:ak}(i:x∉(wm z j m t L n a b f l).map (·.1)):x≠z/\x≠j/\x≠m/\x≠t/\x≠L:=
 (sS (λe=>i<|e▸ .head _) (λe=>i<|e▸ .tail _ (.head _)) (λe=>i<|e▸ .tail _ (.tail _<|.head _)) (λe=>i<|e▸ .tail _ (.tail _<|.tail _<|.head _)) λe=>i<|e▸ .tail _ (.tail _<|.tail _<|.tail _<|.head _))
theorem Ht{n:bh}{a b:aa}{f l:bh}{P:ak×bh->Prop}(h1:P (z,n))(h2:P (j,uT (.ref t)<|.ref L))(d:P (m,uT a b))(e:P (t,f))(g:P (L,l)):∀p∈wm z j m t L n a b f l,P p:=λp i=>by
 cases i with
 |head=>exact h1
 |tail _ i=>cases i with
  |head=>exact h2
  |tail _ i=>cases i with
   |head=>exact d
   |tail _ i=>cases i with
    |head=>exact e
    |tail _ i=>cases i with
     |head=>exact g
     |tail _ i=>cases i
theorem Zl{G:FM->bh->Prop}(d:ZK w A B z j m t L l1 l2 G)(S0:∀J ψ o,FM.jw J ψ->G J o->G ψ o){vs D:Array aa}{r n2:Nat}{xs:List af}:∀{ys:List af} {k:Nat} {C:FM} {n:bh} {a b:aa} {f l:bh},C l1=Y (eg vs r)->C l2=Y (eg D n2)->bD C (vs.toList.drop k) xs->bD C (D.toList.drop k) ys->
  G C n->f.cls= .type "list_iterator"->f.data= .fields #[.ref l1,.int (k:Nat) 0]->l.cls= .type "list_iterator"->l.data= .fields #[.ref l2,.int (k:Nat) 0]->Nx w A C B (.ref z) (qi xs ys) (wm z j m t L n a b f l):=by
 have q {J C:FM} {c:Cx} {N h q as s k n a b f l} (c1:f.cls= .type "list_iterator") (d1:f.data= .fields #[.ref l1,.int (k:Nat) 0]) (c2:l.cls= .type "list_iterator") (d2:l.data= .fields #[.ref l2,.int (k:Nat) 0]) (U:aH c N (wm z j m t L n a b f l++h) q J as s):ZS z j m t L l1 l2 k n a b f l s.heap:=
  ⟨U.jX<|.head _,U.jX<|.tail _<|.head _,U.jX<|.tail _<|.tail _<|.head _,U.jX<|.tail _<|.tail _<|.tail _<|.head _,U.jX<|.tail _<|.tail _<|.tail _<|.tail _<|.head _,c1,d1,c2,d2⟩
 have gF {k C n a b f l} (h1:C l1=Y (eg vs r)) (h2:C l2=Y (eg D n2)) (g:G C n) (c1:f.cls= .type "list_iterator") (d1:f.data= .fields #[.ref l1,.int (k:Nat) 0]) (c2:l.cls= .type "list_iterator") (d2:l.data= .fields #[.ref l2,.int (k:Nat) 0]) (he:vs[k]?=Z\/D[k]?=Z):Nx w A C B (.ref z) [] (wm z j m t L n a b f l):=by
  intro c N h ez J as s R E ew eA ok k0 U D' K
  subst ew eA
  exact d.ym ok.hand U.keep (S0 _ _ _ k0 g) (q (C:=C) c1 d1 c2 d2 U) ⟨_,U.keep _ _<|k0 _ _ h1,rfl,_,rfl⟩ ⟨_,U.keep _ _<|k0 _ _ h2,rfl,_,rfl⟩ he λh' ho=>K _<|U.qg (bW:=[]) (s':={s with heap:=h'}) D' (λx ob hb e=>let ⟨r,n2,n3,n4,n5⟩:=N8 hb;ho x ob r n2 n3 n4 n5 e) (λp hp=>nomatch hp) (λp hp=>nomatch hp) rfl rfl
 induction xs with
 |nil=>
  intro ys k C n a b f l h1 h2 r1 r2 g c1 d1 c2 d2
  refine gF h1 h2 g c1 d1 c2 d2<|.inl ?_
  refine az oV ?_;exact N4<|M_ r1
 |cons x xs ih=>
  intro ys k C n a b f l h1 h2 r1 r2 g c1 d1 c2 d2
  cases ys with
  |nil=>
   refine gF h1 h2 g c1 d1 c2 d2<|.inr ?_
   refine az oV ?_;exact N4<|M_ r2
  |cons y ys=>
   obtain⟨v,hv,rv,r1⟩:=N6 r1
   obtain⟨u,hu,ru,r2⟩:=N6 r2
   intro c N h ez J as s R E M ew eA ok k0 U D' K
   clear gF;subst ew eA
   refine d.item U.keep (S0 _ _ _ k0 g) (q (C:=C) c1 d1 c2 d2 U) (g8 _ (U.keep _ _<|k0 _ _ h1) rfl _ rfl) (g8 _ (U.keep _ _<|k0 _ _ h2) rfl _ rfl) hv hu λh' E1 a' b' i I Z' q5 g' ho=>?_
   obtain⟨qq,J'⟩:=U.NG (bW:=wm z j m t L E1 a' b' i I) (s':={s with heap:=h'}) D' (λx ob hb e=>let ⟨r,n2,n3,n4,n5⟩:=N8 hb;ho x ob r n2 n3 n4 n5 e)
    (Ht (.head _) (.tail _<|.head _) (.tail _<|.tail _<|.head _) (.tail _<|.tail _<|.tail _<|.head _)<|.tail _<|.tail _<|.tail _<|.tail _<|.head _) (Ht Z'.hz Z'.rK Z'.uU Z'.g1 Z'.g2) rfl rfl (bM _) q5
   have k1:=k0.trans qq
   exact K _ _ _ _ qq J' rfl (RD.tuple (FM.eZ _ _ _)<|.cons (rv.aO k1)<|.cons (ru.aO k1) .nil)
    (ih (k1 _ _ h1) (k1 _ _ h2) (r1.aO k1) (r2.aO k1) (g' _ qq.C<|FM.eZ _ _ _) Z'.c1 Z'.d1 Z'.c2 Z'.d2)
end
section
variable {c:Cx} {N:List H} {h:ao} {q:St} {B:ay} {Q:List af->St->Prop}
theorem Zm{S l1 l2:Nat}(h1:l1<S)(h2:l2<S):xu (S+4) (S+2) (S+3) S (S+1) l1 l2:=by
 constructor<;>(intro av;have a:(_:Nat)=_:=av;lia)
theorem d8.N9{x:H}{np cK:aV}{e1 e2:ay}(hz:∀z j m t L l1 l2,xu z j m t L l1 l2->∃G,ZK c.w c.A B z j m t L l1 l2 G/\(∀J ψ o,FM.jw J ψ->G J o->G ψ o)/\∀J,G J<|C9 .none j m)(BQ:dB e1=true)(BR:dB e2=true)
  (i:aG c N h (.Name x np) q λu nU=>u= .ty "zip"/\aG c N h e1 nU λu C=>∃xs,u= .l xs/\aG c N h e2 C λu M=>∃ys,u= .l ys/\Q (qi xs ys) M):
  d8 c N h (.Call (.Name x np) [e1,e2] [] cK) B q Q:=λJ as s R E I tk K=>by
 have S1:∀y∈[e1,e2],dB y=true:=λy hy=>by
  refine ni hy ?_ ?_<;>assumption
 have hp:((iG cK<|gi [e1,e2] c.aj).any (·.1))=false:=s7 S1
 refine Cg<|aN.bw i I tk λjl iU jJ v u nU j3 gr jK gR jL k6=>?_
 obtain⟨rfl,k6⟩:=k6
 obtain rfl:v= .type "zip":=jL
 refine LH hp<|s8 (Q:=λus M=>∃xs ys,us=[.l xs,.l ys]/\Q (qi xs ys) M) S1 (dD.cons BQ λJ as s R E I tk K=>k6 J as s R E I tk λcN aJ s' a b ez k p I' r av=>K cN aJ s' a b ez k p I' r ?_) jK gR λfB iA dJ vs us C cZ ji e dY cG kF=>?_
 ·obtain⟨xs,rfl,av⟩:=av
  exact dD.cons BR λJ as s R E I tk K=>av J as s R E I tk λcN aJ s' a b ez k p I' r av=>K cN aJ s' a b ez k p I' r<|by
   clear r;obtain⟨ys,rfl,av⟩:=av
   exact dD.nil ⟨xs,ys,rfl,av⟩
 obtain⟨xs,ys,rfl,kF⟩:=kF
 obtain⟨v,oQ,ra,rs⟩:=cT cG
 replace rs:=cT rs;clear cG;obtain⟨v',oQ,rb,rs⟩:=rs
 obtain rfl:=fS rs
 obtain⟨a,vs,n,g,r⟩:=xS ra
 obtain⟨a',oQ,n',g',r'⟩:=xS rb
 refine call_zip_2 (g8 _ (e.keep _ _ g) rfl _ rfl) (g8 _ (e.keep _ _ g') rfl _ rfl) λh' q1 q2 q3 q4 q5 q6 q7=>?_
 refine ak2 q1 ?_
 refine jU q4 λf a1 a2 a3=>?_;clear q4
 refine jU q5 λl b1 b2 b3=>?_;clear q5
 let S:=dJ.heap.objs.size
 refine Ea (e.holds (s':={dJ with heap:=h'}) (hs:=wm (S+4) (S+2) (S+3) S (S+1) (C9 .none (S+2)<|S+3) .none .none f l) q7 rfl rfl<|Ht ⟨pZ _ _,q1⟩ ⟨pZ _ _,q2⟩ ⟨pZ _ _,q3⟩ ⟨bM _,a1⟩ ⟨pZ _ _,b1⟩) λU D=>?_
 refine jU (hz _ _ _ _ _ _ _<|Zm (iC<|e.keep _ _ g)<|iC<|e.keep _ _ g') λG d mo g0=>?_
 exact K fB iA _ _ C _ _ (j3.trans cZ) (gr.trans ji) U D (Zl d mo (k:=0) g g' r r' (g0 _) a2 a3 b2 b3) (λw A R E s hh hr=>ak2 (hh _ aZ) hr) kF
theorem d8.zip(l:uI B=true)(BQ:dB e1=true)(BR:dB e2=true)
  (i:aG c N h (.Name x np) q λu nU=>u= .ty "zip"/\aG c N h e1 nU λu C=>∃xs,u= .l xs/\aG c N h e2 C λu M=>∃ys,u= .l ys/\Q (qi xs ys) M):
  d8 c N h (.Call (.Name x np) [e1,e2] [] cK) B q Q:=d8.N9 (λU U U U U U U D=>(bk _ (Zj l D) (λU U U U g=>g) λU=>rfl)) BQ BR i
theorem d8.oq(l:z_ B=true)(BQ:dB e1=true)(BR:dB e2=true)
  (i:aG c N h (.Name x np) q λu nU=>u= .ty "zip"/\aG c N h e1 nU λu C=>∃xs,u= .l xs/\aG c N h e2 C λu M=>∃ys,u= .l ys/\Q (qi xs ys) M):
  d8 c N h (.Call (.Name x np) [e1,e2] [] cK) B q Q:=d8.N9 (λU U U U U U U D=>⟨_,Zk l D,λU U U k g=>g.imp id λa=>sV a λT f o e av=>⟨T,f,o,k _ _ e,av⟩,λU=> .inl rfl⟩) BQ BR i
end
noncomputable def AV.uV(i:Nat)(u:AV):AV->Option AV
 | .gA j C=>if j=i then Y u else Y (.gA j C)
 |v=>Y v
def St.uV(q:St)(i:Nat)(u:AV):St:=⟨q.v.map λo=>o.bind<|AV.uV i u,q.μ.set i Z⟩
def C_(C:ak)(L:List (H×AV))(u:AV):Prop:=u.aq=true/\∀(J:FM) x g d n,J x=Y (lq C g)->J g=Y (jP d n)->jy J d L->RV J [] (.ref x) u
section
variable {c:Cx} {N:List H} {h:ao} {q:St} {J z:FM} {as:List ak} {s s':au}
theorem aH.Zn(I:aH c N h q J as s){i:Nat}{C:ak}{L:List (H×AV)}{w:AV}(t:q.μ[i]?=Y (Y<|.gJ C L))(v:C_ C L w)(B:∀j D,(∃o∈q.v,o=Y (.gA j D))->j=i->D=C):
  ∃z,FM.le J z/\aH c N h (q.uV i w) z as s:=by
 refine cC I λE m I=>?_
 obtain⟨a,o,ha,A,d,n,rfl,f⟩:=I.ff i _ t
 have k:FM.le J (J.cY a<|jP d n):=FM.iZ<|I.base.cU _ A
 refine ah _ k<|I.Nj ha A rfl λu Q G e M r=>?_
 cases u with
 |gA j D=>
  by_cases p:j=i
  ·rw[show AV.uV i w (.gA j D)=Y w from if_pos p] at e
   cases e;clear t;subst p
   refine o9 r λx g b y l=>?_;clear r;subst y
   rw[ha] at b;cases b
   rw[B _ D (ah _ G rfl) rfl] at l
   exact(v.2 _ x a d n (k _ _ l) (FM.eZ _ _ _)<|f.le k.C).aq v.1
  ·rw[show AV.uV i w (.gA j D)=Y (.gA j D) from if_neg p] at e
   cases e;exact RV.aO k r
 |_=>cases e;exact RV.aO k r
end
theorem yo{J:FM}{d:List eY}{n:H}{x:AV}{L:List (H×AV)}(i:jy J d ((n,x)::L)):∃g t v f,d=⟨g,.str n t,v⟩::f/\RV J [] v x/\jy J f L:=by
 cases i with
 |cons a b r=>
  rename_i e f
  obtain⟨g,j,v⟩:=e
  refine Ex a λt y=>?_;clear a;subst y
  exact mq g t v<|bk f rfl b r
theorem Zo(s k:Int):C_ 111 [("_tabsize",.i s),("_wrapcolumn",.i k),("_linejunk",.n),("_charjunk",.k 29),("_prefix",.l [.str "old_",.str "new_"])] (.bF s k):=by
 refine⟨rfl,λJ x g d n l i f=>?_⟩
 obtain⟨b,a,j,d,rfl,e,f⟩:=yo f
 obtain⟨m,o,K,d,rfl,p,f⟩:=yo f
 obtain⟨r,t,L,d,rfl,u,f⟩:=yo f
 obtain⟨v,w,y,d,rfl,A,f⟩:=yo f
 obtain⟨B,C,D,d,rfl,E,f⟩:=yo f
 cases f
 obtain⟨G⟩:=cL e
 obtain⟨I⟩:=cL p
 obtain rfl:=G3 u
 obtain rfl:y= .ref 29:=A
 exact⟨x,g,b,m,r,v,B,a,o,t,w,C,G,I,D,n,rfl,l,i,E⟩
theorem N_{J:FM}:∀{d:List eY} {L:List (H×af)},jy J d (L.map λp=>(p.1,AV.d p.2))->qc J d L
 |_,[],i=>by cases i;exact .nil
 |_,(n,x)::L,i=>by
  refine GD (yo i) λb a j d y e f=>?_;clear i;subst y
  exact .cons ⟨⟨a,rfl⟩,e⟩<|N_ f
theorem Zp(a j k:af)(e:List Int)(b m:Int):C_ 228 [("raw",.d a),("n",.d j),("nt",.i m),("norm",.t [.tuple (e.map .int),.int b]),("is_simple",.d k)] (.ws e b m):=
 ⟨rfl,λJ x g d n l i f=>⟨x,g,d,n,a,j,k,rfl,l,i,N_ (L:=[("raw",a),("n",j),("nt",.int m),("norm",.tuple [.tuple (e.map .int),.int b]),("is_simple",k)]) f⟩⟩
theorem Oa(P:cH):readsIn (K0 P) 228 (.type "type")=true:=by kernel_rfl
theorem Zq(P:cH):∃t,findCls (K0 P) (.ref 228) (.type "type") "S"=Y (.val<|.str " " t):=⟨1991,by kernel_rfl⟩
theorem Zr(P:cH):∃t,findCls (K0 P) (.ref 228) (.type "type") "T"=Y (.val<|.str "\t" t):=⟨1992,by kernel_rfl⟩
section
variable {c:Cx} {N:List H} {h:ao} {q:St} {Q:AV->St->Prop}
theorem Zs(a:Q (.s " ") q):P1 c N h RV (λv=>zL v "S" true) (.k 228) q Q:=λJ as s R E b I d K=>by
 obtain rfl:b= .ref 228:=d
 obtain⟨t,e⟩:=Zq c.w.params
 exact cls_read I.e7 (Oa _) e<|bf<|gH (ak3 rfl)<|K.now (I.toks _) (i6 _ _) a
theorem Zt(a:Q (.s "\t") q):P1 c N h RV (λv=>zL v "T" true) (.k 228) q Q:=λJ as s R E b I d K=>by
 obtain rfl:b= .ref 228:=d
 obtain⟨t,e⟩:=Zr c.w.params
 exact cls_read I.e7 (Oa _) e<|bf<|gH (ak3 rfl)<|K.now (I.toks _) (i6 _ _) a
end
section
variable {c:b} {U:d} {h:a} {q:e}
end
section
variable {c:Cx} {N:List H} {h:ao} {q:St}
theorem bq.Hu(p:dH c N h D q Q):bq c N h (.Try D (n::hs) [] [] r) q Q:=λJ as s R E I tk K=>
 ak4 (aN.bw p I tk λj k o f w l d e g m a i=>by
  cases w with
  |nx=>obtain rfl:f= .next:=a;exact Ck<|(K.trans d e).now (b:=Fw.nx) g rfl i
  |br=>obtain rfl:f= .brk:=a;exact(K.trans d e).now (b:=Fw.br) g rfl i
  |ct=>obtain rfl:f= .cont:=a;exact(K.trans d e).now (b:=Fw.ct) g rfl i
  |rt u=>refine aD a λv t x=>?_;clear a;subst t;exact(K.trans d e).now (b:=Fw.rt u) g (ah v rfl x) i)
end
section
variable {c:Cx} {N:List H} {h:ao} {q:St} {Q:PQ}
theorem Zu{xs:List af}(e:xs.length<=aL)(f:Q (.i xs.length) q):PN c N h (.builtin "len") [.t xs] q Q:=λJ as s R E vs I tk b K=>by
 replace b:=cT b;obtain⟨v,i,j,b⟩:=b
 obtain rfl:=fS b
 obtain⟨a,vs,n,g,k⟩:=CP j
 have d:vs.size=xs.length:=by exact az fN<|V k.length rfl
 refine Calls.call_function_entry kind_len plain_len entry_len (args_len1 _) ?_
 refine ktl_len (I.keep _ _ g) (by refine V d ?_;unfold aL at e;lia) ?_
 refine V d ?_
 exact K.now (I.toks _) (jW _ _) f
end
section
open Builtin Builtin.Str
abbrev PB:=List aa×zP×List Nat
abbrev uW(U:Type):=aa->H->aa->Bool->Option H->Bool->U
noncomputable def qj(w:zP)(x:bT (ForInStep PB)):bT (ForInStep PB):=if L7 w.total=true then F9 "str.__mod__:memory" else x
noncomputable def pre(f:uW (Nat->PB->bT (ForInStep PB)))(K:uW (PB->bT Fin))(h:aa)(F:H)(a:aa):bT Fin:=
 isInstance a (.type "tuple")>>=λz=>Me a>>=λq=>ak5 a>>=λy=>
  let J (p:List aa):bT Fin:=forIn [:F.length] (p,({}:zP),F.cps.toList) (f h F a z q y)>>=K h F a z q y
  if z=true then seqItems? a>>=λo=>match o with|some xs=>pure xs.toList>>=J|none=>F9 "internal:str.__mod__">>=J else pure [a]>>=J
noncomputable def Ob:Percent:={type:=100}
def Av(v:aa)(p:List aa)(w:zP)(r:List Nat):bT (ForInStep PB):=
 Ct [v] (F_ 100 v>>=λi=>mkInt i.natAbs>>=λm=>f_ (.builtin "int.__repr__") [m]>>=λo=>Me o>>=λd=>match d with|some d=>pure (percentInt Ob (decide<|i<0) d.cps.toList,Z,true)|none=>F9 "internal:str.__mod__")>>=λb=>pure<|.yield (p,w.add ⟨b.1.toArray⟩ (if r.isEmpty=true then b.2.1 else Z),r)
noncomputable def lI:List Nat:=[32,105,100,61,34,37,115,37,100,34]
noncomputable def sI:H:=⟨#[32,105,100,61,34,37,115,37,100,34]⟩
def PF(f:uW (Nat->PB->bT (ForInStep PB)))(K:uW (PB->bT Fin)):Prop:=
 (∀h F a,pre f K h F a=percentFormat h F a)/\
 (∀h F a z q y w r,w.finish "str.__mod__"=K h F a z q y ([],w,r))/\
 (∀h F a z q y i p w,qj w (pure<|.done (p,w,[]))=f h F a z q y i (p,w,[]))/\
 (∀h F a z q y i p w x t r,qj w (pure<|.yield (p,w.add ⟨x.cps.toList.toArray⟩ (if r.isEmpty=true then Y (.str x t) else Z),r))=f h F a z q y i (.str x t::p,w,37::115::r))/\
 (∀h F a z q y i p w v r,qj w (Av v p w r)=f h F a z q y i (v::p,w,37::100::r))/\
 (∀h a z q y i p w,qj w (pure<|.yield (p,w.add ⟨#[32,105,100,61,34]⟩ Z,[37,115,37,100,34]))=f h sI a z q y i (p,w,lI))/\
 (∀h a z q y i p w,qj w (pure<|.yield (p,w.add ⟨#[34]⟩ Z,[]))=f h sI a z q y i (p,w,[34]))
theorem Hv:∃f K,PF f K:=by
 refine' ⟨_,_,_,_,_,_,_,_,_⟩
 rotate_left 2
 ·intro h F a;exact rfl
 ·intro h F a z q y w r;exact rfl
 ·intro h F a z q y i p w;exact rfl
 ·intro h F a z q y i p w x t r;exact rfl
 ·intro h F a z q y i p w v r
  have j:∀(k:Int->bT (List Nat×Option aa×Bool)) (K:(List Nat×Option aa×Bool)->bT (ForInStep PB)) (X:bT (ForInStep PB)),qj w (Ct [v] (F_ 100 v>>=k)>>=K)=X->Av v p w r=(Ct [v] (F_ 100 v>>=k)>>=K)->qj w (Av v p w r)=X:=λk K X B e=>by rw[e];exact B
  refine' j _ _ _ rfl _
  unfold Av
  refine congrArg (λx=>Ct [v] x>>=_)<|
   congrArg (λx=>F_ 100 v>>=x) ?_
  funext i
  refine congrArg (λx=>mkInt i.natAbs>>=x) ?_
  funext m
  refine congrArg (λx=>f_ _ [m]>>=x) ?_
  funext o
  refine congrArg (λx=>Me o>>=x) ?_
  funext d
  cases d with
  |none=>exact rfl
  |some d=>exact rfl
 ·intro h a z q y i p w;exact rfl
 ·intro h a z q y i p w;exact rfl
section
variable {f:uW (Nat->PB->bT (ForInStep PB))} {K:uW (PB->bT Fin)} {M:k9} {A:cR} {E:aa->au->Prop} {s:au} {h a:aa} {F:H} {z:Bool} {q:Option H} {y:Bool} {w:zP} {T:H} {N i:Nat} {l:List Nat} {p:List aa} {r:List Nat} {v:aa}
theorem Dc(g:Ga w T N)(d:N<=16777216)(B:aF M A x Q E s):aF M A (qj w x) Q E s:=Mf<|ak6 (KPc.short_good g d) B
theorem Hw(e:qj w (pure<|.yield c)=g i b)(j:Ga w T N)(d:N<=16777216)(B:aF M A (forIn l c g) Q E s):aF M A (forIn (i::l) b g) Q E s:=Mg<|e▸Dc j d (bf B)
theorem Oc(e:qj w (pure<|.done c)=g i b)(j:Ga w T N)(d:N<=16777216)(B:Q c s):aF M A (forIn (i::l) b g) Q E s:=Mg<|e▸Dc j d (bf B)
theorem Od(c:aF M A (isInstance v<|.type "tuple") (λb s'=>b=false/\s'=s) E s)(d:Me v=pure q)(g:ak5 v=pure y)(B:aF M A (forIn (Gb 0 F.length 1) ([v],({}:zP),F.cps.toList)<|f h F v false q y) (λr s=>aF M A (K h F v false q y r) Q E s) E s):aF M A (pre f K h F v) Q E s:=by
 refine aB<|cQ c (λb s' e=>?_) λ_ _ e=>e
 obtain⟨rfl,rfl⟩:=e
 refine aB<|gH d<|aB<|gH g<|Mf<|ak6 ue<|aB<|bf<|aB ?_
 rw[ak7];exact B
theorem Oe(e:qj w (Av (.int n u) p w r)=g i (.int n u::p,w,37::100::r))(j:Ga w T N)(d:N<=16777216)(t:0<=n)(v:n<10^10)(m:n.natAbs.log2<1920)
  (B:∀k o,Ga o (T++sF (toString n)) (N+10)->aF (aX b W) A (forIn l (p,o,r) g) Q E {s with toks:=k}):aF (aX b W) A (forIn (i::l) (.int n u::p,w,37::100::r) g) Q E s:=by
 exact Mg<|e▸Dc j d (aB<|j9<|aB<|gH (a:=n) rfl<|aB<|akS<|aB<|
  call_gives F.slot_int_repr (Lv _ _ _) F.entry_int_repr (F.args_int_repr_1 _) (gives_int_repr _ _<|ak8 m) ⟨int_text_fits<|ak8 m,(
  aB (gH (a:=Y _) rfl<|bf<|bf<|
  KPc.after_int (c:=Ob) j rfl (.inl rfl) rfl t v rfl (ite_self _) (B _)))⟩)
end
theorem Zv{f:uW (Nat->PB->bT (ForInStep PB))}{K:uW (PB->bT Fin)}{M:k9}{A:cR}{E:aa->au->Prop}{s:au}{h:aa}{F:H}{b:ak}{e:Array aa}{Q:Fin->au->Prop}(j:Mh s.heap b e)(B:∀y,aF M A (forIn (Gb 0 F.length 1) (e.toList,({}:zP),F.cps.toList)<|f h F (.ref b) true Z y) (λr s=>aF M A (K h F (.ref b) true Z y r) Q E s) E s):aF M A (pre f K h F<|.ref b) Q E s:=by
 obtain⟨o,g,c,n,d⟩:=j
 refine aB<|Mc (T:="tuple") ⟨o,g,c⟩ KPt.sub_tt<|aB<|KPt.asStr_ref g d<|aB<|KPt.fills_ref ⟨o,g,c⟩ λy=>
  Mf (KPc.ite_yes rfl<|aB<|Ma g d<|aB<|bf<|aB ?_)
 rw[ak7];exact B y
end
section
open Builtin Builtin.Str
noncomputable def fD:H:=⟨#[37,100]⟩
noncomputable def fI:H:=⟨#[32,105,100,61,34,37,115,37,100,34]⟩
theorem Zw:("%d":H)=fD:=by decide+kernel
theorem Zx:G7=fI:=by decide+kernel
theorem Zy(i:Int)(t u:k_)(e:0<=i)(l:i<10^10)(b:i.natAbs.log2<1920)(_:((i.natAbs:Nat):Int).natAbs.log2<1920):
  Mi («str.__mod__» ⟨[.str ⟨#[37,100]⟩ t,.int i u],[]⟩) (λ_ R s=>∀d k,R (.ok<|.ret<|.str (sF<|toString i) d) {s with toks:=k}):=by
 obtain⟨f,K,P⟩:=Hv
 refine KPc.meets_of λa w A s Q E j=>?_
 rw[KPc.entry_is,<-P.1]
 exact Od (Mc (Lv _ _ _) F.sub_int_tuple ⟨rfl,rfl⟩) (q:=Z) rfl (KPc.fills _ _)<|
  U5 λw g=>Oe (P.2.2.2.2.1 ..) g (by decide) e l b λk m g=>Oc (P.2.2.1 ..) g (by decide)<|
  P.2.1 _ _ _ _ _ _ _ _▸ak9 g (by decide) (KPc.empty_app _) λd k=>j d k
theorem Zz(x:H)(n:Int)(t m o:k_)(b:ak)(p:x.length<=1000000)(e:0<=n)(l:n<10^10):
  Mi («str.__mod__» ⟨[.str ⟨#[32,105,100,61,34,37,115,37,100,34]⟩ t,.ref b],[]⟩) (λ_ R s=>Mh s.heap b #[.str x m,.int n o]/\∀d k,R (.ok<|.ret<|.str ((((" id=\"":H)++x)++sF (toString n))++("\"":H)) d) {s with toks:=k}):=by
 obtain⟨f,K,P⟩:=Hv
 refine KPt.meets_tup λa w A s Q E i j=>?_
 rw[KPt.entry_is_r,<-P.1]
 exact Zv i λr=>U5 λw g=>Hw (P.2.2.2.2.2.1 ..) g (by decide)<|
  KPc.after_add0 (y:=" id=\"") g (by decide+kernel) (U6 rfl) λw g=>Hw (P.2.2.2.1 ..) g (by decide+kernel)<|
  KPc.after_str g p (U6 rfl) λw g=>Oe (P.2.2.2.2.1 ..) g (by decide+kernel) e l (shown (N:=2^1920) (by omega) (by omega)<|Lj _) λk w g=>Hw (P.2.2.2.2.2.2 ..) g (by decide+kernel)<|
  KPc.after_add (y:="\"") g (by decide+kernel) (U6 rfl) λw g=>Oc (P.2.2.1 ..) g (by decide+kernel)<|
  P.2.1 ..▸ak9 g (by decide+kernel) rfl λd k=>j d k
section
variable {c:Cx} {N:List H} {h:ao} {q:St}
theorem ZA(i:Mh s.heap b f)
  (g:Mi («str.__mod__» ⟨[.str X t,.ref b],[]⟩) (λ_ R s=>Mh s.heap b f/\∀d k,R (.ok<|.ret<|.str T d) {s with toks:=k}))
  (j:∀d k,Q (.str T d) {s with toks:=k}):aF (aX a w) A (lX .Mod (.str X t)<|.ref b) Q E s:=by
 have l:s.TypeIs (.ref b) "tuple":=by
  refine jU i λo m n _=>?_;clear i
  exact ah o m n
 exact KPt.bin_left (T:="str") (U:="tuple") (op:= .Mod) (by decide) (lZ s X t) l ala KPt.fills_tuple U7
  (uh U7 (lZ s X t) alb (alc _ _) g ⟨i,λd k=>⟨(λe=>nomatch e),j d k⟩⟩)
theorem ZC(r:bD J vs.toList [a,b]):∃x y,vs=#[x,y]/\RD J x a/\RD J y b:=by
 obtain⟨l⟩:=vs
 cases r with
 |cons i f=>cases f with
  |cons f d=>cases d;exact gx _ _ rfl i f
theorem ZD(e:CX n)(j:Q (.s<|dh n) q):P2 c N h RV (lX .Mod) (.s "%d") (.i n) q Q:=λJ as s R E r p I m o K=>by
 obtain⟨t⟩:=dG m
 obtain⟨u⟩:=cL o
 exact KPc.mod_int (X':=fD) (T:=λi=>sF<|toString i) Zw e.1 e.2 (λi e l=>Zy i t u e l) λd k=>K.now (b:=AV.s<|dh n) (I.toks k) (i6 _ _) j
theorem ZE(l:G8 a)(e:CX n)(j:Q (.s<|Al a<|dh n) q):P2 c N h RV (lX .Mod) (.s G7) (.t [.str a,.int n]) q Q:=λJ as s R E r p I m o K=>by
 obtain⟨t⟩:=dG m
 cases(show RD J p _ from o) with
 |tuple g u=>
  refine o9 (ZC u) λx y v i f=>?_;subst v
  cases i;cases f
  exact V Zx<|
   ZA (g8 _ (I.keep _ _ g) rfl _ rfl) (Zz a n _ _ _ _ (ic l<|by decide) e.1 e.2) λd k=>K.now (b:=AV.s<|Al a<|dh n) (I.toks k) (i6 _ _) j
end
end
section
variable {a:Cx} {N:Sc}
noncomputable def Dd(a:Cx)(N:Sc)(h:ao)(B G:ay):List af->List (Option AV)->List af->(List (Option AV)->List af->Prop)->Prop
 |[],v,g,K=>K v g
 |x::xs,v,g,K=>∀hs,iM a N.N (hs++h) B (.d x) ⟨v,[Y (.ai g)]⟩ λf=>aG a N.N (hs++h) G f λu t6=>∃y,u= .d y/\t6.μ=[Y (.ai g)]/\g.length<=aL/\Dd a N h B G xs t6.v (g++[y]) K
noncomputable def Aw(a:Cx)(N:Sc)(h:ao)(B b d G:ay):List af->List (Option AV)->List af->(List af->Prop)->Prop
 |[],_,g,K=>K g
 |x::xs,v,g,K=>∀hs,iM a N.N (hs++h) B (.d x) ⟨v,[Y (.ai g)]⟩ λf=>d8 a N.N (hs++h) b d f λC e=>e.μ=[Y (.ai g)]/\Dd a N (hs++h) d G C e.v g λv' i=>Aw a N h B b d G xs v' i K
noncomputable abbrev kh(G t i t2 i2:ay)(j:jo)(B:aV):ay:= .ListComp G [⟨t,i,[],0⟩,⟨t2,i2,[],0⟩] j B
theorem ZF(G t i t2 i2:ay)(j:jo)(B:aV)(it g:aa)(d:dw):
  FN (kh G t i t2 i2 j B) 0 it g d=(do
   vF i.pos
   match<-sG it with
   |none=>pure<|.done .next
   |some v=>
    qK t it v
    pX t d v
    let x<-eval i2 d
    vF i2.pos
    let x<-qS i2 d x
    let _<-runOwn (.compStart (kh G t i t2 i2 j B) 1 (<-Ct [x] (zG x)) g d) d
    again (.compLoop (kh G t i t2 i2 j B) 0 it g d)):=by rfl
theorem ZG(G t i t2 i2:ay)(j:jo)(B:aV)(it g:aa)(d:dw):
  FN (kh G t i t2 i2 j B) 1 it g d=(do
   vF i2.pos
   match<-sG it with
   |none=>pure<|.done .next
   |some v=>
    qK t2 it v
    pX t2 d v
    (do let _<-f_ (.builtin "list.append") [g,<-eval G d])
    again (.compLoop (kh G t i t2 i2 j B) 1 it g d)):=by rfl
theorem ZH
  (f:iY (aX b w) A (.compLoop (kh G t i t2 i2 j B) 1 it g d) R s)
  (aU:aF (aX b w) A (zG it) (λe s'=>iY (aX b w) A (.compLoop (kh G t i t2 i2 j B) 1 e g d) R s')
   (qT (aX b w) A d λx s'=>R (.error x) s') s):
  iY (aX b w) A (.compStart (kh G t i t2 i2 j B) 1 it g d) R s:=by
 refine ald ?_
 refine(?_:aF _ _ ((compStart (kh G t i t2 i2 j B) 1 it g d).onRaise λx=>do vI x d;vF theWindowsPlace) _ _ s)
 refine wpAny_notedAt ?_
 unfold compStart
 refine(?_:aF _ _ (ask>>=_) _ _ s)
 refine aB<|akK<|Mf ?_
 split
 ·first
   |exact aB<|bf<|bf<|Gd rfl f
   |exact bf<|Gd rfl f
 ·first
   |exact aB (uq<|aB<|kL<|aB<|cQ aU (λe s' h'=>bf<|Gd rfl h') λo o x=>x)
   |(refine aB (uq ?_);refine(?_:aF _ _ (vF i2.pos>>=_) _ _ s);exact aB<|kL<|aB<|cQ aU (λe s' h'=>bf<|Gd rfl h') λo o x=>x)
inductive De(a:Cx)(N:Sc)(h:ao)(B G:ay)(K:List (Option AV)->List af->Prop)(l:FM)(D:ak)(it:aa)(n:Nat)(s:au):Prop
 |mk (ds:List af) (v:List (Option AV)) (g:List af) (k:FM) (bW:ao):ds.length=n->FM.le l k->aH a N.N (bW++h) ⟨v,[Y (.ai g)]⟩ k [D] s->0<s.toks->(∀p∈h,p.1∉bW.map (·.1))->Nx a.w a.A k B it ds bW->Dd a N h B G ds v g K->De a N h B G K l D it n s
theorem drawn{a:Cx}{N:Sc}{h:ao}(ok:aW a){B:ay}{it:aa}{d:af}{ds:List af}{bW:ao}{q:St}{k:FM}{as:List ak}{s:au}{R:Option aa->au->Prop}{E M:aa->au->Prop}
  (I':aH a N.N (bW++h) q k as s)(fW:0<s.toks)(D':∀p∈h,p.1∉bW.map (·.1))(m8:Nx a.w a.A k B it (d::ds) bW)
  (K:∀I w v b,FM.le k I->aH a N.N (w++h) q I as b->0<b.toks->(∀p∈h,p.1∉w.map (·.1))->RD I v d->Nx a.w a.A I B it ds w->R (Y v) b):
  aF a.M a.A (sG it) (λr jJ=>match r with
   |none=>R Z jJ
   |some v=>aF a.M a.A (qK B it v) (λo b=>R (Y v) b) M jJ) E s:=by
 refine cQ (ur (n:=1) fW<|m8 a N.N h q k as s (λr J=>0<J.toks->∃v,r=Y v/\R (Y v) J) E M rfl rfl ok (FM.le.refl _) I' D' λI w se b cZ cI e cG nR A=>(ah se rfl<|K I w se b cZ cI A (λp hp=>by refine V e ?_;exact D' p hp) cG nR)) (λr J y=>?_) λo o y=>y.2
 obtain⟨iT,se,rfl,y⟩:=y
 refine cQ (ur (n:=1) iT y) (λo L z=>?_) λo o z=>z.2
 refine Ea z λu z=>
  aD (z u) λv' f z=>?_
 cases f
 exact z
theorem ZI{h:ao}(ok:aW a)(so:bA N a){G t i t2 i2:ay}{j:jo}{B:aV}{K:List (Option AV)->List af->Prop}{l:FM}{D:ak}{it:aa}{R:sN->au->Prop}
  (gF:∀v g k s',FM.le l k->aH a N.N h ⟨v,[Y (.ai g)]⟩ k [D] s'->0<s'.toks->K v g->R (.ok .next) s'){n:Nat}{s:au}(aU:De a N h t2 G K l D it n s):
  iY a.M a.A (.compLoop (kh G t i t2 i2 j B) 1 it (.ref D) a.aj) R s:=by
 refine UI rfl (De a N h t2 G K l D it) (λn s hI=>?_) n aU
 refine(?_:aF a.M a.A ((FN (kh G t i t2 i2 j B) 1 it (.ref D) a.aj).onRaise λx=>do vI x a.aj;zH x) _ _ s)
 refine UJ<|
  V (ZG ..) (
  aB (kL<|aB ?_))
 obtain⟨ds,v,g,k,bW,rfl,k',I',fW,D',m8,h'⟩:=hI
 cases ds with
 |nil=>
  refine cQ (ur (n:=1) fW<|m8 a N.N h _ k [D] s (λr b=>0<b.toks->r=Z/\R (.ok .next) b) _ rfl rfl ok (FM.le.refl _) I' D' λb cI A=>⟨rfl,gF v g k b k' cI A h'⟩) (λr b y=>?_) λo o y=>y.2
  refine Ea y λA y=>
   Ea (y A) λe z=>?_
  subst e
  exact bf z
 |cons d ds=>
  let EE:aa->au->Prop:=qT a.M a.A a.aj λe s'=>R (.error e) s'
  refine cQ (drawn (M:=EE) (R:=λr jJ=>∃v,r=Y v/\aF a.M a.A (pX t2 a.aj v) (λo b=>aF a.M a.A (eval G a.aj) (λx J=>aF a.M a.A (f_ (.builtin "list.append") [.ref D,x]) (λo L=>∃m,m<(d::ds).length/\De a N h t2 G K l D it m L) EE J) EE b) EE jJ)
   ok I' fW D' m8 λI w se b cZ cI A tZ cG nR=>(ah se rfl ?_)) (λr jJ y=>?_) λo o y=>y
  ·refine P1.bw (h' w) cI A cG λh_ iz J o o t6 c_ eV gq iT o jh=>aN.bw jh gq iT λkZ oN E x u r_ C tW w4 f zb p=>?_
   obtain⟨y,rfl,jM,hl,p⟩:=p
   obtain rfl:=ye w4 (eV.trans tW) jM
   obtain⟨t7,Kn⟩:=r_
   obtain rfl:Kn=[Y (.ai g)]:=jM
   refine kK (n:=1) f<|(Ak (i:=0) (xs:=g) (x:=y) (Q:=λo q=>q=(⟨t7,[Y (.ai<|g++[y])]⟩:St)) rfl hl rfl) kZ [D] E _ _ [.ref D,x] w4 f ⟨⟨D,rfl,rfl⟩,zb,trivial⟩ λtY w5 oO o o Bv m7 zc tX o Kp BC=>?_
   subst Kp
   obtain rfl:=ye tX zc rfl
   exact⟨ds.length,lz _,ds,t7,g++[y],tY,w,rfl,k'.trans<|cZ.trans<|c_.trans<|C.trans m7,tX,BC,tZ,nR.aO<|c_.trans<|C.trans m7,p⟩
  ·cases r with
   |none=>refine aD y λv e o=>?_;clear y;cases e
   |some v=>
    refine aB<|cQ y (λo b z=>?_) λo o z=>z
    refine aD z λv' e z=>?_
    cases e
    refine aB<|cQ z (λo J z=>?_) λo o z=>z
    exact aB<|aB<|cQ z (λx L z=>aB<|cQ z (λo E z=>bf<|bf ⟨rfl,z⟩) λo o z=>z) λo o z=>z
inductive Df(a:Cx)(N:Sc)(h:ao)(B b d G:ay)(K:List af->Prop)(l:FM)(D:ak)(it:aa)(n:Nat)(s:au):Prop
 |mk (ds:List af) (v:List (Option AV)) (g:List af) (k:FM) (bW:ao):ds.length=n->FM.le l k->aH a N.N (bW++h) ⟨v,[Y (.ai g)]⟩ k [D] s->0<s.toks->(∀p∈h,p.1∉bW.map (·.1))->Nx a.w a.A k B it ds bW->Aw a N h B b d G ds v g K->Df a N h B b d G K l D it n s
theorem ZJ{h:ao}(ok:aW a)(so:bA N a){G t i t2 i2:ay}{j:jo}{B:aV}(aie:∀x,qS i2 a.aj x=pure x){K:List af->Prop}{l:FM}{D:ak}{it:aa}{R:sN->au->Prop}
  (gF:∀v g k s',FM.le l k->aH a N.N h ⟨v,[Y (.ai g)]⟩ k [D] s'->K g->R (.ok .next) s'){n:Nat}{s:au}(aU:Df a N h t i2 t2 G K l D it n s):
  iY a.M a.A (.compLoop (kh G t i t2 i2 j B) 0 it (.ref D) a.aj) R s:=by
 refine UI rfl (Df a N h t i2 t2 G K l D it) (λn s hI=>?_) n aU
 refine(?_:aF a.M a.A ((FN (kh G t i t2 i2 j B) 0 it (.ref D) a.aj).onRaise λx=>do vI x a.aj;zH x) _ _ s)
 refine UJ<|
  V (ZF ..) (
  aB (kL<|aB ?_))
 obtain⟨ds,v,g,k,bW,rfl,k',I',fW,D',m8,h'⟩:=hI
 cases ds with
 |nil=>
  refine m8 a N.N h _ k [D] s _ _ rfl rfl ok (FM.le.refl _) I' D' λb cI=>bf<|gF v g k b k' cI h'
 |cons d ds=>
  let EE:aa->au->Prop:=qT a.M a.A a.aj λe s'=>R (.error e) s'
  let RI:sN->au->Prop:=λr s'=>match r with| .ok _=>(∃m,m<(d::ds).length/\Df a N h t i2 t2 G K l D it m s')| .error e=>UE a.M a.A a.aj EE e s'
  refine cQ (drawn (M:=EE) (R:=λr jJ=>∃v,r=Y v/\aF a.M a.A (pX t a.aj v) (λo b=>aF a.M a.A (eval i2 a.aj) (λx J=>aF a.M a.A (zG x) (λE2 L=>iY a.M a.A (.compStart (kh G t i t2 i2 j B) 1 E2 (.ref D) a.aj) RI L) EE J) EE b) EE jJ)
   ok I' fW D' m8 λI w se b cZ cI A tZ cG nR=>(ah se rfl ?_)) (λr jJ y=>?_) λo o y=>y
  ·refine P1.bw (h' w) cI A cG λh_ iz J o o t6 c_ eV gq iT o jh=>d8.bw jh gq iT λj6 m6 L E2 j4 C Q fL j5 iV u aif aic aid pP=>?_
   refine Ea pP λjM hV=>?_;clear pP
   obtain rfl:=ye iV (eV.trans j5) jM
   obtain⟨Kq,Ko⟩:=j4
   obtain rfl:Ko=[Y (.ai g)]:=jM
   have BH:∀E,(∀p∈Q,E.heap.get? p.1=Y p.2)->E=L->iY a.M a.A (.compLoop (kh G t i t2 i2 j B) 1 E2 (.ref D) a.aj) RI E:=by
    rintro E _ rfl
    refine ZI (h:=w++h) ok so (l:=j6) (λv g k s' kx Ix tkx hK=>?_) (n:=C.length) ⟨C,Kq,g,j6,Q,rfl,FM.le.refl _,iV,u,aif,aic,hV⟩
    exact⟨ds.length,lz _,ds,v,g,k,w,rfl,k'.trans<|cZ.trans<|c_.trans<|fL.trans kx,Ix,tkx,tZ,nR.aO<|c_.trans<|fL.trans kx,hK⟩
   have hh:∀p∈Q,L.heap.get? p.1=Y p.2:=λp hp=>iV.jX hp
   exact ZH (BH L hh rfl)<|aid a.w a.A _ _ _ hh<|BH L hh rfl
  ·cases r with
   |none=>refine aD y λv e o=>?_;clear y;cases e
   |some v=>
    refine aB<|cQ y (λo b z=>?_) λo o z=>z
    refine aD z λv' e z=>?_
    cases e
    refine aB<|cQ z (λo J z=>?_) λo o z=>z
    refine aB<|cQ z (λx L z=>aB<|kL<|aB<|gH (aie x)<|aB<|j9<|cQ z (λE2 E z=>?_) λo o z=>z) λo o z=>z
    refine aB<|wpAny_runOwn<|codeAny_mono z λr s' hr=>?_
    cases r with
    |ok f=>exact bf ⟨rfl,hr⟩
    |error e=>exact hr
end
section
variable {c:Cx} {U N:Sc} {h:ao} {q:St}
theorem aG.Dg(ok:aW c)(so:bA U c)(cs:yd U j N w)(lV:∀x,qS i c.aj x=pure x)(y:∀d x,qS i2 d x=pure x)
  (aU:d8 c U.N h i t q λC f=>(∀o∈gO w f.v,∀u,o=Y u->u.aq=true)/\
   ∀(a:Cx) (r:ao),aW a->bA N a->a.w=c.w->a.d=c.d->Aw a N r t i2 t2 G C (gO w f.v) [] λg=>Q (.l g) f):aG c U.N h (kh G t i t2 i2 j B) q Q:=λJ as s R E I tk K=>by
 refine V (show aF c.M c.A (eval (kh G t i t2 i2 j B) c.aj) R E s=aF c.M c.A (FP (kh G t i t2 i2 j B) j c.aj (FT [⟨t,i,[],0⟩,⟨t2,i2,[],0⟩] B) (FU []) false<|eval i c.aj) R E s from rfl) ?_
 refine NO (M:=[⟨t2,i2,[],0⟩]) (L:=λC v K=>∀(a:Cx) (r:ao),aW a->bA N a->a.w=c.w->a.d=c.d->Aw a N r t i2 t2 G C v [] K) ok so cs lV aU
  (λa r l D it C hs v K R s z A ew ed I' fW D' m8 hC gF=>?_) I tk λψ aJ s' bB oC m v g f k p eX D hn rv hq=>(ah m hn λEP hs=>?_)
 ·exact ZJ z A (y a.aj) gF (n:=C.length) ⟨C,v,[],l,hs,rfl,FM.le.refl _,I',fW,D',m8,hC a r z A ew ed⟩
 ·refine K ψ aJ _ v (.l g) f k p ?_ rv hq
  exact eX.qg (bW:=[]) (s':={s' with heap:=EP}) D (λb o hb e=>(hs.2 b λav=>hb<|by simp[av]).trans e) (λp hp=>nomatch hp) (λp hp=>nomatch hp) rfl rfl
end
def Fo(w:aC)(d:Nat)(p:Cx->List H->ao->Prop):Prop:=∀c N h,c.w=w->c.d=d->aW c->p c N h
theorem Fo.at{c:Cx}{p:Cx->List H->ao->Prop}(a:aW c)(l:Fo c.w c.d p)(N:List H)(h:ao):p c N h:=l c N h rfl rfl a
section
variable {w:aC} {d:Nat}
def lG(w:aC)(d:Nat)(a:B6)(u v:AV)(q:St)(Q:PQ):Prop:=Fo w d λc N h=>P2 c N h RV (lX a) u v q Q
def wo(w:aC)(d:Nat)(u v:AV)(q:St)(Q:PQ):Prop:=Fo w d λc N h=>P2 c N h RV (zC .Add) u v q Q
def i9(w:aC)(d:Nat)(a:xe)(u v:AV)(q:St)(Q:PQ):Prop:=Fo w d λc N h=>P2 c N h RV (lY a) u v q Q
def nC(w:aC)(d:Nat)(u:AV)(q:St)(Q:Bool->St->Prop):Prop:=Fo w d λc N h=>P1 c N h rB xo u q Q
def rM(w:aC)(d:Nat)(u:AV)(n:H)(q:St)(Q:PQ):Prop:=Fo w d λc N h=>wk c N h u n q Q
def jB(w:aC)(d:Nat)(u v:AV)(q:St)(Q:PQ):Prop:=Fo w d λc N h=>(∃T b,xX u=Y (T,b))/\(∀i,u= .m i->∃xs,q.μ[i]?=Y (Y<|.ai xs))/\P2 c N h RV um u v q Q
def mP(w:aC)(d:Nat)(m:jA)(us:List AV)(q:St)(Q:PQ):Prop:=Fo w d λc N h=>PN c N h (.builtin m.id) us q Q
noncomputable def Ax:AV->aa
 | .bi b=> .builtin b
 | .ty T=> .type T
 | .k a=> .ref a
 |_=> .none
def jC(w:aC)(d:Nat)(f:AV)(us:List AV)(q:St)(Q:PQ):Prop:=Fo w d λc N h=>PN c N h (Ax f) us q Q
end
theorem aN.aO{C U:Type}{f:FM->List ak->C->U->Prop}{m:bT C}{N:List H}{h:ao}{q:St}{Q g:U->St->Prop}{c:Cx}(l:aN c N h f m q Q)(i:∀b e,Q b e->g b e):aN c N h f m q g:=
 λJ as s R E I tk K=>l J as s R E I tk λj aJ s' a b e k p n r o=>K j aJ s' a b e k p n r<|i _ _ o
theorem P1.aO{C U:Type}{f:FM->List ak->C->U->Prop}{m:aa->bT C}{N:List H}{h:ao}{q:St}{Q g:U->St->Prop}{c:Cx}{u:AV}(l:P1 c N h f m u q Q)(i:∀b e,Q b e->g b e):P1 c N h f m u q g:=
 λJ as s R E t I r K=>l J as s R E t I r λj aJ s' a b e k p n r o=>K j aJ s' a b e k p n r<|i _ _ o
theorem P2.aO{C U:Type}{f:FM->List ak->C->U->Prop}{m:aa->aa->bT C}{N:List H}{h:ao}{q:St}{Q g:U->St->Prop}{c:Cx}{u v:AV}(l:P2 c N h f m u v q Q)(i:∀b e,Q b e->g b e):P2 c N h f m u v q g:=
 λJ as s R E t w I r x K=>l J as s R E t w I r x λj aJ s' a b e k p n r o=>K j aJ s' a b e k p n r<|i _ _ o
theorem dD.aO{c:Cx}{N:List H}{h:ao}{q:St}{f:List ay}{Q g:List AV->St->Prop}(l:dD c N h f q Q)(i:∀b e,Q b e->g b e):dD c N h f q g:=λa=>aN.aO (l a) i
section
noncomputable def wu:List aa->List H
 | .str x _::vs=>x::wu vs
 |_=>[]
theorem ZL{J:FM}{vs:List aa}(h:(wu vs).length=vs.length):bD J vs ((wu vs).map .str):=by
 induction vs with
 |nil=>exact .nil
 |cons v vs a=>
  cases v with
  |str x t=>exact .cons (RD.str _ _)<|a<|uA h
  |_=>exact nomatch (h:0=_+1)
noncomputable def Dh(o:bh):List aa:=match o.data with
 | .seq vs _=>vs.toList
 |_=>[]
noncomputable def Of(o:bh):Nat:=match o.data with
 | .seq _ n=>n
 |_=>0
def Di:List H:=wu<|Dh<|kN nk 118
def mQ:List H:=wu<|Dh<|kN nk 147
namespace IR
def G0:List (H×AV):=[("len",.bi "len"),("max",.bi "max"),("chr",.bi "chr"),("ord",.bi "ord"),("range",.ty "range"),("enumerate",.ty "enumerate"),("zip",.ty "zip"),("list",.ty "list"),("tuple",.ty "tuple"),("int",.ty "int"),
 ("_QUOPRI_MAP",.l<|Di.map .str),("_QUOPRI_BODY_ENCODE_MAP",.l<|mQ.map .str),("CRLF",.s "\r\n"),("hexdigits",.s "0123456789abcdefABCDEF"),("quote",.k 145),("unquote",.k 138),("body_encode",.k 158),("decode",.k 166),
 ("Whitespace",.k 228),("HtmlDiff",.k 111),("_escape_cdata",.k 246),("_law_world",.k 253),("_law_page",.k 260),("_law_edges",.k 265),("_law_column",.k 272),("_law_pieces",.k 279),("_law_cell",.k 284)]
end IR
open IR
def Ay(P:cH)(n:H):Option aa:=match ig (K0 P) gW n with
 |some (Y v)=>Y v
 |some Z=>(ig (K0 P) nV n).join
 |none=>Z
theorem Hx{P:cH}{n:H}{v:aa}(h:Ay P n=Y v):ig (K0 P) gW n=Y (Y v)\/(ig (K0 P) gW n=Y Z/\ig (K0 P) nV n=Y (Y v)):=by
 unfold Ay at h
 cases e:ig (K0 P) gW n with
 |none=>rw[e] at h;cases h
 |some o=>cases o with
  |some u=>rw[e] at h;cases h;exact .inl rfl
  |none=>
   rw[e] at h
   have h:(ig (K0 P) nV n).join=Y v:=h
   cases a:ig (K0 P) nV n with
   |none=>rw[a] at h;cases h
   |some o=>cases o with
    |none=>rw[a] at h;cases h
    |some u=>rw[a] at h;cases h;exact .inr ⟨rfl,rfl⟩
noncomputable def s_:AV->Bool
 | .bi _| .ty _| .k _=>true
 |_=>false
def ZM(P:cH):AV->Bool
 | .k a=>Cf (K0 P)<|.ref a
 |_=>true
abbrev GC:List (H×AV):=G0.filter λp=>s_ p.2
theorem ZN:(λP=>GC.map λp=>Ay P p.1)=λP=>GC.map λp=>Y (Ax p.2):=by kernel_rfl
theorem ZO:(λP=>GC.all λp=>ZM P p.2)=λP=>true:=by kernel_rfl
theorem ZP{u:AV}(h:s_ u=true)(J:FM)(as:List ak):RV J as (Ax u) u:=by
 cases u<;>first|rfl|exact nomatch h
abbrev Dj(w:aC)(n:H)(v:aa)(u:AV):Prop:=(ig (K0 w.params) gW n=Y (Y v)\/(ig (K0 w.params) gW n=Y Z/\ig (K0 w.params) nV n=Y (Y v)))/\
 ∀J as,(∀a o,(K0 w.params).lookup a=Y o->J a=Y o)->RV J as v u
theorem Og{n:H}{a:ak}{vs:Array aa}{k:Nat}{w:aC}(h:Ay w.params n=Y (.ref a))(b:(K0 w.params).lookup a=Y (eg vs k))(e:(wu vs.toList).length=vs.toList.length):∃v,Dj w n v (.l<|(wu vs.toList).map .str):=
 ⟨_,Hx h,λJ as c=>RD.list (c _ _ b)<|ZL e⟩
theorem Oh{n x:H}{t:k_}{w:aC}(h:Ay w.params n=Y (.str x t)):∃v,Dj w n v (.s x):=⟨_,Hx h,λ_ _ _=>RD.str x t⟩
theorem ZQ:(G0.filter λp=> !s_ p.2)=([("_QUOPRI_MAP",.l<|Di.map .str),("_QUOPRI_BODY_ENCODE_MAP",.l<|mQ.map .str),("CRLF",.s "\r\n"),("hexdigits",.s "0123456789abcdefABCDEF")]:List (H×AV)):=rfl
theorem ZR{p:H×AV}(m:p∈G0)(h:s_ p.2=true)(w:aC):Dj w p.1 (Ax p.2) p.2:=
 ⟨Hx<|List.map_inj_left.mp (congrFun ZN w.params) p<|jq.mpr ⟨m,h⟩,λJ as _=>ZP h J as⟩
theorem ZT{p:H×AV}(m:p∈G0){a:ak}(h:p.2= .k a)(P:cH):Cf (K0 P) (.ref a)=true:=by
 have:=l6.mp (congrFun ZO P) p<|jq.mpr ⟨m,by refine V h ?_;rfl⟩
 rw[h] at this;exact this
theorem ZU{p:H×AV}(m:p∈G0)(w:aC):∃v,Dj w p.1 v p.2:=by
 cases h:s_ p.2 with
 |true=>exact⟨_,ZR m h w⟩
 |false=>
  have q:p∈G0.filter λp=> !s_ p.2:=jq.mpr ⟨m,by refine V h ?_;rfl⟩
  rw[ZQ] at q
  refine bN q ?_ λq=>?_
  ·exact Og (a:=118) (vs:=(Dh<|kN nk 118).toArray) (k:=Of<|kN nk 118) (by kernel_rfl) (by kernel_rfl)<|by kernel_rfl
  refine bN q ?_ λq=>?_
  ·exact Og (a:=147) (vs:=(Dh<|kN nk 147).toArray) (k:=Of<|kN nk 147) (by kernel_rfl) (by kernel_rfl)<|by kernel_rfl
  refine bN q ?_ λq=>?_
  ·exact Oh (t:=375)<|by kernel_rfl
  refine bN q ?_ λq=>?_
  ·exact Oh (t:=1420)<|by kernel_rfl
  ·exact nomatch q
end
noncomputable def mR(g:AV->St->(St->Prop)->Prop)(d:St->(Bool->St->Prop)->Prop)(c:St->PQ->Prop):List af->List (Option AV)->List af->(List af->Prop)->Prop
 |[],_,a,K=>K a
 |x::xs,v,a,K=>g (.d x) ⟨v,[Y (.ai a)]⟩ λf=>d f λb j=>
   if b=true then c j λu e=>∃y,u= .d y/\e.μ=[Y (.ai a)]/\a.length<=aL/\mR g d c xs e.v (a++[y]) K
   else j.μ=[Y (.ai a)]/\mR g d c xs j.v a K
theorem Hy{g d c}{K}:mR g d c [] b a K=K a:=rfl
theorem Dk{g d c}{K}:mR g d c (x::xs) v a K=g (.d x) ⟨v,[Y (.ai a)]⟩ λf=>d f λb j=>
   if b=true then c j λu e=>∃y,u= .d y/\e.μ=[Y (.ai a)]/\a.length<=aL/\mR g d c xs e.v (a++[y]) K
   else j.μ=[Y (.ai a)]/\mR g d c xs j.v a K:=rfl
noncomputable def wz(g:AV->St->(St->Prop)->Prop)(c:St->PQ->Prop):List af->List (Option AV)->List af->(List (Option AV)->List af->Prop)->Prop
 |[],v,a,K=>K v a
 |x::xs,v,a,K=>g (.d x) ⟨v,[Y (.ai a)]⟩ λf=>c f λu e=>∃y,u= .d y/\e.μ=[Y (.ai a)]/\a.length<=aL/\wz g c xs e.v (a++[y]) K
theorem ZV{g c}{K}:wz g c [] v a K=K v a:=rfl
theorem ZW{g c}{K}:wz g c (x::xs) v a K=g (.d x) ⟨v,[Y (.ai a)]⟩ λf=>c f λu e=>∃y,u= .d y/\e.μ=[Y (.ai a)]/\a.length<=aL/\wz g c xs e.v (a++[y]) K:=rfl
noncomputable def Az(g:AV->St->(St->Prop)->Prop)(b:St->(List af->St->Prop)->Prop)(d:AV->St->(St->Prop)->Prop)(c:St->PQ->Prop):List af->List (Option AV)->List af->(List af->Prop)->Prop
 |[],_,a,K=>K a
 |x::xs,v,a,K=>g (.d x) ⟨v,[Y (.ai a)]⟩ λf=>b f λC j=>j.μ=[Y (.ai a)]/\wz d c C j.v a λh e=>Az g b d c xs h e K
def tu(w:aC)(k:Nat)(f:aa)(p:AV)(xs:List af)(a b:AV)(e:List af):Prop:=
 ∀(A:cR) (J:FM) (h:ao) (s:au) (R:aa->au->Prop) (E:aa->au->Prop) (g i j:aa) (L:ak) (l:bh),A.handled=Z->A.depth+k<=900->A.units+8*k<=6000->
  bz w J ((L,l)::h) s.heap->(∀y∈h,y.1≠L)->gK J l (.ai xs)->RV J [] g p->RV J [] i a->RV J [] j b->0<s.toks->
  (∀c s' d,FM.le J c->bz w c ((L,d)::h) s'.heap->gK c d (.ai e)->s'.gens=s.gens->s'.os=s.os->R .none s')->aF (aX pw w) A (f_ f [g,.ref L,i,j]) R E s
def AA(w:aC)(k:Nat)(n:Int)(u r:AV):Prop:=
 ∀(A:cR) (J:FM) (h:ao) (s:au) (R:aa->au->Prop) (E:aa->au->Prop) (f v:aa),A.handled=Z->A.depth+k<=900->A.units+8*k<=6000->
  bz w J h s.heap->RV J [] f (.e_ n)->RV J [] v u->0<s.toks->
  (∀c s' v,FM.le J c->bz w c h s'.heap->s'.gens=s.gens->s'.os=s.os->RV c [] v r->R v s')->aF (aX pw w) A (f_ f [v]) R E s
def wA:AV->Option H
 | .d (.str y)=>Y y
 | .d (.int i)=>if i.natAbs.log2<1920 then Y (dh i) else Z
 |_=>Z
def Hz(U:Sc)(c:jo)(d:Sc)(e:List (Option Nat)):Bool:=
 decide (c.kind= .function)&&(c.names.all (λp=> !(p.2== .local)||c.names.lookup p.1==Y .local)&&(decide ((c.names.map (·.1)).Nodup)&&(decide (d.names=C0 U c.names)&&(d.own.all (λx=>c.names.contains (x,.cell))&&
 (decide d.N.Nodup&&(decide (e.length=d.N.length)&&
 (c.names.all (λp=> !(p.2== .free)||(U.N.contains p.1&&(U.names.lookup p.1==Y .cell||U.names.lookup p.1==Y .free)))&&
 (d.N.zip e).all (λy=>match y.2 with
  |none=>d.names.lookup y.1==Y .local||(d.names.lookup y.1==Y .cell&&c.names.contains (y.1,.cell))
  |some j=>U.N[j]?==Y y.1&&(c.names.contains (y.1,.free)&&(d.names.lookup y.1==Y .cell||d.names.lookup y.1==Y .free))))))))))
theorem rN(m:(a||b)=true):a=true\/b=true:=TY.mp m
theorem Oi(m:(!a||b)=true)(c:a=true):b=true:=by subst c;exact m
theorem HB(m:Hz U c d e=true):yd U c d e:=by
 have f:∀(i:Nat) (x:H) (o:Option Nat),d.N[i]?=Y x->e[i]?=Y o->(x,o)∈d.N.zip e:=λi x o a b=>
  m_ (i:=i) (akC.mpr ⟨a,b⟩)
 have p:=of_decide_eq_true<|b1 m
 have m:=b2 m
 have g:=l6.mp<|b1 m
 have m:=b2 m
 have k:=of_decide_eq_true<|b1 m
 have m:=b2 m
 have l:=of_decide_eq_true<|b1 m
 have m:=b2 m
 have q:=l6.mp<|b1 m
 have m:=b2 m
 have r:=of_decide_eq_true<|b1 m
 have m:=b2 m
 have s:=of_decide_eq_true<|b1 m
 have t:=l6.mp<|b1<|b2 m
 have h:=l6.mp<|b2<|b2 m
 refine⟨p,λx n u=>eq_of_beq<|Oi (g x n)<|by refine V u ?_;rfl,k,l,λx n=>F5.mp<|q x n,r,s,λx n=>?_,λi x a b=>?_,λi x j a b=>?_⟩
 ·have y:=Oi (t (x,.free) n) rfl
  obtain⟨j,v⟩:=Ui<|F5.mp<|b1 y
  exact⟨j,v,(rN<|b2 y).imp eq_of_beq eq_of_beq⟩
 ·exact(rN<|h _<|f i x Z a b).imp eq_of_beq λy=>⟨eq_of_beq<|b1 y,F5.mp<|b2 y⟩
 ·have y:=h _ (f i x (Y j) a b)
  exact⟨eq_of_beq<|b1 y,F5.mp<|b1<|b2 y,(rN<|b2<|b2 y).imp eq_of_beq eq_of_beq⟩
theorem HC(C:bA U c)(x:H):c.aj.kindOf x=U.names.lookup x:=by show c.aj.scope.names.lookup x=_;exact V C.names rfl
theorem ZX(m:(ev e).t≠0)(a:dw)(x:aa):qS e a x=pure x:=by
 cases e<;>first|rfl|exact absurd rfl m
abbrev eo(e:ay):Bool:= !((ev e).t==0)
theorem wB(m:eo e=true)(a:dw)(x:aa):qS e a x=pure x:=ZX (λy=>by rw[eo,y] at m;exact nomatch m) a x
namespace IR
structure Tg where
 aA:Sc->ay->Bool
 A:AV->St->(St->Prop)->Prop
 ok:∀{c:Cx} {U:Sc} {h:ao} {e:ay} {u:AV} {q:St} {K:St->Prop},aW c->bA U c->aA U e=true->A u q K->iM c U.N h e u q K
structure lH where
 len:Nat
 aA:Sc->List ay->Bool
 A:List af->St->(St->Prop)->Prop
 B:AV->St->(St->Prop)->Prop
 ns:∀{U:Sc} {b:List ay},aA U b=true->b.length=len/\∀e∈b,dB e=true
 ok:∀{c:Cx} {U:Sc} {h:ao} {b:List ay} {a:List af} {q:St} {K:St->Prop},aW c->bA U c->aA U b=true->A a q K->rE c U.N h b a q K
 e0:∀{U:Sc} {u:AV} {q:St} {K:St->Prop},aA U []=true->B u q K->K q
 pD:∀{c:Cx} {U:Sc} {h:ao} {b:List ay} {u:AV} {q:St} {K:St->Prop},aW c->bA U c->aA U b=true->b≠[]->B u q K->pq c U.N h b u q K
def Tg.n(i:Nat):Tg where
 aA U e:=et e 2&&(U.N[i]?==Y (ev e).s&&U.mF (ev e).s)
 A u q K:=K (q.jz i u)
 ok s C o m:=eE (b1 o) (by decide)▸iM.name s C (eq_of_beq<|b1<|b2 o) (b2<|b2 o) m
noncomputable def HD:AV->Option (List af)
 | .d (.tuple a)=>Y a
 | .d (.list a)=>Y a
 |_=>Z
theorem ZY:∀{u:AV},HD u=Z\/∃a,HD u=Y a/\(u= .t a\/u= .l a)
 | .d x=>by cases x<;>first|exact .inl rfl|exact .inr ⟨_,rfl,.inl rfl⟩|exact .inr ⟨_,rfl,.inr rfl⟩
 | .m _| .gA _ _| .ap _| .k _| .ty _| .bi _| .bF _ _| .ws _ _ _| .e_ _| .iJ _| .dt _ _| .en _| .zp _ _| .rg _ _ _=> .inl rfl
def Tg.t(l:lH):Tg where
 aA U e:=et e 9&&l.aA U (ev e).l
 A u q K:=(HD u).elim False λa=>l.len=a.length/\l.A a q K
 ok {c U h e u q K} s C o m:=by
  refine az (eE (b1 o)<|by decide) ?_
  have y:=l.ns<|b2 o
  rcases ZY (u:=u) with e|⟨a,e,rfl|rfl⟩
  ·rw[e] at m;exact m.elim
  ·exact iM.bZ s y.2 (y.1.trans m.1)<|l.ok s C (b2 o) m.2
  ·exact iM.XU s y.2 (y.1.trans m.1)<|l.ok s C (b2 o) m.2
noncomputable def lH.z:lH where
 len:=0
 aA U b:=b.isEmpty
 A a q K:=match a with
  |[]=>K q
  |_::_=>False
 B u q K:=K q
 ns m:=nl m▸⟨rfl,λ_ m=>nomatch m⟩
 ok {c U h b a q K} s C o m:=by
  refine V (nl o) ?_
  cases a with
  |nil=>exact rE.nil m
  |cons _ _=>exact m.elim
 e0 _ m:=m
 pD s C o j m:=absurd (nl o) j
noncomputable def uX(l:List ay)(f:ay->List ay->Bool):Bool:=match l with
 |[]=>false
 |e::b=>f e b
theorem tw(m:uX l f=true):l=hd l::l.tail/\f (hd l) l.tail=true:=by
 cases l with
 |nil=>exact nomatch m
 |cons e b=>exact⟨rfl,m⟩
def lH.k(t:Tg)(l:lH):lH where
 len:=l.len+1
 aA U b:=uX b λe b=>dB e&&(t.aA U e&&l.aA U b)
 A a q K:=match a with
  |[]=>False
  |d::r=>t.A (.d d) q λf=>l.A r f K
 B u q K:=t.A u q λf=>l.B u f K
 ns {U b} m:=by
  obtain⟨e,m⟩:=tw m
  obtain⟨p,g⟩:=l.ns<|b2<|b2 m
  refine V e ?_
  refine⟨congrArg xm p,λx n=>?_⟩
  rcases iX.mp n with rfl|n
  ·exact b1 m
  ·exact g x n
 ok {c U h b a q K} s C o m:=by
  obtain⟨e,o⟩:=tw o
  cases a with
  |nil=>exact m.elim
  |cons d a=>
   refine V e ?_
   exact rE.cons (b1 o) (P1.aO (t.ok s C (b1<|b2 o) m) λ_ f y=>l.ok s C (b2<|b2 o) y)
 e0 m:=nomatch m
 pD {c U h b u q K} s C o j m:=by
  obtain⟨e,o⟩:=tw o
  refine V e ?_
  have y:=b2<|b2 o
  cases v:b.tail with
  |nil=>
   rw[v] at y
   exact pq.gz (b1 o)<|P1.aO (t.ok s C (b1<|b2 o) m) λ_ f i=>l.e0 y i
  |cons x xs=>
   rw[v] at y
   exact pq.more (b1 o) ((l.ns y).2 x aZ)<|P1.aO (t.ok s C (b1<|b2 o) m) λ_ f i=>l.pD s C y (λz=>nomatch z) i
abbrev EK(a:Sc->ay->Bool)(W:aC->Nat->St->PQ->Prop):Prop:=∀{c:Cx} {U:Sc} {h:ao} {e:ay} {q:St} {Q:PQ},aW c->bA U c->a U e=true->W c.w c.d q Q->aG c U.N h e q Q
abbrev TK(a:Sc->ay->Bool)(W:aC->Nat->St->(Bool->St->Prop)->Prop):Prop:=∀{c:Cx} {U:Sc} {h:ao} {e:ay} {q:St} {Q:Bool->St->Prop},aW c->bA U c->a U e=true->W c.w c.d q Q->iL c U.N h e q Q
structure X where
 aA:Sc->ay->Bool
 W:aC->Nat->St->PQ->Prop
 ok:EK aA W
structure T where
 aA:Sc->ay->Bool
 W:aC->Nat->St->(Bool->St->Prop)->Prop
 ok:TK aA W
structure Xs where
 aA:Sc->List ay->Bool
 W:aC->Nat->St->(List AV->St->Prop)->Prop
 ok:∀{c:Cx} {U:Sc} {h:ao} {b:List ay} {q:St} {Q:List AV->St->Prop},aW c->bA U c->aA U b=true->W c.w c.d q Q->dD c U.N h b q Q
structure O where
 aA:Sc->Option ay->Bool
 W:aC->Nat->St->PQ->Prop
 ok:∀{c:Cx} {U:Sc} {h:ao} {e:Option ay} {q:St} {Q:PQ},aW c->bA U c->aA U e=true->W c.w c.d q Q->qe c U.N h e q Q
structure Cd where
 aA:Sc->List ay->Bool
 W:aC->Nat->St->(Bool->St->Prop)->Prop
 ok:∀{c:Cx} {U:Sc} {h:ao} {e:List ay} {q:St} {Q:Bool->St->Prop},aW c->bA U c->aA U e=true->W c.w c.d q Q->uQ c U.N h e q Q
structure It where
 aA:Sc->ay->ay->Bool
 W:aC->Nat->St->(List af->St->Prop)->Prop
 ok:∀{c:Cx} {U:Sc} {h:ao} {e t:ay} {q:St} {Q:List af->St->Prop},aW c->bA U c->aA U e t=true->W c.w c.d q Q->d8 c U.N h e t q Q
structure Ts where
 aA:Sc->List ay->Bool
 A:aC->Nat->St->(Bool->St->Prop)->Prop
 B:aC->Nat->St->(Bool->St->Prop)->Prop
 Dl:∀{c:Cx} {U:Sc} {h:ao} {b:List ay} {q:St} {Q:Bool->St->Prop},aW c->bA U c->aA U b=true->A c.w c.d q Q->kP c U.N h .And b q Q
 pD:∀{c:Cx} {U:Sc} {h:ao} {b:List ay} {q:St} {Q:Bool->St->Prop},aW c->bA U c->aA U b=true->B c.w c.d q Q->kP c U.N h .Or b q Q
theorem eW{c:Cx}{N:List H}{h:ao}{e:ay}{q:St}{Q:PQ}{n:Nat}(m:et e n=true)(j:n≠0)(k:aG c N h (eu n<|ev e) q Q):aG c N h e q Q:=eE m j▸k
theorem cW{c:Cx}{N:List H}{h:ao}{k:Const}{n:Nat}{p:aV}{q:St}{Q:PQ}(m:match k with| .none=>Q .n q| .bool b=>Q (.b b) q| .int i=>Q (.i i) q| .str x=>Q (.s x) q|_=>False):aG c N h (.Constant k n p) q Q:=by
 cases k<;>first|exact aG.Nn m|exact aG.Ww m|exact aG.Wx m|exact aG.Np m|exact m.elim
def X.c(k:Const):X where
 aA U e:=et e 1&&decide ((ev e).k=k)
 W w d q Q:=match k with
  | .none=>Q .n q
  | .bool b=>Q (.b b) q
  | .int i=>Q (.i i) q
  | .str x=>Q (.s x) q
  |_=>False
 ok s C o m:=eW (b1 o) (by decide)<|cW<|by refine V (of_decide_eq_true<|b2 o) ?_;exact m
def X.v(i:Nat):X where
 aA U e:=et e 2&&(U.N[i]?==Y (ev e).s&&mC (ev e).s)
 W w d q Q:=∃u,q.v[i]?=Y (Y u)/\Q u q
 ok s C o m:=eW (b1 o) (by decide)<|m.elim λu m=>aG.var s (eq_of_beq<|b1<|b2 o) (b2<|b2 o) m.1 m.2
def gB(U:Sc)(i:Nat)(e:ay):Bool:=et e 2&&((G0[i]?.map (·.1))==Y (ev e).s&&(mC (ev e).s&&U.names.lookup (ev e).s==Y .globalImplicit))
theorem HE{c:Cx}{U:Sc}{h:ao}{e:ay}{q:St}{Q:PQ}{i:Nat}{p:H×AV}(s:aW c)(C:bA U c)(o:gB U i e=true)(hp:G0[i]?=Y p)(m:Q p.2 q):aG c U.N h (.Name (ev e).s (ev e).p) q Q:=by
 have y:p.1=(ev e).s:=by have:=eq_of_beq (b1<|b2 o);rw[hp] at this;exact iD this
 obtain⟨v,a,b⟩:=ZU (m_ hp) c.w
 exact aG.kg s (b1<|b2<|b2 o) ((HC C _).trans<|eq_of_beq<|b2<|b2<|b2 o) v (y▸a) b m
def X.g(i:Nat):X where
 aA U e:=gB U i e
 W w d q Q:=∃p,G0[i]?=Y p/\Q p.2 q
 ok s C o m:=eW (b1 o) (by decide)<|m.elim λp m=>HE s C o m.1 m.2
def X.aI(i:B6)(a b:X):X where
 aA U e:=et e 3&&(decide ((ev e).op=i)&&(a.aA U (ev e).e0&&b.aA U (ev e).e1))
 W w d q Q:=a.W w d q λu f=>b.W w d f λv j=>lG w d i u v j Q
 ok {c U h e q Q} s C o m:=eW (b1 o) (by decide)<|aG.aI<|aN.aO (a.ok s C (b1<|b2<|b2 o) m) λu f y=>aN.aO (b.ok s C (b2<|b2<|b2 o) y) λv j y=>of_decide_eq_true (b1<|b2 o)▸y.at s _ _
def X.neg(a:X):X where
 aA U e:=et e 4&&(decide ((ev e).uo= .USub)&&a.aA U (ev e).e0)
 W w d q Q:=a.W w d q λu f=>∃i,u= .i i/\Q (.i<|-i) f
 ok s C o m:=eW (b1 o) (by decide)<|aG.neg<|aN.aO (a.ok s C (b2<|b2 o) m) λu f y=>y.elim λi y=>of_decide_eq_true (b1<|b2 o)▸y.1▸WV y.2
def HG(i:xe)(a b:X)(U:Sc)(e:ay):Bool:=et e 5&&(decide ((ev e).co=[i])&&((ev e).l.length==1&&(!Um i (hd (ev e).l)&&(a.aA U (ev e).e0&&b.aA U (hd (ev e).l)))))
theorem Oj{i:xe}{a b:X}{U:Sc}{e:ay}(o:HG i a b U e=true): .Compare (ev e).e0 [i] [hd (ev e).l] (ev e).p=e:=by
 have:=eE (b1 o)<|by decide
 have p:(ev e).co=[i]:=of_decide_eq_true<|b1<|b2 o
 have g:=l1<|b1<|b2<|b2 o
 refine az p (az g ?_);exact this
def X.bx(i:xe)(a b:X):X where
 aA:=HG i a b
 W w d q Q:=a.W w d q λu f=>b.W w d f λv j=>i9 w d i u v j Q
 ok s C o m:=Oj o▸aG.bx (bn<|b1<|b2<|b2<|b2 o) (aN.aO (a.ok s C (b1<|b2<|b2<|b2<|b2 o) m) λu f y=>aN.aO (b.ok s C (b2<|b2<|b2<|b2<|b2 o) y) λv j y=>y.at s _ _)
def X.ite(t:T)(a b:X):X where
 aA U e:=et e 7&&(t.aA U (ev e).e0&&(a.aA U (ev e).e1&&b.aA U (ev e).e2))
 W w d q Q:=t.W w d q λx f=>if x=true then a.W w d f Q else b.W w d f Q
 ok {c U h e q Q} s C o m:=eW (b1 o) (by decide) (aG.ite (aN.aO (t.ok s C (b1<|b2 o) m) λx f y=>by
  cases x
  ·exact b.ok s C (b2<|b2<|b2 o) y
  ·exact a.ok s C (b1<|b2<|b2 o) y))
def X.an(a b:X):X where
 aA U e:=et e 6&&(decide ((ev e).bo= .And)&&((ev e).l.length==2&&(a.aA U (hd (ev e).l)&&b.aA U (hd (ev e).l.tail))))
 W w d q Q:=a.W w d q λu f=>nC w d u f λx j=>if x=true then b.W w d j Q else Q u j
 ok {c U h e q Q} s C o m:=by
  refine eW (b1 o) (by decide) ?_
  show aG c U.N h (.BoolOp (ev e).bo (ev e).l _) q Q
  have y:=b2<|b2 o
  refine V (show(ev e).bo= .And from of_decide_eq_true (b1<|b2 o))<|V (l2<|b1 y) ?_
  refine aG.Wy<|aN.aO (a.ok s C (b1<|b2 y) m) λu f i=>P1.aO (i.at s _ _) λx j i=>?_
  cases x
  ·exact i
  ·exact b.ok s C (b2<|b2 y) i
def X.ai(xs:Xs):X where
 aA U e:=et e 8&&xs.aA U (ev e).l
 W w d q Q:=xs.W w d q λus f=>∃a,gM us=Y a/\a.length<=aL/\Q (.l a) f
 ok s C o m:=eW (b1 o) (by decide)<|aG.ai<|xs.ok s C (b2 o) m
def X.lF(xs:Xs):X where
 aA U e:=et e 8&&xs.aA U (ev e).l
 W w d q Q:=xs.W w d q λus f=>∃a,gM us=Y a/\a.length<=aL/\Q (.m f.μ.length) (f.pn<|.ai a)
 ok s C o m:=eW (b1 o) (by decide)<|aG.lF<|xs.ok s C (b2 o) m
def X.bZ(xs:Xs):X where
 aA U e:=et e 9&&xs.aA U (ev e).l
 W w d q Q:=xs.W w d q λus f=>∃a,gM us=Y a/\a.length<=aL/\Q (.t a) f
 ok s C o m:=eW (b1 o) (by decide)<|aG.bZ<|xs.ok s C (b2 o) m
def X.sub(a i:X):X where
 aA U e:=et e 10&&(a.aA U (ev e).e0&&i.aA U (ev e).e1)
 W w d q Q:=a.W w d q λu f=>i.W w d f λv j=>jB w d u v j Q
 ok s C o m:=eW (b1 o) (by decide)<|aG.sub<|aN.aO (a.ok s C (b1<|b2 o) m) λu f y=>aN.aO (i.ok s C (b2<|b2 o) y) λv j y=>y.at s _ _
def HH(a:X)(b h:O)(U:Sc)(e:ay):Bool:=et e 10&&(et (ev e).e1 11&&((ev (ev e).e1).o2.isNone&&(a.aA U (ev e).e0&&(b.aA U (ev (ev e).e1).o0&&h.aA U (ev (ev e).e1).o1))))
theorem Ol{a:X}{b h:O}{U:Sc}{e:ay}(o:HH a b h U e=true): .Subscript (ev e).e0 (.Slice (ev (ev e).e1).o0 (ev (ev e).e1).o1 Z (ev (ev e).e1).p) (ev e).p=e:=by
 have p:=eE (b1 o)<|by decide
 have g:=eE (b1<|b2 o)<|by decide
 have k:(ev (ev e).e1).o2=Z:=Mj.mp<|b1<|b2<|b2 o
 have g:Expr.Slice _ _ _ _=_:=g
 rw[k] at g
 refine V g ?_;exact p
def X.nD(a:X)(b h:O):X where
 aA:=HH a b h
 W w d q Q:=a.W w d q λu f=>b.W w d f λl j=>h.W w d j λr e=>∃xs p y,xW e u=Y xs/\xs.length<=aL/\oh l=Y p/\oh r=Y y/\Q (.l<|kQ xs p y) e
 ok s C o m:=Ol o▸aG.Xq (aN.aO (a.ok s C (b1<|b2<|b2<|b2 o) m) λu f y=>aN.aO (b.ok s C (b1<|b2<|b2<|b2<|b2 o) y) λu j y=>h.ok s C (b2<|b2<|b2<|b2<|b2 o) y)
def X.jD(a:X)(b h:O):X where
 aA:=HH a b h
 W w d q Q:=a.W w d q λu f=>b.W w d f λl j=>h.W w d j λr e=>∃x p y,u= .s x/\x.length<=aL/\oh l=Y p/\oh r=Y y/\Q (.s<|sD x p y) e
 ok s C o m:=Ol o▸aG.Xr (aN.aO (a.ok s C (b1<|b2<|b2<|b2 o) m) λu f y=>aN.aO (b.ok s C (b1<|b2<|b2<|b2<|b2 o) y) λu j y=>h.ok s C (b2<|b2<|b2<|b2<|b2 o) y)
def X.oi(a:X)(n:H):X where
 aA U e:=et e 12&&(decide ((ev e).s=n)&&(lE (ev e).e0&&a.aA U (ev e).e0))
 W w d q Q:=a.W w d q λu f=>rM w d u n f Q
 ok s C o m:=eW (b1 o) (by decide)<|aG.oi (b1<|b2<|b2 o)<|aN.aO (a.ok s C (b2<|b2<|b2 o) m) λu f y=>of_decide_eq_true (b1<|b2 o)▸y.at s _ _
end IR
theorem ZZ(a b:aa):(match ale "list.append" with|some e=>Bind.checkArgs "list.append" {e with full:=toString (alf "list")++toString "."++toString (alf "list.append")} ⟨[a,b],[]⟩|none=>pure ())=pure ():=by
 refine V (signature?_of (id:="list.append") (n:=['d','n','e','p','p','a']) (o:=['t','s','i','l']) (by kernel_rfl) F.owner_list) ?_;kernel_rfl
theorem Z0:builtinKind "list.append"=Y .method:=by decide+kernel
theorem amj:anb.contains "list.append"=false:=by decide+kernel
theorem Z1:(ale "list.append").isSome=true:=by decide+kernel
theorem Z2:U3 (.type "list") (.type "module")=pure false:=by refine V (U1 ..) ?_;kernel_rfl
theorem Z3(B:s.heap.get? l=Y (eg vs n))(d:Q () s):
  aF M A (checkBoundCall "list.append" ⟨[.ref l,x],[]⟩) Q E s:=by
 have g:s.TypeIs (.ref l) "list":=(ah _ B rfl)
 refine Ex (Option.isSome_iff_exists.mp Z1) λe a=>?_
 have b:=ZZ (.ref l) x
 rw[a] at b
 refine V a<|V Z0 ?_
 have f:=b
 have f1:=Z2
 repeat (any_goals (first|assumption|wp_step))
section
variable {c:Cx} {N:List H} {h:ao} {q:St}
theorem Z4(hi:q.μ[i]?=Y (Y<|.ai xs))(d:Q (.ap i) q):P1 c N h RV (λv=>zL v "append" true) (.m i) q Q:=λJ as s R E f I ra K=>by
 refine aD ra λa b e'=>?_;clear ra;refine V e' ?_
 obtain⟨ws,n,g,r⟩:=I.rq hi b
 obtain⟨j,k,l,e,m⟩:=s
 exact Zc g<|
  Ea (I.alloc (o:=Au a) rfl<|e+1) λG eX=>
  K _ as _ _ (.ap i) _ G (bU.rfl' _) eX (fH _ a _ b rfl (FM.eZ _ _ _) rfl rfl) d
theorem Z5:(Code.builtin "list.append" as).quiet=true:=Code.quiet_builtin _<|by decide+kernel
theorem Z6(hq:s.heap.get? G=Y o)(m:o.cls= .type "builtin_function_or_method")(hd:o.data= .fields #[.builtin "list.append",.ref l])
  (B:s.heap.PlainList l C)(b:∀h',h'.PlainList l (C.push x)->pS l s.heap h'->Q .none {s with heap:=h'})(r:C.size<=aL):aF (aX a w) A (f_ (.ref G) [x]) Q E s:=by
 refine Ex B λn ho=>?_;clear B
 refine sM<|ald<|
  aB (wpAny_load hq<|
  V hd (V m<|
  aB (Z3 ho<|
  aB (bf<|bf ⟨Z5,U8 entry_list_append ?_⟩))))
 refine(?_:aF _ _ (updateSeq l (·.push x)>>=λ_=>ret .none) _ _ s)
 refine aB ?_
 refine Ge ho rfl<|bf<|b _ ⟨n+1,?_⟩<|sC ..
 exact V (zN _ ho<|by refine V (alg ..) ?_;rfl)<|V (alg ..) rfl
theorem Z7{M:k9}{G:ak}{o:bh}{L:Array aa}(m:o.cls= .type "builtin_function_or_method")(hd:o.data= .fields L)(d:fk)(X:d.get? G=Y o):∃k,(k=alh\/k=ali\/k=alj)/\Looks M d (keeperOf<|.ref G) k:=by
 exact ah .machine (.inr<|.inl rfl)<|
  (alk (part:=Z) X).andThen (
  V hd (V m
  .now))
theorem aG.lJ(ok:aW c){x:H}{np cK:aV}{e:ay}{i j:Nat}{Q:AV->St->Prop}(hN:N[i]?=Y x)(hx:mC x=true)(he:dB e=true)(hv:q.v[i]?=Y (Y<|.ap j))
  (d:aG c N h e q λu f=>∃y xs,u= .d y/\f.μ[j]?=Y (Y<|.ai xs)/\xs.length<=aL/\Q .n (f.fR j<|.ai<|xs++[y])):aG c N h (.Call (.Name x np) [e] [] cK) q Q:=λJ as s R E I tk K=>by
 have hp:((iG cK<|gi [e] c.aj).any (·.1))=false:=s7 λy hy=>by simp only[bH] at hy;refine V hy ?_;exact he
 refine Cg<|aN.bw (aG.var (Q:=λu ez=>u= .ap j/\ez=q) ok hN hx hv ⟨rfl,rfl⟩) I tk λjl iU U v u f z A C gR L D=>?_
 refine Ea D λe' iB=>?_;clear D;subst e';clear I hv;subst iB
 refine uG L λG l o B e' ho m hd=>?_;clear L;subst e'
 refine LI (P:=λd=>d.get? G=Y o) (V hp rfl) (λd X=>Z7 m hd d X)<|s8 (Q:=λus w=>∃u,us=[u]/\∃y xs,u= .d y/\w.μ[j]?=Y (Y<|.ai xs)/\xs.length<=aL/\Q .n (w.fR j<|.ai<|xs++[y])) (λy hy=>by simp only[bH] at hy;clear hp;refine V hy ?_;exact he)
  (dD.cons he λJ as s R E I tk K=>d J as s R E I tk λcN aJ s' a b ez k p I' r G=>K cN aJ s' a b ez k p I' r<|dD.nil<|ah _ rfl G) C gR λfB iA dJ vs us w cZ ji M dY cG kF=>?_
 refine aD kF λu e' qE=>?_;clear kF;subst e';refine GA qE λy xs BB hj hz hq=>?_;clear qE;subst BB
 obtain⟨v,oQ,ra,rs⟩:=cT cG
 obtain rfl:=fS rs
 have t:=M.keep _ _<|cZ _ _ ho
 have S2:=ji _ _ B
 obtain⟨ws,n,g,r⟩:=M.rq hj S2
 refine⟨t,?_⟩
 refine Z6 t m hd ⟨n,g⟩ (λh' ⟨n',t9⟩ hs=>?_)<|az fN<|V r.length hz
 exact K fB iA _ .none .n _ (z.trans cZ) (A.trans ji) (M.v8 (y:= .ai<|xs++[y]) hj S2 hs t9 (iI _ _ rfl<|by refine V Ly ?_;exact r.append<|.cons ra .nil) dJ.toks) RD.none hq
end
section
theorem uK.Om{f:List (H×aa)}{j:List (H×H)}(d:uK f j):f.map (·.1)=j.map (·.1):=by
 induction d with
 |nil=>rfl
 |cons _ o=>exact V ee<|V ee<|V o rfl
theorem Z8(a:List (H×aa))(b:List (H×aa))(d:((b++a).map (·.1)).Nodup):merged b a=b++a:=by
 induction a generalizing b with
 |nil=>
  refine V (iH ..) ?_;rfl
 |cons i f o=>
  obtain⟨k,v⟩:=i
  have hk:b.any (λg=>g.1=k)=false:=by
   rw[LD]
   intro p hp hq
   have hq:p.1=k:=by simpa using hq
   rw[gZ,zx] at d
   exact d.2.2 p.1 (bg.mpr<|ah p hp rfl) k (by simp) hq
  have e:stored b k v=b++[(k,v)]:=by unfold stored;refine V hk ?_;rfl
  refine(?_:merged (stored b k v) f=_)
  refine V e<|V (o (b++[(k,v)])<|by simpa using d) ?_
  simp
noncomputable def wC:List (H×H)->List (Option ay)->List ay->Bool
 |[],g,vs=>g.isEmpty&&vs.isEmpty
 |(k,v)::j,g,vs=>(match g.head? with|some (Y e)=>uH e k|_=>false)&&(IR.uX vs λn vs=>uH n v&&wC j g.tail vs)
theorem Oo(d:wC ((k,v)::j) g vs=true):
  ∃e b n oQ,g=Y e::b/\vs=n::oQ/\uH e k=true/\uH n v=true/\wC j b oQ=true:=by
 refine Ea (IR.tw<|b2 d) λn G=>?_
 have d:=b1 d
 cases g with
 |nil=>exact nomatch d
 |cons o g=>cases o with
  |none=>exact nomatch d
  |some e=>exact n6 e g _ _ rfl n d (b1 G)<|b2 G
theorem Z9(a:List (H×H))(g:List (Option ay))(vs:List ay)(s:au)(Q:List (aa×aa)->au->Prop)(m:wC a g vs=true)(d:(∀tk l f,Carries (Fv pw w) l f->uK f a->Q l {s with toks:=tk})):aF (aX pw w) A (evalPairs<|pairTrees g vs r cK) Q E s:=by
 induction a generalizing g vs s Q with
 |nil=>
  exact V (nl<|b1 m)<|V (nl<|b2 m)<|
   pairTrees_nil_walk (d s.toks [] [] trivial .nil)
 |cons i j o=>
  obtain⟨k,v⟩:=i
  refine q8 (Oo m) λe b n oQ e' iB u p t=>?_;refine V e' ?_;refine V iB ?_
  exact az (z9 u)<|az (z9 p)<|
   pairTrees_cons_walk (zy<|zy<|o b oQ _ _ t λtk l f z y=>
   d tk _ ((k,_)::f) (bJ (strKind_is _ _ _ _) rfl z) (.cons y))
theorem Z_(m:wC a g vs=true):g.all (·.isSome)=true/\g.length=a.length/\vs.length=a.length:=by
 induction a generalizing g vs with
 |nil=>
  refine V (nl<|b1 m) (V (nl<|b2 m) ?_);exact bJ rfl rfl rfl
 |cons i j o=>
  obtain⟨k,v⟩:=i
  refine q8 (Oo m) λe b n oQ e' iB u p t=>?_;refine V e' ?_;refine V iB ?_
  exact gy (o t) λd f l=>
   bJ d (congrArg xm f) (congrArg xm l)
variable {c:Cx} {N:List H} {h:ao} {q:St}
theorem ζ(I:aH c N h q J as s):(s.heap.objs.size==Uh)=false:=by
 have d:=iC<|I.e7 2 (o2 c.w.params)<|by kernel_rfl
 rw[beq_eq_false_iff_ne]
 have:Uh=1:=rfl
 refine V this ?_
 exact λG=>absurd d<|by refine V G ?_;decide
theorem aG.Dm(m:wC j g vs=true)(v:(j.map (·.1)).Nodup)(w:j≠[])(B:j.length<=15)(d:Q (.dt c.w j) q):aG c N h (.Dict g vs cK) q Q:=λJ as s R E I tk K=>by
 refine gy (Z_ m) λu p t=>?_
 refine wpAny_Dict_walk (knd:=Fv pw c.w) u (p.trans t.symm) (λG=>w<|Mk.mp<|az p<|V G rfl) (la 0x4a7e10468210447e0 [_,_] rfl B p)<|Z9 j g vs _ _ m λk l f z y=>?_
 have r:s.heap.objs.size<=s.heap.objs.size:=bM _
 refine bk f z (UY.mpr<|ah _ (qM _ rfl)<|oZ (#[]) 0 (bJ rfl rfl rfl) rfl ?_ ⟨?_,uf⟩) λh' hd hs=>?_
 ·first|exact KeysOf.nil|(intro i hi;simp at hi)|(simp)
 ·first|exact Pairs.nil|trivial|(trivial)
 ·have e:merged [] f=f:=by
   have:=Z8 f [] (V (jt ..)<|V y.Om v)
   rwa[jt] at this
  rw[e] at hd
  refine aD (UY.mp hd) λo ho n=>?_
  refine Ea (I.XA (s':={s with heap:=h',toks:=k+l.length}) (a:=s.heap.objs.size) (o:=o) (λb x e=>(hs.2 b<|gu<|iC e).trans<|ie _ e) rfl rfl r ho) λG eX=>?_
  exact K _ as _ _ (.dt c.w j) _ G (bU.rfl' _) eX (fH _ o f rfl (ζ I) (FM.eZ _ _ _) n y) d
end
section
variable {c:Cx} {N:List H} {h:ao} {q:St}
theorem η(hd:o.data= .func fd)(d:fk)(X:d.get? G=Y o):∃k,(k=alh\/k=ali\/k=alj)/\Looks M d (keeperOf<|.ref G) k:=by
 exact ah .frame (.inl rfl)<|
  (alk (part:=Z) X).andThen (
  V hd
  .now)
theorem aG.yp(ok:aW c){x:H}{np cK:aV}{e:ay}{i:Nat}{n:Int}{Q:AV->St->Prop}(hN:N[i]?=Y x)(hx:mC x=true)(he:dB e=true)(hv:q.v[i]?=Y (Y<|.e_ n))
  (d:aG c N h e q λu f=>∃r k,k<=c.d/\u.aq=true/\r.aq=true/\AA c.w k n u r/\Q r f):aG c N h (.Call (.Name x np) [e] [] cK) q Q:=λJ as s R E I tk K=>by
 have hp:((iG cK<|gi [e] c.aj).any (·.1))=false:=s7 λy hy=>by simp only[bH] at hy;refine V hy ?_;exact he
 refine Cg<|aN.bw (aG.var (Q:=λu ez=>u= .e_ n/\ez=q) ok hN hx hv ⟨rfl,rfl⟩) I tk λjl iU U v u f z A C gR L D=>?_
 refine Ea D λe' iB=>?_;clear D;subst e';clear I hv;subst iB
 have rc:uL jl v n:=L
 obtain⟨a,c',BU,BV,pm,oc,vs,t,amw,amv,pv,BS,rfl,hf,_⟩:=id rc
 obtain⟨o,fd,hfo,hfd⟩:∃o fd,jl a=Y o/\o.data= .func fd:=(iI _ _ hf rfl)
 refine LI (P:=λd=>d.get? a=Y o) (V hp rfl) (λd X=>η hfd d X)<|s8 (Q:=λus w=>∃u,us=[u]/\∃r k,k<=c.d/\u.aq=true/\r.aq=true/\AA c.w k n u r/\Q r w) (λy hy=>by simp only[bH] at hy;clear hp;refine V hy ?_;exact he)
  (dD.cons he λJ as s R E I tk K=>d J as s R E I tk λcN aJ s' a b ez k p I' r G=>K cN aJ s' a b ez k p I' r<|dD.nil<|ah _ rfl G) C gR λfB iA dJ vs us w cZ ji M dY cG kF=>?_
 refine aD kF λu e' qE=>?_;clear kF;subst e';refine GA qE λr k hk f1 f2 g=>?_;clear qE;refine Ea g λhC hq=>?_;clear g
 obtain⟨v,oQ,ra,rs⟩:=cT cG
 obtain rfl:=fS rs
 refine⟨M.keep _ _<|cZ _ _ hfo,?_⟩
 refine cC M λl m eX=>?_;clear M
 have b:=ok.iK
 exact hC c.A fB l dJ R E (.ref a) v ok.hand (by exact la 0x4a3840810a088110e102042862044860 [_,_,_] rfl hk b.1) (by exact la 0x4a05dc030420e062204405dc030420e1622204860 [_,_,_] rfl hk b.2) eX.base (rc.le cZ) (ra.aq f1) dY λh_ fV v' j B hg ho rv=>
  (K.trans ((z.trans cZ).trans j)<|A.trans ji).now (b:=r) (dU l m<|eX.frame j B hg ho) (rv.aq f2) hq
theorem θ(d:aG c N h e q λu f=>∃y,wA u=Y y/\y.length<=aL/\Q (.s y) f):aG c N h (.FormattedValue e 115 Z cK) q Q:=λJ as s R E I tk K=>by
 refine V (arm_eval_FormattedValue ..)<|
  aB (aN.bw d I tk λjl iU U v u f z A C gR L D=>?_)
 refine jU D λy a B hq=>?_;clear D
 refine aB<|kL ?_
 cases u with
 |d x=>cases x with
  |str=>
   cases a
   obtain⟨t⟩:=dG L
   have g:∀j k,aF c.M c.A (formatField (.str y j) Str.empty) R E {U with toks:=k}:=λj k=>
    alm ((K.trans z A).now (b:=AV.s y) (C.toks _) (i6 _ _) hq) ((K.trans z A).now (b:=AV.s y) (C.toks _) (i6 _ _) hq) B
   exact aB<|j9<|wpAny_habitSame_str (g t U.toks) (g U.toks<|U.toks+1) B
  |int i=>
   by_cases hi:i.natAbs.log2<1920
   ·rw[show wA (.d<|.int i)=Y (dh i) from if_pos hi] at a
    cases a
    obtain⟨t⟩:=cL L
    exact aB<|j9<|pyStrObj_int hi<|
     alm ((K.trans z A).now (b:=AV.s<|dh i) (C.toks _) (i6 _ _) hq) ((K.trans z A).now (b:=AV.s<|dh i) (C.toks _) (i6 _ _) hq) B
   ·rw[show wA (.d<|.int i)=Z from if_neg hi] at a
    exact nS a
  |_=>exact nS a
 |_=>exact nS a
end
theorem ι(m:p∈IR.G0)(M:s_ p.2=true):NF p.2 (Ax p.2):=by
 have k:∀a,p.2= .k a->∀P,Cf (K0 P) (.ref a)=true:=λa=>ZT m (a:=a)
 revert M k
 cases p.2<;>intro M k<;>first|exact(ue M).elim|skip
 ·exact .inr<|.inr<|bk _ rfl rfl<|k _ rfl
 ·exact .inr<|.inl<|ah _ rfl rfl
 ·exact .inl<|ah _ rfl rfl
namespace IR
abbrev cB(e:ay):Bool:=et e 13&&(ev e).kw.isEmpty
theorem yq(M:cB e=true): .Call (ev e).e0 (ev e).l [] (ev e).p=e:=by
 have:=eE (b1 M)<|by decide
 refine az (nl<|b2 M) ?_;exact this
abbrev mB(n:H)(e:ay):Bool:=cB e&&(et (ev e).e0 12&&(decide ((ev (ev e).e0).s=n)&&(lE (ev (ev e).e0).e0&&((ev (ev e).e0).p.endLine==(ev e).p.line))))
theorem mE(M:mB n e=true): .Call (.Attribute (ev (ev e).e0).e0 n (ev (ev e).e0).p) (ev e).l [] (ev e).p=e:=by
 have A:=yq<|b1 M
 have o:=eE (b1<|b2 M)<|by decide
 have q:(ev (ev e).e0).s=n:=of_decide_eq_true<|b1<|b2<|b2 M
 have o:aln _ _ _=_:=o
 rw[q] at o
 refine V o ?_;exact A
theorem mS(M:mB n e=true):lE (ev (ev e).e0).e0=true:=b1<|b2<|b2<|b2 M
theorem mL(M:mB n e=true):((ev (ev e).e0).p.endLine==(ev e).p.line)=true:=b2<|b2<|b2<|b2 M
def X.call(i:Nat)(xs:Xs):X where
 aA U e:=cB e&&(gB U i (ev e).e0&&(ny (ev e).l&&xs.aA U (ev e).l))
 W w d q Q:=∃p,G0[i]?=Y p/\s_ p.2=true/\xs.W w d q λus j=>jC w d p.2 us j Q
 ok {c U h e q Q} N so l M:=by
  refine jU M λp b f a=>?_;clear M
  have e1:=eE (b1<|b1<|b2 l)<|by decide
  refine az (yq<|b1 l)<|az e1 ?_
  exact aG.XD (b1<|b2<|b2 l)<|HE N so (b1<|b2 l) b<|ah _ (ι (m_ b) f)<|dD.aO (xs.ok N so (b2<|b2<|b2 l) a) λus j av=>av.at N _ _
def X.dg(m:jA)(a:X)(xs:Xs):X where
 aA U e:=mB m.nm e&&(ny (ev e).l&&(a.aA U (ev (ev e).e0).e0&&xs.aA U (ev e).l))
 W w d q Q:=a.W w d q λu L=>rz L u=Y m.T/\xs.W w d L λus j=>mP w d m (u::us) j Q
 ok {c U h e q Q} N so l M:=by
  refine az (mE<|b1 l) ?_
  exact aG.G6 m (mS<|b1 l) (b1<|b2 l) (mL<|b1 l)<|aN.aO (a.ok N so (b1<|b2<|b2 l) M) λu L av=>⟨av.1,dD.aO (xs.ok N so (b2<|b2<|b2 l) av.2) λus j av=>av.at N _ _⟩
def X.nA(a:X)(y z:H):X where
 aA U e:=mB "replace" e&&((ev e).l.length==2&&(uH (hd (ev e).l) y&&(uH (hd (ev e).l.tail) z&&(!(y==z)&&a.aA U (ev (ev e).e0).e0))))
 W w d q Q:=a.W w d q λu L=>∃x,u= .s x/\x.length+(x.length+1)*z.length<=16777216/\Q (.s<|fP x y z) L
 ok {c U h e q Q} N so l M:=by
  refine az (mE<|b1 l)<|V (l2<|b1<|b2 l)<|az (z9<|b1<|b2<|b2 l)<|az (z9<|b1<|b2<|b2<|b2 l) ?_
  exact aG.nA (mS<|b1 l) (mL<|b1 l) (bn<|b1<|b2<|b2<|b2<|b2 l)<|aN.aO (a.ok N so (b2<|b2<|b2<|b2<|b2 l) M) λu L av=>av
abbrev Oq(n:H)(a:X)(xs:Xs)(U:Sc)(e:ay):Bool:=mB n e&&(rI n&&(ny (ev e).l&&(a.aA U (ev (ev e).e0).e0&&xs.aA U (ev e).l)))
def X.own(C f:ak)(a:X)(n:H)(xs:Xs):X where
 aA:=Oq n a xs
 W w d q Q:=kT C n f/\a.W w d q λu L=>mJ u=Y C/\xs.W w d L λus j=>jC w d (.k f) (u::us) j Q
 ok {c U h e q Q} N so l M:=by
  refine az (mE<|b1 l) ?_
  exact aG.own M.1 (b1<|b2 l) (mS<|b1 l) (b1<|b2<|b2 l) (mL<|b1 l)<|aN.aO (a.ok N so (b1<|b2<|b2<|b2 l) M.2) λu L av=>⟨av.1,dD.aO (xs.ok N so (b2<|b2<|b2<|b2 l) av.2) λus j av=>av.at N _ _⟩
def X.Ot(a:X):X where
 aA U e:=et e 12&&(decide ((ev e).s="append")&&(lE (ev e).e0&&a.aA U (ev e).e0))
 W w d q Q:=a.W w d q λu L=>∃i xs,u= .m i/\L.μ[i]?=Y (Y<|.ai xs)/\Q (.ap i) L
 ok {c U h e q Q} N so l M:=eW (b1 l) (by decide)<|aG.oi (b1<|b2<|b2 l)<|aN.aO (a.ok N so (b2<|b2<|b2 l) M) λu L D=>o9 D λi xs j b f=>by refine V (show(ev e).s="append" from of_decide_eq_true (b1<|b2 l)) (V j ?_);exact Z4 b f
abbrev nB(i:Nat)(a:X)(U:Sc)(e:ay):Bool:=cB e&&((ev e).l.length==1&&(et (ev e).e0 2&&(U.N[i]?==Y (ev (ev e).e0).s&&(mC (ev (ev e).e0).s&&(dB (hd (ev e).l)&&a.aA U (hd (ev e).l))))))
theorem nE(M:nB i a U e=true): .Call (.Name (ev (ev e).e0).s (ev (ev e).e0).p) [hd (ev e).l] [] (ev e).p=e:=by
 have A:=yq<|b1 M
 refine az (l1<|b1<|b2 M)<|V (show Ml _ _=_ from eE (b1<|b2<|b2 M) (by decide)) ?_
 exact A
def X.lJ(i:Nat)(a:X):X where
 aA:=nB i a
 W w d q Q:=∃j,q.v[i]?=Y (Y<|.ap j)/\a.W w d q λu L=>∃x xs,u= .d x/\L.μ[j]?=Y (Y<|.ai xs)/\xs.length<=aL/\Q .n (L.fR j<|.ai<|xs++[x])
 ok {c U h e q Q} N so l M:=by
  refine aD M λj b M=>?_
  have av:=b2<|b2<|b2 l
  refine az (nE l) ?_
  exact aG.lJ N (eq_of_beq<|b1 av) (b1<|b2 av) (b1<|b2<|b2 av) b<|a.ok N so (b2<|b2<|b2 av) M
def X.yp(i:Nat)(a:X):X where
 aA:=nB i a
 W w d q Q:=∃n,q.v[i]?=Y (Y<|.e_ n)/\a.W w d q λu L=>∃r k,k<=d/\u.aq=true/\r.aq=true/\AA w k n u r/\Q r L
 ok {c U h e q Q} N so l M:=by
  refine aD M λj b M=>?_
  have av:=b2<|b2<|b2 l
  refine az (nE l) ?_
  exact aG.yp N (eq_of_beq<|b1 av) (b1<|b2 av) (b1<|b2<|b2 av) b<|a.ok N so (b2<|b2<|b2 av) M
def X.Dm(a:List (H×H)):X where
 aA U e:=et e 14&&wC a (ev e).ol (ev e).l
 W w d q Q:=(a.map (·.1)).Nodup/\a≠[]/\a.length<=15/\Q (.dt w a) q
 ok N so l M:=eW (b1 l) (by decide)<|aG.Dm (b2 l) M.1 M.2.1 M.2.2.1 M.2.2.2
noncomputable def Xs.z:Xs where
 aA U f:=f.isEmpty
 W w d q Q:=Q [] q
 ok N so l M:=nl l▸dD.nil M
def Xs.k(x:X)(xs:Xs):Xs where
 aA U f:=uX f λe f=>dB e&&(x.aA U e&&xs.aA U f)
 W w d q Q:=x.W w d q λu L=>xs.W w d L λus j=>Q (u::us) j
 ok {c U h f q Q} N so l M:=by
  refine Ea (tw l) λe l=>?_
  refine V e ?_
  exact dD.cons (b1 l)<|aN.aO (x.ok N so (b1<|b2 l) M) λu L av=>xs.ok N so (b2<|b2 l) av
noncomputable def O.kU:O where
 aA U e:=e.isNone
 W w d q Q:=Q .n q
 ok N so l M:=Mj.mp l▸qe.none M
def O.x(a:X):O where
 aA U e:=e.isSome&&a.aA U (e.getD eD)
 W w d q Q:=a.W w d q Q
 ok {c U h e q Q} N so l M:=by
  cases e with
  |none=>exact nomatch l
  |some e=>exact qe.some<|a.ok N so (b2 l) M
noncomputable def Cd.gP:Cd where
 aA U e:=e.isEmpty
 W w d q Q:=Q true q
 ok N so l M:=nl l▸uQ.nil M
def Cd.t(t:T):Cd where
 aA U e:=e.length==1&&t.aA U (hd e)
 W w d q Q:=t.W w d q Q
 ok {c U h e q Q} N so l M:=by
  refine V (l1<|b1 l) ?_
  exact uQ.gz<|t.ok N so (b2 l) M
def T.nt(t:T):T where
 aA U e:=et e 4&&(decide ((ev e).uo= .Not)&&t.aA U (ev e).e0)
 W w d q Q:=t.W w d q λb L=>Q (!b) L
 ok {c U h e q Q} N so l M:=by
  have A:=eE (b1 l)<|by decide
  have A:Expr.UnaryOp _ _ _=_:=A
  rw[show(ev e).uo= .Not from of_decide_eq_true (b1<|b2 l)] at A
  refine az A ?_
  exact iL.nt<|t.ok N so (b2<|b2 l) M
def T.bx(c:xe)(a b:X):T where
 aA:=HG c a b
 W w d q Q:=a.W w d q λu L=>b.W w d L λv j=>i9 w d c u v j λx g=>nC w d x g Q
 ok N so l M:=Oj l▸iL.bx (bn<|b1<|b2<|b2<|b2 l) (aN.aO (a.ok N so (b1<|b2<|b2<|b2<|b2 l) M) λu L av=>aN.aO (b.ok N so (b2<|b2<|b2<|b2<|b2 l) av) λv j av=>P2.aO (av.at N _ _) λx g av=>av.at N _ _)
def T.val(x:X):T where
 aA U e:=ME e&&x.aA U e
 W w d q Q:=x.W w d q λu L=>nC w d u L Q
 ok N so l M:=iL.value (b1 l)<|aN.aO (x.ok N so (b2 l) M) λu L av=>av.at N _ _
def HJ(a:Lk)(G:Ts)(U:Sc)(e:ay):Bool:=et e 6&&(decide ((ev e).bo=a)&&G.aA U (ev e).l)
theorem Ou(M:HJ a G U e=true): .BoolOp a (ev e).l (ev e).p=e:=by
 have A:=eE (b1 M)<|by decide
 refine az (show(ev e).bo=a from of_decide_eq_true (b1<|b2 M)) ?_
 exact A
def T.an(G:Ts):T where
 aA:=HJ .And G
 W w d q Q:=G.A w d q Q
 ok {c U h e q Q} N so l M:=by
  refine az (Ou l) ?_
  exact iL.all<|G.Dl N so (b2<|b2 l) M
def T.yr(G:Ts):T where
 aA:=HJ .Or G
 W w d q Q:=G.B w d q Q
 ok {c U h e q Q} N so l M:=by
  refine az (Ou l) ?_
  exact iL.all<|G.pD N so (b2<|b2 l) M
noncomputable def Ts.z:Ts where
 aA U f:=f.isEmpty
 A w d q Q:=Q true q
 B w d q Q:=Q false q
 Dl N so l M:=nl l▸kP.Wz M
 pD N so l M:=nl l▸kP.WA M
def Ts.k(t:T)(G:Ts):Ts where
 aA U f:=uX f λe f=>t.aA U e&&G.aA U f
 A w d q Q:=t.W w d q λb L=>if b=true then G.A w d L Q else Q false L
 B w d q Q:=t.W w d q λb L=>if b=true then Q true L else G.B w d L Q
 Dl {c U h f q Q} N so l M:=by
  refine Ea (tw l) λe l=>?_
  refine V e ?_
  refine kP.WB<|aN.aO (t.ok N so (b1 l) M) λb L av=>?_
  cases b
  ·exact av
  ·exact G.Dl N so (b2 l) av
 pD {c U h f q Q} N so l M:=by
  refine Ea (tw l) λe l=>?_
  refine V e ?_
  refine kP.WD<|aN.aO (t.ok N so (b1 l) M) λb L av=>?_
  cases b
  ·exact G.pD N so (b2 l) av
  ·exact av
noncomputable def It.ai(x:X):It where
 aA U e t:=x.aA U e
 W w d q Q:=x.W w d q λu L=>∃xs,u= .l xs/\Q xs L
 ok N so l M:=d8.list<|x.ok N so l M
noncomputable def It.bO(x:X):It where
 aA U e t:=x.aA U e
 W w d q Q:=x.W w d q λu L=>∃y,u= .s y/\Q (qh y) L
 ok N so l M:=d8.text<|x.ok N so l M
noncomputable def It.uY(x:X):It where
 aA U e t:=x.aA U e
 W w d q Q:=x.W w d q λu L=>∃a b e k,u= .rg a b e/\Cn a b e=true/\uu a b e=((k:Nat):Int)/\Q (rD a e k) L
 ok N so l M:=d8.range<|x.ok N so l M
def It.en(f x:X):It where
 aA U e t:=cB e&&((ev e).l.length==1&&(et (ev e).e0 2&&(uI t&&(dB (hd (ev e).l)&&(f.aA U (ev e).e0&&x.aA U (hd (ev e).l))))))
 W w d q Q:=f.W w d q λu L=>u= .ty "enumerate"/\x.W w d L λu j=>∃xs,u= .l xs/\Q (we 0 xs) j
 ok {c U h e t q Q} N so l M:=by
  have av:=b2<|b2<|b2 l
  have n:Ml _ _=_:=eE (b1<|b2<|b2 l)<|by decide
  have k:=aN.aO (f.ok (h:=h) N so (b1<|b2<|b2 av) M) λu L y=>Gd y.1<|x.ok (h:=h) N so (b2<|b2<|b2 av) y.2
  refine az (yq<|b1 l)<|V (l1<|b1<|b2 l) ?_
  rw[<-n] at k ⊢
  exact d8.XY (b1 av) (b1<|b2 av) k
abbrev zB(f a b:X)(U:Sc)(e:ay):Bool:=cB e&&((ev e).l.length==2&&(et (ev e).e0 2&&(dB (hd (ev e).l)&&(dB (hd (ev e).l.tail)&&(f.aA U (ev e).e0&&(a.aA U (hd (ev e).l)&&b.aA U (hd (ev e).l.tail)))))))
theorem zE(M:zB f a b U e=true): .Call (.Name (ev (ev e).e0).s (ev (ev e).e0).p) [hd (ev e).l,hd (ev e).l.tail] [] (ev e).p=e:=by
 have A:=yq<|b1 M
 refine az (l2<|b1<|b2 M)<|V (show Ml _ _=_ from eE (b1<|b2<|b2 M) (by decide)) ?_
 exact A
abbrev zW(f a b:X)(w:aC)(d:Nat)(q:St)(Q:List af->St->Prop):Prop:=f.W w d q λu L=>u= .ty "zip"/\a.W w d L λu j=>∃xs,u= .l xs/\b.W w d j λu g=>∃r,u= .l r/\Q (qi xs r) g
theorem zK{f a b:X}{c:Cx}{U:Sc}{h:ao}{e:ay}{q:St}{Q:List af->St->Prop}(N:aW c)(so:bA U c)(l:zB f a b U e=true)(M:zW f a b c.w c.d q Q):
  aG c U.N h (.Name (ev (ev e).e0).s (ev (ev e).e0).p) q λu L=>u= .ty "zip"/\aG c U.N h (hd (ev e).l) L λu j=>∃xs,u= .l xs/\aG c U.N h (hd (ev e).l.tail) j λu g=>∃r,u= .l r/\Q (qi xs r) g:=by
 have av:=b2<|b2<|b2 l
 refine V (show Ml _ _=_ from eE (b1<|b2<|b2 l) (by decide)) ?_
 exact aN.aO (f.ok N so (b1<|b2<|b2 av) M) λu L y=>⟨y.1,aN.aO (a.ok N so (b1<|b2<|b2<|b2 av) y.2) λu j D=>aD D λxs e y=>⟨xs,e,b.ok N so (b2<|b2<|b2<|b2 av) y⟩⟩
def It.zp(f a b:X):It where
 aA U e t:=uI t&&zB f a b U e
 W w d q Q:=zW f a b w d q Q
 ok {c U h e t q Q} N so l M:=by
  have av:=b2<|b2<|b2<|b2 l
  have k:=zK (h:=h) N so (b2 l) M
  refine az (zE<|b2 l) ?_
  exact d8.zip (b1 l) (b1 av) (b1<|b2 av) k
def It.Ov(f a b:X):It where
 aA U e t:=z_ t&&zB f a b U e
 W w d q Q:=zW f a b w d q Q
 ok {c U h e t q Q} N so l M:=by
  have av:=b2<|b2<|b2<|b2 l
  have k:=zK (h:=h) N so (b2 l) M
  refine az (zE<|b2 l) ?_
  exact d8.oq (b1 l) (b1 av) (b1<|b2 av) k
structure Ps where
 aA:Sc->List ay->Bool
 W:aC->Nat->H->St->(H->St->Prop)->Prop
 ok:∀{c:Cx} {U:Sc} {h:ao} {f:List ay} {a:H} {q:St} {Q:H->St->Prop},aW c->bA U c->a.length<=aL->aA U f=true->W c.w c.d a q Q->
  ∀J as s (b:H->au->Prop) (E:aa->au->Prop),aH c U.N h q J as s->0<s.toks->(∀j aJ s' i m,FM.le J j->bU as aJ->aH c U.N h m j aJ s'->i.length<=aL->Q i m->b i s')->Joins c.M c.A E (evalEach f c.aj) a b s
noncomputable def Ps.z:Ps where
 aA U f:=f.isEmpty
 W w d a q Q:=Q a q
 ok {c U h f a q Q} N so C l M J as s b E I tk K:=by
  refine V (nl l) ?_
  exact K J as s a q (FM.le.refl _) (bU.rfl' _) I C M
def Ps.lit(y:H)(r:Ps):Ps where
 aA U f:=uX f λe f=>uH e y&&r.aA U f
 W w d a q Q:=(a++y).length<=aL/\r.W w d (a++y) q Q
 ok {c U h f a q Q} N so C l M J as s b E I tk K:=by
  refine Ea (tw l) λe l=>?_
  refine V e<|az (z9<|b1 l) ?_
  exact zy<|gx _ _ rfl M.1<|r.ok N so M.1 (b2 l) M.2 J as _ b E (I.toks _) (oY _) K
def Ps.val(x:X)(r:Ps):Ps where
 aA U f:=uX f λe f=>et e 17&&(decide ((ev e).i=115)&&((ev e).o0.isNone&&(x.aA U (ev e).e0&&r.aA U f)))
 W w d a q Q:=x.W w d q λu L=>∃y,wA u=Y y/\(a++y).length<=aL/\r.W w d (a++y) L Q
 ok {c U h f a q Q} N so C l M J as s b E I tk K:=by
  refine Ea (tw l) λe l=>?_
  have A:Expr.FormattedValue _ _ _ _=_:=eE (b1 l)<|by decide
  rw[show(ev<|hd f).i=115 from of_decide_eq_true (b1<|b2 l),Mj.mp (b1<|b2<|b2 l)] at A
  refine V e<|az A ?_
  refine aN.bw (θ (Q:=λu L=>∃y,u= .s y/\(a++y).length<=aL/\r.W c.w c.d (a++y) L Q)<|aN.aO (x.ok N so (b1<|b2<|b2<|b2 l) M) λu L D=>jU D λy e1 B e3=>⟨y,e1,?_,y,rfl,B,e3⟩) I tk λg n G v u L R gr jK o jL k6=>?_
  ·rw[strLen_append] at B;exact ic (uB _ _) B
  obtain⟨y,rfl,B,e3⟩:=k6
  obtain⟨t⟩:=dG jL
  exact gx y t rfl B<|r.ok N so B (b2<|b2<|b2<|b2 l) e3 g n G b E jK o λj aJ s' i m k p=>K j aJ s' i m (R.trans k)<|gr.trans p
def X.fst(a:Ps):X where
 aA U e:=et e 15&&(!((ev e).l.length==0)&&(!((ev e).l.length==1)&&a.aA U (ev e).l))
 W w d q Q:=a.W w d ⟨#[]⟩ q λi L=>Q (.s i) L
 ok {c U h e q Q} N so l M:=by
  refine eW (b1 l) (by decide) ?_
  show aG c U.N h (.JoinedStr (ev e).l _) q Q
  have o:=b2 l
  revert o
  cases(ev e).l with
  |nil=>exact λo=>nomatch b1 o
  |cons n vs=>cases vs with
   |nil=>exact λo=>nomatch b1<|b2 o
   |cons r vs=>
    intro o J as s R E I tk K
    exact wpAny_JoinedStr<|a.ok N so (eL _) (b2<|b2 o) M J as s _ E I tk λj aJ s' i m k p I' C f=>⟨C,(K.trans k p).now (b:=AV.s i) (I'.toks _) (i6 _ _) f⟩
theorem HK{w:aC}{d:Nat}{f:Sc}{B:Tg}{t i:ay}{k:List ay}{n:Cd}{x:X}(A:B.aA f t=true)(o:n.aA f k=true)(q:x.aA f i=true){K:List af->Prop}:
  ∀(C:List af) (v:List (Option AV)) (a:List af),mR B.A (n.W w d) (x.W w d) C v a K->s9 w d f t k i C v a K
 |[],v,a,M=>M
 |y::r,v,a,M=>λc h N so ew ed=>by
  subst ew;subst ed
  refine P1.aO (B.ok (h:=h) N so A M) λ_ L av=>aN.aO (n.ok N so o av) λb j av=>?_
  cases b
  ·exact⟨av.1,HK A o q r _ _ av.2⟩
  ·exact aN.aO (x.ok N so q av) λu g D=>xH D λz e m l av=>⟨z,e,m,l,HK A o q r _ _ av⟩
def gD:sj:=⟨eD,eD,[],0⟩
abbrev gh(l:List sj):sj:=l.headD gD
theorem Ow{c:sj}(M:c.is_async=0):c=⟨c.target,c.iter,c.ifs,0⟩:=by
 cases c;cases M;rfl
theorem Ox{c:sj}(M:c.is_async=0)(a:c.ifs=[]):c=⟨c.target,c.iter,[],0⟩:=by
 have:=Ow M
 rw[a] at this;exact this
theorem κ(M:(l.length==1&&decide ((gh l).is_async=0))=true):l=[⟨(gh l).target,(gh l).iter,(gh l).ifs,0⟩]:=by
 have o:=Ow<|of_decide_eq_true<|b2 M
 refine az o ?_
 cases l with
 |nil=>exact fT<|b1 M
 |cons c l=>clear o;cases l with
  |nil=>rfl
  |cons=>exact absurd (eq_of_beq<|b1 M) λe=>nomatch e
abbrev Dn(i:X)(B:Tg)(t:It)(n:Cd)(f:Sc)(b:List (Option Nat))(U:Sc)(e:ay):Bool:=
 et e 16&&(((ev e).gs.length==1&&decide ((gh (ev e).gs).is_async=0))&&(Hz U (ev e).sc f b&&(t.aA U (gh (ev e).gs).iter (gh (ev e).gs).target&&(eo (gh (ev e).gs).iter&&(B.aA f (gh (ev e).gs).target&&(n.aA f (gh (ev e).gs).ifs&&i.aA f (ev e).e0))))))
abbrev HL(i:X)(B:Tg)(t:It)(n:Cd)(b:List (Option Nat))(w:aC)(d:Nat)(q:St)(Q:List af->St->Prop):Prop:=
 t.W w d q λC L=>(∀o∈gO b L.v,∀u,o=Y u->u.aq=true)/\mR B.A (n.W w d) (i.W w d) C (gO b L.v) [] λa=>Q a L
theorem Oz{i:X}{B:Tg}{t:It}{n:Cd}{f:Sc}{b:List (Option Nat)}{U:Sc}{e:ay}(l:Dn i B t n f b U e=true):
  .ListComp (ev e).e0 [⟨(gh (ev e).gs).target,(gh (ev e).gs).iter,(gh (ev e).gs).ifs,0⟩] (ev e).sc (ev e).p=e:=by
 refine az (κ<|b1<|b2 l) ?_
 exact eE (b1 l)<|by decide
theorem OA{i:X}{B:Tg}{t:It}{n:Cd}{f:Sc}{b:List (Option Nat)}{c:Cx}{U:Sc}{h:ao}{e:ay}{q:St}{Q:List af->St->Prop}(N:aW c)(so:bA U c)(l:Dn i B t n f b U e=true)(M:HL i B t n b c.w c.d q Q):
  d8 c U.N h (gh (ev e).gs).iter (gh (ev e).gs).target q λC L=>(∀o∈gO b L.v,∀u,o=Y u->u.aq=true)/\s9 c.w c.d f (gh (ev e).gs).target (gh (ev e).gs).ifs (ev e).e0 C (gO b L.v) [] λa=>Q a L:=by
 have av:=b2<|b2<|b2 l
 have r:=b2<|b2 av
 intro J as s R E I tk K
 exact t.ok N so (b1 av) M J as s R E I tk λj aJ s' G m C hs k p I' D nx sf y=>K j aJ s' G m C hs k p I' D nx sf ⟨y.1,HK (b1 r) (b1<|b2 r) (b2<|b2 r) _ _ _ y.2⟩
def X.comp(i:X)(B:Tg)(t:It)(n:Cd)(f:Sc)(b:List (Option Nat)):X where
 aA:=Dn i B t n f b
 W w d q Q:=HL i B t n b w d q λa L=>Q (.l a) L
 ok {c U h e q Q} N so l M:=by
  have k:=OA (h:=h) N so l M
  refine az (Oz l) ?_
  exact aG.comp N so (HB<|b1<|b2<|b2 l) (wB (b1<|b2<|b2<|b2<|b2 l) _) k
theorem ν{n:Cx}{f:Sc}{h:ao}{B:Tg}{t i:ay}{x:X}(N:aW n)(so:bA f n)(A:B.aA f t=true)(q:x.aA f i=true){K b:List (Option AV)->List af->Prop}(d:∀v a,K v a->b v a)(C:List af)(v:List (Option AV))(a:List af)(M:wz B.A (x.W n.w n.d) C v a K):Dd n f h t i C v a b:=by
 induction C generalizing v a with
 |nil=>
  exact d _ _ M
 |cons y r c=>
  exact λhs=>
  P1.aO (B.ok (h:=hs++h) N so A M) λ_ L av=>aN.aO (x.ok N so q av) λu g D=>xH D λz e m l av=>⟨z,e,m,l,c _ _ av⟩
theorem ξ{n:Cx}{f:Sc}{B BW:Tg}{z:It}{t e d i:ay}{x:X}(N:aW n)(so:bA f n)(A:B.aA f t=true)(o:z.aA f e d=true)(q:BW.aA f d=true)(g:x.aA f i=true){h:ao}{K:List af->Prop}(C:List af)(v:List (Option AV))(a:List af)(M:Az B.A (z.W n.w n.d) BW.A (x.W n.w n.d) C v a K):Aw n f h t e d i C v a K:=by
 induction C generalizing v a with
 |nil=>
  exact M
 |cons y r c=>
  exact λhs=>
  P1.aO (B.ok (h:=hs++h) N so A M) λ_ L av J as s R E I tk b=>
   z.ok N so o av J as s R E I tk λj aJ s' G m C bW k p I' D nx sf av=>b j aJ s' G m C bW k p I' D nx sf ⟨av.1,ν N so q g (λv a M=>c v a M) _ _ _ av.2⟩
theorem ο{l:List sj}(M:(l.length==2&&(decide ((gh l).is_async=0)&&(decide ((gh l.tail).is_async=0)&&((gh l).ifs.isEmpty&&(gh l.tail).ifs.isEmpty))))=true):l=[⟨(gh l).target,(gh l).iter,[],0⟩,⟨(gh l.tail).target,(gh l.tail).iter,[],0⟩]:=by
 have av:=b2<|b2 M
 refine az (Ox (of_decide_eq_true<|b1<|b2 M)<|nl<|b1<|b2 av)<|az (Ox (of_decide_eq_true<|b1 av)<|nl<|b2<|b2 av) ?_
 have M:=eq_of_beq<|b1 M
 cases l with
 |nil=>cases M
 |cons c l=>cases l with
  |nil=>cases M
  |cons d l=>cases l with
   |nil=>rfl
   |cons=>cases M
abbrev π(l:List sj):Bool:=l.length==2&&(decide ((gh l).is_async=0)&&(decide ((gh l.tail).is_async=0)&&((gh l).ifs.isEmpty&&(gh l.tail).ifs.isEmpty)))
def X.Dg(i:X)(B:Tg)(t:It)(BW:Tg)(z:It)(f:Sc)(b:List (Option Nat)):X where
 aA U e:=et e 16&&(π (ev e).gs&&(Hz U (ev e).sc f b&&(t.aA U (gh (ev e).gs).iter (gh (ev e).gs).target&&(eo (gh (ev e).gs).iter&&(eo (gh (ev e).gs.tail).iter&&(B.aA f (gh (ev e).gs).target&&(z.aA f (gh (ev e).gs.tail).iter (gh (ev e).gs.tail).target&&(BW.aA f (gh (ev e).gs.tail).target&&i.aA f (ev e).e0))))))))
 W w d q Q:=t.W w d q λC L=>(∀o∈gO b L.v,∀u,o=Y u->u.aq=true)/\Az B.A (z.W w d) BW.A (i.W w d) C (gO b L.v) [] λa=>Q (.l a) L
 ok {c U h e q Q} N so l M:=by
  have A:Expr.ListComp _ _ _ _=_:=eE (b1 l)<|by decide
  have hg:=b1<|b2 l
  have av:=b2<|b2 l
  have r:=b2<|b2 av
  have x:=b2<|b2 r
  rw[ο hg] at A
  refine az A ?_
  refine aG.Dg N so (HB<|b1 av) (wB (b1 r) _) (wB<|b1<|b2 r) λJ as s R E I tk K=>?_
  exact t.ok N so (b1<|b2 av) M J as s R E I tk λj aJ s' G m C hs k p I' D nx sf y=>K j aJ s' G m C hs k p I' D nx sf ⟨y.1,λn qH qF fC ew ed=>ξ qF fC (b1 x) (b1<|b2 x) (b1<|b2<|b2 x) (b2<|b2<|b2 x) _ _ _<|by refine V ew (V ed ?_);exact y.2⟩
end IR
noncomputable def uZ(q:St):List (Nat×AV)->St
 |[]=>q
 |p::l=>uZ (q.jz p.1 p.2) l
abbrev τ(J:FM)(as:List ak)(v:aa)(us:List AV):Prop:=∃a vs n,v= .ref a/\J a=Y (CT vs n)/\b_ J as vs.toList us
section
variable {c:Cx} {U:Sc} {h:ao} {q:St}
theorem OB(f:dD c N h l q λus i=>us.length<=aL/\Q us i):aN c N h τ (eval (.Tuple l k t) c.aj) q Q:=λJ as s R E I tk K=>
 aj9 (aN.bw (f t) I tk λC D y vs us i z A x L u m=>by
  refine Ea m λhl m=>?_
  refine⟨by refine V u.length ?_;exact hl,?_⟩
  refine Ea (x.alloc (o:=CT vs.toArray 0) rfl y.toks) λg a=>?_
  exact K _ _ _ _ us _ (z.trans g) A a (z3 _ _ _ rfl (FM.eZ _ _ _)<|u.le g.C<|bU.rfl' _) m)
theorem OC(B:bA U c)(h2:U.mF x=true):c.aj.kindOf x=Y .local\/(c.aj.kindOf x=Y .cell/\∃a,(x,a)∈c.cl/\c.aj.cells.lookup x=Y a):=by
 simp only[Sc.mF,FJ,jQ,beq_iff_eq] at h2
 rcases h2 with f|⟨f,h'⟩
 ·exact .inl<|by refine(?_:c.aj.scope.names.lookup x=_);refine V B.names ?_;exact f
 ·exact .inr ⟨by refine(?_:c.aj.scope.names.lookup x=_);refine V B.names ?_;exact f,B.own x<|by simpa using h'⟩
noncomputable def AB(U:Sc):List H->List Nat->Bool
 |[],j=>j.isEmpty
 |x::xs,j=> !j.isEmpty&&(U.N[j.headD 0]?==Y x&&(U.mF x&&AB U xs j.tail))
theorem υ(f:AB U xs j=true):xs.length=j.length:=by
 induction xs generalizing j with
 |nil=>exact(congrArg xw<|nl f).symm
 |cons x xs k=>
  cases j with
  |nil=>exact fT f
  |cons i j=>exact congrArg xm<|k<|b2<|b2<|b2 f
theorem ω(ok:aW c)(B:bA U c){J as}{s}(b:AB U d j=true)(hd:us.length=d.length)(I:aH c U.N h q J as s)(r:b_ J as vs us)
  (K:∀s',aH c U.N h (uZ q<|j.zip us) J as s'->R () s'):aF c.M c.A (LL (d.map λn=>bindName c.aj n) vs) R E s:=by
 induction d generalizing j us vs q s with
 |nil=>
  cases us with
  |nil=>cases vs with
   |nil=>exact UA<|K s<|by refine V (nl b) ?_;exact I
   |cons=>exact r.elim
  |cons=>cases hd
 |cons x d k=>
  cases j with
  |nil=>exact fT b
  |cons i j=>cases us with
   |nil=>cases hd
   |cons u us=>cases vs with
    |nil=>exact r.elim
    |cons v vs=>
     have g:=b2 b
     exact UB<|wpAny_bindName<|I.Ah ok B.nd (eq_of_beq<|b1 g) (OC B<|b1<|b2 g) (u:=u) r.1 λs' I'=>k (b2<|b2 g) (uA hd) I' r.2 K
theorem b_.append(f:b_ J as vs us)(h':b_ J as d cP):b_ J as (vs++d) (us++cP):=f.kO (P:=λvs us=>b_ J as (vs++d)<|us++cP) h' λ_ _ _ _ a _ b=>⟨a,b⟩
theorem b_.reverse(f:b_ J as vs us):b_ J as vs.reverse us.reverse:=
 f.kO (P:=λvs us=>b_ J as vs.reverse us.reverse) trivial λ_ _ _ _ a _ b=>by refine V LQ (V LQ ?_);exact b.append ⟨a,trivial⟩
noncomputable def yt(U:Sc):List ay->List Nat->Bool
 |[],j=>j.isEmpty
 |e::l,j=>(j.length !=0)&&(et e 2&&(U.N[j.headD 0]?==Y (ev e).s&&(U.mF (ev e).s&&yt U l j.tail)))
theorem Δ(ok:aW c)(B:bA U c){J as}(r:b_ J as vs us):∀{j:List Nat} {q:St} {s} {R:Unit->au->Prop} {E:aa->au->Prop},yt U l j=true->us.length=l.length->
  aH c U.N h q J as s->(∀s',aH c U.N h (uZ q<|j.zip us) J as s'->R () s')->aF c.M c.A (LL ((pY l c.aj).map (·.2)) vs) R E s:=by
 revert l
 refine r.kO (P:=λvs us=>∀{l:List ay} {j:List Nat} {q:St} {s} {R:Unit->au->Prop} {E:aa->au->Prop},yt U l j=true->us.length=l.length->aH c U.N h q J as s->(∀s',aH c U.N h (uZ q<|j.zip us) J as s'->R () s')->aF c.M c.A (LL ((pY l c.aj).map (·.2)) vs) R E s) (λ{l j q s R E} b hd I K=>?_) λv vs u us a _ k l j q s R E b hd I K=>?_
 ·cases l with
  |nil=>exact UA<|K s<|by refine V (nl b) ?_;exact I
  |cons e l=>cases hd
 ·cases l with
  |nil=>cases hd
  |cons e l=>
   cases j with
   |nil=>exact fT b
   |cons i j=>
    have b:=b2 b
    have g:=b2 b
    exact az (eE (b1 b)<|by decide)<|
     V (wg rfl ..) (
     UB (Uz<|I.Ah ok B.nd (eq_of_beq<|b1 g) (OC B<|b1<|b2 g) (u:=u) a λs' I'=>k (b2<|b2 g) (uA hd) I' K))
theorem Θ(f:yt U l j=true):l.length=j.length/\∀e∈l,dB e=true:=by
 induction l generalizing j with
 |nil=>refine V (nl f) ?_;exact⟨rfl,λ_ f=>nomatch f⟩
 |cons e l k=>
  cases j with
  |nil=>exact fT f
  |cons i j=>
   have f:=b2 f
   refine Ea (k<|b2<|b2<|b2 f) λa h2=>
    ⟨congrArg xm a,λx hx=>?_⟩
   refine bN hx ?_ λhx=>?_
   ·refine az (eE (b1 f)<|by decide) ?_;rfl
   ·exact h2 x hx
noncomputable def yu(U:Sc)(G vs:List ay):Option (Option<|List H):=
  if (!(G.length==2||G.length==3)||vs.length !=G.length)=true then Y Z
  else if (vs.any λ| .Starred .. =>true|_=>false)=true then Y Z
  else
   let a:=(G.head?.map (·.pos.line)).getD 0
   let d:=G.filterMap fun
    | .Name id t=>if (U.names.lookup id==Y .local&&t.line==a)=true then Y id else Z
    |_=>Z
   if (d.length !=G.length||d.eraseDups.length !=d.length)=true then Y Z
   else if vs.all (alo 8)=true then Y Z
   else if vs.all (alp 8)=true then Z
   else Y (Y d)
theorem AD{C:Type}[Decidable p]{a b:Option C}{x:C}{y z:bT C}(f:(if p then a else b)=Y x)(d:a=Y x->y=pure x)(i:b=Y x->z=pure x):(if p then y else z)=pure x:=by
 by_cases g:p
 ·rw[if_pos g] at f ⊢;exact d f
 ·rw[if_neg g] at f ⊢;exact i f
theorem AE{C:Type}{a x:C}(f:Y a=Y x):(pure a:bT C)=pure x:=by cases f;rfl
theorem HM(ok:aW c)(B:bA U c)(f:yu U G vs=Y r):vG [.Tuple G k p] (.Tuple vs b g) c.aj=pure r:=by
 have j:c.aj.kindOf=λx=>U.names.lookup x:=funext λx=>HC B x
 have i:(c.aj.blockKind !=akz)=false:=by refine V (show c.aj.blockKind= .function by simp[Uj,ok.kind,Uk]) ?_;rfl
 have e:vG [.Tuple G k p] (.Tuple vs b g) c.aj=(if (!(G.length==2||G.length==3)||vs.length !=G.length||c.aj.blockKind != .function)=true then pure Z
  else if (vs.any λ| .Starred .. =>true|_=>false)=true then pure Z
  else
   let a:=(G.head?.map (·.pos.line)).getD 0
   let d:=G.filterMap fun
    | .Name id t=>if (c.aj.kindOf id==Y .local&&t.line==a)=true then Y id else Z
    |_=>Z
   if (d.length !=G.length||d.eraseDups.length !=d.length)=true then pure Z
   else if vs.all (alo 8)=true then pure Z
   else if vs.all (alp 8)=true then F9 "assign.tuple-of-constant-expressions:order-of-the-stores"
   else pure (Y d)):=rfl
 exact V e<|V j<|V i<|V (LY ..)<|
  AD f AE λf=>AD f AE λf=>AD f AE λf=>AD f AE λf=>AD f (λf=>nomatch f) AE
def OD(G:List ay)(v:ay):Bool:=IR.uX G λt r=>et t 2||(et t 10||(et t 12||(r.isEmpty&&(et t 9&&(et v 13||(et v 10||et v 12))))))
theorem HN(f:OD G v=true)(a:dw):vG G v a=pure Z:=by
 match G with
 |t::r=>
  have f:(et t 2||(et t 10||(et t 12||(r.isEmpty&&(et t 9&&(et v 13||(et v 10||et v 12)))))))=true:=f
  rcases rN f with f|f
  ·refine az (eE f<|by decide) ?_;rfl
  rcases rN f with f|f
  ·refine az (eE f<|by decide) ?_;rfl
  rcases rN f with f|f
  ·refine az (eE f<|by decide) ?_;rfl
  refine V (nl<|b1 f)<|az (eE (b1<|b2 f)<|by decide) ?_
  rcases rN (b2<|b2 f) with f|f
  ·refine az (eE f<|by decide) ?_;rfl
  rcases rN f with f|f<;>(refine az (eE f<|by decide) ?_;rfl)
theorem bq.Λ(ok:aW c)(B:bA U c){G l:List ay}{k M:Nat}{p N t:aV}{d:List H}{j:List Nat}{Q:Fw->St->Prop}(h2:yu U G l=Y (Y d))(hN:AB U d.reverse j=true)
  (f:dD c U.N h l q λus i=>us.length<=aL/\us.length=j.length/\Q .nx (uZ i<|j.zip us.reverse)):bq c U.N h (.Assign [.Tuple G M N] (.Tuple l k p) t) q Q:=λJ as s R E I tk K=>by
 have hl:=υ hN
 rw[alq] at hl
 have e:l9 (.Assign [.Tuple G M N] (.Tuple l k p) t) c.aj=(vF t>>=λ_=>zF (.Tuple l k p) (Y<|.Tuple G M N) t.line c.aj>>=λb=>
   if b=true then(evalThenUse (.Tuple l k p) c.aj (λv=>UD v ((pY [.Tuple G M N] c.aj).map (·.2)))>>=λ_=>pure .next)
   else eval (.Tuple l k p) c.aj>>=λv=>vG [.Tuple G M N] (.Tuple l k p) c.aj>>=λw=>akB c.aj v w ((pY [.Tuple G M N] c.aj).map (·.2))):=rfl
 refine V e<|V (uO rfl)<|
  aB (kL<|aB<|bf<|
  V (if_neg ue) (
  aB (aN.bw (OB f) I tk λC D y v us i z A x L u m=>
  Ea m λhd m=>
  V (HM ok B h2) (
  aB (bf<|
  aB (uq ?_))))))
 refine vQ u λa vs n e' g r=>?_;clear u;subst e'
 have BX:d.length=vs.size:=by exact V hl<|az hd<|az r.length<|V fN rfl
 exact V BX<|
  aB (wpAny_unpackItems_tuple ok.hand (g8 _ (x.keep _ _ g) rfl _ rfl) λh' hx=>
  aB (ω (h:=h) ok B hN (by simp[hd,hl]) (x.s6 (s':={y with heap:=h'}) (λb o e=>hx b o (gu<|iC e) e) rfl rfl) r.reverse λs' I'=>
  bf ((K.trans z A).now (b:=Fw.nx) I' rfl m)))
theorem bq.Ξ(ok:aW c)(B:bA U c){G l:List ay}{k M:Nat}{p N t:aV}{j:List Nat}{Q:Fw->St->Prop}(h2:yu U G l=Y Z)(hN:yt U G j=true)
  (f:dD c U.N h l q λus i=>us.length<=aL/\us.length=j.length/\Q .nx (uZ i<|j.zip us)):bq c U.N h (.Assign [.Tuple G M N] (.Tuple l k p) t) q Q:=λJ as s R E I tk K=>by
 refine Ea (Θ hN) λhl hs=>?_
 refine LO (aN.bw (OB f) I tk λC D y v us i z A x L u m=>?_) (by refine(?_:zF (.Tuple l k p) (Y<|.Tuple G M N) t.line c.aj=_);exact uO rfl)<|HM ok B h2
 refine Ea m λhd m=>?_
 refine vQ u λa vs n e' g r=>?_;clear u;subst e'
 refine V (wg rfl ..) ?_
 refine(?_:aF c.M c.A (pX (.Tuple G M N) c.aj<|.ref a) _ E y)
 exact ako ok.hand (g8 _ (x.keep _ _ g) rfl _ rfl) (by exact V (Hf ..)<|V hl<|az hd<|az r.length<|V fN rfl) (Hg c.aj hs) λh' hx=>
  Δ (h:=h) ok B r hN (by exact V hd<|V hl rfl) (x.s6 (s':={y with heap:=h'}) (λb o e=>hx b o (gu<|iC e) e) rfl rfl) λs' I'=>(K.trans z A).now (b:=Fw.nx) I' rfl m
end
abbrev FQ:=Fw->St->Prop
namespace IR
noncomputable def mT(o:AV->St->(St->Prop)->Prop)(D:St->FQ->Prop):List af->St->FQ->Prop
 |[],q,Q=>Q .nx q
 |d::b,q,Q=>o (.d d) q λg=>D g λf a=>match f with
  | .nx=>mT o D b a Q
  | .ct=>mT o D b a Q
  | .br=>Q .nx a
  | .rt u=>Q (.rt u) a
noncomputable def qk(t:St->(Bool->St->Prop)->Prop)(D:St->FQ->Prop):Nat->St->FQ->Prop
 |0,_,_=>False
 |n+1,q,Q=>t q λx g=>if x=true then D g (λf a=>match f with
   | .nx=>qk t D n a Q
   | .ct=>qk t D n a Q
   | .br=>Q .nx a
   | .rt u=>Q (.rt u) a) else Q .nx g
def HO(u:AV)(n:H)(w:AV)(q:St)(Q:FQ):Prop:=
 ∃j C L,u= .gA j C/\q.μ[j]?=Y (Y<|.gJ C L)/\mH C n/\L.lookup n=Z/\L.length<=900/\w.aq=true/\Q .nx (q.fR j<|.gJ C<|L++[(n,w)])
def AF(u v w:AV)(q:St)(Q:FQ):Prop:=
 ∃j k xs d,u= .m j/\v= .i k/\w= .d d/\q.μ[j]?=Y (Y<|.ai xs)/\0<=k/\k.toNat<xs.length/\xs.length<=aL/\Q .nx (q.fR j<|.ai<|xs.set k.toNat d)
theorem OE{c:Cx}{N:List H}{h:ao}{u v w:AV}{q:St}{Q:FQ}(m:AF u v w q Q):P3 c N h rU Ce u v w q λ_ b=>Q .nx b:=by
 refine q8 m λj k xs d C g f B a=>?_;clear m;subst C;subst g;subst f;refine uF a λe x y h5=>?_;clear a
 exact Xw B y e x h5
structure S where
 aA:Sc->bu->Bool
 W:aC->Nat->St->FQ->Prop
 ok:∀{c:Cx} {U:Sc} {h:ao} {e:bu} {q:St} {Q:FQ},aW c->bA U c->aA U e=true->W c.w c.d q Q->bq c U.N h e q Q
abbrev rO(Q:FQ)(k:St->Prop):FQ:=λf g=>match f with
 | .nx=>k g
 |f=>Q f g
abbrev AG(c:Cx)(N:List H)(h:ao)(b:List bu)(q:St)(Q:FQ):Prop:=
 ∀(r:List bu) (J:FM) (as:List ak) (s:au) (R:pW->au->Prop) (E:aa->au->Prop),aH c N h q J as s->0<s.toks->
  (∀a aJ s' n,FM.le J a->bU as aJ->aH c N h n a aJ s'->0<s'.toks->Q .nx n->aF c.M c.A (kc r c.aj) R E s')->
  (∀a aJ s' f G n,FM.le J a->bU as aJ->aH c N h n a aJ s'->rF a aJ f G->G≠ .nx->Q G n->R f s')->aF c.M c.A (kc (b++r) c.aj) R E s
structure Ss where
 aA:Sc->List bu->Bool
 W:aC->Nat->St->FQ->Prop
 nF:∀{c:Cx} {U:Sc} {h:ao} {b:List bu} {q:St} {Q:FQ},aW c->bA U c->aA U b=true->W c.w c.d q Q->AG c U.N h b q Q
theorem sW{c:Cx}{N:List H}{h:ao}{e:bu}{q:St}{Q:FQ}{n:Nat}(m:jv e n=true)(a:n≠0)(k:bq c N h (su n<|sv e) q Q):bq c N h e q Q:=sE m a▸k
theorem Φ(ok:aW c):c.aj.blockKind= .function:=by simp[Uj,ok.kind,Uk]
def HP(U:Sc)(G:List ay)(e:ay):Bool:=
 q_ e||(G.length==1&&(et (hd G) 2&&(et e 16&& !(U.names.lookup (ev<|hd G).s==Y .local&&(ev<|hd G).p.line==(ev e).p.line&& !((ev e).sc.names.any λ(n,k)=>n==(ev<|hd G).s&&(k== .local||k== .cell))))))
theorem OF(ok:aW c)(A:bA U c):
  zF (.ListComp e M a j) (Y<|.Name x p) l c.aj=pure (U.names.lookup x==Y .local&&p.line==j.line&& !(a.names.any λ(n,k)=>n==x&&(k== .local||k== .cell))):=by
 have b:zF (.ListComp e M a j) (Y<|.Name x p) l c.aj=pure (c.aj.blockKind== .function&&c.aj.kindOf x==Y .local&&p.line==j.line&& !(a.names.any λ(n,k)=>n==x&&(k== .local||k== .cell))):=rfl
 refine V b (V (Φ ok)<|V (HC A ..) ?_);rfl
theorem yv(ok:aW c)(A:bA U c)(m:HP U G e=true):LN G e l c.aj=pure false:=by
 match G with
 |[]=>rfl
 |_::_::_=>rfl
 |[t]=>
  rcases rN m with m|m
  ·exact uO m
  have m:=b2 m
  refine az (eE (e:=e) (b1<|b2 m)<|by decide)<|az (eE (e:=t) (b1 m)<|by decide) ?_
  exact(OF (l:=l) ok A).trans<|congrArg pure<|bn<|b2<|b2 m
def HQ(U:Sc)(G:List ay)(v:ay):Bool:=OD G v||(G.length==1&&(et (hd G) 9&&(et v 9&&yu U (ev<|hd G).l (ev v).l==Y Z)))
theorem Dp(ok:aW c)(A:bA U c)(m:HQ U G v=true):vG G v c.aj=pure Z:=by
 rcases rN m with m|m
 ·exact HN m _
 have j:=b2 m
 refine V (l1<|b1 m)<|az (eE (b1 j)<|by decide)<|az (eE (e:=v) (b1<|b2 j)<|by decide) ?_
 exact HM ok A<|eq_of_beq<|b2<|b2 j
def S.aT(b:lH)(x:X):S where
 aA U e:=jv e 1&&(!(sv e).l.isEmpty&&(b.aA U (sv e).l&&(HP U (sv e).l (sv e).e0&&(HQ U (sv e).l (sv e).e0&&x.aA U (sv e).e0))))
 W w d q Q:=x.W w d q λu g=>b.B u g λa=>Q .nx a
 ok {c U h e q Q} ok A l m:=by
  have j:=b2<|b2 l
  refine sW (b1 l) (by decide)<|bq.aT (yv ok A<|b1<|b2 j) (Dp ok A<|b1<|b2<|b2 j)<|aN.aO (x.ok ok A (b2<|b2<|b2 j) m) λu g t=>b.pD ok A (b1 j) (λz=>?_) t
  have:=bn<|b1<|b2 l
  rw[z] at this;exact nomatch this
def S.lK(f:Bool)(b:List Nat)(xs:Xs):S where
 aA U e:=jv e 1&&((sv e).l.length==1&&(et (hd (sv e).l) 9&&(et (sv e).e0 9&&(xs.aA U (ev (sv e).e0).l&&(match yu U (ev<|hd (sv e).l).l (ev (sv e).e0).l with
  |some Z=> !f&&yt U (ev<|hd (sv e).l).l b
  |some (Y a)=>f&&AB U a.reverse b
  |none=>false)))))
 W w d q Q:=xs.W w d q λus g=>us.length<=aL/\us.length=b.length/\Q .nx (uZ g<|b.zip (if f=true then us.reverse else us))
 ok {c U h e q Q} ok A l m:=by
  refine sW (b1 l) (by decide) ?_
  refine(?_:bq c U.N h (.Assign (sv e).l (sv e).e0 _) q Q)
  have j:=b2<|b2 l
  have k:=b2<|b2<|b2 j
  have m:=xs.ok (h:=h) ok A (b1<|b2<|b2 j) m
  refine V (l1<|b1<|b2 l)<|az (eE (b1 j)<|by decide)<|az (eE (e:=(sv e).e0) (b1<|b2 j)<|by decide) ?_
  revert k
  cases hs:yu U (ev<|hd (sv e).l).l (ev (sv e).e0).l with
  |none=>exact λk=>nomatch k
  |some o=>cases o with
   |none=>
    intro k
    rw[bn (b1 k)] at m
    exact bq.Ξ ok A hs (b2 k) m
   |some a=>
    intro k
    rw[b1 k] at m
    exact bq.Λ ok A hs (b2 k) m
def S.pA(i:Nat)(b:X)(o:Tg)(f:It)(a:Cd)(s:Sc)(p:List (Option Nat)):S where
 aA U e:=jv e 1&&((sv e).l.length==1&&(et (hd (sv e).l) 2&&(Dn b o f a s p U (sv e).e0&&(U.N[i]?==Y (ev<|hd (sv e).l).s&&(U.mF (ev<|hd (sv e).l).s&&
  (U.names.lookup (ev<|hd (sv e).l).s==Y .local&&(ev<|hd (sv e).l).p.line==(ev (sv e).e0).p.line&& !((ev (sv e).e0).sc.names.any λ(n,k)=>n==(ev<|hd (sv e).l).s&&(k== .local||k== .cell))))))))
 W w d q Q:=HL b o f a p w d q λt g=>Q .nx (g.jz i<|.l t)
 ok {c U h e q Q} ok A l m:=by
  refine sW (b1 l) (by decide) ?_
  refine(?_:bq c U.N h (.Assign (sv e).l (sv e).e0 _) q Q)
  have j:=b2<|b2 l
  have r:=b2<|b2 j
  have k:=OA (h:=h) ok A (b1<|b2 j) m
  refine V (l1<|b1<|b2 l)<|az (Oz<|b1<|b2 j)<|az (eE (b1 j)<|by decide) ?_
  exact bq.pA ok A (HB<|b1<|b2<|b2<|b1<|b2 j) (wB (b1<|b2<|b2<|b2<|b2<|b1<|b2 j) _) ((OF ok A).trans<|congrArg pure<|b2<|b2 r) (eq_of_beq<|b1 r) (b1<|b2 r) k
def S.oj(o:X)(n:H)(x:X):S where
 aA U e:=jv e 1&&((sv e).l.length==1&&(et (hd (sv e).l) 12&&(decide ((ev<|hd (sv e).l).s=n)&&(q_ (sv e).e0&&(x.aA U (sv e).e0&&o.aA U (ev<|hd (sv e).l).e0)))))
 W w d q Q:=x.W w d q λv g=>o.W w d g λu a=>HO u n v a Q
 ok {c U h e q Q} ok A l m:=by
  refine sW (b1 l) (by decide) ?_
  refine(?_:bq c U.N h (.Assign (sv e).l (sv e).e0 _) q Q)
  have j:=b2<|b2 l
  have r:=b2<|b2 j
  have B:aln _ _ _=_:=eE (b1 j)<|by decide
  refine V (l1<|b1<|b2 l)<|az B<|V (show(ev<|hd (sv e).l).s=n from of_decide_eq_true (b1<|b2 j)) ?_
  exact bq.oj (b1 r)<|aN.aO (x.ok ok A (b1<|b2 r) m) λu g j=>aN.aO (o.ok ok A (b2<|b2 r) j) λw a j=>j
def S.x_(o i x:X):S where
 aA U e:=jv e 1&&((sv e).l.length==1&&(et (hd (sv e).l) 10&&(q_ (sv e).e0&&(x.aA U (sv e).e0&&(o.aA U (ev<|hd (sv e).l).e0&&i.aA U (ev<|hd (sv e).l).e1)))))
 W w d q Q:=x.W w d q λv g=>o.W w d g λu a=>i.W w d a λk f=>AF u k v f Q
 ok {c U h e q Q} ok A l m:=by
  refine sW (b1 l) (by decide) ?_
  refine(?_:bq c U.N h (.Assign (sv e).l (sv e).e0 _) q Q)
  have j:=b2<|b2 l
  have r:=b2<|b2 j
  refine V (l1<|b1<|b2 l)<|az (eE (b1 j)<|by decide) ?_
  exact bq.x_ (b1<|b2 j)<|aN.aO (x.ok ok A (b1 r) m) λu g j=>aN.aO (o.ok ok A (b1<|b2 r) j) λw a j=>aN.aO (i.ok ok A (b2<|b2 r) j) λw a j=>OE j
def S.eF(i:Nat)(x:X):S where
 aA U e:=jv e 2&&(et (sv e).e0 2&&(decide ((sv e).op= .Add)&&(U.N[i]?==Y (ev (sv e).e0).s&&(mC (ev (sv e).e0).s&&(U.mF (ev (sv e).e0).s&&x.aA U (sv e).e1)))))
 W w d q Q:=∃u,q.v[i]?=Y (Y u)/\x.W w d q λv g=>wo w d u v g λr a=>Q .nx (a.jz i r)
 ok {c U h e q Q} ok A l m:=by
  refine aD m λu b m=>?_
  refine sW (b1 l) (by decide) ?_
  refine(?_:bq c U.N h (.AugAssign (sv e).e0 (sv e).op (sv e).e1 _) q Q)
  have j:=b2 l
  have r:=b2<|b2 j
  refine az (eE (b1 j)<|by decide)<|V (show(sv e).op= .Add from of_decide_eq_true (b1<|b2 j)) ?_
  exact bq.XW ok A (eq_of_beq<|b1 r) (b1<|b2 r) (b1<|b2<|b2 r) b<|aN.aO (x.ok ok A (b2<|b2<|b2 r) m) λv g j=>j.at ok _ _
def S.An(o i x:X):S where
 aA U e:=jv e 2&&(et (sv e).e0 10&&(decide ((sv e).op= .Add)&&(!(et (ev (sv e).e0).e1 11)&&(o.aA U (ev (sv e).e0).e0&&(i.aA U (ev (sv e).e0).e1&&x.aA U (sv e).e1)))))
 W w d q Q:=o.W w d q λu g=>i.W w d g λk a=>jB w d u k a λp f=>x.W w d f λv b=>wo w d p v b λr n=>AF u k r n Q
 ok {c U h e q Q} ok A l m:=by
  refine sW (b1 l) (by decide) ?_
  refine(?_:bq c U.N h (.AugAssign (sv e).e0 (sv e).op (sv e).e1 _) q Q)
  have j:=b2 l
  have r:=b2<|b2 j
  have s:=b2 r
  refine az (eE (b1 j)<|by decide)<|V (show(sv e).op= .Add from of_decide_eq_true (b1<|b2 j)) ?_
  exact bq.An (bn<|b1 r)<|aN.aO (o.ok ok A (b1 s) m) λu g j=>aN.aO (i.ok ok A (b1<|b2 s) j) λk a j=>P2.aO (j.at ok _ _).2.2 λp f j=>aN.aO (x.ok ok A (b2<|b2 s) j) λv b j=>P2.aO (j.at ok _ _) λr n j=>OE j
def S.ex(x:X):S where
 aA U e:=jv e 3&&(q_ (sv e).e0&&x.aA U (sv e).e0)
 W w d q Q:=x.W w d q λ_ g=>Q .nx g
 ok ok A l m:=sW (b1 l) (by decide)<|bq.ex ok (b1<|b2 l)<|x.ok ok A (b2<|b2 l) m
def S.ret(x:X):S where
 aA U e:=jv e 7&&((sv e).o0.isSome&&x.aA U ((sv e).o0.getD eD))
 W w d q Q:=x.W w d q λu g=>Q (.rt u) g
 ok {c U h e q Q} ok A l m:=by
  refine sW (b1 l) (by decide) ?_
  refine(?_:bq c U.N h (.Return (sv e).o0 _) q Q)
  have j:=b2 l
  revert j
  cases(sv e).o0 with
  |none=>exact λj=>nomatch j
  |some v=>exact λj=>bq.ret<|x.ok ok A (b2 j) m
def S.x9:S where
 aA U e:=jv e 7&&(sv e).o0.isNone
 W w d q Q:=Q (.rt .n) q
 ok {c U h e q Q} ok A l m:=by
  refine sW (b1 l) (by decide) ?_
  refine(?_:bq c U.N h (.Return (sv e).o0 _) q Q)
  refine V (Mj.mp<|b2 l) ?_
  exact bq.x9 m
def S.brk:S where
 aA U e:=jv e 8
 W w d q Q:=Q .br q
 ok ok A l m:=sW l (by decide)<|bq.brk m
def S.cnt:S where
 aA U e:=jv e 9
 W w d q Q:=Q .ct q
 ok ok A l m:=sW l (by decide)<|bq.cnt m
noncomputable def S.Ψ:S where
 aA U e:=true
 W w d q Q:=False
 ok ok A l m:=m.elim
noncomputable def Ss.z:Ss where
 aA U b:=b.isEmpty
 W w d q Q:=Q .nx q
 nF ok A l m r J as s R E I tk M K:=nl l▸M J as s _ (FM.le.refl _) (bU.rfl' _) I tk m
noncomputable def Ω(l:List bu)(f:bu->List bu->Bool):Bool:=match l with
 |[]=>false
 |e::b=>f e b
theorem AG.cons{c:Cx}{N:List H}{h:ao}{e:bu}{b:List bu}{q:St}{Q:FQ}(m:bq c N h e q (rO Q λg=>AG c N h b g Q)):AG c N h (e::b) q Q:=λr J as s R E I tk M K=>
 Cm (aN.bw m I tk λd i x f w g l o y A t z=>by
  cases w with
  |nx=>
   obtain rfl:f= .next:=t
   exact z r d i x R E y A (λa aJ s' n k p=>M a aJ s' n (l.trans k)<|o.trans p) λa aJ s' f G n k p=>K a aJ s' f G n (l.trans k)<|o.trans p
  |br=>
   obtain rfl:f= .brk:=t
   exact K d i x _ .br g l o y rfl (λj=>nomatch j) z
  |ct=>
   obtain rfl:f= .cont:=t
   exact K d i x _ .ct g l o y rfl (λj=>nomatch j) z
  |rt u=>
   refine aD t λv C B=>?_;clear t;subst C
   exact K d i x _ (.rt u) g l o y (ah v rfl B) (λj=>nomatch j) z)
def Ss.k(s:S)(t:Ss):Ss where
 aA U b:=Ω b λe b=>s.aA U e&&t.aA U b
 W w d q Q:=s.W w d q (rO Q λg=>t.W w d g Q)
 nF {c U h b q Q} ok A l m:=by
  cases b with
  |nil=>exact nomatch l
  |cons e b=>
   refine AG.cons<|aN.aO (s.ok ok A (b1 l) m) λf g j=>?_
   cases f
   ·exact t.nF ok A (b2 l) j
   all_goals exact j
noncomputable def Ss.gk(i:Nat)(t:Ss):Ss where
 aA U b:=t.aA U b
 W w d q Q:=∃j xs,q.v[i]?=Y (Y<|.m j)/\q.μ[j]?=Y (Y<|.ai xs)/\t.W w d (q.gk j xs) Q
 nF {c U h b q Q} ok A l m r J as s R E I tk M K:=by
  refine o9 m λj xs B e x=>?_;clear m
  refine aD (I.Ag e) λv k N=>?_
  exact t.nF ok A l x r v as s R E N tk (λa aJ s' n g p=>M a aJ s' n (k.trans g) p) λa aJ s' f G n g p=>K a aJ s' f G n (k.trans g) p
noncomputable def Ss.uV(i:Nat)(t:Ss):Ss where
 aA U b:=t.aA U b
 W w d q Q:=∃j C L u,q.v[i]?=Y (Y<|.gA j C)/\q.μ[j]?=Y (Y<|.gJ C L)/\C_ C L u/\(∀j' D,(∃o∈q.v,o=Y (.gA j' D))->j'=j->D=C)/\t.W w d (q.uV j u) Q
 nF {c U h b q Q} ok A l m r J as s R E I tk M K:=by
  refine q8 m λj C L u B e x y h5=>?_;clear m
  refine aD (I.Zn e x y) λv k N=>?_
  exact t.nF ok A l h5 r v as s R E N tk (λa aJ s' n g p=>M a aJ s' n (k.trans g) p) λa aJ s' f G n g p=>K a aJ s' f G n (k.trans g) p
theorem fZ{c:Cx}{U:Sc}{h:ao}(ok:aW c)(A:bA U c){t:Ss}{D:List bu}{q:St}{Q:FQ}(l:t.aA U D=true)(m:t.W c.w c.d q Q):dH c U.N h D q Q:=λJ as s R E I tk K=>by
 have k:=t.nF (h:=h) ok A l m [] J as s R E I tk (λa aJ s' n k p i d j=>Ck<|(K.trans k p).now (b:=Fw.nx) i rfl j) λa aJ s' f G n k p i r _ j=>(K.trans k p).now i r j
 rw[iH] at k
 exact k
def S.ck(t:T)(a b:Ss):S where
 aA U e:=jv e 4&&(t.aA U (sv e).e0&&(a.aA U (sv e).a&&b.aA U (sv e).b))
 W w d q Q:=t.W w d q λx g=>if x=true then a.W w d g Q else b.W w d g Q
 ok {c U h e q Q} ok A l m:=sW (b1 l) (by decide) (bq.ck (aN.aO (t.ok ok A (b1<|b2 l) m) λx g j=>by
  cases x
  ·exact fZ ok A (b2<|b2<|b2 l) j
  ·exact fZ ok A (b1<|b2<|b2 l) j))
theorem HR{c:Cx}{U:Sc}{h:ao}(ok:aW c)(A:bA U c){o:Tg}{t:ay}{b:Ss}{D:List bu}(B:o.aA U t=true)(e:b.aA U D=true){Q:FQ}:
  ∀(C:List af) (q:St),mT o.A (b.W c.w c.d) C q Q->ya c U.N h t D C q Q
 |[],q,m=>m
 |y::d,q,m=>λhs=>P1.aO (o.ok ok A B m) λ_ g j=>aN.aO (fZ (h:=hs++h) ok A e j) λf a j=>by
  cases f
  ·exact HR ok A B e d _ j
  ·exact j
  ·exact HR ok A B e d _ j
  ·exact j
def S.kR(o:Tg)(f:It)(b:Ss):S where
 aA U e:=jv e 5&&((sv e).b.isEmpty&&(f.aA U (sv e).e1 (sv e).e0&&(eo (sv e).e1&&(o.aA U (sv e).e0&&b.aA U (sv e).a))))
 W w d q Q:=f.W w d q λC g=>mT o.A (b.W w d) C g Q
 ok {c U h e q Q} ok A l m:=by
  refine sW (b1 l) (by decide) ?_
  refine(?_:bq c U.N h (.For (sv e).e0 (sv e).e1 (sv e).a (sv e).b _) q Q)
  have j:=b2<|b2 l
  have r:=b2<|b2 j
  refine V (nl<|b1<|b2 l) ?_
  refine bq.kR ok (wB (b1<|b2 j) _) λJ as s R E I tk K=>?_
  exact f.ok ok A (b1 j) m J as s R E I tk λa aJ s' u n C hs k p i D v x t=>K a aJ s' u n C hs k p i D v x<|HR ok A (b1 r) (b2 r) _ _ t
theorem HS{c:Cx}{U:Sc}{h:ao}(ok:aW c)(A:bA U c){t:T}{d:ay}{b:Ss}{D:List bu}(B:t.aA U d=true)(e:b.aA U D=true){Q:FQ}:
  ∀(n:Nat) (q:St),qk (t.W c.w c.d) (b.W c.w c.d) n q Q->Ao c U.N h d D n q Q
 |0,q,m=>m
 |n+1,q,m=>aN.aO (t.ok ok A B m) λx g j=>by
  cases x
  ·exact j
  ·refine aN.aO (fZ ok A e j) λf a j=>?_
   cases f
   ·exact HS ok A B e n _ j
   ·exact j
   ·exact HS ok A B e n _ j
   ·exact j
def S.rG(t:T)(b:Ss):S where
 aA U e:=jv e 6&&((sv e).b.isEmpty&&(t.aA U (sv e).e0&&b.aA U (sv e).a))
 W w d q Q:=∃n,qk (t.W w d) (b.W w d) n q Q
 ok {c U h e q Q} ok A l m:=by
  refine Ex m λn m=>?_
  refine sW (b1 l) (by decide) ?_
  refine(?_:bq c U.N h (.While (sv e).e0 (sv e).a (sv e).b _) q Q)
  have j:=b2<|b2 l
  refine V (nl<|b1<|b2 l) ?_
  exact bq.rG n<|HS ok A (b1 j) (b2 j) n q m
def S.OG(b:Ss):S where
 aA U e:=jv e 10&&(!(sv e).hs.isEmpty&&((sv e).b.isEmpty&&((sv e).c.isEmpty&&b.aA U (sv e).a)))
 W w d q Q:=b.W w d q Q
 ok {c U h e q Q} ok A l m:=by
  refine sW (b1 l) (by decide) ?_
  refine(?_:bq c U.N h (.Try (sv e).a (sv e).hs (sv e).b (sv e).c _) q Q)
  have j:=b2<|b2 l
  have r:=b1<|b2 l
  refine V (nl<|b1 j)<|V (nl<|b1<|b2 j) ?_
  revert r
  cases(sv e).hs with
  |nil=>exact λr=>nomatch r
  |cons a hs=>exact λr=>bq.Hu<|fZ ok A (b2<|b2 j) m
end IR
noncomputable def sL(l:List Nat):H:=⟨l.toArray⟩
theorem fq(l:List Nat):(sL l).cps.toList=l:=by unfold sL;simp
theorem Dq(x:H):sL x.cps.toList=x:=by unfold sL;simp
theorem aQ(l:List Nat):(sL l).length=l.length:=by unfold sL alr;simp
theorem wD(x:H):x.cps.toList.length=x.length:=by unfold alr;simp
theorem d9(a b:List Nat):sL a++sL b=sL (a++b):=by
 refine(?_:(⟨_⟩:H)=⟨_⟩)
 simp[sL]
theorem aaa(x y:H):x++y=sL (x.cps.toList++y.cps.toList):=by exact az (d9 ..)<|V (Dq ..)<|V (Dq ..) rfl
theorem aab{a b:List Nat}(h:sL a=sL b):a=b:=by exact az (fq a)<|V h<|V (fq ..) rfl
theorem OH(x y:H):(x++y).cps.toList=x.cps.toList++y.cps.toList:=by exact V (aaa ..)<|V (fq ..) rfl
noncomputable def cu(c:Nat)(z:List Nat)(k:Nat):List Nat:=if k=c then z else[k]
theorem Dr(c:Nat)(z:List Nat):∀l:List Nat,c∉l->l.flatMap (cu c z)=l
 |[],_=>rfl
 |k::r,h=>by
  have a:¬k=c:=λe=>h<|e▸aZ ..
  refine V fQ<|V (Dr c z r λm=>h<|a_ _ m) ?_
  unfold cu;refine V (if_neg a) ?_;rfl
theorem OI(c:Nat)(z:H):∀b:List H,(∀p∈b,c∉p.cps.toList)->(uC ⟨#[c]⟩ b).cps.toList.flatMap (cu c z.cps.toList)=(uC z b).cps.toList
 |[],_=>rfl
 |[p],h=>Dr c _ _<|h p<|bH.mpr rfl
 |p::q::r,h=>by
  have d:=OI c z (q::r) λa e=>h a<|a_ _ e
  refine(?_:(p++⟨#[c]⟩++uC ⟨#[c]⟩ (q::r)).cps.toList.flatMap _=(p++z++uC z (q::r)).cps.toList)
  simp only[H.cps_append,Ca,lB]
  refine V d<|V (Dr c _ _<|h p<|aZ ..) ?_
  simp[cu]
theorem OJ(x z:H)(c:Nat):(fP x ⟨#[c]⟩ z).cps.toList=x.cps.toList.flatMap (cu c z.cps.toList):=by
 exact V (StrLaws.replace_one ..)<|az (OI c z _<|StrLaws.split_free x c)<|V (StrLaws.join_split ..) rfl
theorem u0(l:List Nat)(z:H)(c:Nat):fP (sL l) ⟨#[c]⟩ z=sL (l.flatMap<|cu c z.cps.toList):=by
 (refine az (Dq<|fP _ _ _) (V (OJ ..) ?_);rw[fq])
theorem Ds(c:Nat)(z:List Nat):∀l:List Nat,(l.flatMap<|cu c z).length<=l.length*(z.length+1)
 |[]=>by simp
 |k::r=>by
  have d:=Ds c z r
  refine V fQ<|V bQ<|V cX<|V (F6 ..) ?_
  have:(cu c z k).length<=z.length+1:=by unfold cu;split<;>simp
  exact la 0x4a0824638428220440918e2044860 [_,_,_,_] rfl d this
theorem u5(x z:H)(c:Nat):(fP x ⟨#[c]⟩ z).length<=x.length*(z.length+1):=by
 refine az (wD ..)<|V (OJ ..)<|az (wD x)<|az (wD z) ?_
 exact Ds c _ _
theorem KN(a b:Nat):sliceRange (a:Int) (b:Int) 1=(l_<|b-a).map (a+·):=sliceRange_one a b
theorem aad{C:Type _}(l:List C)(a:Nat) b(h:a+b<=l.length):(l_ b).filterMap (λk=>l[a+k]?)=(l.drop a).take b:=by
 induction b with
 |zero=>
  simp
 |succ m d=>
  refine V List.range_succ<|V List.filterMap_append<|V (d<|by exact j7<|by assumption) ?_
  have c:a+m<l.length:=by assumption
  refine V Gf<|V (fM c)<|V List.filterMap_nil ?_
  have e:m<(l.drop a).length:=by refine V kM ?_;exact la 0x4b8e1047882823044882091860 [_,_,_,_] rfl h<|aY<|la 0x4a8a0044882091860 [_,_,_] rfl h
  have f:(l.drop a)[m]?=Y l[a+m]:=by exact V vM<|V (fM c) rfl
  refine V U9 (V f ?_);rfl
theorem aae{C:Type _}(l:List C)(a b:Nat)(d:b<=l.length):((l_<|b-a).map (a+·)).filterMap (l[·]?)=(l.take b).drop a:=by
 refine V List.filterMap_map<|V Gg ?_
 by_cases q:a<=b
 ·exact aad l a (b-a)<|by exact la 0x4a8428a30468028e2044860 [_,_,_,_] rfl d<|aY q
 ·have:b-a=0:=by exact dK (la 0x4a420046420 [_] rfl<|Gh<|la 0x4a821048860 [_,_] rfl q) (la 0x4a810 [_] rfl)
  refine V this ?_;simp
theorem aaf(a b:Option Int)(n:Nat):als a b 1 n=(l_<|d7 n b n-d7 n a 0).map (d7 n a 0+·):=by
 have e:als a b 1 n=sliceRange (alu a b Z n).1 (alu a b Z n).2.1 1:=by cases a<;>cases b<;>rfl
 refine V e<|V (kms_bounds ..)<|V (NC ..)<|V (ND ..) ?_
 exact KN _ _
theorem aag(n:Nat)(v:Option Int)(d:Nat)(e:d<=n):d7 n v d<=n:=by
 cases v with
 |none=>exact e
 |some i=>
  refine(?_:(if i<0 then n-(-i).toNat else min i.toNat n)<=n)
  split
  ·exact qW _ _
  ·exact Gi _ _
theorem Dt(n i d:Nat):d7 n (Y (i:Int)) d=min i n:=by
 refine(?_:(if (i:Int)<0 then n-(-(i:Int)).toNat else min (i:Int).toNat n)=_)
 exact V (if_neg<|Fl.mpr<|Fi i)<|V (gY ..) rfl
theorem u6{n i d:Nat}(h:i<=n):d7 n (Y (i:Int)) d=i:=(Dt n i d).trans<|zQ h
theorem aah(n d:Nat):d7 n (Y<|-1) d=n-1:=rfl
theorem AH(l:List Nat)(a b:Option Int):sD (sL l) a b=sL ((l.take<|d7 l.length b l.length).drop<|d7 l.length a 0):=by
 have d:=aag l.length b l.length<|bM _
 unfold sD
 refine V (aQ ..)<|V (aaf ..) ?_
 have e:((l_<|d7 l.length b l.length-d7 l.length a 0).map (d7 l.length a 0+·)).filterMap ((sL l).cps[·]?)=(l.take<|d7 l.length b l.length).drop (d7 l.length a 0):=by
  refine az (aae l _ _ d) ?_
  congr 1
  funext i
  exact az oV<|V (fq ..) rfl
 split
 ·rename_i h
  have f:d7 l.length b l.length-d7 l.length a 0=l.length:=by simpa using h
  have c:d7 l.length a 0=0\/l.length=0:=by lia
  rcases c with c|c
  ·exact V c<|V nY<|V (Cu<|by exact la 0x4a8e10468c28a0047860 [_,_,_,_] rfl f<|aY<|la 0x4a860046420 [_,_] rfl c) rfl
  ·have:l=[]:=Mk.mp c
   clear h c d e f;subst this;simp
 ·refine V e ?_;rfl
theorem aai(l:List Nat)(i:Nat)(h:i<=l.length):sD (sL l) Z (Y (i:Int))=sL (l.take i):=by
 refine V (AH ..) (V (u6 h) ?_);rfl
theorem OL(l:List Nat)(i:Nat)(h:i<=l.length):sD (sL l) (Y (i:Int)) Z=sL (l.drop i):=by
 exact V (AH ..)<|V (u6 h)<|V (show d7 l.length Z l.length=l.length from rfl)<|V Gj rfl
theorem Du{C:Type}(l:List C)(a b:Option Int):kQ l a b=(l.take<|d7 l.length b l.length).drop (d7 l.length a 0):=Gg.symm
theorem aaj(l:List Nat)(i:Nat){k:Nat}(h:l[i]?=Y k):(Cc (sL l) (i:Int)).isSome=true/\FD (sL l) (i:Int)=sL [k]:=by
 have c:i<l.length:=(fF.mp h).1
 refine⟨charAt_isSome (by exact li 0x12a03a1044850044810 [_,_] rfl (Li.cp _)<|Li.cp _)<|by refine V (aQ ..) ?_;exact li 0x4b860045860 [_,_] rfl<|Li.ct c,item_meets (by lia) ?_⟩
 refine V (gY ..) (az oV<|V (fq ..) ?_);exact h
theorem iO(a b:List Nat):(sL a==sL b)=(a==b):=by
 by_cases q:a=b
 ·subst q;simp
 ·have:sL a≠sL b:=λe=>q (aab e)
  exact V (beq_eq_false_iff_ne.mpr this)<|V (beq_eq_false_iff_ne.mpr q) rfl
theorem aak{i:Nat}(h:i<=1000000000):LA (i:Int)=true:=by
 unfold LA
 have a:¬(i:Int)< -2^63:=by lia
 have b:¬(i:Int)>=2^63:=by lia
 refine V (decide_eq_false a) (V (decide_eq_false b) ?_);rfl
namespace IR
abbrev W(w:aC)(d:Nat)(x:X)(q:St)(Q:PQ):Prop:=x.W w d q Q
abbrev WXs(w:aC)(d:Nat)(x:Xs)(q:St)(Q:List AV->St->Prop):Prop:=x.W w d q Q
abbrev WT(w:aC)(d:Nat)(x:T)(q:St)(Q:Bool->St->Prop):Prop:=x.W w d q Q
abbrev WS(w:aC)(d:Nat)(x:S)(q:St)(Q:FQ):Prop:=x.W w d q Q
abbrev WC(w:aC)(d:Nat)(x:Cd)(q:St)(Q:Bool->St->Prop):Prop:=x.W w d q Q
abbrev WI(w:aC)(d:Nat)(x:It)(q:St)(Q:List af->St->Prop):Prop:=x.W w d q Q
abbrev WSs(w:aC)(d:Nat)(x:Ss)(q:St)(Q:FQ):Prop:=x.W w d q Q
abbrev asg(t:Tg):AV->St->(St->Prop)->Prop:=t.A
abbrev asgAll(t:lH):AV->St->(St->Prop)->Prop:=t.B
noncomputable abbrev pG(U:Sc)(x:S)(e:bu):Bool:=x.aA U e
noncomputable abbrev gQ(U:Sc)(x:Ss)(e:List bu):Bool:=x.aA U e
noncomputable abbrev aA(U:Sc)(x:X)(e:ay):Bool:=x.aA U e
noncomputable abbrev OM(U:Sc)(x:Tg)(e:ay):Bool:=x.aA U e
noncomputable abbrev ON(U:Sc)(x:T)(e:ay):Bool:=x.aA U e
section
variable {w:aC} {d:Nat} {q:St} {Q:PQ} {F:FQ} {B:Bool->St->Prop} {L:List af->St->Prop} {M:List AV->St->Prop} {a b x f:X} {xs:Xs} {t:T} {G:Ts} {N R:O} {K:St->Prop} {u:AV} {i:Nat} {A I:Tg} {h:lH} {E J:It} {D s1 s2:Ss}
theorem w_none:(X.c .none).W w d q Q=Q .n q:=rfl
theorem w_bool{b:Bool}:(X.c<|.bool b).W w d q Q=Q (.b b) q:=rfl
theorem w_int{i:Int}:(X.c<|.int i).W w d q Q=Q (.i i) q:=rfl
theorem w_str{y:H}:(X.c<|.str y).W w d q Q=Q (.s y) q:=rfl
theorem w_v:(X.v i).W w d q Q=∃u,q.v[i]?=Y (Y u)/\Q u q:=rfl
theorem w_g:(X.g i).W w d q Q=∃p,G0[i]?=Y p/\Q p.2 q:=rfl
theorem w_bin{j:B6}:(X.aI j a b).W w d q Q=a.W w d q λu g=>b.W w d g λv c=>lG w d j u v c Q:=rfl
theorem w_neg:(X.neg a).W w d q Q=a.W w d q λu g=>∃i,u= .i i/\Q (.i<|-i) g:=rfl
theorem w_cmp{j:xe}:(X.bx j a b).W w d q Q=a.W w d q λu g=>b.W w d g λv c=>i9 w d j u v c Q:=rfl
theorem w_xan:(X.an a b).W w d q Q=a.W w d q λu g=>nC w d u g λx c=>if x=true then b.W w d c Q else Q u c:=rfl
theorem w_ite:(X.ite t a b).W w d q Q=t.W w d q λx g=>if x=true then a.W w d g Q else b.W w d g Q:=rfl
theorem w_lst:(X.ai xs).W w d q Q=xs.W w d q λus g=>∃c,gM us=Y c/\c.length<=aL/\Q (.l c) g:=rfl
theorem w_mls:(X.lF xs).W w d q Q=xs.W w d q λus g=>∃c,gM us=Y c/\c.length<=aL/\Q (.m g.μ.length) (g.pn<|.ai c):=rfl
theorem w_tup:(X.bZ xs).W w d q Q=xs.W w d q λus g=>∃c,gM us=Y c/\c.length<=aL/\Q (.t c) g:=rfl
theorem w_sub:(X.sub a b).W w d q Q=a.W w d q λu g=>b.W w d g λv c=>jB w d u v c Q:=rfl
theorem w_slL:(X.nD a N R).W w d q Q=a.W w d q λu g=>N.W w d g λl c=>R.W w d c λr e=>∃xs p j,xW e u=Y xs/\xs.length<=aL/\oh l=Y p/\oh r=Y j/\Q (.l<|kQ xs p j) e:=rfl
theorem w_slS:(X.jD a N R).W w d q Q=a.W w d q λu g=>N.W w d g λl c=>R.W w d c λr e=>∃x p j,u= .s x/\x.length<=aL/\oh l=Y p/\oh r=Y j/\Q (.s<|sD x p j) e:=rfl
theorem w_att{n:H}:(X.oi a n).W w d q Q=a.W w d q λu g=>rM w d u n g Q:=rfl
theorem w_call:(X.call i xs).W w d q Q=∃p,G0[i]?=Y p/\s_ p.2=true/\xs.W w d q λus c=>jC w d p.2 us c Q:=rfl
theorem w_mth{m:jA}:(X.dg m a xs).W w d q Q=a.W w d q λu g=>rz g u=Y m.T/\xs.W w d g λus c=>mP w d m (u::us) c Q:=rfl
theorem w_rep{y z:H}:(X.nA a y z).W w d q Q=a.W w d q λu g=>∃x,u= .s x/\x.length+(x.length+1)*z.length<=16777216/\Q (.s<|fP x y z) g:=rfl
theorem w_own{C f:ak}{n:H}:(X.own C f a n xs).W w d q Q=(kT C n f/\a.W w d q λu g=>mJ u=Y C/\xs.W w d g λus c=>jC w d (.k f) (u::us) c Q):=rfl
theorem w_bap:(X.Ot a).W w d q Q=a.W w d q λu g=>∃i xs,u= .m i/\g.μ[i]?=Y (Y<|.ai xs)/\Q (.ap i) g:=rfl
theorem w_cap:(X.lJ i a).W w d q Q=∃j,q.v[i]?=Y (Y<|.ap j)/\a.W w d q λu g=>∃x xs,u= .d x/\g.μ[j]?=Y (Y<|.ai xs)/\xs.length<=aL/\Q .n (g.fR j<|.ai<|xs++[x]):=rfl
theorem w_ccl:(X.yp i a).W w d q Q=∃n,q.v[i]?=Y (Y<|.e_ n)/\a.W w d q λu g=>∃r k,k<=d/\u.aq=true/\r.aq=true/\AA w k n u r/\Q r g:=rfl
theorem w_dct{c:List (H×H)}:(X.Dm c).W w d q Q=((c.map (·.1)).Nodup/\c≠[]/\c.length<=15/\Q (.dt w c) q):=rfl
theorem w_fst{e:Ps}:(X.fst e).W w d q Q=e.W w d ⟨#[]⟩ q λc g=>Q (.s c) g:=rfl
theorem w_psn{c:H}{P:H->St->Prop}:Ps.z.W w d c q P=P c q:=rfl
theorem w_psl{c y:H}{r:Ps}{P:H->St->Prop}:(Ps.lit y r).W w d c q P=((c++y).length<=aL/\r.W w d (c++y) q P):=rfl
theorem w_psv{c:H}{r:Ps}{P:H->St->Prop}:(Ps.val x r).W w d c q P=x.W w d q λu g=>∃y,wA u=Y y/\(c++y).length<=aL/\r.W w d (c++y) g P:=rfl
theorem w_comp{cond:Cd}{j:Sc}{e:List (Option Nat)}:(X.comp x A E cond j e).W w d q Q=E.W w d q λC g=>(∀o∈gO e g.v,∀u,o=Y u->u.aq=true)/\mR A.A (cond.W w d) (x.W w d) C (gO e g.v) [] λc=>Q (.l c) g:=rfl
theorem w_comp2{j:Sc}{e:List (Option Nat)}:(X.Dg x A E I J j e).W w d q Q=E.W w d q λC g=>(∀o∈gO e g.v,∀u,o=Y u->u.aq=true)/\Az A.A (J.W w d) I.A (x.W w d) C (gO e g.v) [] λc=>Q (.l c) g:=rfl
theorem w_xn:Xs.z.W w d q M=M [] q:=rfl
theorem w_xc:(Xs.k x xs).W w d q M=x.W w d q λu g=>xs.W w d g λus c=>M (u::us) c:=rfl
theorem w_on:O.kU.W w d q Q=Q .n q:=rfl
theorem w_ox:(O.x a).W w d q Q=a.W w d q Q:=rfl
theorem w_cy:Cd.gP.W w d q B=B true q:=rfl
theorem w_ct:(Cd.t t).W w d q B=t.W w d q B:=rfl
theorem w_nt:(T.nt t).W w d q B=t.W w d q λb g=>B (!b) g:=rfl
theorem w_tc{j:xe}:(T.bx j a b).W w d q B=a.W w d q λu g=>b.W w d g λv c=>i9 w d j u v c λx e=>nC w d x e B:=rfl
theorem w_tv:(T.val x).W w d q B=x.W w d q λu g=>nC w d u g B:=rfl
theorem w_an:(T.an G).W w d q B=G.A w d q B:=rfl
theorem w_or:(T.yr G).W w d q B=G.B w d q B:=rfl
theorem w_an0:Ts.z.A w d q B=B true q:=rfl
theorem w_or0:Ts.z.B w d q B=B false q:=rfl
theorem w_anc:(Ts.k t G).A w d q B=t.W w d q λb g=>if b=true then G.A w d g B else B false g:=rfl
theorem w_orc:(Ts.k t G).B w d q B=t.W w d q λb g=>if b=true then B true g else G.B w d g B:=rfl
theorem w_il:(It.ai x).W w d q L=x.W w d q λu g=>∃xs,u= .l xs/\L xs g:=rfl
theorem w_it:(It.bO x).W w d q L=x.W w d q λu g=>∃y,u= .s y/\L (qh y) g:=rfl
theorem w_ir:(It.uY x).W w d q L=x.W w d q λu g=>∃a b e k,u= .rg a b e/\Cn a b e=true/\uu a b e=((k:Nat):Int)/\L (rD a e k) g:=rfl
theorem w_ie:(It.en f x).W w d q L=f.W w d q λu g=>u= .ty "enumerate"/\x.W w d g λu c=>∃xs,u= .l xs/\L (we 0 xs) c:=rfl
theorem w_iz:(It.zp f a b).W w d q L=f.W w d q λu g=>u= .ty "zip"/\a.W w d g λu c=>∃xs,u= .l xs/\b.W w d c λu e=>∃j,u= .l j/\L (qi xs j) e:=rfl
theorem w_iy:(It.Ov f a b).W w d q L=f.W w d q λu g=>u= .ty "zip"/\a.W w d g λu c=>∃xs,u= .l xs/\b.W w d c λu e=>∃j,u= .l j/\L (qi xs j) e:=rfl
theorem a_n:(Tg.n i).A u q K=K (q.jz i u):=rfl
theorem a_t{l:lH}{c:List af}:(Tg.t l).A (.d<|.tuple c) q K=(l.len=c.length/\l.A c q K):=rfl
theorem a_l{l:lH}{c:List af}:(Tg.t l).A (.d<|.list c) q K=(l.len=c.length/\l.A c q K):=rfl
theorem a_0:lH.z.A [] q K=K q:=rfl
theorem a_c{x:af}{c:List af}:(lH.k A h).A (x::c) q K=A.A (.d x) q λe=>h.A c e K:=rfl
theorem b_0:lH.z.B u q K=K q:=rfl
theorem b_c:(lH.k A h).B u q K=A.A u q λe=>h.B u e K:=rfl
theorem s_asn:(S.aT h x).W w d q F=x.W w d q λu g=>h.B u g λc=>F .nx c:=rfl
theorem s_asnT{e:Bool}{c:List Nat}:(S.lK e c xs).W w d q F=xs.W w d q λus g=>us.length<=aL/\us.length=c.length/\F .nx (uZ g<|c.zip (if e=true then us.reverse else us)):=rfl
theorem s_asnC{cond:Cd}{j:Sc}{e:List (Option Nat)}:(S.pA i x A E cond j e).W w d q F=E.W w d q λC g=>(∀o∈gO e g.v,∀u,o=Y u->u.aq=true)/\mR A.A (cond.W w d) (x.W w d) C (gO e g.v) [] λc=>F .nx (g.jz i<|.l c):=rfl
theorem s_asnA{n:H}:(S.oj a n x).W w d q F=x.W w d q λv g=>a.W w d g λu c=>HO u n v c F:=rfl
theorem s_asnI:(S.x_ a b x).W w d q F=x.W w d q λv g=>a.W w d g λu c=>b.W w d c λk e=>AF u k v e F:=rfl
theorem s_aug:(S.eF i x).W w d q F=∃u,q.v[i]?=Y (Y u)/\x.W w d q λv g=>wo w d u v g λr c=>F .nx (c.jz i r):=rfl
theorem s_augI:(S.An a b x).W w d q F=a.W w d q λu g=>b.W w d g λk c=>jB w d u k c λm e=>x.W w d e λv j=>wo w d m v j λr l=>AF u k r l F:=rfl
theorem s_ex:(S.ex x).W w d q F=x.W w d q λ_ g=>F .nx g:=rfl
theorem s_ret:(S.ret x).W w d q F=x.W w d q λu g=>F (.rt u) g:=rfl
theorem s_retN:S.x9.W w d q F=F (.rt .n) q:=rfl
theorem s_brk:S.brk.W w d q F=F .br q:=rfl
theorem s_cnt:S.cnt.W w d q F=F .ct q:=rfl
theorem s_iff:(S.ck t s1 s2).W w d q F=t.W w d q λx g=>if x=true then s1.W w d g F else s2.W w d g F:=rfl
theorem s_forr:(S.kR A E D).W w d q F=E.W w d q λC g=>mT A.A (D.W w d) C g F:=rfl
theorem s_whl:(S.rG t D).W w d q F=∃n,qk (t.W w d) (D.W w d) n q F:=rfl
theorem s_tryb:(S.OG D).W w d q F=D.W w d q F:=rfl
theorem t_nx:rO F K .nx q=K q:=rfl
theorem t_br:rO F K .br q=F .br q:=rfl
theorem t_ct:rO F K .ct q=F .ct q:=rfl
theorem t_rt:rO F K (.rt u) q=F (.rt u) q:=rfl
theorem WSs.c{s:S}(e:s.W w d q (rO F λg=>D.W w d g F)):(Ss.k s D).W w d q F:=e
theorem WSs.fz(e:∃j xs,q.v[i]?=Y (Y<|.m j)/\q.μ[j]?=Y (Y<|.ai xs)/\D.W w d (q.gk j xs) F):(Ss.gk i D).W w d q F:=e
theorem WSs.n(e:F .nx q):Ss.z.W w d q F:=e
end
end IR
local macro_rules | `(tactic| walk_at $k:str) => do let l := "WS WSs s_asn s_asnT s_asnC s_asnA s_asnI s_aug s_augI s_ex s_ret s_retN s_brk s_cnt s_iff s_forr s_whl s_tryb t_nx t_br t_ct t_rt"; let l := if k.getString == "s" then l else l ++ " w_il w_it w_ir w_ie w_iz w_iy"; let l := if k.getString == "w" then l ++ " W WXs WT WC WI asg asgAll w_none w_bool w_int w_str w_v w_g w_bin w_neg w_cmp w_xan w_ite w_lst w_mls w_tup w_sub w_slL w_slS w_att w_call w_mth w_rep w_own w_bap w_cap w_ccl w_dct w_fst w_psn w_psl w_psv w_comp w_comp2 w_xn w_xc w_on w_ox w_cy w_ct w_nt w_tc w_tv w_an w_or w_an0 w_or0 w_anc w_orc a_n a_t a_l a_0 a_c b_0 b_c" else l; let xs := (l.splitOn " ").toArray.map fun s => Lean.mkIdent (.str (.str .anonymous "IR") s); `(tactic| simp only [$[$xs:term],*])
theorem i_{l:List (Option AV)}(h:l.all (λo=>(o.map AV.aq).getD true)=true):∀o∈l,∀u,o=Y u->u.aq=true:=λo a u e=>by
 have h:=l6.mp h o a
 subst e;exact h
namespace WL
variable {w:aC} {d:Nat} {q:St} {Q:PQ} {B:Bool->St->Prop}
theorem lt(h:Q (.b<|decide<|a<b) q):i9 w d .Lt (.i a) (.i b) q Q:=λU U U U U U=>WX h
theorem le(h:Q (.b<|decide<|a<=b) q):i9 w d .LtE (.i a) (.i b) q Q:=λU U U U U U=>WY h
theorem gt(h:Q (.b<|decide<|a>b) q):i9 w d .Gt (.i a) (.i b) q Q:=λU U U U U U=>WZ h
theorem ge(h:Q (.b<|decide<|a>=b) q):i9 w d .GtE (.i a) (.i b) q Q:=λU U U U U U=>W0 h
theorem Dv(h:Q (.b<|a==b) q):i9 w d .Eq (.i a) (.i b) q Q:=λU U U U U U=>WW h
theorem O0(h:Q (.b<|a !=b) q):i9 w d .NotEq (.i a) (.i b) q Q:=λU U U U U U=>W2 h
theorem nG(h:Q (.b<|a==b) q):i9 w d .Eq (.s a) (.s b) q Q:=λU U U U U U=>W3 h
theorem rP(h:Q (.b<|a !=b) q):i9 w d .NotEq (.s a) (.s b) q Q:=λU U U U U U=>W4 h
theorem AI(h:Q (.b<|rA b a) q):i9 w d .In (.s a) (.s b) q Q:=λU U U U U U=>W5 h
theorem OO(h:Q (.b<|!rA b a) q):i9 w d .NotIn (.s a) (.s b) q Q:=λU U U U U U=>W6 h
theorem HT(h:Q (.b (match x with| .none=>true|_=>false)) q):i9 w d .Is (.d x) (.d .none) q Q:=λU U U U U U=>W7 h
theorem eqD(h:(j8 xs).layable0=true/\(j8 a).layable0=true/\Q (.b<|(j8 xs).eqv<|.list a) q):i9 w d .Eq (.l xs) (.l a) q Q:=λU U U U U e=>W8 e h.1 h.2.1 h.2.2
theorem OP(h:(j8 xs).layable0=true/\(j8 a).layable0=true/\Q (.b<|!(j8 xs).eqv (.list a)) q):i9 w d .NotEq (.l xs) (.l a) q Q:=λU U U U U e=>W9 e h.1 h.2.1 h.2.2
theorem HU(h:x.layable0=true/\(j8 a).layable0=true/\(∀y∈a,FA y x=true)/\Q (.b<|decide<|Lu x a≠0) q):i9 w d .In (.d x) (.l a) q Q:=λU U U U U e=>W_ e h.1 h.2.1 h.2.2.1 h.2.2.2
theorem tB(h:B b q):nC w d (.b b) q B:=λU U U U U U=>Xa h
theorem tI(h:B (a !=0) q):nC w d (.i a) q B:=λU U U U U U=>Xb h
theorem tS(c:x.length<=aL)(h:B ((x.length:Int) !=0) q):nC w d (.s x) q B:=λU U U U U U=>Xc c h
theorem tM(h:∃xs,fJ q (.m i)=Y xs/\xs.length<=aL/\B (!xs.isEmpty) q):nC w d (.m i) q B:=h.elim λU h U U U U U U=>Xg h.1 h.2.1 h.2.2
theorem fK(h:Q (.i<|a+b) q):lG w d .Add (.i a) (.i b) q Q:=λU U U U U U=>WG h
theorem iP(c:a.length+b.length<=aL)(h:Q (.s<|a++b) q):lG w d .Add (.s a) (.s b) q Q:=λU U U U U U=>WO c h
theorem OQ(c:a.length+b.length<=aL)(h:Q (.l<|a++b) q):lG w d .Add (.l a) (.l b) q Q:=λU U U U U U=>Xd rfl rfl c h
theorem pn(h:∃xs,fJ q (.m i)=Y xs/\xs.length+a.length<=aL/\Q (.m q.μ.length) (q.pn<|.ai<|xs++a)):lG w d .Add (.m i) (.l a) q Q:=h.elim λU h U U U U U U=>Xe h.1 rfl h.2.1 h.2.2
theorem pH(h:Q (.i<|a-b) q):lG w d .Sub (.i a) (.i b) q Q:=λU U U U U U=>WH h
theorem HV(c:IntMulOk a b)(h:Q (.i<|a*b) q):lG w d .Mult (.i a) (.i b) q Q:=λU U U U U U=>WJ c h
theorem mulL(h: -(2^63)<=n/\n<2^63/\xs.length*n.toNat<=2^24/\Q (.l (bV n.toNat xs).flatten) q):lG w d .Mult (.l xs) (.i n) q Q:=λU U U U U U=>Xf rfl h.1 h.2.1 h.2.2.1 h.2.2.2
theorem aan(c:Lq x n)(h:Q (.s<|Lr x n) q):lG w d .Mult (.s x) (.i n) q Q:=λU U U U U U=>WQ c h
theorem yw(f:b≠0)(c:Lp a b=false)(h:Q (.i<|a.fdiv b) q):lG w d .FloorDiv (.i a) (.i b) q Q:=λU U U U U U=>WK f c h
theorem ou(f:b≠0)(h:Q (.i<|a.fmod b) q):lG w d .Mod (.i a) (.i b) q Q:=λU U U U U U=>WM f h
theorem aao(h:0<=n/\n<=1000000/\a.natAbs<2^64/\Q (.i<|a^n.toNat) q):lG w d .Pow (.i a) (.i n) q Q:=λU U U U U U=>WN h.1 h.2.1 h.2.2.1 h.2.2.2
theorem aap(f:CX n)(h:Q (.s<|dh n) q):lG w d .Mod (.s "%d") (.i n) q Q:=λU U U U U U=>ZD f h
theorem aaq(c:G8 a)(f:CX n)(h:Q (.s<|Al a<|dh n) q):lG w d .Mod (.s G7) (.t [.str a,.int n]) q Q:=λU U U U U U=>ZE c f h
theorem ql(h:Q (.i<|a+b) q):wo w d (.i a) (.i b) q Q:=λU U U U U U=>WR h
theorem AJ(c:a.length+b.length<=aL)(h:Q (.s<|a++b) q):wo w d (.s a) (.s b) q Q:=λU U U U U U=>WU c h
theorem HW(h:∃xs,q.μ[i]?=Y (Y<|.ai xs)/\xs.length+a.length<=aL/\Q (.m i) (q.fR i<|.ai<|xs++a)):wo w d (.m i) (.l a) q Q:=h.elim λU h U U U U U U=>Xy h.1 rfl h.2.1 h.2.2
theorem u7(h:xs.length<=aL/\((0<=k/\∃x,xs[k.toNat]?=Y x/\Q (.d x) q)\/(k= -1/\∃x,xs[xs.length-1]?=Y x/\Q (.d x) q))):jB w d (.l xs) (.i k) q Q:=λU U U U U U=>(bJ (dU _ _ rfl) (λU a=>nomatch a) (by
 obtain⟨c,⟨f,x,b,h⟩|⟨rfl,x,b,h⟩⟩:=h
 ·exact Nz rfl c f b h
 ·exact Xj rfl c b h))
theorem Dw(h:∃xs,fJ q (.m i)=Y xs/\xs.length<=aL/\0<=k/\∃x,xs[k.toNat]?=Y x/\Q (.d x) q):jB w d (.m i) (.i k) q Q:=λU U U U U U=>by
 refine xH h λxs e c f g=>?_;clear h;refine aD g λx b h=>?_;clear g
 exact bJ (dU _ _ rfl) (λj a=>by cases a;exact⟨_,XQ e⟩)<|Nz e c f b h
theorem ow(h:xs.length<=aL/\0<=k/\∃x,xs[k.toNat]?=Y x/\Q (.d x) q):jB w d (.t xs) (.i k) q Q:=λU U U U U U=>⟨⟨_,_,rfl⟩,(λU a=>nomatch a),let ⟨c,f,x,b,h⟩:=h;Xk c f b h⟩
theorem OR(h:LA i=true/\(Cc x i).isSome=true/\Q (.s<|FD x i) q):jB w d (.s x) (.i i) q Q:=λU U U U U U=>(bJ (dU _ _ rfl) (λU a=>nomatch a)<|Xu h.1 h.2.1 h.2.2)
theorem lM{l:List Nat}{j:Nat}{k:Nat}(a:j<=1000000000)(h:l[j]?=Y k)(c:Q (.s<|sL [k]) q):jB w d (.s<|sL l) (.i (j:Int)) q Q:=by
 refine Ea (aaj l j h) λb f=>?_
 exact OR<|bJ (aak a) b<|by refine V f ?_;exact c
theorem wF(c:x.length<=aL)(h:Q (.i x.length) q):jC w d (.bi "len") [.s x] q Q:=λU U U U U U=>Xi c h
theorem rQ(b:fJ q u=Y xs)(c:xs.length<=aL)(h:Q (.i xs.length) q):jC w d (.bi "len") [u] q Q:=λU U U U U U=>Xh b c h
theorem aar(c:xs.length<=aL)(h:Q (.i xs.length) q):jC w d (.bi "len") [.t xs] q Q:=λU U U U U U=>Zu c h
theorem Dy(h:Q (.rg 0 n 1) q):jC w d (.ty "range") [.i n] q Q:=λU U U U U U=>XH h
theorem aas(h:Q (.rg a b 1) q):jC w d (.ty "range") [.i a,.i b] q Q:=λU U U U U U=>XI h
theorem aat(f:e≠0)(c:Lp (b-a) e=false)(h:Q (.rg a b e) q):jC w d (.ty "range") [.i a,.i b,.i e] q Q:=λU U U U U U=>XJ f c h
theorem OS(h:Q (.i (if b>a then b else a)) q):jC w d (.bi "max") [.i a,.i b] q Q:=λU U U U U e=>Yl e h
theorem OT(b:fJ q u=Y (o.map .int))(c:o≠[])(h:∀M,M∈o->(∀a∈o,a<=M)->Q (.i M) q):jC w d (.bi "max") [u] q Q:=λU U U U U e=>Yk e b c h
theorem chr(f:0<=i)(b:i<=1114111)(h:Q (.s ⟨#[i.toNat]⟩) q):jC w d (.bi "chr") [.i i] q Q:=λU U U U U U=>XK f b h
theorem ord{n:Nat}(h:Q (.i n) q):jC w d (.bi "ord") [.s ⟨#[n]⟩] q Q:=λU U U U U U=>XM h
theorem aaw(c:a∈om)(e:b∈om)(h:Q (.i ((mK a*16+mK b:Nat):Int)) q):jC w d (.ty "int") [.s ⟨#[a,b]⟩,.i 16] q Q:=λU U U U U U=>Y0 c e h
theorem tuple(b:fJ q u=Y xs)(c:xs.length<=aL)(h:Q (.t xs) q):jC w d (.ty "tuple") [u] q Q:=λU U U U U U=>XN b c h
theorem kW(i:k<=d)(j:iN w k (.ref a) us r)(b:us.all AV.aq=true)(f:r.aq=true)(h:Q r q):jC w d (.k a) us q Q:=λc U U g l e=>by
 subst g;subst l;exact XZ e i j b f h
theorem aax{k a:Nat}{us:List AV}{L:List (H×AV)}(i:k<=d)(j:yj w k a us L)(b:us.all AV.aq=true)(h:Q (.gA q.μ.length a) (q.pn<|.gJ a L)):jC w d (.k a) us q Q:=λc U U g l e=>by
 subst g;subst l;exact YG e i j b h
theorem aay(h:Q (.i k) q):rM w d (.bF s k) "_wrapcolumn" q Q:=λU U U U U U=>Yt h
theorem aaz(h:Q (.i s) q):rM w d (.bF s k) "_tabsize" q Q:=λU U U U U U=>Yu h
theorem pfx(h:Q (.l [.str "old_",.str "new_"]) q):rM w d (.bF s k) "_prefix" q Q:=λU U U U U U=>Yv h
theorem aaB{cnt:List Int}{b nt:Int}(h:Q (.t [.tuple (cnt.map .int),.int b]) q):rM w d (.ws cnt b nt) "norm" q Q:=λU U U U U U=>Yw h
theorem nt{cnt:List Int}{b nt:Int}(h:Q (.i nt) q):rM w d (.ws cnt b nt) "nt" q Q:=λU U U U U U=>Yx h
theorem raw{i:Nat}{L:List (H×AV)}{x:af}(b:q.μ[i]?=Y (Y<|.gJ 228 L))(f:L.lookup ("raw":H)=Y (.d x))(h:Q (.d x) q):rM w d (.gA i 228) "raw" q Q:=λU U U U U U=>Yy b f h
theorem aaC(h:Q (.s " ") q):rM w d (.k 228) "S" q Q:=λU U U U U U=>Zs h
theorem aaD(h:Q (.s "\t") q):rM w d (.k 228) "T" q Q:=λU U U U U U=>Zt h
theorem join(h:∃a,fJ q u=Y (a.map .str)/\(a.map (·.length)).sum+a.length*x.length<=16777216/\Q (.s<|Ci x a) q):mP w d .join [.s x,u] q Q:=h.elim λU h U U U U U U=>XO h.1 h.2.1 h.2.2
theorem cnt(h:Q (.i<|LJ x y) q):mP w d .count [.s x,.s y] q Q:=λU U U U U U=>XE h
theorem rstrip(h:x.length<=aL/\Q (.s<|zD x) q):mP w d .rstrip [.s x] q Q:=λU U U U U U=>XF h.1 h.2
theorem aaE(h:x.length<=aL/\Q (.s<|FI x y) q):mP w d .rstrip [.s x,.s y] q Q:=λU U U U U U=>XG h.1 h.2
theorem split(h:(y.length==0)=false/\x.length<=aL/\(uy x (nW x y 0 x.length<|x.length+1) y.length).length<=aL/\Q (.l<|(xr x y).map .str) q):mP w d .split [.s x,.s y] q Q:=λU U U U U U=>Yi h.1 h.2.1 h.2.2.1 h.2.2.2
theorem OU(h:x.length<=aL/\(Cr x).length<=aL/\Q (.l<|(F1 x).map .str) q):mP w d .uN [.s x] q Q:=λU U U U U U=>Yh h.1 h.2.1 h.2.2
theorem aaF(h:0<n/\n<=100/\x.length<=50000/\Q (.s ⟨(eT n.toNat 0 x.cps.toList).toArray⟩) q):mP w d .v_ [.s x,.i n] q Q:=λU U U U U U=>YM h.1 h.2.1 h.2.2.1 h.2.2.2
theorem aaG(h:∃a,fJ q u=Y (a.map .str)/\(∀k∈x.cps.toList,k<a.length)/\a.length<=1000/\(∀y∈a,y.length<=10)/\x.length<=50000/\Q (.s ⟨(i8 a x.cps.toList).toArray⟩) q):mP w d .wc [.s x,u] q Q:=h.elim λU h U U U U U U=>YU h.1 h.2.1 h.2.2.1 h.2.2.2.1 h.2.2.2.2.1 h.2.2.2.2.2
theorem append(h:∃xs,q.μ[i]?=Y (Y<|.ai xs)/\xs.length<=aL/\Q .n (q.fR i<|.ai<|xs++[x])):mP w d .append [.m i,.d x] q Q:=h.elim λU h U U U U U U=>Ak h.1 h.2.1 h.2.2
theorem nu(h:∃xs,q.μ[i]?=Y (Y<|.ai xs)/\xs.length+a.length<=aL/\Q .n (q.fR i<|.ai<|xs++a)):mP w d .nu [.m i,.l a] q Q:=h.elim λU h U U U U U U=>Xl h.1 rfl h.2.1 h.2.2
theorem get(h:Q (.d (match a.lookup x with|some z=> .str z|none=>y)) q):mP w d .get [.dt w a,.s x,.d y] q Q:=λU U U g U U=>by
 subst g;exact YI h
theorem pop(h:∃x xs,q.μ[i]?=Y (Y<|.ai (x::xs))/\xs.length<aL/\Q (.d x) (q.fR i<|.ai xs)):mP w d .pop [.m i,.i 0] q Q:=by
 refine o9 h λx xs b f a=>?_;clear h
 exact λU U U U U U=>Xm b f a
theorem cy{c:Prop}[Decidable c]{a b:Prop}(e:c)(h:a):if c then a else b:=by refine V (if_pos e) ?_;exact h
theorem bK{c:Prop}[Decidable c]{a b:Prop}(e:¬c)(h:b):if c then a else b:=by refine V (if_neg e) ?_;exact h
end WL
theorem rR:("\x00":H)=sL [0]:=by decide+kernel
theorem yx:("\x01":H)=sL [1]:=by decide+kernel
theorem qm:("":H)=sL []:=by decide+kernel
namespace IR
noncomputable def jE(N:List H)(a:Nat)(g c:List H)(o:List H:=[]):Sc:=⟨N,(".0",.local)::((N.take a).map (·,.local)++(g.map (·,.globalImplicit)++c.map (·,.cell))),o⟩
def HX:Sc:=⟨["s"],(aM 138).scope.names,[]⟩
def aaH:Ss:=(.k (.ret<|.call 2<|.k (.call 9<|.k (.jD (.v 0) (.x<|.c<|.int 1)<|.x<|.c<|.int 3)<|.k (.c<|.int 16) .z) .z) .z)
theorem aaI:gQ HX aaH (cF<|aM 138)=true:=by kernel_rfl
def HY:Sc:=⟨["c"],(aM 145).scope.names,[]⟩
def aaJ:Ss:=(.k (.ret<|.sub (.g 10)<|.call 3<|.k (.v 0) .z) .z)
theorem aaK:gQ HY aaJ (cF<|aM 145)=true:=by kernel_rfl
def HZ:Sc:=⟨["body","maxlinelen","eol","soft_break","maxlinelen1","encoded_body","append","line","start","laststart","stop","room","q"],(aM 158).scope.names,[]⟩
def aaL:Ss:=(.k (.ck (.bx .Lt (.v 1)<|.c<|.int 4) (.k .Ψ .z) .z)<|.k (.ck (.nt<|.val<|.v 0) (.k (.ret<|.v 0) .z) .z)<|.k (.aT (.k (.n 0) .z)<|.dg .wc (.v 0)<|.k (.g 11) .z)<|.k (.aT (.k (.n 3) .z)<|.aI .Add (.c<|.str "=")<|.v 2)<|.k (.aT (.k (.n 4) .z)<|.aI .Sub (.v 1)<|.c<|.int 1)<|.k (.aT (.k (.n 5) .z)<|.lF .z)<|.k (.aT (.k (.n 6) .z)<|.Ot<|.v 5)<|.k (.kR (.n 7) (.ai<|.dg .uN (.v 0) .z)<|.k (.aT (.k (.n 8) .z)<|.c<|.int 0)<|.k (.aT (.k (.n 9) .z)<|.aI .Sub (.aI .Sub (.call 0<|.k (.v 7) .z)<|.c<|.int 1)<|.v 1)<|.k (.rG (.bx .LtE (.v 8)<|.v 9)<|.k (.aT (.k (.n 10) .z)<|.aI .Add (.v 8)<|.v 4)<|.k (.ck (.bx .Eq (.sub (.v 7)<|.aI .Sub (.v 10)<|.c<|.int 2)<|.c<|.str "=") (.k (.ex<|.lJ 6<|.jD (.v 7) (.x<|.v 8)<|.x<|.aI .Sub (.v 10)<|.c<|.int 1)<|.k (.aT (.k (.n 8) .z)<|.aI .Sub (.v 10)<|.c<|.int 2) .z)<|.k (.ck (.bx .Eq (.sub (.v 7)<|.aI .Sub (.v 10)<|.c<|.int 1)<|.c<|.str "=") (.k (.ex<|.lJ 6<|.jD (.v 7) (.x<|.v 8)<|.x<|.v 10)<|.k (.aT (.k (.n 8) .z)<|.aI .Sub (.v 10)<|.c<|.int 1) .z)<|.k (.ex<|.lJ 6<|.aI .Add (.jD (.v 7) (.x<|.v 8)<|.x<|.v 10)<|.c<|.str "=")<|.k (.aT (.k (.n 8) .z)<|.v 10) .z) .z) .z)<|.k (.ck (.an<|.k (.val<|.v 7)<|.k (.bx .In (.sub (.v 7)<|.neg<|.c<|.int 1)<|.c<|.str " \t") .z) (.k (.aT (.k (.n 11) .z)<|.aI .Sub (.v 8)<|.v 9)<|.k (.ck (.bx .GtE (.v 11)<|.c<|.int 3) (.k (.aT (.k (.n 12) .z)<|.call 14<|.k (.sub (.v 7)<|.neg<|.c<|.int 1) .z) .z)<|.k (.ck (.bx .Eq (.v 11)<|.c<|.int 2) (.k (.aT (.k (.n 12) .z)<|.aI .Add (.sub (.v 7)<|.neg<|.c<|.int 1)<|.v 3) .z)<|.k (.aT (.k (.n 12) .z)<|.aI .Add (.v 3)<|.call 14<|.k (.sub (.v 7)<|.neg<|.c<|.int 1) .z) .z) .z)<|.k (.ex<|.lJ 6<|.aI .Add (.jD (.v 7) (.x<|.v 8)<|.x<|.neg<|.c<|.int 1)<|.v 12) .z)<|.k (.ex<|.lJ 6<|.jD (.v 7) (.x<|.v 8) .kU) .z) .z)<|.k (.ck (.bx .In (.sub (.v 0)<|.neg<|.c<|.int 1)<|.g 12) (.k (.ex<|.lJ 6<|.c<|.str "") .z) .z)<|.k (.ret<|.dg .join (.v 2)<|.k (.v 5) .z) .z)
theorem aaM:gQ HZ aaL (cF<|aM 158)=true:=by kernel_rfl
def Dz:Sc:=⟨["encoded","eol","decoded","line","i","n","c"],(aM 166).scope.names,[]⟩
def aaN:Ss:=(.k (.ck (.nt<|.val<|.v 0) (.k (.ret<|.v 0) .z) .z)<|.k (.aT (.k (.n 2) .z)<|.c<|.str "")<|.k (.kR (.n 3) (.ai<|.dg .uN (.v 0) .z)<|.k (.aT (.k (.n 3) .z)<|.dg .rstrip (.v 3) .z)<|.k (.ck (.nt<|.val<|.v 3) (.k (.eF 2<|.v 1)<|.k .cnt .z) .z)<|.k (.aT (.k (.n 4) .z)<|.c<|.int 0)<|.k (.aT (.k (.n 5) .z)<|.call 0<|.k (.v 3) .z)<|.k (.rG (.bx .Lt (.v 4)<|.v 5)<|.k (.aT (.k (.n 6) .z)<|.sub (.v 3)<|.v 4)<|.k (.ck (.bx .NotEq (.v 6)<|.c<|.str "=") (.k (.eF 2<|.v 6)<|.k (.eF 4<|.c<|.int 1) .z)<|.k (.ck (.bx .Eq (.aI .Add (.v 4)<|.c<|.int 1)<|.v 5) (.k (.eF 4<|.c<|.int 1)<|.k .cnt .z)<|.k (.ck (.an<|.k (.bx .Lt (.aI .Add (.v 4)<|.c<|.int 2)<|.v 5)<|.k (.bx .In (.sub (.v 3)<|.aI .Add (.v 4)<|.c<|.int 1)<|.g 13)<|.k (.bx .In (.sub (.v 3)<|.aI .Add (.v 4)<|.c<|.int 2)<|.g 13) .z) (.k (.eF 2<|.call 15<|.k (.jD (.v 3) (.x<|.v 4)<|.x<|.aI .Add (.v 4)<|.c<|.int 3) .z)<|.k (.eF 4<|.c<|.int 3) .z)<|.k (.eF 2<|.v 6)<|.k (.eF 4<|.c<|.int 1) .z) .z) .z)<|.k (.ck (.bx .Eq (.v 4)<|.v 5) (.k (.eF 2<|.v 1) .z) .z) .z) .z)<|.k (.ck (.an<|.k (.bx .NotIn (.sub (.v 0)<|.neg<|.c<|.int 1)<|.c<|.str "\r\n")<|.k (.val<|.dg .xY (.v 2)<|.k (.v 1) .z) .z) (.k (.aT (.k (.n 2) .z)<|.jD (.v 2) .kU<|.x<|.neg<|.call 0<|.k (.v 1) .z) .z) .z)<|.k (.ret<|.v 2) .z)
theorem aaO:gQ Dz aaN (cF<|aM 166)=true:=by kernel_rfl
def H6:Sc:=⟨["self","ws","S","T","count","b","n","nt","ch"],(aM 183).scope.names,[]⟩
def aaP:Ss:=(.k (.oj (.v 0) "raw"<|.v 1)<|.k (.lK true [3,2]<|.k (.oi (.g 18) "S")<|.k (.oi (.g 18) "T") .z)<|.k (.aT (.k (.n 4) .z)<|.lF .z)<|.k (.aT (.k (.n 5)<|.k (.n 6)<|.k (.n 7) .z)<|.c<|.int 0)<|.k (.kR (.n 8) (.bO<|.oi (.v 0) "raw")<|.k (.ck (.bx .Eq (.v 8)<|.v 2) (.k (.aT (.k (.n 6) .z)<|.aI .Add (.v 6)<|.c<|.int 1)<|.k (.aT (.k (.n 5) .z)<|.aI .Add (.v 5)<|.c<|.int 1) .z)<|.k (.ck (.bx .Eq (.v 8)<|.v 3) (.k (.aT (.k (.n 6) .z)<|.aI .Add (.v 6)<|.c<|.int 1)<|.k (.aT (.k (.n 7) .z)<|.aI .Add (.v 7)<|.c<|.int 1)<|.k (.ck (.bx .GtE (.v 5)<|.call 0<|.k (.v 4) .z) (.k (.aT (.k (.n 4) .z)<|.aI .Add (.v 4)<|.aI .Mult (.ai<|.k (.c<|.int 0) .z)<|.aI .Add (.aI .Sub (.v 5)<|.call 0<|.k (.v 4) .z)<|.c<|.int 1) .z) .z)<|.k (.x_ (.v 4) (.v 5)<|.aI .Add (.sub (.v 4)<|.v 5)<|.c<|.int 1)<|.k (.aT (.k (.n 5) .z)<|.c<|.int 0) .z)<|.k .brk .z) .z) .z)<|.k (.oj (.v 0) "n"<|.v 6)<|.k (.oj (.v 0) "nt"<|.v 7)<|.k (.oj (.v 0) "norm"<|.bZ<|.k (.call 8<|.k (.v 4) .z)<|.k (.v 5) .z)<|.k (.oj (.v 0) "is_simple"<|.bx .LtE (.call 0<|.k (.v 4) .z)<|.c<|.int 1) .z)
theorem aaQ:gQ H6 aaP (cF<|aM 183)=true:=by kernel_rfl
def H7:Sc:=⟨["self","tabsize","count","trailing","il","i"],(aM 197).scope.names,[]⟩
def aaR:Ss:=(.k (.aT (.k (.t<|.k (.n 2)<|.k (.n 3) .z) .z)<|.oi (.v 0) "norm")<|.k (.aT (.k (.n 4) .z)<|.c<|.int 0)<|.k (.kR (.n 5) (.uY<|.call 4<|.k (.v 1)<|.k (.call 0<|.k (.v 2) .z) .z)<|.k (.aT (.k (.n 4) .z)<|.aI .Add (.v 4)<|.aI .Mult (.aI .FloorDiv (.v 5)<|.v 1)<|.sub (.v 2)<|.v 5) .z)<|.k (.ret<|.aI .Add (.v 3)<|.aI .Mult (.v 1)<|.aI .Add (.v 4)<|.oi (.v 0) "nt") .z)
theorem aaS:gQ H7 aaR (cF<|aM 197)=true:=by kernel_rfl
def H8:Sc:=⟨["text"],(aM 246).scope.names,[]⟩
def aaT:Ss:=(.k (.OG<|.k (.ck (.bx .In (.c<|.str "&")<|.v 0) (.k (.aT (.k (.n 0) .z)<|.nA (.v 0) "&" "&amp;") .z) .z)<|.k (.ck (.bx .In (.c<|.str "<")<|.v 0) (.k (.aT (.k (.n 0) .z)<|.nA (.v 0) "<" "&lt;") .z) .z)<|.k (.ck (.bx .In (.c<|.str ">")<|.v 0) (.k (.aT (.k (.n 0) .z)<|.nA (.v 0) ">" "&gt;") .z) .z)<|.k (.ret<|.v 0) .z) .z)
theorem aaU:gQ H8 aaT (cF<|aM 246)=true:=by kernel_rfl
def DA:Sc:=⟨["script","cells","signs","old","new","place","number","cell","one","two"],(aM 253).scope.names,[]⟩
def H9:Ss:=(.k (.lK false [1,2,3,4]<|.k (.lF<|.k (.c<|.int 0)<|.k (.c<|.int 15)<|.k (.c<|.int 301)<|.k (.c<|.int 9)<|.k (.c<|.int 26)<|.k (.c<|.int 111)<|.k (.c<|.int 41)<|.k (.c<|.int 13) .z)<|.k (.c<|.str "\t -&^\t<\xe9>+\"\xa0")<|.k (.lF .z)<|.k (.lF .z) .z)<|.k (.kR (.t<|.k (.n 5)<|.k (.n 6) .z) (.en (.g 5)<|.nD (.v 0) .kU<|.x<|.c<|.int 60)<|.k (.An (.v 1) (.aI .Mod (.v 5)<|.c<|.int 8)<|.aI .Mod (.v 6)<|.aI .Pow (.c<|.int 10)<|.c<|.int 6) .z)<|.k (.kR (.n 7) (.ai<|.nD (.v 1) .kU<|.x<|.c<|.int 6)<|.k (.lK true [9,8]<|.k (.sub (.v 2)<|.aI .Mod (.aI .FloorDiv (.v 7)<|.c<|.int 4)<|.c<|.int 12)<|.k (.sub (.v 2)<|.aI .Mod (.aI .FloorDiv (.v 7)<|.c<|.int 48)<|.c<|.int 12) .z)<|.k (.ex<|.dg .nu (.v 3)<|.k (.sub (.ai<|.k (.ai<|.k (.bZ<|.k (.v 8)<|.k (.c<|.str "") .z) .z)<|.k (.ai<|.k (.bZ<|.k (.v 8)<|.k (.c<|.str "-") .z) .z)<|.k (.ai .z)<|.k (.ai<|.k (.bZ<|.k (.v 8)<|.k (.c<|.str "^") .z) .z) .z)<|.aI .Mod (.v 7)<|.c<|.int 4) .z)<|.k (.ex<|.dg .nu (.v 4)<|.k (.sub (.ai<|.k (.ai<|.k (.bZ<|.k (.v 8)<|.k (.c<|.str "") .z) .z)<|.k (.ai .z)<|.k (.ai<|.k (.bZ<|.k (.v 8)<|.k (.c<|.str "+") .z) .z)<|.k (.ai<|.k (.bZ<|.k (.v 9)<|.k (.c<|.str "^") .z) .z) .z)<|.aI .Mod (.v 7)<|.c<|.int 4) .z) .z)<|.gk 3<|.gk 4<|.k (.ret<|.bZ<|.k (.v 3)<|.k (.v 4)<|.k (.sub (.v 1)<|.c<|.int 6)<|.k (.sub (.v 1)<|.c<|.int 7) .z) .z)
theorem aaV:gQ DA H9 (cF<|aM 253)=true:=by kernel_rfl
def H_:Sc:=⟨["size","columns","page"],(aM 260).scope.names,[]⟩
def aaW:Ss:=(.k (.aT (.k (.n 2) .z)<|.call 19<|.k (.v 0)<|.k (.v 1) .z)<|.k (.oj (.v 2) "_prefix"<|.ai<|.k (.c<|.str "old_")<|.k (.c<|.str "new_") .z)<|.uV 2<|.k (.ret<|.v 2) .z)
theorem aaX:gQ H_ aaW (cF<|aM 260)=true:=by kernel_rfl
def Ia:Sc:=⟨["line","size","fronts"],(aM 265).scope.names,["line","size"]⟩
def aaY:Sc:=jE ["sign","mark"] 2 [] []
def aaZ:Sc:=jE ["k","line"] 1 [] ["line"]
def aa0:Sc:=jE ["front","size"] 1 ["Whitespace"] ["size"]
def aa1:Ss:=(.k (.pA 2 (.dg .join (.c<|.str "")<|.k (.comp (.ite (.bx .Eq (.v 0)<|.c<|.str "\t") (.c<|.str "\t")<|.c<|.str " ") (.t<|.k (.n 0)<|.k (.n 1) .z) (.ai<|.nD (.v 1) .kU<|.x<|.v 0) .gP aaY [Z,Z]) .z) (.n 0) (.uY<|.call 4<|.k (.aI .Add (.call 0<|.k (.v 0) .z)<|.c<|.int 1) .z) .gP aaZ [Z,Y 0])<|.k (.ret<|.comp (.own 228 197 (.call 18<|.k (.aI .Add (.v 0)<|.c<|.str "x\t") .z) "indent_level"<|.k (.v 1) .z) (.n 0) (.ai<|.v 2) .gP aa0 [Z,Y 1]) .z)
theorem aa2:gQ Ia aa1 (cF<|aM 265)=true:=by kernel_rfl
def Ib:Sc:=⟨["line","size","column","sign","mark"],(aM 272).scope.names,[]⟩
def aa3:Ss:=(.k (.aT (.k (.n 2) .z)<|.c<|.int 0)<|.k (.kR (.t<|.k (.n 3)<|.k (.n 4) .z) (.ai<|.v 0)<|.k (.eF 2<|.ite (.bx .Eq (.v 3)<|.c<|.str "\t") (.aI .Sub (.v 1)<|.aI .Mod (.v 2)<|.v 1)<|.c<|.int 1) .z)<|.k (.ret<|.v 2) .z)
theorem aa4:gQ Ib aa3 (cF<|aM 272)=true:=by kernel_rfl
def Ic:Sc:=⟨["signs","columns","number","pieces","last","begin","text","key","sign","mark"],(aM 279).scope.names,[]⟩
def aa5:Ss:=(.k (.lK true [4,3]<|.k (.lF .z)<|.k (.c<|.str "") .z)<|.k (.kR (.n 5) (.uY<|.call 4<|.k (.c<|.int 0)<|.k (.call 1<|.k (.call 0<|.k (.v 0) .z)<|.k (.c<|.int 1) .z)<|.k (.v 1) .z)<|.k (.lK false [6,7]<|.k (.c<|.str "")<|.k (.c<|.str "") .z)<|.k (.ck (.an<|.k (.bx .NotEq (.v 4)<|.c<|.str "")<|.k (.bx .NotEq (.sub (.sub (.v 0)<|.v 5)<|.c<|.int 1)<|.v 4) .z) (.k (.aT (.k (.n 6) .z)<|.aI .Add (.aI .Add (.c<|.str "\x00")<|.v 4)<|.c<|.str "\x01") .z) .z)<|.k (.kR (.t<|.k (.n 8)<|.k (.n 9) .z) (.ai<|.nD (.v 0) (.x<|.v 5)<|.x<|.aI .Add (.v 5)<|.v 1)<|.k (.ck (.bx .NotEq (.v 9)<|.v 7) (.k (.eF 6<|.aI .Add (.ite (.val<|.v 7) (.c<|.str "\x01")<|.c<|.str "")<|.ite (.val<|.v 9) (.aI .Add (.c<|.str "\x00")<|.v 9)<|.c<|.str "") .z) .z)<|.k (.lK true [7,6]<|.k (.aI .Add (.v 6)<|.v 8)<|.k (.v 9) .z) .z)<|.k (.ex<|.dg .append (.v 3)<|.k (.bZ<|.k (.ite (.val<|.v 5) (.c<|.str ">")<|.v 2)<|.k (.aI .Add (.v 6)<|.ite (.val<|.v 7) (.c<|.str "\x01")<|.c<|.str "") .z) .z)<|.k (.aT (.k (.n 4) .z)<|.v 7) .z)<|.gk 3<|.k (.ret<|.v 3) .z)
theorem aa6:gQ Ic aa5 (cF<|aM 279)=true:=by kernel_rfl
def Ie:Sc:=⟨["prefix","number","text","names","signs","anchor","stay","cell"],(aM 284).scope.names,["text","names"]⟩
def aa7:Sc:=jE ["sign","names"] 1 [] ["names"]
def OV:Sc:=jE ["k","text"] 1 [] ["text"]
def OW:Sc:=jE ["sign"] 1 [] []
def aa8:Ss:=(.k (.aT (.k (.n 3) .z)<|.Dm [("&","&amp;"),("<","&lt;"),(">","&gt;")])<|.k (.pA 4 (.dg .get (.v 1)<|.k (.v 0)<|.k (.v 0) .z) (.n 0) (.bO<|.v 2) .gP aa7 [Z,Y 3])<|.k (.ck (.bx .NotEq (.call 20<|.k (.v 2) .z)<|.dg .join (.c<|.str "")<|.k (.v 4) .z) (.k (.ret<|.c<|.str "") .z) .z)<|.k (.aT (.k (.n 5) .z)<|.ite (.bx .In (.v 1)<|.ai<|.k (.c<|.str "")<|.k (.c<|.str ">") .z) (.c<|.str "")<|.aI .Mod (.c<|.str " id=\"%s%d\"")<|.bZ<|.k (.v 0)<|.k (.v 1) .z)<|.k (.aT (.k (.n 6) .z)<|.call 1<|.k (.aI .Add (.comp (.aI .Add (.v 0)<|.c<|.int 1) (.n 0) (.uY<|.call 4<|.k (.call 0<|.k (.v 2) .z) .z) (.t<|.bx .NotIn (.sub (.v 1)<|.v 0)<|.c<|.str "\t\n\xa0") OV [Z,Y 2])<|.ai<|.k (.c<|.int 0) .z) .z)<|.k (.aT (.k (.n 7) .z)<|.dg .join (.c<|.str "")<|.k (.comp (.ite (.bx .Eq (.v 0)<|.c<|.str " ") (.c<|.str "&nbsp;")<|.v 0) (.n 0) (.ai<|.nD (.v 4) .kU<|.x<|.v 6) .gP OW [Z]) .z)<|.k (.ret<|.fst<|.lit "<td class=\"diff_header\""<|.val (.v 5)<|.lit ">"<|.val (.v 1)<|.lit "</td><td nowrap=\"nowrap\">"<|.val (.v 7)<|.lit "</td>" .z) .z)
theorem aa9:gQ Ie aa8 (cF<|aM 284)=true:=by kernel_rfl
def DB:Sc:=⟨["self","data_list","line_num","text","size","max","i","n","mark","line1","line2"],(aM 65).scope.names,[]⟩
def Ig:Ss:=(.k (.ck (.nt<|.val<|.v 2) (.k (.ex<|.dg .append (.v 1)<|.k (.bZ<|.k (.v 2)<|.k (.v 3) .z) .z)<|.k .x9 .z) .z)<|.k (.aT (.k (.n 4) .z)<|.call 0<|.k (.v 3) .z)<|.k (.aT (.k (.n 5) .z)<|.oi (.v 0) "_wrapcolumn")<|.k (.ck (.yr<|.k (.bx .LtE (.v 4)<|.v 5)<|.k (.bx .LtE (.aI .Sub (.v 4)<|.aI .Mult (.dg .count (.v 3)<|.k (.c<|.str "\x00") .z)<|.c<|.int 3)<|.v 5) .z) (.k (.ex<|.dg .append (.v 1)<|.k (.bZ<|.k (.v 2)<|.k (.v 3) .z) .z)<|.k .x9 .z) .z)<|.k (.aT (.k (.n 6) .z)<|.c<|.int 0)<|.k (.aT (.k (.n 7) .z)<|.c<|.int 0)<|.k (.aT (.k (.n 8) .z)<|.c<|.str "")<|.k (.rG (.an<|.k (.bx .Lt (.v 7)<|.v 5)<|.k (.bx .Lt (.v 6)<|.v 4) .z)<|.k (.ck (.bx .Eq (.sub (.v 3)<|.v 6)<|.c<|.str "\x00") (.k (.eF 6<|.c<|.int 1)<|.k (.aT (.k (.n 8) .z)<|.sub (.v 3)<|.v 6)<|.k (.eF 6<|.c<|.int 1) .z)<|.k (.ck (.bx .Eq (.sub (.v 3)<|.v 6)<|.c<|.str "\x01") (.k (.eF 6<|.c<|.int 1)<|.k (.aT (.k (.n 8) .z)<|.c<|.str "") .z)<|.k (.eF 6<|.c<|.int 1)<|.k (.eF 7<|.c<|.int 1) .z) .z) .z)<|.k (.aT (.k (.n 9) .z)<|.jD (.v 3) .kU<|.x<|.v 6)<|.k (.aT (.k (.n 10) .z)<|.jD (.v 3) (.x<|.v 6) .kU)<|.k (.ck (.val<|.v 8) (.k (.aT (.k (.n 9) .z)<|.aI .Add (.v 9)<|.c<|.str "\x01")<|.k (.aT (.k (.n 10) .z)<|.aI .Add (.aI .Add (.c<|.str "\x00")<|.v 8)<|.v 10) .z) .z)<|.k (.ex<|.dg .append (.v 1)<|.k (.bZ<|.k (.v 2)<|.k (.v 9) .z) .z)<|.k (.ex<|.own 111 65 (.v 0) "_split_line"<|.k (.v 1)<|.k (.c<|.str ">")<|.k (.v 10) .z) .z)
theorem OX:gQ DB Ig (cF<|aM 65)=true:=by kernel_rfl
def kX:Sc:=⟨p_ sF ["script","old","new","first","second","size","columns","gap","end","page","number","lines","filled","shown","line","fill","edges","wide","marked","letter","left","right","beside","rows","sides","bare","told","one","two","flag","longest","froms","tos","flags","cells"],(aM 289).scope.names,["size","number","line","fill","edges","told","flag"]⟩
def aba:Sc:=jE ["sign","mark"] 2 [] []
def abb:Sc:=jE ["line"] 1 [] []
def abc:Sc:=jE ["k","line","size"] 1 ["_law_column"] ["line","size"]
def abd:Sc:=jE ["k","fill","edges","line"] 1 [] ["edges","fill","line"]
def abe:Sc:=jE ["cut","sign","mark"] 3 ["len"] []
def abf:Sc:=jE ["cut","first_sign","mark","sign"] 4 [] []
def abg:Sc:=jE ["signs","number"] 1 ["_law_pieces","len"] ["number"]
def abh:Sc:=jE ["row"] 1 ["len"] []
def abi:Sc:=jE ["pair","flag"] 1 [] ["flag"]
def abj:Sc:=jE ["pair","flag"] 2 [] []
def Ih:Sc:=jE ["pair","flag","prefix","side"] 2 ["_law_cell"] ["prefix","side"]
def OY:Sc:=jE ["side","prefix","told"] 0 [] ["side","prefix","told"] ["side","prefix"]
def abk:Sc:=jE ["pair","flag"] 2 [] []
end IR
section
variable {c:Cx} {U:Sc} {N:List H} {h:ao} {q:St}
theorem aG.abl{d:aV}{i:Nat}{x:H}{u:AV}{Q:AV->St->Prop}(f:n9 c)(j:N[i]?=Y x)(A:mC x=true)(a:q.v[i]?=Y (Y u))(g:Q u q):aG c N h (.Name x d) q Q:=
 λJ as s R E I tk K=>by
  simp only[mC,jQ,Fz] at A
  exact Ln (I.Nk f j a A.2 λb r=>K.now I r g) A.1
theorem iM.abm(f:n9 c)(e:bA U c){x:H}{d:aV}{i:Nat}{u:AV}{K:St->Prop}(j:U.N[i]?=Y x)(hs:U.mF x=true)(g:K (q.jz i u)):iM c U.N h (.Name x d) u q K:=
 λJ as s R E l I r C=>Uz (I.Nm f e.nd j (by
  simp only[Sc.mF,FJ,jQ,beq_iff_eq] at hs
  rcases hs with g|⟨g,B⟩
  ·exact .inl<|by refine(?_:c.aj.scope.names.lookup x=_);refine V e.names ?_;exact g
  ·exact .inr ⟨by refine(?_:c.aj.scope.names.lookup x=_);refine V e.names ?_;exact g,e.own x<|by simpa using B⟩) r λs' k=>C.now (a:=()) (b:=()) k trivial g)
theorem bq.exK(f:n9 c)(t:q_ e=true)(g:aG c N h e q λC a=>Q .nx a):bq c N h (.Expr e d) q Q:=λJ as s R E I tk K=>
 UC (aN.bw g I tk λm n p v u a i j k o r l=>(K.trans i j).now (b:=Fw.nx) k rfl l) (by unfold LM;refine V f.kind ?_;rfl) (uO t)
noncomputable def Cx.on(c:Cx)(A:cR):Cx:={c with A:=A}
theorem aH.on(I:aH c N h q J as s):aH (c.on A) N h q J as s:=by
 exact cC I λl m I=>
  ⟨l,m,I.base,I.sub,I.apart,I.nd,I.ns,I.lo,I.e_,I.nv,I.vars,I.gj,I.ff,I.gens,I.os,I.al⟩
theorem aH.cU(I:aH (c.on A) N h q J as s):aH c N h q J as s:=by
 exact cC I λl m I=>
  ⟨l,m,I.base,I.sub,I.apart,I.nd,I.ns,I.lo,I.e_,I.nv,I.vars,I.gj,I.ff,I.gens,I.os,I.al⟩
theorem n9.on(f:n9 c):n9 (c.on A):=⟨f.kind,f.kg,f.blt⟩
theorem bA.on(e:bA U c):bA U (c.on A):=⟨e.names,e.nd,e.own⟩
theorem abo{g B:fk}{a:ak}{m:H->Option aa}(n:g.Ns a m){o f:bh}(e:g.get? a=Y o)(u:B.get? a=Y f)(d:f.data=o.data):B.Ns a m:=by
 refine vQ n λb j k a1 a2 r=>?_;clear n
 rw[e] at a1;cases a1
 exact z3 f j k u (d.trans a2) r
theorem dZ.slots{J R:FM}{as:List ak}{l D:ao}{m:H->Option aa}{s s':au}(I:dZ c N h q J as l m s){F:List ak}(k:FM.le J R)(B:bz c.w R D s'.heap)
  (b:∀p∈l,p.1∉F->p∈D)(L:∀p∈l,p.1∈F->∃f,(p.1,f)∈D/\f.data=p.2.data)
  (z:∀a∈F,a=c.L\/∃(i:Nat) (d:Data),as[i]?=Y a/\q.μ[i]?=Y (Y<|.nq d))(M:s'.gens=s.gens)(ho:s'.os=s.os):dZ c N h q R as D m s':=by
 have K:∀a∈F,a∈own c as:=λa E=>by
  rcases z a E with rfl|⟨i,d,g,_⟩
  ·exact CR c as
  ·exact CS g
 have Q:∀{x a},(x,a)∈c.cl->a∉F:=λ{x a} A E=>by
  rcases z a E with rfl|⟨i,d,g,_⟩
  ·exact GW I.nd A rfl
  ·exact absurd rfl<|GZ I.nd A g
 have G:∀{a o},(a,o)∈l->∃f,(a,f)∈D/\f.data=o.data:=λ{a o} g=>by
  by_cases v:a∈F
  ·exact L _ g v
  ·exact ah o (b _ g v) rfl
 refine⟨B,λp n=>b p (I.sub p n) λv=>I.apart _ (K _ v) p n rfl,I.apart,I.nd,?_,?_,λx a A=>?_,I.nv,λi x e=>?_,I.gj,λi x e=>?_,M.trans I.gens,ho.trans I.os,λa E=>?_⟩
 ·exact Ex I.lo λlo t=>
   aD (G t) λf w y=>
   abo I.ns (I.base.get t) (B.get w) y
 ·exact Ex I.lo λlo t=>
   aD (G t) λf w y=>
   ⟨f,w⟩
 ·obtain⟨o,cv,w,y⟩:=I.e_ x a A
  exact⟨o,cv,b _ w<|Q A,y⟩
 ·exact(I.vars i x e).map k (λa o g p=>b _ p<|Q g) rfl λu e=>(ah u e λC r=>r.aO k)
 ·obtain⟨a,o,w,y,h3⟩:=I.ff i x e
  by_cases v:a∈F
  ·refine aD (L _ y v) λf h4 h5=>?_
   clear y;rcases z a v with rfl|⟨j,d,hj,hm⟩
   ·exact absurd rfl<|GX I.nd w
   ·have:i=j:=Nf I.nd w hj
    clear hj;subst this
    rw[hm] at e;cases e
    exact⟨a,f,w,h4,by refine(?_:f.data=_);refine V h5 ?_;exact h3⟩
  ·exact⟨a,o,w,b _ y v,h3.le k⟩
 ·rcases I.al a E with⟨o,g⟩|⟨o,g⟩
  ·refine aD (G g) λf w C=>?_;exact .inl ⟨f,w⟩
  ·exact .inr ⟨o,k _ _ g⟩
def DC(c:Cx)(q:St)(as:List ak)(F:List ak):Prop:=∀a∈F,a=c.L\/∃(i:Nat) (j:Array eY) (k:Nat),as[i]?=Y a/\q.μ[i]?=Y (Y<|.nq<|.dict j k)
theorem aH.slots(I:aH c N h q J as s)(L:DC c q as F)(k1:∀b o,b∉F->s.heap.get? b=Y o->B.get? b=Y o)
  (k2:∀b o,s.heap.get? b=Y o->(∀vs,o.data≠ .fields vs)->∃f,B.get? b=Y f/\f.data=o.data)(t:Nat):aH c N h q J as {s with heap:=B,toks:=t}:=by
 refine cC I λl m I=>?_
 have R:∀p∈l,p.1∈F->∃j k,p.2.data= .dict j k:=λp n v=>by
  have g:=I.base.led p n
  rcases L _ v with e|⟨i,j,k,w,y⟩
  ·refine vQ I.ns λo j k a1 a2 C=>?_
   rw[<-e,g] at a1;cases a1
   exact dU j k a2
  ·obtain⟨a,o,d,D,e3⟩:=I.ff i _ y
   rw[w] at d;cases d
   have:=I.base.get D
   rw[g] at this;cases this
   exact dU j k e3
 have upd:∀p∈l,∃f,B.get? p.1=Y f/\(p.1∉F->f=p.2)/\f.data=p.2.data:=λp n=>by
  by_cases v:p.1∈F
  ·refine cC (R p n v) λj k e=>?_
   refine aD (k2 p.1 p.2 (I.base.led p n) λvs z=>by rw[e] at z;cases z) λf w y=>?_
   exact bk f w (λz=>absurd v z) y
  ·exact bk p.2 (k1 _ _ v<|I.base.led p n) (λC=>rfl) rfl
 have G:∀a∈F,∃o,(a,o)∈l:=λa E=>by
  rcases L a E with rfl|⟨i,j,k,w,y⟩
  ·exact I.lo
  ·obtain⟨a',o,d,D,_⟩:=I.ff i _ y
   rw[w] at d;cases d
   exact⟨o,D⟩
 let g:ak×bh->ak×bh:=λp=>(p.1,(B.get? p.1).getD p.2)
 have M:∀p∈l,∃f,g p=(p.1,f)/\B.get? p.1=Y f/\(p.1∉F->f=p.2)/\f.data=p.2.data:=λp n=>by
  refine aD (upd p n) λf e r=>?_
  exact bk f (by refine(?_:(p.1,(B.get? p.1).getD p.2)=_);refine V e ?_;rfl) e r
 have Q:∀p∈l,g p∈l.map g:=λp n=>bg.mpr<|ah p n rfl
 refine dU (l.map g) m<|I.slots (F:=F) (FM.le.refl J) ⟨λa o e=>k1 _ _ (λv=>?_)<|I.base.keep a o e,λp n=>?_,λp n=>?_,I.base.K⟩ (λp n v=>?_) (λp n v=>?_) (λa E=>?_) rfl rfl
 ·refine Ex (G a v) λx A=>?_
  have:=I.base.cU _ A
  rw[e] at this;cases this
 ·refine aD (bg.mp n) λv hq u=>?_;clear n;subst u
  refine jU (M v hq) λf d D C=>?_
  refine V d ?_;exact D
 ·refine aD (bg.mp n) λv hq u=>?_;clear n;subst u
  exact I.base.cU v hq
 ·refine xH (M p n) λf d C e3 C=>?_
  have:=Q p n
  rw[d,e3 v] at this;exact this
 ·refine xH (M p n) λf d C C e4=>?_
  have:=Q p n
  rw[d] at this
  exact ah f this e4
 ·rcases L a E with e|⟨i,j,k,w,y⟩
  ·exact .inl e
  ·exact .inr<|iI i _ w y
end
noncomputable def dN(l:List dw):List ak:=l.filterMap (·.frame)
def wG(l:List dw):Prop:=∀m∈l,m.scope.kind≠ .module/\∃a,m.frame=Y a
theorem abp{aU f:fk}{d:List dw}(hk:wG d)(C:(∀a∈dN d,f.get? a=Z/\∃o,aU.get? a=Y o/\∀vs,o.data≠ .fields vs)):aU.FunFrames f d:=by
 induction d with
 |nil=>
  exact trivial
 |cons m l g=>
  refine Ea (hk m aZ) λk1 J=>?_;refine Ex J λa k2=>?_;clear J
  have e:dN (m::l)=a::dN l:=by unfold dN;exact V Gf<|V k2 rfl
  rw[e] at C
  exact Vx (C a aZ) λi o j k=>
   bJ k1 (oZ a o k2 i j k) (g (λx hx=>hk x<|a_ _ hx) λb K=>C b<|a_ _ K)
theorem abq(P:cH):ig (K0 P) gW "TypeError"=Y Z/\ig (K0 P) nV "TypeError"=Y (Y<|.type "TypeError"):=⟨by kernel_rfl,by kernel_rfl⟩
section
variable {c:Cx} {U:Sc} {N:List H} {h:ao} {q:St}
theorem aH.OZ(I:aH c N h q J as s)(hF:DC c q as F)(ha:a∈F):∃o G L,s.heap.get? a=Y o/\o.data= .dict G L:=by
 refine cC I λe m I=>?_
 rcases hF a ha with rfl|⟨i,G,L,Q,h2⟩
 ·exact vQ I.ns λo G L a1 a2 _=>
   xF o G L a1 a2
 ·obtain⟨b,o,d,f,g⟩:=I.ff i _ h2
  rw[Q] at d;cases d
  exact xF o G L (I.base.get f) g
theorem abr(ok:aW c)(t8:c.A.frames=Y (c.aj::d))(hf:c.aj.frame=Y c.L)(EX:wG d)(hx:c.aj.kindOf "TypeError"=Y .globalImplicit)
  {D n:List bu}{y:bu}{np zk cK:aV}{s:au}{R:pW->au->Prop}{E:aa->au->Prop}
  (aU:aF c.M c.A (kc D c.aj) R (λe p=>∃ea i k j g l tk,e= .ref ea/\p={g with heap:=l,toks:=tk}/\aH c N h i k j g/\DC c i j (dN (c.aj::d))/\Cv g.heap l ea "TypeError"/\
   ∀r M,r.toks=tk->aH (c.on<|c.A.mark<|Y e) N h i k j r->aF c.M (c.A.mark<|Y e) (kc (y::n) c.aj) R M r) s):
  aF c.M c.A (l9 (.Try D [.ExceptHandler (Y<|.Name "TypeError" np) Z (y::n) zk] [] [] cK) c.aj) R E s:=by
 refine ak4<|cQ aU (λf p hR=>?_) λe p w=>?_
 ·cases f with
  |next=>exact Ck hR
  |_=>exact hR
 ·refine xJ w λea i k J=>?_;clear w;refine q8 J λj g l tk iB BB I hF u=>?_;clear J;subst iB;subst BB;refine Ea u λhN hk=>?_;clear u
  have B:wG (c.aj::d):=λm w=>by
   refine bN w ?_ λw=>?_
   ·exact⟨by refine V ok.kind ?_;decide,_,hf⟩
   ·exact EX m w
  have FF:l.FunFrames (U_ g.heap<|dN (c.aj::d)) (c.aj::d):=abp B λa ha=>by
   exact sV (I.OZ hF ha) λo G L Q h2=>
    bR (hideAll_none _ ha) o (hN.keeps _ _ Q) (λvs av=>by rw[h2] at av;cases av)
  refine o9 hN.there λob tp w ail C=>?_
  unfold vI
  simp only[hf]
  refine aB<|zO w C (x:= .none) rfl<|
   V (if_neg<|by decide) ?_
  refine wpAny_entryW (a0:=tp) t8 FF hf w (λb o eb=>hN.keeps b o<|of_hideAll _ eb) ?_ C (by refine(?_:1<6);decide) rfl λkF v=>?_
  ·cases av:(U_ g.heap<|dN (c.aj::d)).get? ea with
   |none=>rfl
   |some o=>have:=of_hideAll _ av;rw[hN.new] at this;cases this
  refine uF v λk1 k2 k3 k4=>?_;clear v
  refine alv k1 k2 k3 λz q1 q2 q3 q4=>?_
  have A:∀(hh:fk),(U_ g.heap<|dN (c.aj::d)).StaysIn hh->(∀b o,z.get? b=Y o->(∀vs,o.data≠ .fields vs)->hh.get? b=Y o)->∀t,aH c N h i k j {g with heap:=hh,toks:=t}:=λhh g1 g2 t=>
   I.slots hF (λb o nb K=>g1 b o<|hideAll_get _ K nb) (λb o K nf=>by
    refine Ex (k4 b o (hN.keeps b o K) nf) λsl e=>?_
    exact ah _ (g2 _ _ (q4 _ _ e nf) nf) rfl) t
  have eX:=A z q1 (λ_ _ e _=>e) tk
  refine wpAny_handleBy_builtin (X:="TypeError") (T:="TypeError") (b:=true) (U'<|by decide+kernel) (U'<|by decide+kernel) (U'<|by decide+kernel)
   (Ln (Nl (c:=c.on<|c.A.mark<|Y<|.ref ea) (eX.on) ok.K.on hx (.inr<|abq _)<|bJ rfl ?_ ?_)<|by decide)
  ·exact aD q3.at.there λoe Q h2=>
    ah oe Q (h2.trans ail)
  ·exact V (if_pos rfl)<|
    alv q1 q2 q3.at λpO g1 g2 g3 g4=>
    hk _ _ rfl (A pO g1 g4 tk).on
end
section
open Builtin Builtin.Str
theorem abt(x:H)(u:k_):Cw (.str x u) "__int__"=pure Z:=by
 refine(?_:qO (.type "str") "__int__"=pure Z)
 refine V (qP ..) (V qQ ?_);kernel_rfl
theorem abu(x:H)(u:k_):Cw (.str x u) "__index__"=pure Z:=by
 refine(?_:qO (.type "str") "__index__"=pure Z)
 refine V (qP ..) (V qQ ?_);kernel_rfl
theorem abv(x:H)(u:k_):Cw (.str x u) "__float__"=pure Z:=by
 refine(?_:qO (.type "str") "__float__"=pure Z)
 refine V (qP ..) (V qQ ?_);kernel_rfl
theorem abw(x:H)(u:k_):Cw (.str x u) "__trunc__"=pure Z:=by
 refine(?_:qO (.type "str") "__trunc__"=pure Z)
 refine V (qP ..) (V qQ ?_);kernel_rfl
theorem abx(k:A.handled=Z)
  (j:∀c tk e,Cv s.heap c e "TypeError"->E (.ref e) {s with heap:=c,toks:=tk}):aF (aX d w) A (F_ 100<|.str x u) Q E s:=by
 refine aB<|gH (a:=Z) rfl ?_
 refine aB<|gH (a:=false) (by dsimp only;refine V (abt ..) ?_;rfl) ?_
 refine aB<|gH (a:=false) (by dsimp only;refine V (abu ..) ?_;rfl) ?_
 refine aB<|gH (a:=false) (by dsimp only;refine V (abv ..) ?_;rfl) ?_
 refine aB<|gH (a:=false) (by dsimp only;refine V (abw ..) ?_;rfl) ?_
 refine aB<|gH (a:= .ok Z) rfl ?_
 dsimp only
 exact aB<|uq<|
  aB (alw (T:="str") (lZ _ _ _) (by decide)<|
  alx k j (by decide+kernel))
theorem aby(y:H)(t u:k_):
  Mi («str.__mod__» ⟨[.str ⟨#[37,100]⟩ t,.str y u],[]⟩) (λA R s=>A.handled=Z/\∀c tk e,Cv s.heap c e "TypeError"->R (.error<|.ref e) {s with heap:=c,toks:=tk}):=by
 obtain⟨f,K,P⟩:=Hv
 intro d w A R s ⟨k,j⟩
 obtain⟨b,e⟩:=KPc.fills_str y u
 rw[KPc.entry_is_s,<-P.1]
 exact Od (Mc (lZ _ _ _) F.sub_str_tuple ⟨rfl,rfl⟩) (q:=Y y) rfl e<|
  U5 λw g=>Mg<|P.2.2.2.2.1 ..▸Dc g (by decide) (aB<|j9<|aB<|abx k λc tk e a=>
  j c tk e a)
theorem abz(k:A.handled=Z)
  (j:∀c tk e,Cv s.heap c e "TypeError"->E (.ref e) {s with heap:=c,toks:=tk}):aF (aX d w) A (lX .Mod (.str "%d" t)<|.str y u) Q E s:=by
 have e:("%d":H)=⟨#[37,100]⟩:=by decide+kernel
 exact V e<|
  binaryOp_meets (T:="str") (op:= .Mod) (lZ s _ t) (lZ s y u) ala U7 alb (alc _ _) (aby y t u) ⟨k,j⟩
theorem abA:Cw .none "__iter__"=pure Z:=by
 refine(?_:qO (.type "NoneType") "__iter__"=pure Z)
 refine V (qP ..) (V qQ ?_);kernel_rfl
theorem abB:Cw .none "__getitem__"=pure Z:=by
 refine(?_:qO (.type "NoneType") "__getitem__"=pure Z)
 refine V (qP ..) (V qQ ?_);kernel_rfl
def Ii(M:k9)(A:cR)(E:aa->au->Prop)(v:aa)(Q:List aa->au->Prop)(s:au):Prop:=
 StarOf M A E v Q s\/(v= .none/\A.handled=Z/\∀c tk e,Cv s.heap c e "TypeError"->E (.ref e) {s with heap:=c,toks:=tk})
section
variable {M:k9} {A:cR} {E:aa->au->Prop} {s:au}
theorem abC
  (j:aF M A x (λv f=>Ii M A E v (λc g=>aF M A (sA h) (λvs d=>Q (c++vs) d) E g) f) E s):
  aF M A (sA ((true,(do let v<-x;vF l;pure v))::h)) Q E s:=by
 rw[sA]
 refine aB<|aB<|cQ j (λv f e=>aB<|kL<|bf ?_) λU U x=>x
 rcases e with e|⟨rfl,k,e⟩
 ·skip
  refine aB<|cQ e (λb g i=>?_) λU U x=>x
  obtain⟨rfl,i⟩:=i
  have z:=cQ i (λc d m=>(show aF M A (Ct c (sA h)>>=λr=>pure<|c++r) Q E d from
   aB (j9<|cQ m (λvs o n=>bf n) λU U x=>x))) λU U x=>x
  try simp only[ly,if_false]
  first
   |exact aB z
   |exact z
   |exact aB<|bf z
 ·refine aB (gH (a:=true) ?_ ?_)
  ·unfold notIterableAtAll
   (rewrite[abA];refine V abB ?_);rfl
  ·skip
   refine aB<|uq<|aB<|alw (T:="NoneType") ?_ (by decide)<|aB<|alx k e<|by decide+kernel
   exact rfl
theorem abD(j:aF M A (eval e a) (λv f=>Ii M A E v (λc g=>aF M A (sA<|iG l<|gi h a) (λvs d=>Q (c++vs) d) E g) f) E s):
  aF M A (sA<|iG l<|gi (.Starred e p::h) a) Q E s:=by
 exact abC j
end
end
def tC(l:List dw)(j:ao):Prop:=wG l/\dN l=j.map (·.1)/\∃f:List (Array eY×Nat),f.length=j.length/\∀(i:Nat) (p) (d),j[i]?=Y p->f[i]?=Y d->p.2.data= .dict d.1 d.2
def AK(a b:ao):Prop:=∀p∈a,∃o',(p.1,o')∈b/\o'.data=p.2.data
theorem abF{u:fk}{e:List dw}(hk:wG e)(k:(∀a∈dN e,∃o w y,u.get? a=Y o/\o.data= .dict w y)):∃j,tC e j/\∀p∈j,u.get? p.1=Y p.2:=by
 have:∀l:List ak,(∀a∈l,∃o w y,u.get? a=Y o/\o.data= .dict w y)->∃(j:ao) (f:List (Array eY×Nat)),l=j.map (·.1)/\f.length=j.length/\(∀(i:Nat) (p) (d),j[i]?=Y p->f[i]?=Y d->p.2.data= .dict d.1 d.2)/\∀p∈j,u.get? p.1=Y p.2:=by
  intro l k
  induction l with
  |nil=>exact oZ [] [] rfl rfl (λi p d u=>by simp at u) λ_ hp=>nomatch hp
  |cons a l s=>
   refine sV (k a aZ) λo w y t v=>
    GA (s λb x=>k b<|a_ _ x) λj f e1 L n r=>
    oZ ((a,o)::j) ((w,y)::f) (congrArg (a::·) e1) (congrArg xm L) (λi A d m k=>?_) λp hp=>?_
   ·cases i with
    |zero=>simp at m k;subst m;subst k;exact v
    |succ i=>simp at m k;exact n i A d m k
   ·refine bN hp ?_ λhp=>?_
    ·exact t
    ·exact r p hp
 exact GA (this _ k) λj f e1 L n r=>ah j ⟨hk,e1,f,L,n⟩ r
def rS(w:aC)(n k:Nat)(f:aa)(us:List AV)(r:AV):Prop:=
 ∀(A:cR) (J:FM) (g:List dw) (j h:ao) (s:au) (R:aa->au->Prop) (E:aa->au->Prop) (vs:List aa),A.handled=Z->A.depth+k<=900->A.units+8*k<=6000->
  A.frames=Y g->tC g j->j.length=n->(j.map (·.1)).Nodup->(∀p∈h,p.1∉j.map (·.1))->
  bz w J (j++h) s.heap->b_ J [] vs us->0<s.toks->
  (∀d s' v t,FM.le J d->AK j t->bz w d (t++h) s'.heap->s'.gens=s.gens->s'.os=s.os->RV d [] v r->R v s')->
  iY (aX pw w) A (.call f ⟨vs,[]⟩) (λr s'=>match r with| .ok (.ret v)=>R v s'| .ok _=>False| .error e=>E e s') s
def tD(g:List dw)(q:St):Prop:=∀i,i<(dN g).length->∃w y,q.μ[i]?=Y (Y<|.nq<|.dict w y)
structure ir(c:Cx)(g:List dw):Prop where
 frames:c.A.frames=Y (c.aj::g)
 frame:c.aj.frame=Y c.L
 yf:wG g
 wH:∃t,c.fr=dN g++t
section
variable {c:Cx} {U:Sc} {N:List H} {h:ao} {q:St} {g:List dw}
theorem ir.all(l:ir c g):dN (c.aj::g)=c.L::dN g:=by
 unfold dN
 exact V Gf<|V l.frame rfl
theorem ir.O1(l:ir c g){i:Nat}{a:ak}(u:(dN g)[i]?=Y a):c.fr[i]?=Y a:=by
 refine Ex l.wH λt e=>?_
 refine V e (V (pT (fF.mp u).1) ?_);exact u
theorem ir.K(l:ir c g)(ok:aW c):wG (c.aj::g):=λa b=>by
 refine bN b ?_ λb=>?_
 ·exact⟨by refine V ok.kind ?_;decide,_,l.frame⟩
 ·exact l.yf a b
theorem ir.in(l:ir c g)(I:aH c N h q J as s)(hm:tD g q):DC c q as (dN (c.aj::g)):=λa ha=>by
 rw[l.all] at ha
 refine bN ha ?_ λha=>?_
 ·exact .inl rfl
 ·obtain⟨i,b,e⟩:=aly ha
  refine cC I λn m I=>
   cC (hm i b) λw y hm=>?_
  exact .inr<|xF i w y (I.gj.2 i a<|l.O1<|by exact V (fM b)<|V e rfl) hm
theorem O2:∀{F as:List ak},(∀(i:Nat) (a:ak),F[i]?=Y a->as[i]?=Y a)->F=as.take F.length
 |[],as,_=>by simp
 |a::F,[],u=>by have:=u 0 a rfl;simp at this
 |a::F,b::as,u=>by
  have d:=u 0 a rfl
  simp at d
  subst d
  exact V cX<|V Cy<|az (O2 (F:=F) (as:=as) λi x e=>by have:=u (i+1) x (by simpa using e);simpa using this) rfl
theorem ir.nd(l:ir c g)(I:aH c N h q J as s):(dN (c.aj::g)).Nodup:=by
 refine V l.all ?_
 refine cC I λn m I=>?_
 have e:=O2 (F:=dN g) λi a u=>I.gj.2 i a<|l.O1 u
 refine lu.mpr ⟨λu=>?_,?_⟩
 ·rw[e] at u
  exact(lu.mp I.nd).1<|gw _<|F0 u
 ·exact V e<|
   (Nd I.nd).sublist (akD _ _)
theorem O3(ok:aW c)(l:ir c g)(I:aH c N h q J as s)(hm:tD g q)(hk:k<=c.d)(hF:rS c.w ((dN g).length+1) k f us r)(rs:b_ J [] vs us)(tk:0<s.toks)
  {R:aa->au->Prop}{E:aa->au->Prop}(K:∀d s' v,FM.le J d->aH c N h q d as s'->RV d [] v r->R v s'):
  iY c.M c.A (.call f ⟨vs,[]⟩) (λr s'=>match r with| .ok (.ret v)=>R v s'| .ok _=>False| .error e=>E e s') s:=by
 have M:=l.in I hm
 have BY:=l.nd I
 have dat:=λa (ha:a∈dN (c.aj::g))=>I.OZ M ha
 refine aD (abF (l.K ok) dat) λj hL C=>?_
 have ha:=hL.2.1
 refine cC I λn m I=>?_
 have b:=ok.iK
 have aim:∀a∈dN (c.aj::g),∃o,(a,o)∈n:=λa ha=>by
  rcases M a ha with rfl|⟨i,w,y,G,Q⟩
  ·exact I.lo
  ·obtain⟨a',o,e1,L,_⟩:=I.ff i _ Q
   rw[G] at e1;cases e1
   exact⟨o,L⟩
 have B:∀p∈j,p∈n:=λp hp=>by
  refine Ex (aim p.1<|by refine V ha ?_;exact bg.mpr<|ah p hp rfl) λo u=>?_
  have:=I.base.get u
  rw[C p hp] at this;cases this
  exact u
 let D:ao:=n.filter λp=> !(dN (c.aj::g)).contains p.1
 have z:∀p,p∈D↔p∈n/\p.1∉dN (c.aj::g):=λp=>by
  rw[jq]
  simp
 have B':bz c.w J (j++D) s.heap:=I.base.sub λp hp=>by
  rcases cj.mp hp with hp|hp
  ·exact B p hp
  ·exact((z p).mp hp).1
 refine hF c.A J (c.aj::g) j D s R E vs ok.hand (la 0x4a3840810a088110e102042862044860 [_,_,_] rfl hk b.1) (la 0x4a05dc030420e062204405dc030420e1622204860 [_,_,_] rfl hk b.2) l.frames hL (az (bC (f:=(·.1)) (as:=j))<|az ha<|V l.all rfl) (az ha BY) (λp hp=>by refine az ha ?_;exact((z p).mp hp).2) B' rs tk λd s' v t k' hS B'' hg ho rv=>?_
 refine K d s' v k' (dU (t++D) m<|I.slots (F:=dN (c.aj::g)) k' B'' (λp hp A=>gw _<|(z p).mpr ⟨hp,A⟩) (λp hp A=>?_) (λa ha=>?_) hg ho) rv
 ·have t9:p∈j:=by
   rw[ha] at A
   refine aD (bg.mp A) λx hx e=>?_
   have G:=C x hx
   have Q:=I.base.led p hp
   rw[e,Q] at G
   have:x=p:=Ug e (iD G).symm
   refine az this ?_;exact hx
  exact aD (hS p t9) λo' G Q=>
   ah o' (iF _ G) Q
 ·rcases M a ha with e|⟨i,w,y,G,Q⟩
  ·exact .inl e
  ·exact .inr<|iI i _ G Q
def ja{C:Type}(c:Cx)(N:List H)(h:ao)(m:bT C)(q:St)(Q:St->Prop):Prop:=
 ∀J as s (R:C->au->Prop) (E:aa->au->Prop),aH c N h q J as s->0<s.toks->
  (∀d aJ s' o f tk e,FM.le J d->bU as aJ->aH c N h o d aJ s'->Cv s'.heap f e "TypeError"->Q o->E (.ref e) {s' with heap:=f,toks:=tk})->aF c.M c.A m R E s
theorem ja.head(u:ja c N h (l9 e c.aj) q Q):ja c N h (kc (e::w) c.aj) q Q:=λJ as s R E I tk K=>
 Cm (u J as s _ E I tk K)
theorem bq.O4(ok:aW c)(l:ir c g)(hx:c.aj.kindOf "TypeError"=Y .globalImplicit)
  (u:ja c N h (kc D c.aj) q λi=>tD g i/\∀e,dH (c.on<|c.A.mark<|Y e) N h (w::m) i Q):
  bq c N h (.Try D [.ExceptHandler (Y<|.Name "TypeError" np) Z (w::m) zk] [] [] cK) q Q:=λJ as s R E I tk K=>
 abr ok l.frames l.frame l.yf hx (kK (n:=1) tk<|u J as s _ _ I tk λd aJ s' o f j e k p I' hN A (ht:1<=j)=>
  (mq e o d<|n6 aJ s' f j rfl rfl I' (l.in I' A.1) ⟨hN,λx M L y=>A.2 (.ref e) d aJ x R M y (V L ht) λr t z a b v B C G cG E3=>
   K r t z a b v (k.trans B) (p.trans C) G.cU cG E3⟩))
end
noncomputable abbrev nq(d:Array eY×Nat):Option AO:=Y<|.nq<|.dict d.1 d.2
def abG(N:List H)(us:List AV)(j:List (Array eY×Nat)):St:=⟨us.map Y++bV (N.length-us.length) Z,j.map nq⟩
def O5(j:List (Array eY×Nat))(r:AV)(f:Fw)(q:St):Prop:=uP r f q/\∀(i:Nat) (d),j[i]?=Y d->q.μ[i]?=Y (nq d)
theorem O6{w:aC}{k n:Nat}{a:ak}{fd:kI}{D:List bu}{U:Sc}{us cP:List AV}{r:AV}(F:fY a fd D U)(hf:Ar fd U=true)
  (hb:i7 w fd U.N us cP)(hr:r.aq=true)(BO:0<k)
  (aU:∀(c:Cx) b h j,aW c->bA U c->ir c b->c.w=w->c.d+1=k->(dN b).length=n->j.length=n->dH c U.N h D (abG U.N cP j) (O5 j r)):rS w n k (.ref a) us r:=by
 obtain⟨BP,t_,d_⟩:=yg hf
 intro A J b l h s R E vs hh hd hu t8 hL hn BY BJ B rs tk K
 refine aD hL.2.2 λj z S3=>?_
 obtain⟨k,rfl⟩:∃n,k=n+1:=⟨k-1,(aY BO).symm⟩
 refine enter (G:=l) (μ:=j.map nq) (C:=l.map (·.1)) F BP t_ d_ hh hd hu B BY BJ ((bC ..).trans z) (λi x p e aU=>?_) (λ_ _ e=>e) hb.1 (λQ M hq=>kK (n:=1) tk<|hb.2 A.in1 J (l++h) s _ _ vs B rs λg t r=>hq g t<|r.le (FM.le.refl J).C λ_ _ e=>nS e) λc s' ok so hw o KL hA hf I fW hg ho=>zJ ?_
 ·rw[iW] at e
  cases L:j[i]? with
  |none=>rw[L] at e;exact nS e
  |some d=>
   rw[L] at e
   cases(iD e:nq d=Y x)
   exact S3 i _ d aU L
 subst hw
 have fo:ir c b:=⟨by refine V hA ?_;show A.frames.map _=_;refine V t8 ?_;rfl,hf,hL.1,[],by exact V KL<|V (iH ..)<|V hL.2.1 rfl⟩
 have:=aU c b h j ok so fo rfl (by exact V o rfl) (by exact V hL.2.1<|V (bC ..)<|V hn rfl) (z.trans hn) J _ _ (λf s'=>∃v,(match f with| .ret v=>v|_=>ux)=v/\R v s') (λe s'=>aF c.M (A.deeper c.aj) (xq c.aj e) (λ_ N=>E e N) (λL N=>E L N) s') I fW λcN aJ s' f wf ez k' p' q rf av=>?_
 ·rw[hA] at this
  exact cQ this (λf s' zz=>aD zz λv e hv=>by subst e;exact hv) λ_ _ e=>e
 ·refine Ea av λav qf=>?_
  refine cC q λu m q=>?_
  have y:∀p∈l,∃o',(p.1,o')∈u/\o'.data=p.2.data:=λp hp=>by
   obtain⟨i,hi,e⟩:=aly hp
   have jN:i<j.length:=by refine V z ?_;exact hi
   have o:j[i]?=Y j[i]:=fM jN
   have t9:l[i]?=Y p:=by exact V (fM hi)<|V e rfl
   obtain⟨a',o',e1,e2,e3⟩:=q.ff i _<|qf i _ o
   have:=p' i p.1<|by refine V iW (V t9 ?_);rfl
   rw[this] at e1;cases e1
   exact ah o' e2<|by show o'.data=_;refine V (S3 i p _ t9 o) ?_;exact e3
  have Bx:bz c.w cN (u++h) s'.heap:=q.base.sub λp hp=>by
   rcases cj.mp hp with hp|hp
   ·exact hp
   ·exact q.sub p hp
  rcases av with rfl|⟨rfl,rfl⟩
  ·refine aD rf λv L rv=>?_;clear rf;subst L
   exact ah v rfl<|K cN s' v u k' y Bx (q.gens.trans hg) (q.os.trans ho)<|rv.aq hr
  ·obtain rfl:f= .next:=rf
   exact ah _ rfl<|K cN s' .none u k' y Bx (q.gens.trans hg) (q.os.trans ho) RD.none
namespace IR
structure DE(C:ak)(name:H)(f:ak):Prop where
 m:kT C name f
 dict:∀P,UU (K0 P) C=true
 get:∀P,specialIn (K0 P) (.ref f) "__get__"=Y (Y<|.builtin "function.__get__")
 tk:∀P,takesIn (K0 P) (.ref f)=Y false
 cp:copiedNames.contains name=false
 fn:∀P,fnIn (K0 P) f=true
end IR
section
variable {c:Cx} {N:List H} {h:ao} {q:St}
theorem abH(t:dB b=true)(w:dB d=true):gi [b,d,.Starred e p] a=[(false,eval b a),(false,eval d a),(true,eval e a)]:=by
 refine V (n_ t ..) (V (n_ w ..) ?_);rfl
theorem abI(ok:aW c)(I:aH c N h q J as s)(r:RV J as v (.t d))(j:d.length<=aL)
  (l:∀vs e,bD J vs d->(∀b o,s.heap.get? b=Y o->e.get? b=Y o)->L vs {s with heap:=e}):StarOf c.M c.A E v L s:=by
 obtain⟨a,vs,n,g,i⟩:=CP r
 have D:=I.keep _ _ g
 have f:s.TypeIs (.ref a) "tuple":=(ah _ D rfl)
 have z:aF c.M c.A (collect<|.ref a) L E s:=by
  exact wpAny_collect_seq a (.inr rfl) D rfl rfl (λe m=>l _ e i m)<|az fN<|V i.length j
 exact aB<|Va f PySem.F.slot_tuple_iter.lookup<|bf ⟨rfl,z⟩
end
theorem abJ(l:bD J vs d):b_ J [] vs (d.map .d):=l.kO (P:=λvs d=>b_ J [] vs<|d.map .d) trivial λ_ _ _ _ a _ b=>⟨a,b⟩
theorem abK{c:Cx}{N:List H}{h:ao}{q:St}{J:FM}{as:List ak}{s:au}(I:aH c N h q J as s){i:Nat}{x:AO}(C:q.μ[i]?=Y (Y x)){a:ak}(ha:as[i]?=Y a):
  ∃(v:bh) (D:ao),bz c.w J ((a,v)::D) s.heap/\(∀E∈D,E.1≠a)/\gK J v x/\
   ∀(f:FM) (s':au) (g:bh) (y:AO),FM.le J f->bz c.w f ((a,g)::D) s'.heap->gK f g y->s'.gens=s.gens->s'.os=s.os->aH c N h (q.fR i y) f as s':=by
 refine cC I λd m I=>?_
 obtain⟨a',o,t,w,Q⟩:=I.ff i _ C
 rw[ha] at t;cases t
 have G:∀p,p∈d.filter (λp=>p.1 !=a)↔p∈d/\p.1≠a:=λp=>by rw[jq];simp
 refine oZ o (d.filter λp=>p.1 !=a) (I.base.sub λp K=>?_) (λE M=>((G E).mp M).2) Q λf s' g y k B r A U=>?_
 ·refine bN K ?_ λK=>?_
  ·exact w
  ·exact((G p).mp K).1
 have n:∀b L,(b,L)∈d->b≠a->(b,L)∈(a,g)::d.filter (λp=>p.1 !=a):=λb L l R=>a_ _<|(G _).mpr ⟨l,R⟩
 exact dU _ m<|I.gz ha k B n rfl (λj u e=>(ah u e λ_ r=>r.aO k)) (y:=Y y) rfl (λz e=>(ah g aZ<|iD e▸r)) (.inl ⟨g,aZ⟩) A U
theorem WL.Ij{w:aC}{d k:Nat}{a:ak}{i:Nat}{p x y:AV}{xs l:List af}{q:St}{Q:PQ}(z:p.aq=true)(G:x.aq=true)(f3:y.aq=true)(C:q.μ[i]?=Y (Y<|.ai xs))(m:k<=d)(hF:tu w k (.ref a) p xs x y l)(M:Q .n (q.fR i<|.ai l)):jC w d (.k a) [p,.m i,x,y] q Q:=λc N h ew ed ok J as s R E vs I tk e K=>by
 subst ew;subst ed
 replace e:=cT e;obtain⟨vp,j,rp,e⟩:=e
 replace e:=cT e;obtain⟨vl,j,t,e⟩:=e
 replace e:=cT e;obtain⟨va,j,ra,e⟩:=e
 replace e:=cT e;obtain⟨vb,j,rb,e⟩:=e
 obtain rfl:=fS e
 refine aD t λL hL e'=>?_;clear t;subst e'
 refine GA (abK I C hL) λv D B n o r=>?_
 have b:=ok.iK
 have A:s.gens=c.g:=let ⟨_,_,I⟩:=I;I.gens
 exact hF c.A J D s R E vp va vb L v ok.hand (by exact la 0x4a3840810a088110e102042862044860 [_,_,_] rfl m b.1) (by exact la 0x4a05dc030420e062204405dc030420e1622204860 [_,_,_] rfl m b.2) B n o (rp.aq z) (ra.aq G) (rb.aq f3) tk λf s' g u B' r' A U=>
  K f as s' .none .n _ u (bU.rfl' _) (r f s' g _ u B' r' A U) RD.none M
section
variable {c:Cx} {U:Sc} {N:List H} {h:ao} {q:St} {l:List dw}
theorem O7{o e1 e2 e3:ay}{name:H}{f bB:ak}{p t n:aV}{Q:AV->AV->AV->AV->St->Prop}(sa:IR.DE bB name f)(hn:rI name=true)(ho:lE o=true)(h1:dB e1=true)(h2:dB e2=true)
  (aU:aG c N h o q λu a=>mJ u=Y bB/\u.aq=true/\aG c N h e1 a λG g=>G.aq=true/\aG c N h e2 g λu2 m=>u2.aq=true/\aG c N h e3 m λv i=>Q u G u2 v i)
  (I:aH c N h q J as s)(tk:0<s.toks)
  (K:∀B aJ s' x v1 v2 v3 u G u2 u3 ez (L:List aa->au->Prop),FM.le J B->bU as aJ->aH c N h ez B aJ s'->0<s'.toks->RV B [] (.ref x) u->RV B [] v1 G->RV B [] v2 u2->RV B aJ v3 u3->Q u G u2 u3 ez->
   (∀vs y,(∀b o,s'.heap.get? b=Y o->y.heap.get? b=Y o)->iY c.M c.A (.call (.ref f) ⟨.ref x::v1::v2::vs,[]⟩) (λr s'=>match r with| .ok (.ret v)=>R v s'| .ok _=>False| .error e=>E e s') y->L vs y)->
   Ii c.M c.A E v3 L s'):
  aF c.M c.A (eval (.Call (.Attribute o name t) [e1,e2,.Starred e3 p] [] n) c.aj) R E s:=by
 have ma:=sa.m
 have air:UW ([e1,e2,alz e3 p].length+([]:List Ud).length) (iG n<|gi [e1,e2,.Starred e3 p] c.aj) (FH n<|Uu [] c.aj)=false:=by
  refine V (abH h1 h2) ?_;rfl
 have zk:L0 false o c.aj t n=pure n:=by unfold L0;simp
 refine V (akO ..)<|V (x6 ho)<|
  aB (aN.bw aU I tk λC M d v u a j3 gr A gR D w=>
  gy w λhu hf w=>?_)
 refine vQ (NX A hu D hn) λx dx od e' ia sh=>?_;subst e'
 refine aB<|kL ?_
 unfold methodCall
 refine V air ?_
 have hl:vK name od=Y Z:=by
  have sh:(vK name od).map (·.isSome)=Y false:=sh
  cases e:vK name od with
  |none=>rw[e] at sh;cases sh
  |some z=>cases z with
   |none=>rfl
   |some _=>rw[e] at sh;cases sh
 refine aB<|j9 ?_
 unfold calleeOf
 simp only[ly,if_false]
 refine aB<|get_bind A.e7 ia (ma.ga _) (findObj_fn (sa.dict _) (ma.nm _) (sa.get _) (sa.tk _) sa.cp hl) (ma.gt _)<|sM<|fn_get (s:={d with toks:=d.toks+1}) A.e7 (ma.fn _)<|handed_on rfl<|bf<|
  aB (gH zk<|
  Ea (A.alloc (o:=Gk (.ref f)<|.ref x) rfl<|d.toks+1) λS5 eX=>?_)
 let S7:=C.cY d.heap.objs.size<|Gk (.ref f)<|.ref x
 have hm:S7 d.heap.objs.size=Y (Gk (.ref f)<|.ref x):=FM.eZ _ _ _
 have tkJ:0<d.toks+1:=oY _
 have j:aF c.M c.A (sA<|iG n<|gi [e1,e2,.Starred e3 p] c.aj) (λvs s'=>MethP (K0 c.w.params) d.heap.objs.size f (.ref x) s'.heap/\aF c.M c.A (f_ (.ref d.heap.objs.size)<|[]++vs) R E s') E {d with heap:=d.heap.push<|Gk (.ref f)<|.ref x,toks:=d.toks+1}:=by
  refine zA (aN.bw w eX tkJ λfB iA y v1 G g cZ ji cI dY cG k=>?_)<|n_ h1 _ _
  refine Ea k λf1 k=>?_
  refine zA (aN.bw k cI dY λh_ iz fV v2 u2 m c_ eV gq iT m5 jh=>?_)<|n_ h2 _ _
  refine Ea jh λf2 jh=>
   abD (aN.bw jh gq iT λj6 m6 kG v3 u3 i fL j5 iV qD qC pO=>?_)
  have kk:FM.le S7 j6:=cZ.trans<|c_.trans fL
  refine K j6 m6 kG x v1 v2 v3 u G u2 u3 i _ (j3.trans<|S5.trans kk) (gr.trans<|ji.trans<|eV.trans j5) iV qD (((D.aO S5).aO kk).aq hf) ((cG.aO<|c_.trans fL).aq f1) ((m5.aO fL).aq f2) qC pO λvs nQ hk hc=>
   Lo (
   V (iH ..) ?_)
  have hq:nQ.heap.get? d.heap.objs.size=Y (Gk (.ref f)<|.ref x):=hk _ _<|iV.keep _ _<|kk _ _ hm
  exact⟨⟨hq,λb o e=>hk _ _<|iV.e7 b o e⟩,sM<|method_call hq hc⟩
 rw[n_ h1] at j ⊢
 exact ks_call (P:=MethP (K0 c.w.params) d.heap.objs.size f<|.ref x) (V (n_ h2 ..) rfl) (keeps_M<|sa.fn _)<|FG j
theorem aG.abL(z:aW c)(D:ir c l){o e1 e2 e3:ay}{name:H}{f bB:ak}{p t n:aV}{Q:AV->St->Prop}(sa:IR.DE bB name f)(hn:rI name=true)(ho:lE o=true)(h1:dB e1=true)(h2:dB e2=true)
  (aU:aG c N h o q λu a=>mJ u=Y bB/\u.aq=true/\aG c N h e1 a λG g=>G.aq=true/\aG c N h e2 g λu2 m=>u2.aq=true/\aG c N h e3 m λv i=>
   ∃j r k,v= .t j/\j.length<=aL/\tD l i/\k<=c.d/\rS c.w ((dN l).length+1) k (.ref f) (u::G::u2::j.map .d) r/\r.aq=true/\Q r i):
  aG c N h (.Call (.Attribute o name t) [e1,e2,.Starred e3 p] [] n) q Q:=λJ as s R E I tk K=>by
 refine O7 (Q:=λu G u2 v i=>∃j r k,v= .t j/\j.length<=aL/\tD l i/\k<=c.d/\rS c.w ((dN l).length+1) k (.ref f) (u::G::u2::j.map .d) r/\r.aq=true/\Q r i) sa hn ho h1 h2 aU I tk
  λB aJ s' x v1 v2 v3 u G u2 u3 ez L M p' I' w r0 r1 r2 r3 d A=>?_
 refine uG d λj r k e hz hm hk q'=>?_;clear d;refine gy q' λhF hr hq=>?_;clear q'
 subst e
 refine .inl<|abI z I' r3 hz λvs h' rd C=>A vs _ C ?_
 have I'':=I'.s6 (s':={s' with heap:=h'}) C rfl rfl
 exact O3 (vs:=_::v1::v2::vs) z D I'' hm hk hF (g5 r0 r1 r2<|abJ rd) w λfB y v cZ cI rv=>(K.trans (M.trans cZ) p').now (b:=r) cI (rv.aq hr) hq
theorem ja.abM(z:aW c){o e1 e2 e3:ay}{name:H}{f bB:ak}{p t n:aV}{Q:St->Prop}(sa:IR.DE bB name f)(hn:rI name=true)(ho:lE o=true)(h1:dB e1=true)(h2:dB e2=true)
  (aU:aG c N h o q λu a=>mJ u=Y bB/\u.aq=true/\aG c N h e1 a λG g=>G.aq=true/\aG c N h e2 g λu2 m=>u2.aq=true/\aG c N h e3 m λv i=>v= .n/\Q i):
  ja c N h (eval (.Call (.Attribute o name t) [e1,e2,.Starred e3 p] [] n) c.aj) q Q:=λJ as s R E I tk K=>by
 refine O7 (Q:=λu G u2 v i=>v= .n/\Q i) sa hn ho h1 h2 aU I tk
  λB aJ s' x v1 v2 v3 u G u2 u3 ez L M p' I' w r0 r1 r2 r3 d A=>?_
 refine Ea d λe hq=>?_;clear d
 subst e
 cases(show RD B v3 .none from r3)
 exact .inr<|bJ rfl z.hand λh' tk e b=>K B aJ s' ez h' tk e M p' I' b hq
theorem aG.abN(z:aW c)(D:ir c l)(ma:kT bB name f)(hn:rI name=true)(ho:lE o=true)(hs:ny e=true)(hl:(t.endLine==n.line)=true)
  (aU:aG c N h o q λu a=>mJ u=Y bB/\dD c N h e a λus g=>(u::us).all AV.aq=true/\∃r k,tD l g/\k<=c.d/\rS c.w ((dN l).length+1) k (.ref f) (u::us) r/\r.aq=true/\Q r g):
  aG c N h (.Call (.Attribute o name t) e [] n) q Q:=λJ as s R E I tk K=>
 C8 (Q:=λus g=>us.all AV.aq=true/\∃r k,tD l g/\k<=c.d/\rS c.w ((dN l).length+1) k (.ref f) us r/\r.aq=true/\Q r g) ma hn ho hs hl aU I tk λfB iA y vs us g cZ ji cI dY cG d=>Ea d λhf d=>GA d λr k hm hk hF d=>Ea d λhr hq=>
  sM (O3 z D cI hm hk hF (cG.aq hf) dY λh_ fV v c_ gq rv=>(K.trans (cZ.trans c_) ji).now (b:=r) gq (rv.aq hr) hq)
theorem ja.nF(z:n9 c)(m:jA)(ho:lE o=true)(hs:ny [e]=true)(hl:(t.endLine==n.line)=true)
  (aU:aG c N h o q λu a=>rz a u=Y m.T/\ja c N h (eval e c.aj) a Q):ja c N h (eval (.Call (.Attribute o m.nm t) [e] [] n) c.aj) q Q:=λJ as s R E I tk K=>by
 simp only[ny,jQ,l6,decide_eq_true_eq] at hs
 have g:((iG n<|gi [e] c.aj).any (·.1))=false:=s7 hs.1
 refine Uv (x6 ho) ?_ hl m.attrs m.slot m.type<|aN.bw aU I tk λC M d v u a j3 gr A gR D w=>?_
 ·have:((iG n<|gi [e] c.aj).all λx=> !x.1)=true:=by
   rw[l6];intro x i
   have:=LD.mp g x i
   simpa using this
  refine V this ?_
  simp only[G5,FH,j_,List.all_nil,l7,List.isEmpty_nil,if_true,oW,Uw,decide_eq_true_eq]
  exact hs.2
 ·refine Ea w λr w=>
   Ea (A.rz D r) λx y=>
   bJ x y (LG g ?_)
  have f:gi [e] c.aj=(false,eval e c.aj)::gi [] c.aj:=n_ (hs.1 e aZ) _ _
  have j:aF c.M c.A (sA<|iG n<|gi [e] c.aj) (λvs s'=>aF c.M c.A (f_ (.builtin m.id)<|[v]++vs) R E s') E d:=
   zA (rest:=[]) (w C M d _ E A gR λB aJ s' ez w tk e k p I' b hq=>K B aJ s' ez w tk e (j3.trans k) (gr.trans p) I' b hq) f
  rw[f] at j ⊢
  exact FG j
theorem ja.ex(z:n9 c)(hc:q_ e=true)(aU:ja c N h (eval e c.aj) q Q):ja c N h (l9 (.Expr e n) c.aj) q Q:=λJ as s R E I tk K=>
 UC (aU J as s _ E I tk K) (by unfold LM;refine V z.kind ?_;rfl) (uO hc)
theorem ja.fmt(z:aW c){G:List ay}{k:Nat}{f n g:aV}{e:ay}{Q:St->Prop}(h1:LN G (.BinOp (.Constant (.str "%d") k f) .Mod e g) n.line c.aj=pure false)(h2:vG G (.BinOp (.Constant (.str "%d") k f) .Mod e g) c.aj=pure Z)
  (aU:aG c N h e q λu a=>∃y,u= .s y/\Q a):ja c N h (l9 (.Assign G (.BinOp (.Constant (.str "%d") k f) .Mod e g) n) c.aj) q Q:=λJ as s R E I tk K=>
 LO (aj0<|zy<|aN.bw (E:=E) aU (I.toks<|s.toks+1) (oY _) λC M d v u a j3 gr A gR D w=>by
  refine aD w λy e' hq=>?_;clear w;subst e'
  obtain⟨t⟩:=dG D
  exact abz z.hand λh' tk e b=>K C M d a h' tk e j3 gr A b hq) h1 h2
end
section
theorem O8(c:cP.length<=N.length)
  (f:∀P g,g.length=us.length->∃b,(∀S,zR (K0 P) S (sJ d ⟨g,[]⟩)=Y ((N.take cP.length).zip b))/\
   ∀J,(∀a o,(K0 P).lookup a=Y o->J a=Y o)->b_ J [] g us->b_ J [] b cP):i7 w d N us cP:=
 ⟨c,λA J h s Q E g B i K=>by
  refine aD (f w.params g i.length) λb e j=>?_
  exact Gl B.e7 e _ _ _ _<|K b s.toks<|j J B.K i⟩
theorem nH(n:Nat)(a:us.length=n)(c:n<=N.length)
  (f:∀P (g:List aa),g.length=n->∀S,zR (K0 P) S (sJ d ⟨g,[]⟩)=Y ((N.take n).zip g)):i7 w d N us us:=
 O8 (la 0x4a8a00448a1046860 [_,_,_] rfl a c) λP g h=>(ah g (by refine V a ?_;exact f P g<|h.trans a) λJ _ r=>r)
inductive LS{C:Type _}(n:Nat):List C->Prop
 |mk (a:C) (l:List C):l.length=n->LS n (a::l)
theorem yy{C:Type _}{l:List C}(f:l.length=n+1):LS n l:=by
 cases l with
 |nil=>cases f
 |cons a l=>exact .mk a l<|uA f
inductive L1{C:Type _}:List C->Prop
 |mk (a:C):L1 [a]
inductive L2{C:Type _}:List C->Prop
 |mk (a b:C):L2 [a,b]
inductive L3{C:Type _}:List C->Prop
 |mk (a b c:C):L3 [a,b,c]
inductive L4{C:Type _}:List C->Prop
 |mk (a b c d:C):L4 [a,b,c,d]
inductive L5{C:Type _}:List C->Prop
 |mk (a b c d e:C):L5 [a,b,c,d,e]
theorem rT{C:Type _}{l:List C}(f:l.length=1):L1 l:=by
 obtain⟨a,l,f⟩:=yy f
 cases l with
 |nil=>exact .mk ..
 |cons=>cases f
theorem tE{C:Type _}{l:List C}(f:l.length=2):L2 l:=by
 obtain⟨a,l,e⟩:=yy f
 obtain⟨b⟩:=rT e
 exact .mk ..
theorem yz{C:Type _}{l:List C}(f:l.length=3):L3 l:=by
 obtain⟨a,l,e⟩:=yy f
 obtain⟨b⟩:=tE e
 exact .mk ..
theorem O9{C:Type _}{l:List C}(f:l.length=4):L4 l:=by
 obtain⟨a,l,e⟩:=yy f
 obtain⟨b⟩:=yz e
 exact .mk ..
theorem Ik{C:Type _}{l:List C}(f:l.length=5):L5 l:=by
 obtain⟨a,l,e⟩:=yy f
 obtain⟨b⟩:=O9 e
 exact .mk ..
namespace IR
def AL:Sc:=⟨["self","side","flag","linenum","text","id"],(aM 86).scope.names,[]⟩
def O_:Ss:=(.k (.aT (.k (.n 3) .z)<|.aI .Mod (.c<|.str "%d")<|.v 3)<|.k (.aT (.k (.n 5) .z)<|.fst<|.lit " id=\""<|.val (.sub (.oi (.v 0) "_prefix")<|.v 1)<|.val (.v 3)<|.lit "\"" .z) .z)
def Pa:Ss:=(.k (.aT (.k (.n 4) .z)<|.nA (.nA (.nA (.v 4) "&" "&amp;") ">" "&gt;") "<" "&lt;")<|.k (.aT (.k (.n 4) .z)<|.dg .rstrip (.nA (.v 4) " " "&nbsp;") .z)<|.k (.ret<|.fst<|.lit "<td class=\"diff_header\""<|.val (.v 5)<|.lit ">"<|.val (.v 3)<|.lit "</td><td nowrap=\"nowrap\">"<|.val (.v 4)<|.lit "</td>" .z) .z)
def g9:Sc:=⟨["self","diffs","fromlist","tolist","flaglist","fromdata","todata","flag"],(aM 79).scope.names,[]⟩
end IR
open IR
theorem ki{a:ak}{U:Sc}(f:∀P,((K0 P).lookup a,(kN P a).data,codeIn (K0 P) (aM a).code (aM a).qualname,(aM a).body,(aM a).scope.kind,(aM a).scope.isCoroutine,(aM a).globals,(aM a).builtins,(aM a).scope.names,decide U.N.Nodup)=(Y<|kN P a,.func<|aM a,true,.stmts<|cF<|aM a,.function,false,gW,nV,U.names,true)):fY a (aM a) (cF<|aM a) U:=⟨λP=>ah _ (congrArg (·.1)<|f P) (congrArg (·.2.1)<|f P),λP=>congrArg (·.2.2.1)<|f P,congrArg (·.2.2.2.1)<|f nk,congrArg (·.2.2.2.2.1)<|f nk,congrArg (·.2.2.2.2.2.1)<|f nk,congrArg (·.2.2.2.2.2.2.1)<|f nk,congrArg (·.2.2.2.2.2.2.2.1)<|f nk,congrArg (·.2.2.2.2.2.2.2.2.1)<|f nk,of_decide_eq_true (congrArg (·.2.2.2.2.2.2.2.2.2)<|f nk)⟩
theorem abP:fY 138 (aM 138) (cF<|aM 138) HX:=ki λP=>by kernel_rfl
theorem abQ(f:us.length=1):i7 w (aM 138) HX.N us us:=nH 1 f (by decide) λP g h S=>by
 obtain⟨a⟩:=rT h
 kernel_rfl
theorem abR:fY 145 (aM 145) (cF<|aM 145) HY:=ki λP=>by kernel_rfl
theorem abS(f:us.length=1):i7 w (aM 145) HY.N us us:=nH 1 f (by decide) λP g h S=>by
 obtain⟨a⟩:=rT h
 kernel_rfl
theorem abT:fY 158 (aM 158) (cF<|aM 158) HZ:=ki λP=>by kernel_rfl
theorem abU(f:us.length=3):i7 w (aM 158) HZ.N us us:=nH 3 f (by decide) λP g h S=>by
 obtain⟨a,b,c⟩:=yz h
 kernel_rfl
theorem abV:fY 166 (aM 166) (cF<|aM 166) Dz:=ki λP=>by kernel_rfl
theorem abW:fY 183 (aM 183) (cF<|aM 183) H6:=ki λP=>by kernel_rfl
theorem abX:fY 197 (aM 197) (cF<|aM 197) H7:=ki λP=>by kernel_rfl
theorem abY(f:us.length=2):i7 w (aM 197) H7.N us us:=nH 2 f (by decide) λP g h S=>by
 obtain⟨a,b⟩:=tE h
 kernel_rfl
theorem abZ:fY 246 (aM 246) (cF<|aM 246) H8:=ki λP=>by kernel_rfl
theorem ab0(f:us.length=1):i7 w (aM 246) H8.N us us:=nH 1 f (by decide) λP g h S=>by
 obtain⟨a⟩:=rT h
 kernel_rfl
theorem ab1:fY 253 (aM 253) (cF<|aM 253) DA:=ki λP=>by kernel_rfl
theorem ab2(f:us.length=1):i7 w (aM 253) DA.N us us:=nH 1 f (by decide) λP g h S=>by
 obtain⟨a⟩:=rT h
 kernel_rfl
theorem ab3:fY 260 (aM 260) (cF<|aM 260) H_:=ki λP=>by kernel_rfl
theorem ab4(f:us.length=2):i7 w (aM 260) H_.N us us:=nH 2 f (by decide) λP g h S=>by
 obtain⟨a,b⟩:=tE h
 kernel_rfl
theorem ab5:fY 265 (aM 265) (cF<|aM 265) Ia:=ki λP=>by kernel_rfl
theorem ab6(f:us.length=2):i7 w (aM 265) Ia.N us us:=nH 2 f (by decide) λP g h S=>by
 obtain⟨a,b⟩:=tE h
 kernel_rfl
theorem ab7:fY 272 (aM 272) (cF<|aM 272) Ib:=ki λP=>by kernel_rfl
theorem ab8(f:us.length=2):i7 w (aM 272) Ib.N us us:=nH 2 f (by decide) λP g h S=>by
 obtain⟨a,b⟩:=tE h
 kernel_rfl
theorem ab9:fY 279 (aM 279) (cF<|aM 279) Ic:=ki λP=>by kernel_rfl
theorem acd(f:us.length=3):i7 w (aM 279) Ic.N us us:=nH 3 f (by decide) λP g h S=>by
 obtain⟨a,b,c⟩:=yz h
 kernel_rfl
theorem ace:fY 284 (aM 284) (cF<|aM 284) Ie:=ki λP=>by kernel_rfl
theorem acf(f:us.length=3):i7 w (aM 284) Ie.N us us:=nH 3 f (by decide) λP g h S=>by
 obtain⟨a,b,c⟩:=yz h
 kernel_rfl
theorem acg:fY 289 (aM 289) (cF<|aM 289) kX:=ki λP=>by kernel_rfl
theorem ach(f:us.length=1):i7 w (aM 289) kX.N us us:=nH 1 f (by decide) λP g h S=>by
 obtain⟨a⟩:=rT h
 kernel_rfl
theorem Pb:fY 65 (aM 65) (cF<|aM 65) DB:=ki λP=>by kernel_rfl
theorem aci:fY 86 (aM 86) (cF<|aM 86) AL:=ki λP=>by kernel_rfl
theorem acj(f:us.length=5):i7 w (aM 86) AL.N us us:=nH 5 f (by decide) λP g h S=>by
 obtain⟨a,b,c,d,e⟩:=Ik h
 kernel_rfl
theorem ack:fY 79 (aM 79) (cF<|aM 79) g9:=ki λP=>by kernel_rfl
theorem acm(f:us.length=2):i7 w (aM 79) g9.N us us:=nH 2 f (by decide) λP g h S=>by
 obtain⟨a,b⟩:=tE h
 kernel_rfl
end
section
open IR
def Pd(s:bu):List bu×aV×aV×aV×bu×List bu:=
 let v:=sv s
 let b:=hv (v.hs.headD<|.ExceptHandler Z Z [] default)
 (v.a,(ev<|b.1.getD eD).p,b.2.2,v.p,hS b.2.1,b.2.1.tail)
abbrev TR:=List bu×aV×aV×aV×bu×List bu
noncomputable def TR.rV(t:TR):bu:= .Try t.1 [.ExceptHandler (Y<|.Name "TypeError" t.2.1) Z (t.2.2.2.2.1::t.2.2.2.2.2) t.2.2.1] [] [] t.2.2.2.1
def u9:TR:=Pd<|hS<|cF<|aM 86
def yC:Nat×aV×aV×aV×aV×aV:=let v:=sv (hS u9.1);let b:=ev v.e0;((ev b.e0).n,(ev<|hd v.l).p,(ev b.e0).p,(ev b.e1).p,b.p,v.p)
abbrev acn:bu:= .Assign [.Name "linenum" yC.2.1] (.BinOp (.Constant (.str "%d") yC.1 yC.2.2.1) .Mod (.Name "linenum" yC.2.2.2.1) yC.2.2.2.2.1) yC.2.2.2.2.2
theorem Pe:cF (aM 86)=u9.rV::(cF<|aM 86).tail:=by kernel_rfl
theorem aco:u9.1=acn::u9.1.tail:=by kernel_rfl
theorem acp:gQ AL O_ u9.1=true:=by kernel_rfl
theorem Pf:gQ AL Pa (cF<|aM 86).tail=true:=by kernel_rfl
def DF:H×aV×H×Nat×aV×aV:=let v:=sv u9.2.2.2.2.1;let b:=ev v.e0;("",(ev<|hd v.l).p,"",b.n,b.p,v.p)
theorem Pg:u9.2.2.2.2.1= .Assign [.Name "id" DF.2.1] (.Constant (.str "") DF.2.2.2.1 DF.2.2.2.2.1) DF.2.2.2.2.2/\u9.2.2.2.2.2=[]:=⟨by kernel_rfl,by kernel_rfl⟩
noncomputable def qo(x:H):H:=zD<|fP (fP (fP (fP x "&" "&amp;") ">" "&gt;") "<" "&lt;") " " "&nbsp;"
def wI(a e x:H):H:=((((((⟨#[]⟩++("<td class=\"diff_header\"":H))++a)++(">":H))++e)++("</td><td nowrap=\"nowrap\">":H))++qo x)++("</td>":H)
noncomputable def gm(g:Int):H:=if g=0 then "old_" else "new_"
def idOf(g:Int)(e:H):H:=(((⟨#[]⟩++(" id=\"":H))++gm g)++e)++("\"":H)
def kj(g:Int)(num:af)(x:H):H:=match num with
 | .int n=>wI (idOf g<|dh n) (dh n) x
 | .str y=>wI "" y x
 |_=>""
def ko:af->Prop
 | .int n=>0<=n/\n<10^10
 | .str y=>y.length<=100
 |_=>False
theorem wJ(a b:H):(a++b).length=a.length+b.length:=az (wD ..)<|V (OH ..)<|V bQ<|V (wD ..)<|V (wD ..) rfl
theorem acq(b:x.length<=1000):(qo x).length<=10000000:=by
 unfold qo
 refine ic (len_rstrip _) ?_
 have c:=u5 x "&amp;" 38
 have k:=u5 (fP x ⟨#[38]⟩ "&amp;") "&gt;" 62
 have l:=u5 (fP (fP x ⟨#[38]⟩ "&amp;") ⟨#[62]⟩ "&gt;") "&lt;" 60
 have n:=u5 (fP (fP (fP x ⟨#[38]⟩ "&amp;") ⟨#[62]⟩ "&gt;") ⟨#[60]⟩ "&lt;") "&nbsp;" 32
 simp only[show("&amp;":H).length=5 by decide+kernel,show("&gt;":H).length=4 by decide+kernel,show("&lt;":H).length=4 by decide+kernel,show("&nbsp;":H).length=6 by decide+kernel] at c k l n
 have h:("&":H)=⟨#[38]⟩:=by decide+kernel
 have g:(">":H)=⟨#[62]⟩:=by decide+kernel
 have i:("<":H)=⟨#[60]⟩:=by decide+kernel
 have j:(" ":H)=⟨#[32]⟩:=by decide+kernel
 refine V h<|V g<|V i<|V j ?_
 lia
theorem Ph(m:x.length<=1000)(f:wA (.d num)=Y e)(u:e.length<=100)(v:a.length<=200)
  (b:∀o,Q (.rt<|.s<|wI a e x) ⟨o,μ⟩):WSs w d Pa ⟨[U,a1,a2,Y (.d num),Y (.s x),Y (.s a)],μ⟩ Q:=by
 have c:=u5 x "&amp;" 38
 have k:=u5 (fP x ⟨#[38]⟩ "&amp;") "&gt;" 62
 have l:=u5 (fP (fP x ⟨#[38]⟩ "&amp;") ⟨#[62]⟩ "&gt;") "&lt;" 60
 have n:=u5 (fP (fP (fP x ⟨#[38]⟩ "&amp;") ⟨#[62]⟩ "&gt;") ⟨#[60]⟩ "&lt;") "&nbsp;" 32
 have A:=acq m
 simp only[show("&amp;":H).length=5 by decide+kernel,show("&gt;":H).length=4 by decide+kernel,show("&lt;":H).length=4 by decide+kernel,show("&nbsp;":H).length=6 by decide+kernel] at c k l n
 have h:("&":H)=⟨#[38]⟩:=by decide+kernel
 have g:(">":H)=⟨#[62]⟩:=by decide+kernel
 have i:("<":H)=⟨#[60]⟩:=by decide+kernel
 have j:(" ":H)=⟨#[32]⟩:=by decide+kernel
 have y:qo x=zD (fP (fP (fP (fP x ⟨#[38]⟩ "&amp;") ⟨#[62]⟩ "&gt;") ⟨#[60]⟩ "&lt;") ⟨#[32]⟩ "&nbsp;"):=by unfold qo;exact V h<|V g<|V i<|V j rfl
 have r:aL=16777216:=bI
 refine WSs.c ?_
 walk_at "w"
 have l1:("<td class=\"diff_header\"":H).length=23:=by decide+kernel
 have l2:("</td><td nowrap=\"nowrap\">":H).length=25:=by decide+kernel
 have l3:("</td>":H).length=5:=by decide+kernel
 have l0:(⟨#[]⟩:H).length=0:=rfl
 have z:(⟨#[62]⟩:H).length=1:=rfl
 have p:("&amp;":H).length=5:=by decide+kernel
 have q:("&gt;":H).length=4:=by decide+kernel
 have s:("&lt;":H).length=4:=by decide+kernel
 have t:("&nbsp;":H).length=6:=by decide+kernel
 refine V h<|V g<|V i ?_
 refine eS _ rfl x rfl (V p<|la 0x128100000014108354246080610fa02060 [_] rfl m)<|cJ _ rfl (by refine V q ?_;lia) _ rfl ⟨by refine V s ?_;lia,WSs.c ?_⟩
 walk_at "w"
 refine V j ?_
 refine eS _ rfl _ rfl (by refine V t ?_;lia) ⟨rfl,WL.rstrip ⟨by lia,WSs.c ?_⟩⟩
 walk_at "w"
 refine az y ?_
 simp only[wJ,l0,l1,l2,l3,z]
 refine bR (uB _ _) _ rfl<|fG a rfl (by lia) (by lia)<|eS _ rfl e f (by lia)<|bR (by lia) _ rfl<|fG _ rfl (by lia) (by lia) ?_
 have:=b [U,a1,a2,Y (.d num),Y (.s<|qo x),Y (.s a)]
 unfold wI at this
 rw[g] at this
 exact this
theorem AM(e:0<=n)(c:n<10^10):(dh n).length<=10:=toString_length_le e (by decide) c
theorem acr(hs:g=0\/g=1)(e:0<=n)(c:n<10^10)
  (b:Q .nx ⟨[Y (.bF p q),Y (.d<|.int g),Y (.d a),Y (.d<|.str<|dh n),Y (.s x),Y (.s<|idOf g<|dh n)],μ⟩):
  WSs w d O_ ⟨[Y (.bF p q),Y (.d<|.int g),Y (.d a),Y (.d<|.int n),Y (.s x),Z],μ⟩ Q:=by
 have r:aL=16777216:=bI
 have hd:=AM e c
 have l0:(⟨#[]⟩:H).length=0:=rfl
 have l1:(" id=\"":H).length=5:=by decide+kernel
 have l2:("\"":H).length=1:=by decide+kernel
 have l3:("old_":H).length=4:=by decide+kernel
 have f:("new_":H).length=4:=by decide+kernel
 refine WSs.c ?_
 walk_at "w"
 refine ah _ rfl<|WL.aap ⟨e,c⟩<|WSs.c ?_
 walk_at "w"
 simp only[wJ,l0,l1,l2]
 refine bR (by exact uB _ _) _ rfl<|WL.pfx<|
  ah _ rfl ?_
 rcases hs with rfl|rfl
 ·refine WL.u7 ⟨by refine V r ?_;decide,.inl<|bR (by decide) _ rfl<|ah _ rfl ?_⟩
  exact V l3<|
   bR (by exact uB _ _) _ rfl (fG _ rfl (by lia) (by lia) b)
 ·refine WL.u7 ⟨by refine V r ?_;decide,.inl<|bR (by decide) _ rfl<|ah _ rfl ?_⟩
  exact V f<|
   bR (by exact uB _ _) _ rfl (fG _ rfl (by lia) (by lia) b)
theorem acs(e:0<=n)(c:n<10^10):(idOf g<|dh n).length<=200:=by
 have hd:=AM e c
 have a:(gm g).length=4:=by unfold gm;split<;>decide+kernel
 have l0:(⟨#[]⟩:H).length=0:=rfl
 have l1:(" id=\"":H).length=5:=by decide+kernel
 have l2:("\"":H).length=1:=by decide+kernel
 unfold idOf;simp only[wJ,l0,l1,l2];exact la 0x12832020424428028425500465210446a0 [_,_] rfl hd a
theorem acu(w:aC)(p q g:Int)(a num:af)(x:H)(hs:g=0\/g=1)(m:x.length<=1000)(f:ko num):
  rS w 2 1 (.ref 86) [.bF p q,.d (.int g),.d a,.d num,.d (.str x)] (.s<|kj g num x):=by
 refine O6 (cP:=[.bF p q,.d (.int g),.d a,.d num,.d (.str x)]) aci (by kernel_rfl) (acj rfl) rfl alA λc r h k ok l s z hd t u=>?_
 have j:∀o:List (Option AV),O5 k (.s<|kj g num x) (.rt<|.s<|kj g num x) ⟨o,k.map nq⟩:=λo=>⟨.inl rfl,λi d b=>by refine(?_:(k.map nq)[i]?=_);refine V iW (V b ?_);rfl⟩
 cases num with
 |int n=>
  exact V Pe<|
   dH.cons (bq.Hu<|fZ ok l acp<|acr hs f.1 f.2<|fZ ok l Pf<|Ph (num:= .str<|dh n) m rfl (ic (AM f.1 f.2)<|by decide) (acs f.1 f.2) j)
 |str y=>
  refine V Pe ?_
  refine dH.cons<|bq.O4 ok s (by refine(?_:c.aj.scope.names.lookup _=_);refine V l.names ?_;decide+kernel) ?_
  refine V aco ?_
  refine ja.head<|ja.fmt ok (yv ok l (U:=AL)<|by decide+kernel) (HN (by decide+kernel) _)<|aG.var ok (i:=3) (by rfl) (by decide+kernel) rfl<|bk y rfl (λi v=>?_) λe=>?_
  ·have:i<k.length:=by exact la 0x4b8620458220474a10464a0 [_,_,_] rfl t u v
   exact dU ((k[i]).1) ((k[i]).2)<|by refine(?_:(k.map nq)[i]?=_);refine V iW (V (fM this) ?_);rfl
  ·exact V Pg.2<|V Pg.1<|
    dH.cons (bq.aT (show LN _ _ _ c.aj=_ from yv ok l (by decide+kernel)) (show vG _ _ c.aj=_ from HN (by decide+kernel) _)<|aG.Np<|pq.gz (by rfl)<|iM.abm ok.K.on l.on (i:=5) rfl (by decide+kernel)<|
    dH.nil (fZ ok l Pf<|Ph (num:= .str y) m rfl f (by decide) j))
 |_=>exact f.elim
def DG:Sc:=⟨["line","self"],rj.names,[]⟩
def Pj:Ss:= .k (.aT (.k (.n 0) .z)<|.nA (.v 0) " " "\x00")<|.k (.aT (.k (.n 0) .z)<|.dg .v_ (.v 0)<|.k (.oi (.v 1) "_tabsize") .z)<|.k (.aT (.k (.n 0) .z)<|.nA (.v 0) " " "\t")
 (.k (.ret<|.dg .rstrip (.nA (.v 0) "\x00" " ")<|.k (.c<|.str "\n") .z) .z)
theorem acv:gQ DG Pj xP=true:=by kernel_rfl
def Pk(a d:ak)(b e c:aa):kI:=fnX "expand_tabs" xQ CO xP rj [("self",a)] .none .none b e Z (.ref d) c
theorem acw(a d:ak)(b e c v:aa):sJ (Pk a d b e c) ⟨[v],[]⟩=pure [(("line":H),v)]:=by kernel_rfl
def AP(n:Nat)(l:List Nat):List Nat:=(((eT n 0<|l.flatMap<|cu 32 [0]).flatMap<|cu 32 [9]).flatMap<|cu 0 [32])
def lN(n:Nat)(l:List Nat):H:=FI (sL<|AP n l) "\n"
theorem Il:(" ":H)=⟨#[32]⟩:=by decide+kernel
theorem AQ:("\t":H)=sL [9]:=by decide+kernel
theorem AR:(" ":H)=sL [32]:=by decide+kernel
theorem acy:("\x00":H)=⟨#[0]⟩:=by decide+kernel
theorem AS(c z:Nat)(l:List Nat):(l.flatMap<|cu c [z]).length=l.length:=by
 induction l with
 |nil=>rfl
 |cons k r a=>
  refine V fQ<|V bQ<|V cX<|V a ?_
  have:(cu c [z] k).length=1:=by unfold cu;split<;>rfl
  exact dK (la 0x4a091842860046460 [_,_] rfl this)<|la 0x4a0a1802461047460 [_,_] rfl this
theorem acz(e:0<n)(b:n<=10)(f:l.length<=1000)(c:(eT n 0<|l.flatMap<|cu 32 [0]).length<=20000)
  (h:∀g,Q (.rt<|.s<|lN n l) ⟨g,[]⟩):WSs w d Pj ⟨[Y (.s<|sL l),Y (.bF n a)],[]⟩ Q:=by
 have q:=bI
 have i:("\x00":H).length=1:=by decide+kernel
 have j:(" ":H).length=1:=by decide+kernel
 have k:("\t":H).length=1:=by decide+kernel
 refine WSs.c ?_
 walk_at "w"
 refine eS _ rfl _ rfl (by refine V (aQ ..) (V i ?_);exact la 0x128100000014108344246080210fa02060 [_] rfl f)<|WSs.c ?_
 have m:fP (sL l) " " "\x00"=sL (l.flatMap<|cu 32 [0]):=by exact V Il<|V (u0 ..)<|V rR<|V (fq ..) rfl
 refine V m ?_
 walk_at "w"
 refine cJ _ rfl rfl _ rfl<|WL.aaz ?_
 refine(WL.aaF<|g5 (li 0x4b810045810 [_] rfl<|Li.ct e) (li 0x12819020600446a0 [_] rfl<|Li.cl b) (by refine V (aQ ..) (V (AS ..) ?_);exact aK)<|WSs.c ?_)
 refine V (fq ..)<|V (gY ..) ?_
 show WS w d _ ⟨[Y (.s<|sL<|eT n 0<|l.flatMap<|cu 32 [0]),Y (.bF n a)],[]⟩ _
 walk_at "w"
 refine eS _ rfl _ rfl (by refine V (aQ ..) (V k ?_);exact la 0x4a0400000050420d1091820084138803060 [_] rfl c)<|WSs.c ?_
 have o:fP (sL<|eT n 0<|l.flatMap<|cu 32 [0]) " " "\t"=sL ((eT n 0<|l.flatMap<|cu 32 [0]).flatMap<|cu 32 [9]):=by exact V Il<|V (u0 ..)<|V AQ<|V (fq ..) rfl
 refine V o ?_
 walk_at "w"
 have p:fP (sL<|(eT n 0<|l.flatMap<|cu 32 [0]).flatMap<|cu 32 [9]) "\x00" " "=sL (AP n l):=by refine V acy (V (u0 ..)<|V AR<|V (fq ..) ?_);rfl
 refine eS _ rfl _ rfl (V (aQ ..)<|V (AS ..)<|V j<|la 0x4a0400000050420d1091820084138803060 [_] rfl c) ⟨rfl,?_⟩
 refine V p ?_
 refine(WL.aaE ⟨?_,h _⟩)
 refine V (aQ ..) ?_
 unfold AP
 refine V (AS ..) (V (AS ..) ?_);exact aK
end
section
open Builtin Builtin.Str StrLaws
noncomputable def nI(s:H)(i:Nat)(q:vN):vN:=if (decide (q.2<=i)&&lC (s.cps.getD i 0))=true then(q.1.push (q.2,i,Mm s i),Mm s i) else q
noncomputable def kY(s:H):Nat->Nat->vN->vN
 |_,0,q=>q
 |c,m+1,q=>kY s (c+1) m<|nI s c q
theorem acA{s:H}{q:vN}:kY s a 0 q=q:=rfl
theorem acB{s:H}{c m:Nat}{q:vN}:kY s c (m+1) q=kY s (c+1) m (nI s c q):=rfl
theorem Im(s:H):∀(m c:Nat) (q:vN),Id.run (forIn (m:=Id) (Gb c m) q<|lsBody s)=kY s c m q
 |0,_,_=>rfl
 |m+1,c,(a,b)=>by
  refine V Vb (V (Co ..) ?_)
  delta lsBody
  refine(?_:_=kY s (c+1) m (nI s c (a,b)))
  delta nI
  by_cases d:(decide (b<=c)&&lC (s.cps.getD c 0))=true
  ·simp only[d,if_true]
   exact Im s m (c+1) _
  ·simp only[d,if_false,ly]
   exact Im s m (c+1) _
theorem Pn(s:H)(d:Nat)(b:Nat)(c:Nat)(q:vN):kY s c (d+b) q=kY s (c+d) b (kY s c d q):=by
 induction d generalizing b c q with
 |zero=>
  refine V (pQ ..) ?_;rfl
 |succ a f=>
  have e:a+1+b=(a+b)+1:=by exact nZ _ _ _
  refine V e ?_
  refine(?_:kY s (c+1) (a+b) _=kY s (c+(a+1)) b (kY s (c+1) a _))
  refine V (f b (c+1) ..) ?_
  congr 1;exact nZ _ _ _
theorem acC(s:H)(a:Nat)(c:Nat)(q:vN)(l:(∀i,c<=i->i<c+a->lC (s.cps.getD i 0)=false)):kY s c a q=q:=by
 induction a generalizing c q with
 |zero=>
  exact rfl
 |succ m f=>
  refine(?_:kY s (c+1) m (nI s c q)=q)
  have:nI s c q=q:=by
   delta nI
   refine V (l c (bM _)<|by lia) (V (akL ..) ?_);rfl
  refine V this ?_
  exact f (c+1) q λi h t=>l i (by exact j7<|by assumption)<|by exact la 0x4b0824628600450a2091860 [_,_,_] rfl t
noncomputable def aR(n:List Nat)(b:List (List Nat)):List Nat:=(b.map (·++n)).flatten
theorem jb(n r:List Nat)(b:List (List Nat)):aR n (r::b)=r++(n++aR n b):=by
 delta aR;exact V ee<|V nc<|V (eO ..) rfl
noncomputable def tF(e:Nat):Nat->List (List Nat)->List (Nat×Nat×Nat)
 |_,[]=>[]
 |p,r::b=>(p,p+r.length,p+r.length+e)::tF e (p+r.length+e) b
theorem AU:tF e a []=[]:=rfl
theorem AW:tF e p (r::b)=(p,p+r.length,p+r.length+e)::tF e (p+r.length+e) b:=rfl
theorem Io(l:List Nat)(i:Nat):(sL l).cps.getD i 0=(l[i]?).getD 0:=by
 delta sL
 refine V Array.getD_eq_getD_getElem? ?_
 simp
theorem acD{n:List Nat}(A:n=[10]\/n=[13,10])(c:List (List Nat))(a:List Nat)(d:Array (Nat×Nat×Nat))(l:(∀r∈c,∀k∈r,lC k=false)):kY (sL<|a++aR n c) a.length (aR n c).length (d,a.length)=(d++(tF n.length a.length c).toArray,(a++aR n c).length):=by
 induction c generalizing a d with
 |nil=>
  simp[aR,acA,acB,AU,AW]
 |cons r b f=>
  have B:=l r aZ
  have C:(aR n (r::b)).length=r.length+(n.length+(aR n b).length):=by refine V (jb ..) ?_;simp
  refine V C<|V (Pn ..) ?_
  have e:kY (sL<|a++aR n (r::b)) a.length r.length (d,a.length)=(d,a.length):=acC _ _ _ _ λi h t=>by
   refine V (Io ..)<|V (jb ..)<|V (kJ h)<|V (pT<|by exact la 0x4b8a30468028630450a2860 [_,_,_,_] rfl t<|aY h)<|V (fM<|by exact la 0x4b8a30468028630450a2860 [_,_,_,_] rfl t<|aY h) ?_
   exact B _<|FY _
  refine V e<|V (Pn ..) ?_
  have m:a++aR n (r::b)=(a++r++n)++aR n b:=by refine V (jb ..) ?_;simp
  have g:∀j,j<n.length->(a++aR n (r::b))[a.length+r.length+j]?=n[j]?:=λj y=>by
   refine V (jb ..)<|V (kJ<|by lia)<|V (kJ<|by exact la 0x4a8220470a30a2842860 [_,_,_,_] rfl<|aY<|la 0x4a0a20a1820 [_,_,_] rfl)<|V (pT<|by exact(sR _ _).elim (λq=>la 0x4b8620460a00a39429640469028e2045860 [_,_,_,_,_,_] rfl y (aY q)<|aY<|la 0x4a0a20a1820 [_,_,_] rfl) λq=>la 0x4b862046422045860 [_,_,_] rfl y<|Gh q) ?_
   congr 1;omega
  have o:kY (sL<|a++aR n (r::b)) (a.length+r.length) n.length (d,a.length)=(d.push (a.length,a.length+r.length,a.length+r.length+n.length),a.length+r.length+n.length):=by
   have s:lC 10=true:=by decide+kernel
   have u:lC 13=true:=by decide+kernel
   rcases A with rfl|rfl
   ·have p:=g 0 (by decide)
    simp only[oW] at p
    refine(?_:nI _ _ _=_)
    delta nI Mm
    refine V (Io ..)<|V p ?_
    have v:(decide (a.length<=a.length+r.length)&&lC (([10]:List Nat)[0]?.getD 0))=true:=by simp[s]
    refine V (if_pos v) ?_
    have w:((([10]:List Nat)[0]?.getD 0==13)&&(sL<|a++aR [10] (r::b)).cps[a.length+r.length+1]?==Y 10)=false:=by simp
    simp only[w,ly,if_false]
    rfl
   ·have p:=g 0 (by decide)
    have h:=g 1<|by decide
    simp only[oW] at p
    refine(?_:nI _ (a.length+r.length+1) (nI _ (a.length+r.length) _)=_)
    have D:nI (sL<|a++aR [13,10] (r::b)) (a.length+r.length) (d,a.length)=(d.push (a.length,a.length+r.length,a.length+r.length+2),a.length+r.length+2):=by
     delta nI Mm
     refine V (Io ..)<|V p ?_
     have v:(decide (a.length<=a.length+r.length)&&lC (([13,10]:List Nat)[0]?.getD 0))=true:=by simp[u]
     refine V (if_pos v) ?_
     have E:(sL<|a++aR [13,10] (r::b)).cps[a.length+r.length+1]?=Y 10:=by
      refine az oV (V (fq ..)<|V h ?_);rfl
     have w:((([13,10]:List Nat)[0]?.getD 0==13)&&(sL<|a++aR [13,10] (r::b)).cps[a.length+r.length+1]?==Y 10)=true:=by refine V E ?_;rfl
     simp only[w,if_true]
    refine V D ?_
    delta nI
    have G:(decide (a.length+r.length+2<=a.length+r.length+1)&&lC ((sL<|a++aR [13,10] (r::b)).cps.getD (a.length+r.length+1) 0))=false:=by
     have:decide (a.length+r.length+2<=a.length+r.length+1)=false:=by simp
     refine V this ?_;rfl
    simp only[G,ly,if_false]
    rfl
  refine V o<|V m ?_
  have z:a.length+r.length+n.length=(a++r++n).length:=by simp;exact Cz _ _ _
  have f:=f (a++r++n) (d.push (a.length,a.length+r.length,a.length+r.length+n.length)) λx I=>l x<|a_ _ I
  rw[z] at f ⊢
  refine V f ?_
  congr 1
  simp only[AU,AW]
  refine V z ?_
  simp
end
section
open Builtin Builtin.Str StrLaws
theorem DH(l:List Nat)(i j:Nat):Mp (sL l) i j=sL ((l.drop i).take<|j-i):=by
 refine(?_:(⟨_⟩:H)=⟨_⟩)
 congr 1
 apply alB
 simp[sL,Vc]
theorem acE(c:n=[10]\/n=[13,10])(a:List (List Nat))(j:∀r∈a,∀k∈r,lC k=false):lineSpans (sL<|aR n a)=tF n.length 0 a:=by
 refine V (ls_eq ..)<|V (Im ..)<|V (aQ ..) ?_
 have:=acD c a [] #[] j
 simp only[jt,l7] at this
 refine V this ?_
 unfold lsEnd
 refine V (aQ ..) ?_
 simp
theorem acF(e:List (List Nat))(b:List Nat):(tF n.length b.length e).map (λp=>Mp (sL<|b++aR n e) p.1 p.2.1)=e.map sL:=by
 induction e generalizing b with
 |nil=>
  exact rfl
 |cons r a t=>
  have l:b++aR n (r::a)=(b++r++n)++aR n a:=by refine V (jb ..) ?_;simp
  have u:b.length+r.length+n.length=(b++r++n).length:=by simp;exact Cz _ _ _
  simp only[AU,AW,ee]
  refine V l<|V u<|V (t<|b++r++n) ?_
  congr 1
  refine V (DH ..) ?_
  congr 1
  have:b.length+r.length-b.length=r.length:=by exact dK (la 0x4a8a00460a2842860 [_,_,_] rfl<|aY<|la 0x4a0a1820 [_,_] rfl)<|la 0x4a8220470a2842860 [_,_,_] rfl<|aY<|la 0x4a0a1820 [_,_] rfl
  exact V this<|V (eO ..)<|V (eO ..)<|V Gm<|V Mq rfl
theorem Po(c:n=[10]\/n=[13,10])(a:List (List Nat))(j:∀r∈a,∀k∈r,lC k=false):F1 (sL<|aR n a)=a.map sL/\(Cr<|sL<|aR n a).length=a.length:=by
 have hs:=acE c a j
 have e:Cr (sL<|aR n a)=(tF n.length 0 a).map λp=>(p.1,p.2.1):=by
  unfold Cr
  exact V hs
   rfl
 have b:∀(a:List (List Nat)) (p:Nat),(tF n.length p a).length=a.length:=λa=>by
  induction a with
  |nil=>intro p;rfl
  |cons r a t=>intro p;simp[AU,AW,t]
 refine⟨?_,by exact V e<|V (bC ..)<|V (b ..) rfl⟩
 have f:UR (sL<|aR n a)=a.map sL:=by
  unfold UR
  refine V e<|V bY ?_
  have:=acF (n:=n) a []
  simp only[jt,l7] at this
  exact this
 unfold F1
 split
 ·rename_i o
  exfalso
  have o:=eq_of_beq o
  rw[e] at o
  cases a with
  |nil=>cases o
  |cons r a=>
   have d:=congrArg alC o
   simp only[AU,AW,ee,List.head?_cons,LU,B9,pQ,true_and] at d
   rw[aQ,jb] at d
   have:0<n.length:=by rcases c with rfl|rfl<;>decide
   rw[bQ,bQ] at d
   exact la 0xc0458500470828a1820 [_,_,_] rfl d this
 ·exact f
noncomputable def u_(s f:H)(g d i:Nat)(q:Array Nat×Nat):Array Nat×Nat:=if ((q.1.size<d/\q.2<=i)/\i+f.length<=g)/\xx s f i=true then(q.1.push i,i+f.length) else q
noncomputable def mU(s f:H)(g d:Nat):Nat->Nat->Array Nat×Nat->Array Nat×Nat
 |_,0,q=>q
 |c,m+1,q=>mU s f g d (c+1) m<|u_ s f g d c q
theorem DI(s f:H)(g d:Nat):∀(m c:Nat) (q:Array Nat×Nat),(forIn (Gb c m) q<|occBody s f g d).run=mU s f g d c m q
 |0,_,_=>rfl
 |m+1,c,(a,b)=>by
  refine V Vb<|V (Co ..) ?_
  unfold occBody
  refine(?_:_=mU s f g d (c+1) m (u_ s f g d c (a,b)))
  unfold u_
  by_cases e:((a.size<d/\b<=c)/\c+f.length<=g)/\xx s f c=true
  ·simp only[e,and_self,if_true]
   exact DI s f g d m (c+1) _
  ·simp only[e,if_false]
   exact DI s f g d m (c+1) _
theorem Ip(s f:H)(g d:Nat)(h:Nat)(b:Nat)(c:Nat)(q:Array Nat×Nat):mU s f g d c (h+b) q=mU s f g d (c+h) b (mU s f g d c h q):=by
 induction h generalizing b c q with
 |zero=>
  refine V (pQ ..) ?_;rfl
 |succ a t=>
  have e:a+1+b=(a+b)+1:=by exact nZ _ _ _
  refine V e ?_
  refine(?_:mU s f g d (c+1) (a+b) _=mU s f g d (c+(a+1)) b (mU s f g d (c+1) a _))
  refine V (t b (c+1) ..) ?_
  congr 1;exact nZ _ _ _
theorem Iq(s f:H)(g d:Nat)(a:Nat)(c:Nat)(q:Array Nat×Nat)(j:(∀i,c<=i->i<c+a->xx s f i=false\/i<q.2\/g<i+f.length)):mU s f g d c a q=q:=by
 induction a generalizing c q with
 |zero=>
  exact rfl
 |succ m t=>
  refine(?_:mU s f g d (c+1) m (u_ s f g d c q)=q)
  have:u_ s f g d c q=q:=by
   unfold u_
   rw[if_neg]
   rintro ⟨⟨⟨_,n⟩,h⟩,p⟩
   rcases j c (bM _) (by lia) with o|o|o
   ·rw[o] at p;cases p
   ·exact la 0xc045821044860 [_,_] rfl n o
   ·exact la 0xc0450a1822044882860 [_,_,_] rfl h o
  exact V this<|
   t (c+1) q λi p n=>j i (by exact j7<|by assumption)<|by exact la 0x4b0824628600450a2091860 [_,_,_] rfl n
theorem acG(hs:f.head?=Y c)(j:xx (sL l) (sL f) i=true):l[i]?=Y c:=by
 unfold xx at j
 have j:=eq_of_beq j
 have n:=congrArg Array.toList j
 rw[aQ] at n
 have h:(l.drop i).take f.length=f:=by
  simpa[sL,Vc] using n
 have d:=congrArg alC h
 rw[hs] at d
 cases f with
 |nil=>cases hs
 |cons a b=>
  rw[cX] at d
  cases e:l.drop i with
  |nil=>rw[e] at d;cases d
  |cons x y=>
   rw[e] at d
   have g:(l.drop i)[0]?=Y x:=by refine V e ?_;rfl
   rw[vM] at g
   simp only[Cy,List.head?_cons] at d
   rw[oW] at g
   exact V g<|V d rfl
theorem acH(j:(l.drop i).take f.length=f):xx (sL l) (sL f) i=true:=by
 unfold xx
 rw[beq_iff_eq]
 apply alB
 refine V (aQ ..) ?_
 simpa[sL,Vc] using j
noncomputable def rW(e:Nat):Nat->List (List Nat)->List Nat
 |_,[]=>[]
 |p,r::a=>(p+r.length)::rW e (p+r.length+e) a
theorem yD:rW e a []=[]:=rfl
theorem yE:rW e p (r::a)=(p+r.length)::rW e (p+r.length+e) a:=rfl
theorem Pp(hs:f.head?=Y c)(w:∀k∈f.tail,k≠c)(e:List (List Nat))(b:List Nat)(g:Array Nat)(j:(∀r∈e,c∉r))(v:g.size+e.length<=d):mU (sL<|b++aR f e) (sL f) (b++aR f e).length d b.length ((aR f e).length+1) (g,b.length)=(g++(rW f.length b.length e).toArray,(b++aR f e).length):=by
 induction e generalizing b g with
 |nil=>
  have h:0<f.length:=by cases f with
   |nil=>cases hs
   |cons _ _=>simp
  have:aR f []=[]:=rfl
  refine V this<|V (iH ..) ?_
  simp only[l7,pQ,yD,yE]
  refine V (Iq _ _ _ _ _ _ _ λi p n=> .inr<|.inr<|by refine V (aQ ..) ?_;(clear n;exact la 0x4b0a08a10448a1045810 [_,_,_] rfl h p)) ?_
  simp
 |cons r a t=>
  have y:=j r aZ
  have h:0<f.length:=by cases f with
   |nil=>cases hs
   |cons _ _=>simp
  rw[cX] at v
  have z:(aR f (r::a)).length+1=r.length+(1+((f.length-1)+((aR f a).length+1))):=by refine V (jb ..) ?_;simp;exact dK (la 0x4a0820824638118824420a3862047842460 [_,_,_,_] rfl<|aY<|la 0x4a811045810 [_] rfl h)<|la 0x4a0910828e18820820918e0462046842460 [_,_,_,_] rfl<|aY<|la 0x4a811045810 [_] rfl h
  refine V z<|V (Ip ..)<|V (Ip ..)<|V (Ip ..) ?_
  have m:mU (sL<|b++aR f (r::a)) (sL f) (b++aR f (r::a)).length d b.length r.length (g,b.length)=(g,b.length):=Iq _ _ _ _ _ _ _ λi p n=> .inl (by
   cases o:xx (sL<|b++aR f (r::a)) (sL f) i with
   |false=>rfl
   |true=>
    exfalso
    have:=acG hs o
    rw[jb,kJ p,pT (by exact la 0x4b8a30468028630450a2860 [_,_,_,_] rfl n<|aY p)] at this
    exact y<|m_ this)
  refine V m ?_
  have l:b++aR f (r::a)=(b++r++f)++aR f a:=by refine V (jb ..) ?_;simp
  have s:mU (sL<|b++aR f (r::a)) (sL f) (b++aR f (r::a)).length d (b.length+r.length) 1 (g,b.length)=(g.push<|b.length+r.length,b.length+r.length+f.length):=by
   refine(?_:u_ _ _ _ _ _ _=_)
   unfold u_
   rw[if_pos]
   ·exact V (aQ ..) rfl
   ·refine⟨⟨⟨by refine(?_:g.size<d);exact la 0x4b8a0044882091860 [_,_,_] rfl v,by refine(?_:b.length<=_);exact pZ _ _⟩,?_⟩,?_⟩
    ·refine V (aQ ..) (V l ?_);simp;lia
    ·refine acH ?_
     have A:b++aR f (r::a)=(b++r)++(f++aR f a):=by refine V (jb ..) ?_;simp
     refine V A ?_
     have B:b.length+r.length=(b++r).length:=by simp
     exact V B<|V Gm<|V Mq rfl
  refine V s ?_
  have q:mU (sL<|b++aR f (r::a)) (sL f) (b++aR f (r::a)).length d (b.length+r.length+1) (f.length-1) (g.push<|b.length+r.length,b.length+r.length+f.length)=(g.push<|b.length+r.length,b.length+r.length+f.length):=
   Iq _ _ _ _ _ _ _ λi p n=> .inr<|.inl<|by refine(?_:i<b.length+r.length+f.length);exact la 0x4b0a40a28600469024630450a30910a2860 [_,_,_,_,_] rfl n<|aY<|la 0x4a811045810 [_] rfl h
  refine V q<|V l ?_
  have u:b.length+r.length+f.length=(b++r++f).length:=by simp;exact Cz _ _ _
  have C:b.length+r.length+1+(f.length-1)=(b++r++f).length:=by simp;exact dK (la 0x4a0828638828024428e2046842460 [_,_,_,_] rfl<|aY<|la 0x4a811045810 [_] rfl h)<|la 0x4a0a00910a38820a18e2047842460 [_,_,_,_] rfl<|aY<|la 0x4a811045810 [_] rfl h
  have t:=t (b++r++f) (g.push<|b.length+r.length) (λx D=>j x<|a_ _ D)<|by simp;exact la 0x4a882842460044882091860 [_,_,_] rfl v
  refine V u<|V C<|V t ?_
  congr 1
  simp only[yD,yE]
  refine V u ?_
  simp
end
section
open Builtin Builtin.Str StrLaws
theorem acI(a:List (List Nat))(b:List Nat):(((b.length::(rW f.length b.length a).map (·+f.length)).zip<|rW f.length b.length a++[(b++aR f a).length]).map λp=>Mp (sL<|b++aR f a) p.1 p.2)=a.map sL++[sL []]:=by
 induction a generalizing b with
 |nil=>
  have:aR f []=[]:=rfl
  refine V this ?_
  simp only[yD,yE,j_,jt,List.zip_cons_cons,List.zip_nil_right,ee,iH]
  exact V (DH ..)<|V List.drop_length<|V alD rfl
 |cons r e j=>
  have c:b++aR f (r::e)=(b++r++f)++aR f e:=by refine V (jb ..) ?_;simp
  have d:b.length+r.length+f.length=(b++r++f).length:=by simp;exact Cz _ _ _
  have j:=j<|b++r++f
  simp only[yD,yE,ee,zS,List.zip_cons_cons]
  refine V c<|V d<|V j ?_
  congr 1
  refine V (DH ..) ?_
  congr 1
  have:b.length+r.length-b.length=r.length:=by exact dK (la 0x4a8a00460a2842860 [_,_,_] rfl<|aY<|la 0x4a0a1820 [_,_] rfl)<|la 0x4a8220470a2842860 [_,_,_] rfl<|aY<|la 0x4a0a1820 [_,_] rfl
  exact V this<|V (eO ..)<|V (eO ..)<|V Gm<|V Mq rfl
theorem acJ(x:H):1<=F2 x:=by unfold F2;split<;>(try split)<;>decide
theorem Ir(hs:f.head?=Y c)(l:∀k∈f.tail,k≠c)(o:F2 (sL f)=1)(e:List (List Nat))(m:∀r∈e,c∉r):xr (sL<|aR f e) (sL f)=e.map sL++[sL []]:=by
 have h:0<f.length:=by cases f with
  |nil=>cases hs
  |cons _ _=>simp
 unfold xr
 refine V (aQ ..)<|V (aQ ..)<|V o ?_
 cases e with
 |nil=>
  rw[if_pos]
  ·rfl
  ·show(decide (([]:List Nat).length<f.length)||_)=true
   simp[h]
 |cons r e=>
  have p:f.length<=(aR f (r::e)).length:=by refine V (jb ..) ?_;simp;lia
  have n:=acJ<|sL<|aR f (r::e)
  refine V (if_neg<|by simp;exact⟨gV.mp<|li 0x4a860044860 [_,_] rfl<|Li.cl p,λq=>li 0xc046420044811 [_] rfl (Li.cl n)<|Li.ce q⟩) ?_
  have g:=Pp hs l (d:=(aR f (r::e)).length+1) (r::e) [] #[] m (by
   have:∀e:List (List Nat),e.length<=(aR f e).length:=λe=>by
    induction e with
    |nil=>simp[aR]
    |cons a b j=>refine V (jb ..) ?_;simp;exact la 0x4a0828a08c24610448a1045810 [_,_,_,_] rfl h j
   have:=this (r::e)
   simp at this ⊢;exact j7<|by assumption)
  simp only[jt,l7] at g
  have i:nW (sL<|aR f (r::e)) (sL f) 0 (aR f (r::e)).length ((aR f (r::e)).length+1)=rW f.length 0 (r::e):=by
   refine V (occ_eq ..)<|V (DI ..)<|V (Gn ..)<|V g ?_
   simp
  refine V i<|V (if_neg<|by simp[yD,yE]) ?_
  unfold uy
  have:=acI (f:=f) (r::e) []
  simp only[jt,l7] at this
  exact V (aQ ..)
   this
theorem Iu(hs:f.head?=Y c)(l:∀k∈f.tail,k≠c)(e:List (List Nat))(m:∀r∈e,c∉r):
  (uy (sL<|aR f e) (nW (sL<|aR f e) (sL f) 0 (sL<|aR f e).length<|(sL<|aR f e).length+1) (sL f).length).length=e.length+1:=by
 have g:=Pp hs l (d:=(aR f e).length+1) e [] #[] m (by
  have h:0<f.length:=by cases f with
   |nil=>cases hs
   |cons _ _=>simp
  have:∀e:List (List Nat),e.length<=(aR f e).length:=λe=>by
   induction e with
   |nil=>simp[aR]
   |cons a b j=>refine V (jb ..) ?_;simp;exact la 0x4a0828a08c24610448a1045810 [_,_,_,_] rfl h j
  have:=this e
  simp at this ⊢;exact la 0x4a091860044860 [_,_] rfl this)
 simp only[jt,l7] at g
 refine V (aQ ..) ?_
 have i:nW (sL<|aR f e) (sL f) 0 (aR f e).length ((aR f e).length+1)=rW f.length 0 e:=by
  refine V (occ_eq ..)<|V (DI ..)<|V (Gn ..)<|V g ?_
  simp
 refine V i ?_
 unfold uy
 have n:∀(e:List (List Nat)) (p:Nat),(rW f.length p e).length=e.length:=λe=>by
  induction e with
  |nil=>intro p;rfl
  |cons r e j=>intro p;simp[yD,yE,j]
 simp[n]
end
inductive ET where
 |p (c:Nat)
 |q (c:Nat)
noncomputable def hx(d:Nat):Nat:=if d<10 then 48+d else 55+d
def ET.cps:ET->List Nat
 | .p c=>[c]
 | .q c=>[61,hx (c/16),hx (c%16)]
noncomputable def ET.code:ET->Nat
 | .p c=>c
 | .q c=>c
def ET.ok:ET->Prop
 | .p c=>c≠61/\lC c=false
 | .q c=>c<256
def fE(G:List ET):List Nat:=G.flatMap ET.cps
theorem oB(a b:List ET):fE (a++b)=fE a++fE b:=by unfold fE;exact V lB rfl
theorem AX(t:ET)(b:List ET):fE (t::b)=t.cps++fE b:=rfl
noncomputable def dO(M:Nat):Nat->List Nat->List (List Nat)×List Nat
 |0,l=>([],l)
 |f+1,l=>if l.length<=M then([],l) else
   if l[M-3]?=Y 61 then(l.take (M-2)::(dO M f<|l.drop<|M-3).1,(dO M f<|l.drop<|M-3).2)
   else if l[M-2]?=Y 61 then(l.take (M-1)::(dO M f<|l.drop<|M-2).1,(dO M f<|l.drop<|M-2).2)
   else((l.take (M-1)++[61])::(dO M f<|l.drop<|M-1).1,(dO M f<|l.drop<|M-1).2)
theorem pI:dO M 0 l=([],l):=rfl
theorem nJ:dO M (f+1) l=if l.length<=M then([],l) else
   if l[M-3]?=Y 61 then(l.take (M-2)::(dO M f<|l.drop<|M-3).1,(dO M f<|l.drop<|M-3).2)
   else if l[M-2]?=Y 61 then(l.take (M-1)::(dO M f<|l.drop<|M-2).1,(dO M f<|l.drop<|M-2).2)
   else((l.take (M-1)++[61])::(dO M f<|l.drop<|M-1).1,(dO M f<|l.drop<|M-1).2):=rfl
theorem Pq(d:Nat)(h:d<16):hx d≠61:=by unfold hx;split<;>lia
theorem acK{a:List ET}(h:∀t∈a,t.ok):(fE a)[(fE a).length-1]?≠Y 61:=by
 rcases CA a with rfl|⟨b,t,rfl⟩
 ·simp[fE]
 ·have g:=h t (by simp)
  refine az alE<|V Gp<|V (oB ..) ?_
  cases t with
  |p c=>have:=g.1;simp[fE,ET.cps];exact this
  |q c=>simp[fE,ET.cps];exact Pq _<|by exact la 0x4b401060045401060 [_] rfl<|lD _<|by decide
theorem Iv{a:List ET}{n:Nat}(h:∀t∈a,t.ok)(e:(fE a).length=n+1):(fE a)[n]?≠Y 61:=by
 have:=acK h
 rwa[e] at this
theorem acL{a:List ET}{n:Nat}(h:∀t∈a,t.ok)(f:(fE a).length=n+2):(fE a)[n]?≠Y 61:=by
 rcases CA a with rfl|⟨b,t,rfl⟩
 ·cases f
 ·rw[Gp] at h f ⊢
  rw[oB] at f ⊢
  rw[bQ] at f
  cases t with
  |p c=>
   have f:(fE b).length=n+1:=uA f
   refine V (pT<|f▸lz _) ?_
   exact Iv (λt g=>h t<|iF _ g) f
  |q c=>
   have f:n=(fE b).length+1:=(uA<|uA f).symm
   have u:c<256:=h _<|gw _ aZ
   refine V f<|V (kJ<|pZ _ 1)<|V (Lm ..) ?_
   exact λe=>Pq (c/16) (by exact qJ.mp<|li 0x102d00419011234011c39100418811c28e28411a0841144002060 [_,_,_,_,_] rfl (Li.ct u) (Li.ce<|xy _ _) (Li.ca _ _) (Li.cm _ _)<|Li.cp _)<|iD e
inductive wK(G:List ET)(k:Nat):Prop
 |all (a b):G=a++b->(fE a).length=k->wK G k
 |gz (a c b):G=a++ .q c::b->(fE a).length+1=k->wK G k
 |DJ (a c b):G=a++ .q c::b->(fE a).length+2=k->wK G k
theorem wK.cons{t:ET}{G:List ET}{k n:Nat}(d:t.cps.length=n)(h:wK G k):wK (t::G) (k+n):=by
 have e (a:List ET):(fE (t::a)).length=(fE a).length+n:=by exact V (AX ..)<|V bQ<|V d<|V (zq ..) rfl
 cases h with
 |all a b r p=>exact .all (t::a) b (congrArg _ r) ((e a).trans (congrArg (·+n) p))
 |gz a c b r p=>exact .gz (t::a) c b (congrArg _ r)<|by exact V (e ..)<|az p<|V (nZ ..) rfl
 |DJ a c b r p=>exact .DJ (t::a) c b (congrArg _ r)<|by exact V (e ..)<|az p<|V (nZ ..) rfl
theorem acM(G:List ET)(k:Nat)(h:k<=(fE G).length):wK G k:=by
 induction G generalizing k with
 |nil=>exact .all [] [] rfl (Nat.le_zero.mp h).symm
 |cons t G v=>
  cases k with
  |zero=>exact .all [] _ rfl rfl
  |succ k=>
   cases t with
   |p c=>exact(v k<|alF h).cons (n:=1) rfl
   |q c=>
    cases k with
    |zero=>exact .gz [] c G rfl rfl
    |succ k=>
     cases k with
     |zero=>exact .DJ [] c G rfl rfl
     |succ k=>exact(v k<|Nat.le_of_add_le_add_right (b:=3) h).cons (n:=3) rfl
inductive BL(M n:Nat)(G:List ET):Prop
 |mk (j:List (List ET)) (s:List ET):dO M n (fE G)=(j.map λt=>fE t++[61],fE s)->j.flatten++s=G->(∀t∈j,(fE t).length+1<=M)->(fE s).length<=M->(fE G≠[]->fE s≠[])->BL M n G
theorem Pr{L X:List Nat}{x n:Nat}(h:L.length=n):(L++x::X).take (n+1)=L++[x]:=by
 subst h
 refine V List.take_append (V (Lm ..)<|V (Cu<|sH _) ?_);rfl
theorem Pu{L X:List Nat}{x n:Nat}(h:L.length=n):(L++x::X)[n]?=Y x:=by
 subst h
 refine V (kJ<|bM _) (V (Fx ..) ?_);rfl
theorem Pw{M:Nat}(x:4<=M)(n:Nat)(G:List ET)(h:∀t∈G,t.ok)(f:(fE G).length<=n):BL M n G:=by
 obtain⟨m,rfl⟩:∃m,M=m+3:=⟨M-3,by exact dK (la 0x4a0938210478424e0 [_,_] rfl<|aY<|la 0x4a813044814 [_] rfl x)<|la 0x4a8424e00468424e0 [_,_] rfl<|aY<|la 0x4a813044814 [_] rfl x⟩
 have z:0<m:=Nat.lt_of_add_lt_add_right (n:=3) x
 induction n generalizing G with
 |zero=>exact⟨[],G,rfl,rfl,(λ_ h=>nomatch h),ic f<|eL _,id⟩
 |succ n v=>
  by_cases hs:(fE G).length<=m+3
  ·exact⟨[],G,if_pos hs,rfl,(λ_ h=>nomatch h),hs,id⟩
  have o:m+2<(fE G).length:=Nat.lt_of_succ_lt<|Fg hs
  have y (a b:List ET) (e:G=a++b) (r:0<(fE a).length) (p:(fE a).length<=m+2) (A:dO (m+3) (n+1) (fE a++fE b)=((fE a++[61])::(dO (m+3) n<|fE b).1,(dO (m+3) n<|fE b).2)):BL (m+3) (n+1) G:=by
   subst e
   rw[oB,bQ] at f o
   have B:fE b≠[]:=λC=>by rw[C] at o;exact absurd (FW o p)<|zw _
   obtain⟨j,s,D,E,I,J,K⟩:=v b (λt g=>h t<|gw _ g)<|by exact la 0x4a8a1044091882860045810 [_,_,_] rfl r f
   refine⟨a::j,s,by refine V (oB ..) (V A<|V D ?_);rfl,by exact V nc<|V (eO ..)<|V E rfl,λt g=>?_,J,λ_=>K B⟩
   refine bN g ?_ λg=>?_
   ·exact alG p
   ·exact I t g
  have q (l:List Nat) (f:¬l.length<=m+3):dO (m+3) (n+1) l=if l[m]?=Y 61 then(l.take (m+1)::(dO (m+3) n<|l.drop m).1,(dO (m+3) n<|l.drop m).2)
    else if l[m+1]?=Y 61 then(l.take (m+2)::(dO (m+3) n<|l.drop<|m+1).1,(dO (m+3) n<|l.drop<|m+1).2) else((l.take (m+2)++[61])::(dO (m+3) n<|l.drop<|m+2).1,(dO (m+3) n<|l.drop<|m+2).2):=if_neg f
  have left {L X:List Nat} {k i:Nat} (e:L.length=k) (N:i<k):(L++X)[i]?=L[i]?:=pT<|e▸N
  cases acM G (m+2) (j7 o) with
  |all a b e d=>
   have w:∀t∈a,t.ok:=λt g=>h t<|e▸iF _ g
   rw[e,oB] at hs
   exact y a b e (d▸oY _) (Le d)<|by exact V (q _ hs)<|V (left d<|akN<|lz _)<|V (if_neg<|acL w d)<|V (left d<|lz _)<|V (if_neg<|Iv w d)<|V (List.take_left' d)<|V (Mr d) rfl
  |gz a c b e d=>
   have d:=uA d
   have w:∀t∈a,t.ok:=λt g=>h t<|e▸iF _ g
   rw[e,oB] at hs
   have u:fE (.q c::b)=61::hx (c/16)::hx (c%16)::fE b:=rfl
   exact y a _ e (d▸oY _) (d▸sH _)<|by exact V (q _ hs)<|V (left d<|lz _)<|V (if_neg<|Iv w d)<|V u<|V (Pu d)<|V (if_pos rfl)<|V (Pr d)<|V (Mr d) rfl
  |DJ a c b e d=>
   have d:=uA<|uA d
   rw[e,oB] at hs
   have u:fE (.q c::b)=61::hx (c/16)::hx (c%16)::fE b:=rfl
   exact y a _ e (d▸z) (d▸pZ _ _)<|by exact V (q _ hs)<|V u<|V (Pu d)<|V (if_pos rfl)<|V (Pr d)<|V (Mr d) rfl
structure RW where
 ts:List ET
 soft:Bool
def RW.bO(r:RW):List Nat:=fE r.ts++(if r.soft=true then[61] else[])
def RW.dh(r:RW):List Nat:=r.ts.map ET.code++(if r.soft=true then[] else[10])
def ET.kq:ET->Prop
 | .p c=>c≠61/\(c=9\/(32<=c/\c<127))
 | .q c=>c<256
theorem Px(c:Nat)(h:c=9\/(32<=c/\c<127)):lC c=false:=by
 have:∀c:Fin 127,(c.1=9\/32<=c.1)->lC c.1=false:=by decide+kernel
 rcases h with rfl|h
 ·decide+kernel
 ·exact this ⟨c,h.2⟩<|.inr h.1
theorem ET.kq.ok{t:ET}(h:t.kq):t.ok:=by
 cases t with
 |p c=>exact⟨h.1,Px c h.2⟩
 |q c=>exact h
def vd(l:List Nat):Prop:=∀z,l.getLast?=Y z->z≠32/\z≠9
def lO(M:Nat)(n r:List Nat):List Nat:=match r.getLast? with
 |some z=>if z=32\/z=9 then
   if r.length+2<=M then r.dropLast++[61,hx (z/16),hx (z%16)]
   else if r.length+1=M then r.dropLast++([z]++([61]++n))
   else r.dropLast++(([61]++n)++[61,hx (z/16),hx (z%16)])
  else r
 |none=>r
structure AY(M:Nat)(b:List RW)(G:List ET):Prop where
 qp:∀r∈b,r.bO.length<=M/\vd r.bO/\∀t∈r.ts,t.kq
 Iw:∃c a,b=c++[a]/\(∀r∈c,r.soft=true)/\a.soft=false
 Py:(b.flatMap RW.ts).map ET.code=G.map ET.code
theorem AY.dh{M:Nat}{b:List RW}{G:List ET}(g:AY M b G):b.flatMap RW.dh=G.map ET.code++[10]:=by
 refine o9 g.Iw λc a d w f=>?_;subst d
 refine az g.Py<|V lB<|V lB<|V gZ ?_
 have e:c.flatMap RW.dh=(c.flatMap RW.ts).map ET.code:=by
  have:∀l:List RW,(∀r∈l,r.soft=true)->l.flatMap RW.dh=(l.flatMap RW.ts).map ET.code:=λl=>by
   induction l with
   |nil=>intro _;rfl
   |cons r l i=>
    intro h
    refine V fQ<|V fQ<|V gZ<|V (i λx hx=>h x<|a_ _ hx) ?_
    unfold RW.dh
    refine V (h r aZ) ?_;simp
  exact this c w
 refine V e ?_
 have p:([a].flatMap RW.dh)=([a].flatMap RW.ts).map ET.code++[10]:=by simp[RW.dh,f]
 exact V p<|V (eO ..) rfl
theorem Iz(l:List Nat):vd (l++[61]):=λz h=>by
 rw[zT] at h
 simp at h;subst h;decide
theorem Pz{a:List ET}{c:Nat}:(fE<|a++[.p c]).getLast?=Y c/\(fE<|a++[.p c]).dropLast=fE a:=by
 refine V (oB ..) ?_
 have:fE [ET.p c]=[c]:=rfl
 refine V this ?_
 simp
theorem acN(d:Nat)(h:d<16):hx d≠32/\hx d≠9:=by unfold hx;split<;>lia
theorem IA{a:List ET}{c:Nat}(h:c<256):vd (fE<|a++[.q c]):=by
 intro z g
 rw[oB] at g
 have:fE [ET.q c]=[61,hx (c/16),hx (c%16)]:=rfl
 rw[this,zT] at g
 simp at g;subst g
 exact acN _<|by exact la 0x4b401060045401060 [_] rfl<|lD _<|by decide
theorem acO{M:Nat}(G:4<=M)(n:List Nat)(i:List ET)(p:(fE i).length<=M)(q:∀t∈i,t.kq):
  ∃b,aR n [lO M n (fE i)]=aR n (b.map RW.bO)/\AY M b i:=by
 have j:∀e:List ET,(fE e).length<=M->vd (fE e)->(∀t∈e,t.kq)->e.map ET.code=i.map ET.code->lO M n (fE i)=fE e->∃b,aR n [lO M n (fE i)]=aR n (b.map RW.bO)/\AY M b i:=λe w f m C D=>by
  refine ah [⟨e,false⟩] (by refine V D ?_;simp[aR,RW.bO]) ⟨λr k=>?_,(gx [] _ rfl (λ_ h=>nomatch h) rfl),by simpa using C⟩
  refine V (bH.mp k) ?_
  exact bJ (by simpa[RW.bO] using w) (by simpa[RW.bO] using f) m
 rcases CA i with rfl|⟨a,t,rfl⟩
 ·refine j [] (by simp[fE]) (λz h=>by simp[fE] at h) (λ_ h=>nomatch h) rfl rfl
 ·have E:=q t (by simp)
  have A:∀x∈a,x.kq:=λx hx=>q x<|by simp[hx]
  cases t with
  |q c=>
   have s:=IA (a:=a) (c:=c) E
   refine j (a.concat<|.q c) p (by simpa using s) q rfl ?_
   unfold lO
   split
   ·rename_i z g
    have:=s z<|by simpa using g
    exact V (if_neg λu=>u.elim this.1 this.2) rfl
   ·rfl
  |p c=>
   have v:(fE<|a.concat<|.p c).getLast?=Y c:=by simpa using(Pz (a:=a) (c:=c)).1
   have y:(fE<|a.concat<|.p c).dropLast=fE a:=by simpa using(Pz (a:=a) (c:=c)).2
   have B:(fE<|a.concat<|.p c).length=(fE a).length+1:=by simp[oB,fE,ET.cps]
   have I:fE (a.concat<|.p c)=fE a++[c]:=by simp[oB,fE,ET.cps]
   by_cases o:c=32\/c=9
   ·have d:c<256:=by lia
    have l:((a++[ET.q c]).map ET.code)=(a.concat<|.p c).map ET.code:=by simp[ET.code]
    by_cases f:(fE<|a.concat<|.p c).length+2<=M
    ·refine j (a++[.q c]) ?_ (IA d) (λx hx=>?_) l ?_
     ·refine V (oB ..) ?_;simp[fE,ET.cps] at B f ⊢;assumption
     ·rcases cj.mp hx with hx|hx
      ·exact A x hx
      ·refine V (bH.mp hx) ?_;exact d
     ·unfold lO
      refine V v ?_
      simp only
      refine V (if_pos o) (V (if_pos f)<|V y<|V (oB ..) ?_);rfl
    ·by_cases m:(fE<|a.concat<|.p c).length+1=M
     ·refine ah [⟨a.concat<|.p c,true⟩,⟨[],false⟩] ?_ ⟨λr k=>?_,(gx [⟨a.concat<|.p c,true⟩] _ rfl (λr k=>by exact V (bH.mp k) rfl) rfl),by simp⟩
      ·unfold lO
       refine V v ?_
       simp only
       refine V (if_pos o)<|V (if_neg f)<|V (if_pos m)<|V y ?_
       simp[aR,RW.bO,fE,ET.cps]
      ·refine ni k ?_ ?_
       ·exact bJ (by simp[RW.bO] at m ⊢;exact la 0x4a842460046842460 [_,_] rfl m) (by simpa[RW.bO] using Iz _) q
       ·exact bJ (by simp[RW.bO,fE]) (λz h=>by simp[RW.bO,fE] at h) λ_ h=>nomatch h
     ·refine ah [⟨a,true⟩,⟨[.q c],false⟩] ?_ ⟨λr k=>?_,(gx [⟨a,true⟩] _ rfl (λr k=>by exact V (bH.mp k) rfl) rfl),by simp[ET.code]⟩
      ·unfold lO
       refine V v ?_
       simp only
       refine V (if_pos o)<|V (if_neg f)<|V (if_neg m)<|V y ?_
       simp[aR,RW.bO,fE,ET.cps]
      ·refine ni k ?_ ?_
       ·exact bJ (by simp[RW.bO];(clear f;exact la 0x4a8424620470918a0044860 [_,_,_] rfl p B)) (by simpa[RW.bO] using Iz _) A
       ·refine bJ (by simp[RW.bO,fE,ET.cps];exact j7<|by assumption) ?_ (λx hx=>by refine V (bH.mp hx) ?_;exact d)
        have:=IA (a:=[]) d
        simpa[RW.bO] using this
   ·refine j (a.concat<|.p c) p ?_ q rfl ?_
    ·intro z g
     rw[v] at g
     have:c=z:=iD g
     subst this
     exact⟨λu=>o<|.inl u,λu=>o<|.inr u⟩
    ·unfold lO
     refine V v ?_
     simp only
     exact V (if_neg o) rfl
def jY(M:Nat)(n l:List Nat):List (List Nat):=(dO M l.length l).1++[lO M n (dO M l.length l).2]
theorem DK(n:List Nat)(a b:List (List Nat)):aR n (a++b)=aR n a++aR n b:=by unfold aR;exact V gZ<|V U0 rfl
theorem acP{M:Nat}(j:4<=M)(n:List Nat)(G:List ET)(h:∀t∈G,t.kq):∃a,aR n (jY M n<|fE G)=aR n (a.map RW.bO)/\AY M a G:=by
 obtain⟨d,s,u,k,v,w,y⟩:=Pw j (fE G).length G (λt b=>(h t b).ok)<|bM _
 have l:∀t∈d,∀x∈t,x.kq:=λt b x hx=>h x<|by refine az k ?_;exact iF _<|Ms.mpr<|ah t b hx
 refine aD (acO j n s w λx hx=>h x<|by refine az k ?_;exact gw _ hx) λa e g=>?_
 refine ah (d.map (λt=>⟨t,true⟩)++a) ?_ ⟨λr c=>?_,?_,?_⟩
 ·unfold jY
  refine V u ?_
  simp only
  refine V (DK ..)<|V e<|V gZ<|V (DK ..)<|V bY ?_
  rfl
 ·rcases cj.mp c with c|c
  ·refine aD (bg.mp c) λt b m=>?_;subst m
   exact bJ (by simp[RW.bO];exact v t b) (by simpa[RW.bO] using Iz _)<|l t b
  ·exact g.qp r c
 ·refine o9 g.Iw λi f o p q=>?_
  refine gx (d.map (λt=>⟨t,true⟩)++i) f (by exact V o<|V (eO ..) rfl) (λr c=>?_) q
  rcases cj.mp c with c|c
  ·refine aD (bg.mp c) λt b m=>?_;subst m;rfl
  ·exact p r c
 ·refine V lB (V gZ<|V g.Py<|az k<|V gZ ?_)
  have q:(d.map λt=>(⟨t,true⟩:RW)).flatMap RW.ts=d.flatten:=by
   unfold List.flatMap
   refine V bY ?_
   have:(RW.ts∘λt=>(⟨t,true⟩:RW))=id:=rfl
   exact V this<|V (CB ..) rfl
  exact V q rfl
structure PA(M:Nat)(a:List RW):Prop where
 qp:∀r∈a,r.bO.length<=M/\vd r.bO/\∀t∈r.ts,t.kq
theorem acQ{M:Nat}(j:4<=M)(n:List Nat)(b:List (List ET))(h:(∀G∈b,∀t∈G,t.kq)):∃a,aR n ((b.map λG=>jY M n<|fE G).flatten)=aR n (a.map RW.bO)/\PA M a/\a.flatMap RW.dh=aR [10] (b.map (·.map ET.code))/\(b≠[]->a≠[]):=by
 induction b with
 |nil=>
  exact fG [] rfl ⟨λ_ h=>nomatch h⟩ rfl λh=>absurd rfl h
 |cons G d k=>
  refine aD (acP j n G<|h G aZ) λl o g=>?_
  refine xH (k λx hx=>h x<|a_ _ hx) λm p s u _=>?_
  refine fG (l++m) ?_ ⟨λr c=>?_⟩ ?_ λ_ q=>?_
  ·exact V ee<|V nc<|V (DK ..)<|V o<|V p<|V gZ<|V (DK ..) rfl
  ·rcases cj.mp c with c|c
   ·exact g.qp r c
   ·exact s.qp r c
  ·exact V lB<|V g.dh<|V u<|V ee<|V (jb ..)<|V (eO ..) rfl
  ·refine sU g.Iw λi f e _=>?_
   rw[e] at q;simp at q
theorem RW.free{r:RW}(h:∀t∈r.ts,t.kq):∀k∈r.bO,lC k=false/\k≠10/\k≠13:=by
 have j:∀k,(k=61\/k=9\/(32<=k/\k<127))->lC k=false/\k≠10/\k≠13:=λk a=>by
  refine bJ ?_ (by lia)<|by lia
  rcases a with rfl|a
  ·decide+kernel
  ·exact Px k a
 intro k a
 rcases cj.mp a with a|a
 ·skip
  refine aD (xA.mp a) λt b e=>?_
  have:=h t b
  cases t with
  |p c=>
   rewrite[bH.mp e]
   exact j c<|.inr this.2
  |q c=>
   have g:c<256:=this
   have f:∀d,d<16->32<=hx d/\hx d<127:=λd i=>by unfold hx;split<;>lia
   simp only[ET.cps,iX,lW,or_false] at e
   rcases e with rfl|rfl|rfl
   ·exact j _<|.inl rfl
   ·exact j _<|.inr<|.inr<|f _<|by exact qJ.mp<|li 0x102d00419011234011c39100418811c28e28411a0841144002060 [_,_,_,_,_] rfl (Li.ct g) (Li.ce<|xy _ _) (Li.ca _ _) (Li.cm _ _)<|Li.cp _
   ·exact j _<|.inr<|.inr<|f _<|by exact la 0x4b401060045401060 [_] rfl<|lD _<|by decide
 ·split at a
  ·rewrite[bH.mp a];exact j _<|.inl rfl
  ·cases a
section
open IR
noncomputable def AZ(k:Nat):Bool:=k==9||(32<=k&&k<=60)||(62<=k&&k<127)
def qs(k:Nat):H:=sL [61,hx (k/16),hx (k%16)]
theorem PC:Di=(l_ 256).map qs:=by decide+kernel
theorem IB:mQ=(l_ 256).map λk=>if AZ k=true\/k=10\/k=13 then sL [k] else qs k:=by decide+kernel
theorem acR{k:Nat}(a:k<256):(Di.map oU)[k]?=Y (.str<|qs k):=by
 refine V PC (V bY<|V iW<|V (Mt a) ?_);rfl
theorem PD(w:aC)(k:Nat)(a:k<256):iN w 1 (.ref 145) [.s (sL [k])] (.s<|qs k):=by
 refine pB (cP:=[.s (sL [k])]) abR (by kernel_rfl) (abS rfl) rfl (by decide) λc h ok b j l=>?_
 refine fZ ok b aaK (q:=⟨[Y (.s<|sL [k])],[]⟩)<|WSs.c ?_
 walk_at "w"
 refine eS _ rfl _ rfl rfl<|ah _ rfl ?_
 refine WL.ord ?_
 refine(WL.u7 ⟨?_,.inl<|bR (by lia) (.str<|qs k) ?_<|.inl rfl⟩)
 ·refine V PC (V bI ?_);simp
 ·refine V (gY ..) ?_;exact acR a
theorem acS(w:aC)(k:Nat)(a:k<256):iN w 1 (.ref 138) [.s (qs k)] (.s<|sL [k]):=by
 refine pB (cP:=[.s (qs k)]) abP (by kernel_rfl) (abQ rfl) rfl (by decide) λc h ok b j l=>?_
 refine fZ ok b aaI (q:=⟨[Y (.s<|qs k)],[]⟩)<|WSs.c ?_
 walk_at "w"
 refine cJ _ rfl rfl _ rfl<|bR rfl _ rfl<|fH _ _ _ rfl (by refine V bI ?_;show 3<=16777216;decide) rfl rfl ?_
 have hs:sD (qs k) (Y 1) (Y 3)=⟨#[hx (k/16),hx (k%16)]⟩:=by
  unfold qs
  refine V (AH ..) ?_;rfl
 refine V hs ?_
 have f:∀d:Fin 16,hx d.1∈om/\mK (hx d.1)=d.1:=by decide+kernel
 have g:=f ⟨k/16,by exact qJ.mp<|li 0x102d00419011234011c39100418811c28e28411a0841144002060 [_,_,_,_,_] rfl (Li.ct a) (Li.ce<|xy _ _) (Li.ca _ _) (Li.cm _ _)<|Li.cp _⟩
 have i:=f ⟨k%16,by exact la 0x4b401060045401060 [_] rfl<|lD _<|by decide⟩
 refine WL.aaw g.1 i.1 ?_
 have e:mK (hx<|k/16)*16+mK (hx<|k%16)=k:=by
  refine V g.2 (V i.2 ?_);simp only[];lia
 refine V e ?_
 exact WL.chr (by lia) (by exact li 0x4a10ffff101801144002060 [_] rfl<|Li.ct a)<|.inl rfl
def jc(l:List Nat):af:= .str<|sL l
theorem lP(a b:Nat):(([a]:List Nat)==[b])=decide (a=b):=by rw[zM];simp
theorem A0(l:List Nat)(a b:Nat)(e:a<=b)(j:b<=l.length):sD (sL l) (Y (a:Int)) (Y (b:Int))=sL ((l.drop a).take<|b-a):=by
 refine V (AH ..) ?_
 have f:d7 l.length (Y (b:Int)) l.length=b:=u6<|by assumption
 have i:d7 l.length (Y (a:Int)) 0=a:=u6<|la 0x4a8a00448a1044860 [_,_,_] rfl e j
 exact V f<|V i<|V Gg rfl
theorem acT(l:List Nat)(a:Nat)(o:a<l.length):sD (sL l) (Y (a:Int)) (Y<|-1)=sL ((l.drop a).dropLast):=by
 refine V (AH ..) ?_
 have f:d7 l.length (Y<|-1) l.length=l.length-1:=aah _ _
 have i:d7 l.length (Y (a:Int)) 0=a:=u6<|j7 o
 refine V f<|V i<|V Gg<|V List.dropLast_eq_take<|V kM ?_
 congr 2;lia
theorem acU(l:List Nat)(o:l.getLast?=Y k):(Cc (sL l)<|-1).isSome=true/\FD (sL l) (-1)=sL [k]:=by
 have b:l≠[]:=by intro e;subst e;cases o
 have a:0<l.length:=zU.mpr b
 have hs:(Cc (sL l)<|-1)=Y k:=by
  unfold Cc
  have f:Lx (-1) (sL l).length=Y (l.length-1):=by
   refine V (aQ ..) ?_
   unfold Lx
   have e:(if (-1:Int)<0 then(-1:Int)+l.length else-1)=((l.length-1:Nat):Int):=by refine V (if_pos<|by decide) ?_;exact lA (li 0x12a00a13910473d1860 [_,_] rfl<|jT<|gV.mp<|li 0x4a811045810 [_] rfl<|Li.ct a)<|li 0x128284e4600463d1860 [_,_] rfl<|jT<|gV.mp<|li 0x4a811045810 [_] rfl<|Li.ct a
   simp only[e]
   exact V (if_pos<|by simp;exact la 0x4b860046842460 [_,_] rfl<|aY<|la 0x4a811045810 [_] rfl a)<|V (gY ..) rfl
  refine V f ?_
  refine(?_:(sL l).cps[l.length-1]?=Y k)
  refine az oV (V (fq ..)<|az alE ?_);exact o
 exact⟨by refine V hs ?_;rfl,by unfold FD;refine V hs ?_;rfl⟩
theorem A2(l:List Nat)(k:Nat):rA (sL l) (sL [k])=decide (k∈l):=by
 unfold rA
 have:=empty_one (sL l) k
 rw[fq] at this
 refine(?_:(!(nW (sL l) ⟨#[k]⟩ 0 (sL l).length 1).isEmpty)=_)
 exact V this<|V (Bool.not_not ..) rfl
theorem PE(n:List Nat):∀(a:List (List Nat)),uC (sL n) ((a++[[]]).map sL)=sL (aR n a)
 |[]=>rfl
 |[p]=>by
  refine(?_:sL p++sL n++sL []=_)
  (rewrite[d9];refine V (d9 ..) ?_);simp[aR]
 |p::b::a=>by
  have e:=PE n (b::a)
  refine(?_:sL p++sL n++uC (sL n) (((b::a)++[[]]).map sL)=_)
  (refine V e ?_;rewrite[d9];refine V (d9 ..)<|V (jb n p ..) ?_)
  simp
theorem acV(n:List Nat)(a:List (List Nat)):Ci (sL n) ((a++[[]]).map sL)=sL (aR n a):=by
 exact az (PE ..)<|
  Vd _ _
namespace WL
variable {q:St} {Q:PQ} {B:Bool->St->Prop}
theorem uM(o:l.getLast?=Y k)(a:Q (.s<|sL [k]) q):jB w d (.s<|sL l) (.i<|-1) q Q:=by
 refine Ea (acU l o) λb e=>?_
 exact OR<|bJ (by decide+kernel) b<|by refine V e ?_;exact a
end WL
theorem wL:("=":H)=sL [61]:=by decide+kernel
theorem acW:(" \t":H)=sL [32,9]:=by decide+kernel
theorem ID:("\r\n":H)=sL [13,10]:=by decide+kernel
theorem tG:("\n":H)=sL [10]:=by decide+kernel
def DL:Ss:=(.k (.aT (.k (.n 10) .z)<|.aI .Add (.v 8)<|.v 4)<|.k (.ck (.bx .Eq (.sub (.v 7)<|.aI .Sub (.v 10)<|.c<|.int 2)<|.c<|.str "=") (.k (.ex<|.lJ 6<|.jD (.v 7) (.x<|.v 8)<|.x<|.aI .Sub (.v 10)<|.c<|.int 1)<|.k (.aT (.k (.n 8) .z)<|.aI .Sub (.v 10)<|.c<|.int 2) .z)<|.k (.ck (.bx .Eq (.sub (.v 7)<|.aI .Sub (.v 10)<|.c<|.int 1)<|.c<|.str "=") (.k (.ex<|.lJ 6<|.jD (.v 7) (.x<|.v 8)<|.x<|.v 10)<|.k (.aT (.k (.n 8) .z)<|.aI .Sub (.v 10)<|.c<|.int 1) .z)<|.k (.ex<|.lJ 6<|.aI .Add (.jD (.v 7) (.x<|.v 8)<|.x<|.v 10)<|.c<|.str "=")<|.k (.aT (.k (.n 8) .z)<|.v 10) .z) .z) .z)
def DM:T:= .bx .LtE (.v 8)<|.v 9
def qt(D n g:H)(M:Nat)(l:List Nat)(a:Nat)(i c h:Option AV)(xs:List af):St:=
 ⟨[Y (.s D),Y (.i M),Y (.s n),Y (.s g),Y (.i<|(M:Int)-1),Y (.m 0),Y (.ap 0),Y (.s<|sL l),Y (.i a),Y (.i<|(l.length:Int)-1-M),i,c,h],[Y (.ai xs)]⟩
section
variable {w:aC} {d M:Nat} {D n g:H} {l:List Nat} {c h:Option AV}
theorem acX(j:4<=M)(p:M<=100)(L:l.length<=10000)(U:xs.length<=100000)(f:M<(l.drop a).length)
  (b:(if (l.drop a)[M-3]?=Y 61 then((l.drop a).take<|M-2,a+(M-3)) else if (l.drop a)[M-2]?=Y 61 then((l.drop a).take<|M-1,a+(M-2)) else((l.drop a).take (M-1)++[61],a+(M-1)))=(A,R))
  (o:Q .nx (qt D n g M l R (Y<|.i ((a+(M-1):Nat):Int)) c h<|xs++[jc A])):WSs w d DL (qt D n g M l a i c h xs) Q:=by
 have C:=bI
 rw[kM] at f
 have r:∃k,l[a+(M-3)]?=Y k:=⟨_,fM<|by(clear j p;exact la 0x4b8c29220448240468c28a1045860 [_,_,_,_,_] rfl f (La.sp f)<|qW _ _)⟩
 have s:∃k,l[a+(M-2)]?=Y k:=⟨_,fM<|by(clear j p;exact la 0x4b8c29220448240468c28a1045860 [_,_,_,_,_] rfl f (La.sp f)<|qW _ _)⟩
 refine Ex r λx r=>
  Ex s λy s=>?_
 rw[vM,vM,r,s] at b
 have stop:((a:Int)+((M:Int)-1))=((a+(M-1):Nat):Int):=by exact lA (li 0x4a8023d18e10473d18e20470a2860 [_,_,_,_] rfl (Li.ca _ _)<|jT<|gV.mp<|li 0x4a811044814 [_] rfl<|Li.cl j)<|li 0x4a08f4638600463d18e20460a2860 [_,_,_,_] rfl (Li.ca _ _)<|jT<|gV.mp<|li 0x4a811044814 [_] rfl<|Li.cl j
 have E:(((a+(M-1):Nat):Int)-2)=((a+(M-3):Nat):Int):=by exact lA (li 0x4a8cf4a20473d38640470a48230478823d1860 [_,_,_,_,_] rfl stop (Li.ca _ _)<|jT<|gV.mp<|li 0x4a813044814 [_] rfl<|Li.cl j)<|li 0x4a3d28a30463d38640460a48230468823d1860 [_,_,_,_,_] rfl stop (Li.ca _ _)<|jT<|gV.mp<|li 0x4a813044814 [_] rfl<|Li.cl j
 have z:(((a+(M-1):Nat):Int)-1)=((a+(M-2):Nat):Int):=by exact lA (li 0x4a8cf4620473d28640470a48230478823d1860 [_,_,_,_,_] rfl stop (Li.ca _ _)<|jT<|gV.mp<|li 0x4a812044814 [_] rfl<|Li.cl j)<|li 0x4a3d18a30463d28640460a48230468823d1860 [_,_,_,_,_] rfl stop (Li.ca _ _)<|jT<|gV.mp<|li 0x4a812044814 [_] rfl<|Li.cl j
 refine WSs.c ?_
 walk_at "w"
 refine bG _ rfl _ rfl<|WL.fK<|WSs.c<|
  V stop ?_
 walk_at "w"
 refine bG _ rfl _ rfl<|WL.pH<|
  V E (
  WL.lM (by exact la 0x4aee6b280050429230468424e40468028e20458a104409c403060 [_,_,_,_,_] rfl L f (La.sp f)<|aY<|la 0x4a813044814 [_] rfl j) r (WL.nG<|WL.tB ?_))
 have t:(sL [x]==("=":H))=decide (x=61):=by exact V wL<|V (iO ..)<|V (lP ..) rfl
 refine V t ?_
 by_cases G:x=61
 ·clear t r;subst G
  simp only[if_true,B9] at b
  refine Ea b λu m=>?_;clear b;subst u;subst m
  refine WL.cy (by simp)<|WSs.c ?_
  walk_at "w"
  refine nh 0 rfl _ rfl _ rfl<|ah _ rfl<|WL.pH<|
   V z ?_
  refine fH _ _ _ rfl (by refine V (aQ ..) (V C ?_);exact aK) rfl rfl<|oZ _ xs rfl rfl aK<|WSs.c ?_
  refine V (A0 l a (a+(M-2)) (pZ _ _)<|la 0x4a8c29220468024a40468c28a1045860 [_,_,_,_,_] rfl f (La.sp f)<|aY<|la 0x4a812044814 [_] rfl j) ?_
  have e:a+(M-2)-a=M-2:=by(clear stop;exact dK (la 0x4a8a00460a2842860 [_,_,_] rfl<|aY<|la 0x4a0a1820 [_,_] rfl)<|la 0x4a8220470a2842860 [_,_,_] rfl<|aY<|la 0x4a0a1820 [_,_] rfl)
  refine V e ?_
  walk_at "w"
  exact ah _ rfl<|WL.pH<|WSs.n<|WSs.n<|
   V E
   o
 ·have I:¬(Y x=Y 61):=by simpa using G
  rw[if_neg I] at b
  refine WL.bK (by simpa using G)<|WSs.c ?_
  walk_at "w"
  refine bG _ rfl _ rfl<|WL.pH<|
   V z (
   WL.lM (by exact la 0x4aee6b280050429230468424a40468028e20458a104409c403060 [_,_,_,_,_] rfl L f (La.sp f)<|aY<|la 0x4a812044814 [_] rfl j) s (WL.nG<|WL.tB ?_))
  have v:(sL [y]==("=":H))=decide (y=61):=by exact V wL<|V (iO ..)<|V (lP ..) rfl
  refine V v ?_
  have N:a+(M-1)-a=M-1:=by(clear j stop E z;exact dK (la 0x4a8a00460a2842860 [_,_,_] rfl<|aY<|la 0x4a0a1820 [_,_] rfl)<|la 0x4a8220470a2842860 [_,_,_] rfl<|aY<|la 0x4a0a1820 [_,_] rfl)
  by_cases J:y=61
  ·clear v s;subst J
   simp only[if_true,B9] at b
   refine Ea b λu m=>?_;clear b;subst u;subst m
   refine WL.cy (by simp)<|WSs.c ?_
   walk_at "w"
   refine nh 0 rfl _ rfl _ rfl<|ah _ rfl<|fH _ _ _ rfl (by refine V (aQ ..) (V C ?_);exact aK) rfl rfl<|oZ _ xs rfl rfl aK<|WSs.c ?_
   refine V (A0 l a (a+(M-1)) (pZ _ _)<|la 0x4a8c29220468024640468c28a1045860 [_,_,_,_,_] rfl f (La.sp f)<|aY<|la 0x4a811044814 [_] rfl j)<|V N ?_
   walk_at "w"
   exact ah _ rfl<|WL.pH<|WSs.n<|WSs.n<|WSs.n<|
    V z
    o
  ·have K:¬(Y y=Y 61):=by simpa using J
   rw[if_neg K,B9] at b
   refine Ea b λu m=>?_;clear b;subst u;subst m
   refine WL.bK (by simpa using J)<|WSs.c ?_
   walk_at "w"
   refine nh 0 rfl _ rfl _ rfl<|ah _ rfl<|fH _ _ _ rfl (by refine V (aQ ..) (V C ?_);exact aK) rfl rfl ?_
   refine V (A0 l a (a+(M-1)) (pZ _ _)<|la 0x4a8c29220468024640468c28a1045860 [_,_,_,_,_] rfl f (La.sp f)<|aY<|la 0x4a811044814 [_] rfl j)<|V N<|V wL ?_
   refine WL.iP (by refine V (aQ ..) (V (aQ ..)<|V qV ?_);simp;lia)<|oZ _ xs rfl rfl aK<|WSs.c ?_
   refine V (d9 ..) ?_
   walk_at "w"
   exact ah _ rfl<|WSs.n<|WSs.n<|WSs.n o
end
theorem PG{w:aC}{f:kI}{N:List H}{us cP:List AV}(u:cP.length+1<=N.length)
  (t:∀P c g,g.length=us.length->∃b,(∀S,zR (K0 P) S (sJ f ⟨c::g,[]⟩)=Y ((N.take<|cP.length+1).zip (c::b)))/\
   ∀J,(∀a o,(K0 P).lookup a=Y o->J a=Y o)->b_ J [] g us->b_ J [] b cP):C7 w f N us cP:=
 ⟨u,λA J h s Q E c g B i K=>by
  refine aD (t w.params c g i.length) λb e j=>?_
  exact Gl B.e7 e _ _ _ _<|K b s.toks<|j J B.K i⟩
noncomputable def kr(a:List Nat)(b:Nat):List Nat:=if b>=a.length then a++bV (b-a.length+1) 0 else a
def rX(a:List Nat)(b:Nat):List Nat:=(kr a b).set b<|(kr a b).getD b 0+1
noncomputable def f9:List Nat->List Nat->Nat->Nat->List Nat×Nat×Nat
 |[],a,b,g=>(a,b,g)
 |c::l,a,b,g=>if c=9 then f9 l (rX a b) 0 (g+1) else f9 l a (b+1) g
theorem PI{a:List Nat}{b g:Nat}:f9 [] a b g=(a,b,g):=rfl
theorem DN{c:Nat}{l a:List Nat}{b g:Nat}:f9 (c::l) a b g=if c=9 then f9 l (rX a b) 0 (g+1) else f9 l a (b+1) g:=rfl
theorem PJ(a:List Nat)(b:Nat):b<(kr a b).length:=by
 unfold kr
 split
 ·simp;exact la 0x4b0824618a00440a2860 [_,_,_] rfl<|La.ls _ _
 ·exact Fg<|by assumption
theorem PK(a:List Nat)(b:Nat):(rX a b).length<=max a.length (b+1):=by
 unfold rX kr
 refine V ug ?_
 split
 ·simp;lia
 ·exact la 0x4a860044860 [_,_] rfl<|Gq _ _
noncomputable def cD(a:List Nat):List af:=a.map λn:Nat=> .int (n:Int)
theorem ku(a:List Nat):(cD a).length=a.length:=by simp[cD]
def DO:Ss:=(.k (.ck (.bx .Eq (.v 8)<|.v 2) (.k (.aT (.k (.n 6) .z)<|.aI .Add (.v 6)<|.c<|.int 1)<|.k (.aT (.k (.n 5) .z)<|.aI .Add (.v 5)<|.c<|.int 1) .z)<|.k (.ck (.bx .Eq (.v 8)<|.v 3) (.k (.aT (.k (.n 6) .z)<|.aI .Add (.v 6)<|.c<|.int 1)<|.k (.aT (.k (.n 7) .z)<|.aI .Add (.v 7)<|.c<|.int 1)<|.k (.ck (.bx .GtE (.v 5)<|.call 0<|.k (.v 4) .z) (.k (.aT (.k (.n 4) .z)<|.aI .Add (.v 4)<|.aI .Mult (.ai<|.k (.c<|.int 0) .z)<|.aI .Add (.aI .Sub (.v 5)<|.call 0<|.k (.v 4) .z)<|.c<|.int 1) .z) .z)<|.k (.x_ (.v 4) (.v 5)<|.aI .Add (.sub (.v 4)<|.v 5)<|.c<|.int 1)<|.k (.aT (.k (.n 5) .z)<|.c<|.int 0) .z)<|.k .brk .z) .z) .z)
def yF(x:H)(j b n g:Nat)(L:Option AV)(μ:List (Option AO)):St:=
 ⟨[Y (.gA 0 228),Y (.s x),Y (.s<|sL [32]),Y (.s<|sL [9]),Y (.m j),Y (.i b),Y (.i n),Y (.i g),L],μ⟩
section
variable {w:aC} {d:Nat} {x:H}
theorem acY{j b n g c:Nat}{a:List Nat}{μ:List (Option AO)}{Q:FQ}(G:c=9\/c=32)(C:0<j)(l:μ[j]?=Y (Y<|.ai<|cD a))(v:b<=1000)(u:a.length<=1001)
  (t:∀f i,0<i->f[0]?=μ[0]?->f[i]?=Y (Y<|.ai<|cD (if c=9 then rX a b else a))->Q .nx (yF x i (if c=9 then 0 else b+1) (n+1) (if c=9 then g+1 else g) (Y<|.s<|sL [c]) f)):
  WSs w d DO (yF x j b n g (Y<|.s<|sL [c]) μ) Q:=by
 have p:=bI
 refine WSs.c ?_
 walk_at "w"
 refine bG _ rfl _ rfl<|WL.nG<|WL.tB ?_
 have I:(sL [c]==sL [32])=decide (c=32):=by exact V (iO ..)<|V (lP ..) rfl
 have J:(sL [c]==sL [9])=decide (c=9):=by exact V (iO ..)<|V (lP ..) rfl
 refine V I ?_
 rcases G with rfl|rfl
 ·skip
  refine WL.bK (by decide)<|WSs.c ?_
  walk_at "w"
  refine bG _ rfl _ rfl<|WL.nG<|WL.tB ?_
  refine V J ?_
  refine WL.cy (by decide)<|WSs.c ?_
  walk_at "w"
  refine ah _ rfl<|WL.fK<|WSs.c ?_
  walk_at "w"
  refine ah _ rfl<|WL.fK<|WSs.c ?_
  walk_at "w"
  have k:∀q:St,q.μ=μ->fJ q (.m j)=Y (cD a):=λq e=>CU<|by exact V e<|V l rfl
  refine eS _ rfl _ rfl rfl<|ah _ rfl<|WL.rQ (k _ rfl) (by refine V (ku ..) (V p ?_);exact aK)<|WL.ge<|WL.tB ?_
  refine V (ku ..) ?_
  have r:∀(i:Nat) (f:List (Option AO)),0<i->f[0]?=μ[0]?->f[i]?=Y (Y<|.ai<|cD<|kr a b)->
    WSs w d (.k (.x_ (.v 4) (.v 5)<|.aI .Add (.sub (.v 4)<|.v 5)<|.c<|.int 1)<|.k (.aT (.k (.n 5) .z)<|.c<|.int 0) .z) (yF x i b (n+1) (g+1) (Y<|.s<|sL [9]) f) Q:=λi f y h0 A=>by
   have B:=PJ a b
   have D:(kr a b).length<=2002:=by unfold kr;split<;>(try simp)<;>lia
   obtain⟨z,s⟩:∃z,(kr a b)[b]?=Y z:=⟨_,fM B⟩
   refine WSs.c ?_
   walk_at "w"
   refine bG _ rfl _ rfl ?_
   refine(WL.Dw<|fG (cD<|kr a b) (CU A) (by refine V (ku ..) (V p ?_);exact aK) (by lia)<|ah (.int z) ?_ ?_)
   ·refine V (gY ..) ?_;refine V iW (V s ?_);rfl
   ·refine WL.fK (bG _ rfl _ rfl<|n6 i (b:Int) (cD<|kr a b) (.int<|(z:Int)+1) rfl rfl rfl A<|g5 (by lia) (by refine V (gY ..) (V (ku ..) ?_);assumption) (by refine V (ku ..) (V p ?_);exact aK)<|WSs.c ?_)
    walk_at "w"
    refine WSs.n ?_
    have hs:(cD<|kr a b).set (b:Int).toNat (.int<|(z:Int)+1)=cD (rX a b):=by
     refine V (gY ..) ?_
     unfold cD rX
     refine V alH (V zV<|V s ?_);rfl
    refine V hs ?_
    have o:i<f.length:=(fF.mp A).1
    refine t (f.set i<|Y<|.ai<|cD<|rX a b) i y ?_ ?_
    ·refine V (gX<|by exact vJ<|by assumption) ?_;exact h0
    ·exact V (qN o) rfl
  by_cases h:b>=a.length
  ·refine WL.cy (by simp;assumption) (WSs.c ?_)
   walk_at "w"
   refine eS _ rfl [.int 0] rfl (by refine V p ?_;decide)<|eS _ rfl _ rfl rfl<|ah _ rfl<|WL.rQ (k _ rfl) (by refine V (ku ..) (V p ?_);(clear v;exact la 0x128100000014180110fa42060 [_] rfl u))<|WL.pH<|WL.fK ?_
   refine V (ku ..) ?_
   have E:((b:Int)-(a.length:Int)+1)=((b-a.length+1:Nat):Int):=by exact lA (li 0x4a80244f8e20473e38a1047091860 [_,_,_,_] rfl (Li.ca _ _)<|jT h)<|li 0x4a0913e38a00463e38a1046091860 [_,_,_,_] rfl (Li.ca _ _)<|jT h
   refine V E ?_
   refine(WL.mulL<|g5 (by(clear h E;lia)) (by lia) (by refine V (gY ..) ?_;simp;exact la 0x4a0a1ffffff10180110fa02060 [_,_] rfl v) ?_)
   refine V (gY ..) ?_
   have K:(bV (b-a.length+1) [jr 0]).flatten=bV (b-a.length+1) (.int 0):=by
    generalize b-a.length+1=m
    induction m with
    |zero=>rfl
    |succ m L=>refine V nX (V nc<|V L ?_);rfl
   refine V K ?_
   refine(WL.pn<|bk (cD a) (k _ rfl) (by refine V (ku ..) (V sQ<|V p ?_);exact la 0x12810000001410824618811a00a284110fa02060 [_,_,_] rfl v<|aY h)<|WSs.n ?_)
   have M:cD a++bV (b-a.length+1) (.int 0)=cD (kr a b):=by
    unfold kr cD
    refine V (if_pos h) (V gZ<|V List.map_replicate ?_);rfl
   refine V M ?_
   have o:j<μ.length:=(fF.mp l).1
   refine r μ.length (μ++[Y (.ai<|cD<|kr a b)]) (by exact la 0x4b850045860 [_,_] rfl o) ?_ ?_
   ·exact V (pT<|by exact la 0x4b850045860 [_,_] rfl o) rfl
   ·refine V (kJ<|bM _) (V (Fx ..) ?_);rfl
  ·refine WL.bK (by simp;exact Fg<|by assumption) (WSs.n ?_)
   refine r j μ C rfl ?_
   unfold kr
   refine V (if_neg h) ?_;exact l
 ·skip
  refine WL.cy (by decide)<|WSs.c ?_
  walk_at "w"
  refine ah _ rfl<|WL.fK<|WSs.c ?_
  walk_at "w"
  refine ah _ rfl<|WL.fK<|WSs.n<|WSs.n ?_
  exact t μ j C rfl l
end
theorem acZ:mH 228 "raw":=rH λP=>by kernel_rfl
theorem ac0:mH 228 "n":=rH λP=>by kernel_rfl
theorem ac1:mH 228 "nt":=rH λP=>by kernel_rfl
theorem ac2:mH 228 "norm":=rH λP=>by kernel_rfl
theorem ac3:mH 228 "is_simple":=rH λP=>by kernel_rfl
theorem ac4:C6 228 183:=NV λP=>by kernel_rfl
theorem ac5{w:aC}{us:List AV}(l:us.length=1):C7 w (aM 183) H6.N us us:=PG (by refine V l ?_;decide) λP b g c=>by
 obtain⟨a⟩:=rT<|c.trans l
 refine ah [a] (λS=>?_) λJ _ r=>r
 refine V l ?_
 kernel_rfl
section
variable {w:aC} {d:Nat} {x:H}
theorem ac6{Q:FQ}(e:List Nat)(j:Nat)(b:Nat)(n:Nat)(m:Nat)(f:List Nat)(L:Option AV)(μ:List (Option AO))(u:(∀c∈e,c=9\/c=32))(C:0<j)(v:μ[j]?=Y (Y<|.ai<|cD f))(z:b+e.length<=1000)(r:f.length<=1001)(l:(∀o A g,0<o->g[0]?=μ[0]?->g[o]?=Y (Y<|.ai<|cD (f9 e f b m).1)->(f9 e f b m).1.length<=1001->Q .nx (yF x o (f9 e f b m).2.1 (n+e.length) (f9 e f b m).2.2 A g))):mT (asg<|.n 8) (λq K=>WSs w d DO q K) ((e++[120,9]).map λk=> .str<|sL [k]) (yF x j b n m L μ) Q:=by
 induction e generalizing j b n m f L μ with
 |nil=>
  refine(?_:WSs w d DO (yF x j b n m (Y<|.s<|sL [120]) μ) _)
  unfold DO
  refine WSs.c ?_
  walk_at "w"
  refine bG _ rfl _ rfl<|WL.nG<|WL.tB ?_
  have D:(sL [120]==sL [32])=false:=by refine V (iO ..) (V (lP ..) ?_);decide
  have E:(sL [120]==sL [9])=false:=by refine V (iO ..) (V (lP ..) ?_);decide
  refine V D ?_
  refine WL.bK (by decide)<|WSs.c ?_
  walk_at "w"
  refine bG _ rfl _ rfl<|WL.nG<|WL.tB ?_
  refine V E ?_
  refine WL.bK (by decide)<|WSs.c ?_
  walk_at "s"
  exact l j _ μ C rfl v r
 |cons c a ih=>
  rw[cX] at z
  refine acY (u c aZ) C v (by exact la 0x4a3e808180110fa02042091860 [_,_] rfl z) r λg o i t s=>?_
  have B:=PK f b
  by_cases h:c=9
  ·subst h
   refine ih o 0 (n+1) (m+1) (rX f b) _ g (λy G=>u y<|a_ _ G) i s (by exact la 0x4a3e80810a140110fa02042091860 [_,_] rfl z) (by exact(sR _ _).elim (λI=>la 0x4a3e90818411a088112284110fa42060 [_,_,_] rfl r B<|uD I) λI=>la 0x4a3e90818811824608c112388110fa02042091860 [_,_,_,_] rfl z B<|xB I) λJ a2 p k1 M N R=>?_
   have:=l J a2 p k1<|M.trans t
   have U:n+1+a.length=n+(9::a).length:=by refine V cX ?_;exact nZ _ _ _
   refine V U ?_
   rw[DN] at this
   rw[if_pos rfl] at this
   exact this N R
  ·rw[if_neg h] at s
   refine V (if_neg h)<|V (if_neg h) ?_
   refine ih o (b+1) (n+1) m f _ g (λy G=>u y<|a_ _ G) i s (by exact la 0x4a3e80810a109180110fa02042091860 [_,_] rfl z) r λJ a2 p k1 M N R=>?_
   have:=l J a2 p k1<|M.trans t
   have U:n+1+a.length=n+(c::a).length:=by refine V cX ?_;exact nZ _ _ _
   refine V U ?_
   rw[DN] at this
   rw[if_neg h] at this
   exact this N R
end
theorem IE(l:List Nat):qh (sL l)=l.map λk=> .str (sL [k]):=by
 unfold qh
 refine V (fq ..) ?_;rfl
theorem DP{Q:FQ}{name:H}{u:AV}{L:List (H×AV)}{v:List (Option AV)}{μ:List (Option AO)}{j:Nat}{xs:List af}(b:mH 228 name)(t:μ[0]?=Y (Y<|.gJ 228 L))(s:μ[j]?=Y (Y<|.ai xs))(C:0<j)(c:L.lookup name=Z)(r:L.length<=900)(e:u.aq=true)
  (l:∀g,g[0]?=Y (Y<|.gJ 228<|L++[(name,u)])->g[j]?=Y (Y<|.ai xs)->Q .nx ⟨v,g⟩):HO (.gA 0 228) name u ⟨v,μ⟩ Q:=by
 have a:0<μ.length:=(fF.mp t).1
 exact fH 0 228 L rfl t b c<|bJ r e<|l (μ.set 0<|Y<|.gJ 228<|L++[(name,u)]) (qN a)<|by refine V (gX<|by lia) ?_;exact s
def IF(a:List Nat):AV:= .ws ((f9 a [] 0 0).1.map λn:Nat=>(n:Int)) (f9 a [] 0 0).2.1 (f9 a [] 0 0).2.2
theorem PL(f:List Nat):(f.map λn:Nat=>(n:Int)).map jr=cD f:=by refine V bY ?_;rfl
theorem ac7(w:aC)(a:List Nat)(u:∀c∈a,c=9\/c=32)(r:a.length<=900):iN w 2 (.ref 228) [.s (sL<|a++[120,9])] (IF a):=by
 have k:=bI
 suffices l:∃z B,yj w 2 228 [.s (sL<|a++[120,9])] [("raw",.s<|sL<|a++[120,9]),("n",.d z),("nt",.i (f9 a [] 0 0).2.2),("norm",.t [.tuple (((f9 a [] 0 0).1.map λn:Nat=>(n:Int)).map .int),.int (f9 a [] 0 0).2.1]),("is_simple",.d B)] by
  refine cC l λz B l=>?_
  exact YF l (Zp (.str<|sL<|a++[120,9]) z B _ _ _).2
 refine dU (.int a.length) (.bool<|decide<|(f9 a [] 0 0).1.length<=1) ?_
 refine NW (cP:=[.s (sL<|a++[120,9])]) ac4 abW (by kernel_rfl) (ac5 rfl) (bM _) λc h ok K M hd=>?_
 subst M
 refine fZ ok K aaQ (q:=⟨[Y (.gA 0 228),Y (.s<|sL<|a++[120,9]),Z,Z,Z,Z,Z,Z,Z],[Y (.gJ 228 [])]⟩)<|WSs.c ?_
 walk_at "w"
 refine bG _ rfl _ rfl<|fH 0 228 [] rfl rfl acZ rfl<|bJ (by decide) rfl<|WSs.c ?_
 walk_at "w"
 refine ah _ rfl<|WL.aaC<|ah _ rfl<|WL.aaD<|bJ (by refine V k ?_;decide) rfl ?_
 refine V AR<|V AQ ?_
 refine WSs.c ?_
 walk_at "w"
 refine bk [] rfl (by refine V k ?_;decide)<|WSs.c ?_
 walk_at "w"
 refine WSs.c ?_
 walk_at "w"
 refine ah _ rfl<|WL.raw (L:=[("raw",.s<|sL<|a++[120,9])]) (x:= .str<|sL<|a++[120,9]) rfl (by kernel_rfl)<|ah _ rfl ?_
 refine V (IE ..) ?_
 refine ac6 (d:=c.d) (x:=sL<|a++[120,9]) a 1 0 0 0 [] Z [Y (.gJ 228 [("raw",.s<|sL<|a++[120,9])]),Y (.ai [])] u (by decide) rfl (by exact la 0x4a3e80810a040110e102060 [_] rfl r) (by decide) λo A g i t s y=>?_
 generalize G:(f9 a [] 0 0).1=f at s y ⊢
 generalize (f9 a [] 0 0).2.1=b
 generalize (f9 a [] 0 0).2.2=m
 have C:g[0]?=Y (Y<|.gJ 228 [("raw",.s<|sL<|a++[120,9])]):=t
 have j:∀(v:List (Option AV)) (μ:List (Option AO)),μ[o]?=Y (Y<|.ai<|cD f)->fJ ⟨v,μ⟩ (.m o)=Y (cD f):=λv μ e=>CU e
 refine WSs.c ?_
 walk_at "w"
 refine bG _ rfl _ rfl<|DP ac0 C s i (by kernel_rfl) (by simp) rfl λN Q R=>WSs.c ?_
 walk_at "w"
 refine bG _ rfl _ rfl<|DP ac1 Q R i (by kernel_rfl) (by simp) rfl λp U I=>WSs.c ?_
 walk_at "w"
 refine cJ _ rfl rfl _ rfl<|WL.tuple (j _ _ I) (by refine V (ku ..) (V k ?_);exact aK)<|eS _ rfl [.tuple (cD f),.int b] rfl (by refine V k ?_;refine(?_:2<=_);decide)<|ah _ rfl<|DP ac2 U I i (by kernel_rfl) (by simp) rfl λμ3 h3 J=>WSs.c ?_
 walk_at "w"
 refine cJ _ rfl rfl _ rfl<|WL.rQ (j _ _ J) (by refine V (ku ..) (V k ?_);exact aK)<|WL.le<|ah _ rfl<|DP ac3 h3 J i (by kernel_rfl) (by simp) rfl λμ4 h4 m4=>WSs.n ⟨rfl,?_⟩
 refine V h4<|V (PL ..) ?_
 have D:decide (((cD f).length:Int)<=1)=decide (f.length<=1):=by(refine V (ku ..) ?_;rw[decide_eq_decide]);(clear y;omega)
 have E:((0+a.length:Nat):Int)=(a.length:Int):=by exact V (pQ ..) rfl
 refine V D<|V E ?_
 rfl
theorem PM(a b:Nat):uu (a:Int) (b:Int) 1=((b-a:Nat):Int):=by
 unfold uu
 refine V (if_pos<|by decide) ?_
 split
 ·refine V (Int.ediv_one ..) ?_;lia
 ·lia
theorem A3{i:Int}(h: -(10^15)<=i)(d:i<=10^15):alI i=true:=by
 unfold alI
 simp only[jQ,decide_eq_true_eq];lia
theorem IG{a b c:Int}{k:Nat}(h: -(10^10)<=a)(d:a<=10^10)(j: -(10^10)<=b)(f:b<=10^10)(e:0<c)(g:c<=10^10)(hs:uu a b c=(k:Int))(l:k<=10^10):Cn a b c=true:=by
 unfold Cn
 rw[hs,A3 (by lia) (by lia),A3 (by lia) (by lia),A3 (by lia) (by lia),A3 (by lia) (by lia),if_pos e,A3 (i:=b+(c-1)) (by lia) (by lia)]
 simp
noncomputable def gC(g:Nat):Nat->List Nat->Nat
 |_,[]=>0
 |i,c::d=>(i/g)*c+gC g (i+1) d
theorem A4:gC g a []=0:=rfl
theorem A5:gC g i (c::d)=(i/g)*c+gC g (i+1) d:=rfl
theorem ac8(g:Nat)(d:List Nat)(b:List Nat)(i:Nat):gC g i (d++b)=gC g i d+gC g (i+d.length) b:=by
 induction d generalizing b i with
 |nil=>
  simp[A4,A5]
 |cons c a f=>
  have:=f b<|i+1
  have e:i+1+a.length=i+(a.length+1):=by exact nZ _ _ _
  rw[e] at this
  exact dK (la 0x4a0a20a18c28230460a2860 [_,_,_,_] rfl this)<|la 0x4a0a08c28828630470a2860 [_,_,_,_] rfl this
theorem ac9(g:Nat)(a:Nat)(i:Nat):gC g i (bV a 0)=0:=by
 induction a generalizing i with
 |zero=>
  exact rfl
 |succ n f=>
  refine V nX ?_;simp only[A4,A5,Nat.mul_zero,f (i+1)]
theorem PR(g:Nat):∀(d:List Nat) (i b:Nat),b<d.length->gC g i (d.set b<|d.getD b 0+1)=gC g i d+(i+b)/g
 |[],_,_,h=>by simp at h
 |c::d,i,0,_=>by
  simp only[List.set_cons_zero,List.getD_cons_zero,A4,A5,oW]
  refine V (B5 ..) (V (TV ..) ?_);exact nZ _ _ _
 |c::d,i,b+1,h=>by
  have:=PR g d (i+1) b<|by simpa using h
  have e:i+1+b=i+(b+1):=by exact nZ _ _ _
  rw[e] at this
  exact dK (la 0x4a0a20a18c28230460a2860 [_,_,_,_] rfl this)<|la 0x4a0a08c28828630470a2860 [_,_,_,_] rfl this
theorem ada(g:Nat)(j:List Nat)(b:Nat):gC g 0 (rX j b)=gC g 0 j+b/g:=by
 refine V (PR g _ 0 b<|PJ j b) ?_
 have:gC g 0 (kr j b)=gC g 0 j:=by
  unfold kr
  split
  ·refine V (ac8 ..) (V (ac9 ..) ?_);rfl
  ·rfl
 exact V this<|V (pQ ..) rfl
noncomputable def cz(g:Nat):Nat->List Nat->Nat
 |a,[]=>a
 |a,c::l=>cz g (if c=9 then a+(g-a%g) else a+1) l
theorem II:cz g a []=a:=rfl
theorem IJ:cz g a (c::l)=cz g (if c=9 then a+(g-a%g) else a+1) l:=rfl
theorem adb{g:Nat}(hs:0<g)(a:List Nat)(j:List Nat)(b:Nat)(nt:Nat):(f9 a j b nt).2.1+g*(gC g 0 (f9 a j b nt).1+(f9 a j b nt).2.2)=cz g (b+g*(gC g 0 j+nt)) a:=by
 induction a generalizing j b nt with
 |nil=>
  exact rfl
 |cons c l f=>
  simp only[PI,DN,II,IJ]
  by_cases e:c=9
  ·refine V (if_pos e) (V (if_pos e)<|V (f ..)<|V (ada ..) ?_)
   congr 1
   have h:(b+g*(gC g 0 j+nt))%g=b%g:=by exact V (Nat.add_mul_mod_self_left ..) rfl
   have d:b%g<g:=lD _ hs
   have i:=xy b g
   refine V h ?_
   have k:g*(gC g 0 j+b/g+(nt+1))=g*(gC g 0 j+nt)+g*(b/g)+g:=by
    refine V (B5 ..) (V (B5 ..)<|V (B5 ..)<|V (B5 ..) ?_);lia
   refine V k ?_;(clear h;exact dK (la 0x4a0a30a58820a40a0950047902863046882860 [_,_,_,_,_,_] rfl i<|aY<|j7 d)<|la 0x4a0829028254028c2962046902863047882860 [_,_,_,_,_,_] rfl i<|aY<|j7 d)
  ·refine V (if_neg e) (V (if_neg e)<|V (f ..) ?_)
   congr 1;exact nZ _ _ _
theorem PS{g:Nat}(hs:0<g)(a:List Nat)(i:Nat)(h:i<=g):gC g i a=gC g g (a.drop<|g-i):=by
 induction a generalizing i with
 |nil=>
  simp[A4,A5]
 |cons c d f=>
  by_cases b:i=g
  ·clear h hs f;subst b;exact V (Fx ..)<|V nY rfl
  ·have e:g-i=(g-(i+1))+1:=by exact dK (la 0x4a0918e0047882091863046882860 [_,_,_,_] rfl (aY h)<|aY<|la 0x4a842460045860 [_,_] rfl<|xC h b) (la 0x4a802463046882091863047882860 [_,_,_,_] rfl (aY h)<|aY<|la 0x4a842460045860 [_,_] rfl<|xC h b)
   refine V e<|V alJ<|az (f (i+1)<|by exact la 0x4a842460045860 [_,_] rfl<|xC h b) ?_
   simp only[A4,A5]
   refine V (Nat.div_eq_of_lt<|by exact la 0x4b860045860 [_,_] rfl<|xC h b) ?_;lia
def IK:Ss:=(.k (.aT (.k (.n 4) .z)<|.aI .Add (.v 4)<|.aI .Mult (.aI .FloorDiv (.v 5)<|.v 1)<|.sub (.v 2)<|.v 5) .z)
def DQ(a:AV)(g:Nat)(j:List Nat)(b k:Nat)(B:Option AV):St:=⟨[Y a,Y (.i g),Y (.t<|cD j),Y (.i b),Y (.i k),B],[]⟩
theorem ade{w:aC}{d:Nat}{a:AV}{g:Nat}{j:List Nat}{b:Nat}(hs:0<g)(o:g<=1000)(v:j.length<=2000){Q:FQ}(c:Nat)(i:Nat)(k:Nat)(B:Option AV)(e:i+c=j.length)(h:(∀l,Q .nx<|DQ a g j b (k+gC g i (j.drop i)) l)):mT (asg<|.n 5) (λq K=>WSs w d IK q K) (rD (i:Int) 1 c) (DQ a g j b k B) Q:=by
 induction c generalizing i k B with
 |zero=>
  have:=h B
  rw[Mu (by exact la 0x4a821047842420 [_,_] rfl e)] at this
  exact this
 |succ m f=>
  have t:=bI
  obtain⟨z,n⟩:∃z,j[i]?=Y z:=⟨_,fM<|by exact la 0x4b8a0046882091860 [_,_,_] rfl e⟩
  refine(?_:WSs w d IK (DQ a g j b k<|Y<|.i i) _)
  unfold IK
  refine WSs.c ?_
  walk_at "w"
  refine nh _ rfl _ rfl _ rfl<|WL.yw (by lia) (zX<|by exact gI (by assumption)<|by rfl)<|bG _ rfl _ rfl ?_
  refine(WL.ow<|mj (by refine V (ku ..) (V t ?_);exact aK) (by(clear e;lia)) (.int z) ?_ ?_)
  ·refine V (gY ..) ?_;refine V iW (V n ?_);rfl
  have u:((i:Int).fdiv (g:Int))=((i/g:Nat):Int):=by
   refine V (Ve _<|by(clear hs;lia)) ?_;rfl
  refine V u ?_
  refine WL.HV (.of_left<|alK.mpr ?_)<|WL.fK<|WSs.n ?_
  ·refine V (Vf ..) ?_
   have:i/g<=i:=alL _ _
   have:i/g<2^64:=by lia
   exact this
  have x:((k:Int)+((i/g:Nat):Int)*(z:Int))=((k+(i/g)*z:Nat):Int):=by push_cast;rfl
  refine V x ?_
  refine f (i+1) (k+(i/g)*z) (Y<|.i i) (by exact dK (la 0x4a882842460046882091860 [_,_,_] rfl e)<|la 0x4a0a1091822047882091860 [_,_,_] rfl e) λl=>?_
  have:=h l
  have r:j.drop i=z::j.drop (i+1):=by
   refine Ex (fF.mp n) λs p=>?_
   exact V (Cj s)<|V p rfl
  rw[r] at this
  refine V (Cz ..) ?_
  exact this
theorem adf(a:List Nat)(j:List Nat)(b:Nat)(nt:Nat)(B:Nat)(h:j.length<=B)(d:b+a.length<B):(f9 a j b nt).1.length<=B:=by
 induction a generalizing j b nt B with
 |nil=>
  exact h
 |cons c l f=>
  rw[cX] at d
  simp only[PI,DN]
  have:=PK j b
  split
  ·exact f _ 0 _ B (by exact(sR _ _).elim (λe=>la 0x4a8620468230448e2044860 [_,_,_,_] rfl h this<|uD e) λe=>la 0x4a8a3046091824044923045882091860 [_,_,_,_,_] rfl d this<|xB e)<|by exact la 0x4b882850045882091860 [_,_,_] rfl d
  ·exact f j (b+1) nt B h<|by exact la 0x4b882842460045882091860 [_,_,_] rfl d
theorem adg(w:aC)(d:List Nat)(g:Nat)(hs:0<g)(o:g<=1000)(v:d.length<=900):iN w 1 (.ref 197) [IF d,.i g] (.i<|cz g 0 d):=by
 have t:=bI
 have u:(f9 d [] 0 0).1.length<=1000:=adf d [] 0 0 1000 (by simp)<|by exact la 0x4b3e80810a040110e102060 [_] rfl v
 have p:=adb hs d [] 0 0
 refine az p ?_
 unfold IF
 generalize (f9 d [] 0 0).1=j at u ⊢
 generalize (f9 d [] 0 0).2.1=b
 generalize (f9 d [] 0 0).2.2=nt
 refine pB (cP:=[.ws (j.map λn:Nat=>(n:Int)) b nt,.i g]) abX (by kernel_rfl) (abY rfl) rfl (by decide) λc h ok x y A=>?_
 subst y
 refine fZ ok x aaS (q:=⟨[Y (.ws (j.map λn:Nat=>(n:Int)) b nt),Y (.i g),Z,Z,Z,Z],[]⟩)<|WSs.c ?_
 walk_at "w"
 refine ah _ rfl<|WL.aaB ?_
 refine V (PL ..) ?_
 walk_at "w"
 refine⟨rfl,?_⟩
 refine WSs.c ?_
 have r:uu (g:Int) (j.length:Int) 1=((j.length-g:Nat):Int):=PM _ _
 walk_at "w"
 refine mh _ rfl rfl _ rfl _ rfl<|bR rfl _ rfl<|WL.aar (by refine V (ku ..) (V t ?_);exact aK)<|WL.aas ?_
 refine V (ku ..) ?_
 refine(show∃a b e k,(AV.rg (g:Int) (j.length:Int) 1)= .rg a b e/\_ from(mq (g:Int) (j.length:Int) 1<|fG (j.length-g) rfl (IG (by(clear hs;lia)) (by lia) (by lia) (by lia) (by decide) (by decide) r<|by(clear hs;lia)) r ?_))
 have s:∀l,(rO (uP<|.i ((b+g*(gC g 0 j+nt):Nat):Int)) λm=>WSs c.w c.d (.k (.ret<|.aI .Add (.v 3)<|.aI .Mult (.v 1)<|.aI .Add (.v 4)<|.oi (.v 0) "nt") .z) m<|uP<|.i ((b+g*(gC g 0 j+nt):Nat):Int)) Fw.nx (DQ (.ws (j.map λn:Nat=>(n:Int)) b nt) g j b (gC g 0 j) l):=λl=>by
  refine WSs.c ?_
  walk_at "w"
  refine nh _ rfl _ rfl _ rfl<|ah _ rfl<|WL.nt ?_
  refine WL.fK<|WL.HV (.of_left<|alK.mpr ?_)<|WL.fK<|.inl ?_
  ·refine V (Vf ..) ?_
   have:g<2^64:=by exact gI (by assumption)<|by rfl
   exact this
  ·congr 2
 by_cases i:g<=j.length
 ·refine ade hs o aK (j.length-g) g 0 Z (by exact dK (la 0x4a882821046882860 [_,_,_] rfl<|aY i)<|la 0x4a0a0862047882860 [_,_,_] rfl<|aY i) λl=>?_
  refine V (pQ ..) ?_
  have:=PS hs j 0<|by exact eL _
  rw[Gn] at this
  refine az this ?_
  exact s l
 ·have z:j.length-g=0:=by exact dK (la 0x4a420046420 [_] rfl<|Gh<|la 0x4a821048860 [_,_] rfl i) (la 0x4a810 [_] rfl)
  refine V z ?_
  have:gC g 0 j=0:=by
   have:=PS hs j 0<|by exact eL _
   rw[Gn,Mu (by exact la 0x4a821048860 [_,_] rfl i)] at this
   exact this
  have f:=s Z
  rw[this] at f ⊢
  exact f
end
noncomputable def ve(g:Nat->Bool)(l:List Nat):List Nat:=l.take<|l.length-(l.reverse.takeWhile g).length
theorem DR(g:Nat->Bool)(l:List Nat):Txt.stripBy g false true (sL l)=sL (ve g l):=by
 refine V (PySem.W.stripBy_eq ..) ?_
 show Mp (sL l) 0 ((sL l).length-(((sL l).cps.toList.drop 0).reverse.takeWhile g).length)=_
 exact V (aQ ..)<|V (fq ..)<|V nY<|V (DH ..)
  rfl
theorem IL(g:Nat->Bool)(l:List Nat)(c:Nat):ve g (l++[c])=if g c=true then ve g l else l++[c]:=by
 unfold ve
 refine V List.reverse_append<|V List.reverse_singleton<|V Mv<|V List.takeWhile_cons ?_
 by_cases h:g c=true
 ·refine V (if_pos h) (V (if_pos h) ?_)
  have a:(l.reverse.takeWhile g).length<=l.length:=by
   have:=ane<|List.takeWhile_prefix (l:=l.reverse) g
   rw[alq] at this;exact this
  refine V bQ<|V cX<|V cX<|V l7 ?_
  have e:l.length+(0+1)-((l.reverse.takeWhile g).length+1)=l.length-(l.reverse.takeWhile g).length:=by lia
  exact V e<|V (alM<|qW _ _) rfl
 ·exact V (if_neg h)<|V (if_neg h)<|V l7<|V (Gn ..)<|V Gj rfl
theorem DS(h:∀z,l.getLast?=Y z->g z=false):ve g l=l:=by
 rcases CA l with rfl|⟨a,c,rfl⟩
 ·rfl
 ·(refine V Gp (V (IL ..) ?_);rw[if_neg])
  refine V (h c<|by simp) ?_;decide
section
open IR
inductive Tk where
 |s (c:Nat)
 |o (k:Nat)
 |e
noncomputable def Tk.cps:Tk->List Nat
 | .s c=>[c]
 | .o k=>[0,k]
 | .e=>[1]
def Tk.ok:Tk->Prop
 | .s c=>c≠0/\c≠1
 | .o k=>k≠0/\k≠1
 | .e=>True
def aq(G:List Tk):List Nat:=G.flatMap Tk.cps
theorem rY(t:Tk)(G:List Tk):aq (t::G)=t.cps++aq G:=by unfold aq;exact V fQ rfl
theorem jZ(a b:List Tk):aq (a++b)=aq a++aq b:=by unfold aq;exact V lB rfl
noncomputable def dj:List Tk->Nat
 |[]=>0
 | .s _::G=>dj G+1
 |_::G=>dj G
theorem IM:dj []=0:=rfl
theorem IP:dj (.s a::G)=dj G+1:=rfl
theorem IQ:dj (.o k::G)=dj G:=rfl
theorem IS:dj (.e::G)=dj G:=rfl
noncomputable def jF:Option Nat->List Tk->Prop
 |q,[]=>q=Z
 |none,.o k::G=>jF (Y k) G
 |some _,.o _::_=>False
 |some _,.e::G=>jF Z G
 |none,.e::_=>False
 |q,.s _::G=>jF q G
noncomputable def cM:Nat->Option Nat->List Tk->List Tk×List Tk×Option Nat
 |0,m,G=>([],G,m)
 |_+1,m,[]=>([],[],m)
 |w+1,_,.o k::G=>let r:=cM (w+1) (Y k) G;(.o k::r.1,r.2)
 |w+1,_,.e::G=>let r:=cM (w+1) Z G;(.e::r.1,r.2)
 |w+1,m,.s c::G=>let r:=cM w m G;(.s c::r.1,r.2)
theorem yG{m}{G:List Tk}:cM 0 m G=([],G,m):=by cases G<;>rfl
theorem yH:cM (a+1) m []=([],[],m):=rfl
theorem yI:cM (w+1) a (.o k::G)=let r:=cM (w+1) (Y k) G;(.o k::r.1,r.2):=rfl
theorem yJ:cM (w+1) a (.e::G)=let r:=cM (w+1) Z G;(.e::r.1,r.2):=rfl
theorem yK:cM (w+1) m (.s c::G)=let r:=cM w m G;(.s c::r.1,r.2):=rfl
noncomputable def dF:Option Nat->List Tk
 |none=>[]
 |some k=>[.o k]
noncomputable def eU:Option Nat->List Tk
 |none=>[]
 |some _=>[.e]
noncomputable def rZ(a:Nat):Nat->af->List Tk->List (af×List Tk)
 |0,num,G=>[(num,G)]
 |f+1,num,G=>if dj G<=a then[(num,G)] else
   let r:=cM a Z G
   (num,r.1++eU r.2.2)::rZ a f (.str ">") (dF r.2.2++r.2.1)
theorem DT:rZ a 0 num G=[(num,G)]:=rfl
theorem DU:rZ a (f+1) num G=if dj G<=a then[(num,G)] else
   let r:=cM a Z G
   (num,r.1++eU r.2.2)::rZ a f (.str ">") (dF r.2.2++r.2.1):=rfl
def eG(p:af×List Tk):af:= .tuple [p.1,.str (sL<|aq p.2)]
def dz:Option Nat->H
 |none=>sL []
 |some k=>sL [k]
noncomputable def fu:List Tk->Nat
 |[]=>0
 | .o _::G=>fu G+1
 |_::G=>fu G
theorem DV:fu []=0:=rfl
theorem DW:fu (.o a::G)=fu G+1:=rfl
theorem DX:fu (.e::G)=fu G:=rfl
theorem DY:fu (.s c::G)=fu G:=rfl
theorem adh{P:Option Nat->List Tk->Prop}(d:P Z [])(b:∀k G,jF (Y k) G->P (Y k) G->P Z (.o k::G))(e:∀k G,jF Z G->P Z G->P (Y k) (.e::G))(hs:∀m c G,jF m G->P m G->P m (.s c::G)){m:Option Nat}{G:List Tk}(h:jF m G):P m G:=by
 induction G generalizing m with
 |nil=>
  cases m with
  |none=>exact d
  |some k=>cases h
 |cons t G a=>
  cases m<;>cases t
  ·exact hs _ _ _ h<|a h
  ·exact b _ _ h<|a h
  ·exact h.elim
  ·exact hs _ _ _ h<|a h
  ·exact h.elim
  ·exact e _ _ h<|a h
theorem A6{P:Nat->Option Nat->List Tk->Prop}(d:∀m G,cM 0 m G=([],G,m)->P 0 m G)(f:∀w m,P (w+1) m [])(b:∀w m k G,P (w+1) (Y k) G->P (w+1) m (.o k::G))(e:∀w m G,P (w+1) Z G->P (w+1) m (.e::G))(hs:∀w m c G,P w m G->P (w+1) m (.s c::G))(w:Nat)(m:Option Nat)(G:List Tk):P w m G:=by
 induction G generalizing w m with
 |nil=>cases w with
  |zero=>exact d _ _ rfl
  |succ w=>exact f _ _
 |cons t G a=>cases w with
  |zero=>exact d _ _ rfl
  |succ w=>cases t with
   |s c=>exact hs _ _ _ _<|a _ _
   |o k=>exact b _ _ _ _<|a _ _
   |e=>exact e _ _ _<|a _ _
theorem PT(q:Option Nat)(G:List Tk)(h:jF q G):(aq G).length+(if q=Z then 0 else 2)=dj G+3*fu G+(if q=Z then 0 else 3):=by
 refine adh (P:=λq G=>(aq G).length+(if q=Z then 0 else 2)=dj G+3*fu G+(if q=Z then 0 else 3)) rfl (λk G U h=>?_) (λk G U h=>?_) (λm c G U h=>?_) h
 ·rw[if_neg (λe=>nomatch e),if_neg (λe=>nomatch e)] at h
  (rewrite[if_pos rfl];refine V (if_pos rfl)<|V (rY ..)<|V bQ ?_)
  show 2+_+0=dj G+3*(fu G+1)+0
  exact dK (la 0x4a0900830918938424028120460930838938424a0 [_,_,_] rfl h)<|la 0x4a0900a04824020c24624e10470930838938424a0 [_,_,_] rfl h
 ·rw[if_pos rfl,if_pos rfl] at h
  refine V (if_neg λe=>nomatch e)<|V (if_neg λe=>nomatch e)<|V (rY ..)<|V bQ ?_
  show 1+_+2=dj G+3*fu G+3
  exact dK (la 0x4a093083893842482811046090083893842420 [_,_,_] rfl h)<|la 0x4a0920a04424c20e24e1047090083893842420 [_,_,_] rfl h
 ·refine V (rY ..) (V bQ ?_)
  show 1+_+_=dj G+1+3*fu G+_
  exact dK (la 0x4a0a40838d30918828428110460a40838d3882860 [_,_,_,_,_] rfl h)<|la 0x4a0a10a04429020e34c24620470a40838d3882860 [_,_,_,_,_] rfl h
theorem adi(b:List Tk)(h:(∀t∈b,t.ok)):anf 0 (aq b)=(fu b:Int):=by
 induction b with
 |nil=>
  exact rfl
 |cons t G a=>
  have a:=a λx e=>h x<|a_ _ e
  have d:=h t aZ
  refine V (rY ..)<|V (ang ..)<|V a ?_
  cases t with
  |s c=>simp only[Tk.cps,Vg,PyProof.Rows.cnt_nil,DV,DW,DX,DY];refine V (if_neg d.1) ?_;lia
  |o k=>simp only[Tk.cps,Vg,PyProof.Rows.cnt_nil,DV,DW,DX,DY];refine V (if_neg d.1) ?_;simp;lia
  |e=>simp only[Tk.cps,Vg,PyProof.Rows.cnt_nil,DV,DW,DX,DY];refine V (if_neg<|by decide) ?_;lia
theorem adj(w:Nat)(q:Option Nat)(G:List Tk):jF q G->jF Z (dF (cM w q G).2.2++(cM w q G).2.1):=by
 refine A6 (P:=λw q G=>jF q G->jF Z (dF (cM w q G).2.2++(cM w q G).2.1)) (λm G e h=>?_) (λw m h=>?_) (λw m k G a h=>?_) (λw m G a h=>?_) (λw m c G a h=>?_) w q G
 ·refine V e ?_;clear e;cases m<;>exact h
 ·cases m with
  |none=>rfl
  |some k=>cases h
 ·cases m with
  |none=>exact a h
  |some k=>exact h.elim
 ·cases m with
  |none=>exact h.elim
  |some k=>exact a h
 ·cases m<;>exact a h
theorem adk(w:Nat)(q:Option Nat)(G:List Tk):(cM w q G).1++(cM w q G).2.1=G:=
 A6 (P:=λw q G=>(cM w q G).1++(cM w q G).2.1=G) (λU U e=>by refine V e ?_;rfl) (λU U=>rfl) (λU U k U h=>congrArg (Tk.o k::·) h) (λU U U h=>congrArg (Tk.e::·) h) (λU U c U h=>congrArg (Tk.s c::·) h) w q G
theorem adl(w:Nat)(q:Option Nat)(G:List Tk):dj (cM w q G).2.1=dj G-w:=
 A6 (P:=λw q G=>dj (cM w q G).2.1=dj G-w) (λU U e=>by refine V e ?_;rfl) (λU U=>(Nat.zero_sub _).symm) (λU U U U h=>h) (λU U U h=>h) (λw U U G h=>h.trans (Nat.add_sub_add_right (dj G) 1 w).symm) w q G
theorem PU(m:Option Nat)(G:List Tk):dj (dF m++G)=dj G:=by cases m<;>rfl
theorem adm(w:Nat)(q:Option Nat)(G:List Tk)(h:∀k,q=Y k->k≠0/\k≠1)(b:∀t∈G,t.ok):∀k,(cM w q G).2.2=Y k->k≠0/\k≠1:=
 A6 (P:=λw q G=>(∀k,q=Y k->k≠0/\k≠1)->(∀t∈G,t.ok)->∀k,(cM w q G).2.2=Y k->k≠0/\k≠1) (λU U e h U=>by refine V e ?_;exact h) (λU U h U=>h) (λU U U U a h b=>a (λj e=>by cases e;exact b _ aZ) λt d=>b t<|a_ _ d)
  (λU U U a U b=>a (λj e=>nS e) λt d=>b t<|a_ _ d) (λU U U U a h b=>a h λt d=>b t<|a_ _ d) w q G h b
def IT:T:= .an<|.k (.bx .Lt (.v 7)<|.v 5)<|.k (.bx .Lt (.v 6)<|.v 4) .z
def A7:Ss:= .k (.ck (.bx .Eq (.sub (.v 3)<|.v 6)<|.c<|.str "\x00") (.k (.eF 6<|.c<|.int 1)<|.k (.aT (.k (.n 8) .z)<|.sub (.v 3)<|.v 6)<|.k (.eF 6<|.c<|.int 1) .z)
 (.k (.ck (.bx .Eq (.sub (.v 3)<|.v 6)<|.c<|.str "\x01") (.k (.eF 6<|.c<|.int 1)<|.k (.aT (.k (.n 8) .z)<|.c<|.str "") .z)<|.k (.eF 6<|.c<|.int 1)<|.k (.eF 7<|.c<|.int 1) .z) .z)) .z
def pJ(p:AV)(num:af)(l:List Nat)(g a i n:Int)(h:H)(μ:List (Option AO)):St:=
 ⟨[Y p,Y (.m 0),Y (.d num),Y (.s<|sL l),Y (.i g),Y (.i a),Y (.i i),Y (.i n),Y (.s h),Z,Z],μ⟩
section
variable {w:aC} {d:Nat} {p:AV} {num:af} {l:List Nat} {g a i n:Int} {h:H} {μ:List (Option AO)}
theorem A8{Q:Bool->St->Prop}(o:Q (decide (n<a)&&decide (i<g)) (pJ p num l g a i n h μ)):WT w d IT (pJ p num l g a i n h μ) Q:=by
 skip;walk_at "w"
 refine bG _ rfl _ rfl<|WL.lt<|WL.tB ?_
 cases e:decide (n<a) with
 |false=>rw[e] at o;exact WL.bK (by decide) o
 |true=>
  rw[e] at o
  refine WL.cy rfl<|bG _ rfl _ rfl<|WL.lt<|WL.tB ?_
  cases c:decide (i<g) with
  |false=>rw[c] at o;exact WL.bK (by decide) o
  |true=>rw[c] at o;exact WL.cy rfl o
theorem adn{j k:Nat}{Q:FQ}(m:j<=100000000)(b:l[j]?=Y 0)(q:l[j+1]?=Y k)(o:Q .nx (pJ p num l g a ((j+2:Nat):Int) n (sL [k]) μ)):WSs w d A7 (pJ p num l g a (j:Int) n h μ) Q:=by
 skip;walk_at "w"
 have f:(sL [0]==("\x00":H))=true:=by refine V rR (V (iO ..) ?_);rfl
 have e:((j:Int)+1)=((j+1:Nat):Int):=by lia
 have c:(((j+1:Nat):Int)+1)=((j+2:Nat):Int):=by exact lA (li 0x4a882461047092822047842460 [_,_,_] rfl e<|Li.ca _ _)<|li 0x4a091862046092822046842460 [_,_,_] rfl e<|Li.ca _ _
 refine bG _ rfl _ rfl<|WL.lM aK b<|WL.nG<|WL.tB<|WL.cy f<|ah _ rfl<|WL.ql ?_
 refine V e ?_
 refine bG _ rfl _ rfl<|WL.lM (by exact gI (by assumption)<|by rfl) q<|ah _ rfl<|WL.ql ?_
 refine V c ?_
 exact o
theorem ado{j:Nat}{Q:FQ}(m:j<=100000000)(b:l[j]?=Y 1)(o:Q .nx (pJ p num l g a ((j+1:Nat):Int) n (sL []) μ)):WSs w d A7 (pJ p num l g a (j:Int) n h μ) Q:=by
 skip;walk_at "w"
 have f:¬(sL [1]==("\x00":H))=true:=by refine V rR (V (iO ..) ?_);decide
 have k:(sL [1]==("\x01":H))=true:=by refine V yx (V (iO ..) ?_);rfl
 have e:((j:Int)+1)=((j+1:Nat):Int):=by lia
 refine bG _ rfl _ rfl<|WL.lM aK b<|WL.nG<|WL.tB<|WL.bK f<|bG _ rfl _ rfl<|WL.lM aK b<|WL.nG<|WL.tB<|WL.cy k<|ah _ rfl<|WL.ql ?_
 refine V e<|V qm ?_
 exact o
theorem adp{j c:Nat}{Q:FQ}(m:j<=100000000)(b:l[j]?=Y c)(q:c≠0/\c≠1)(o:Q .nx (pJ p num l g a ((j+1:Nat):Int) (n+1) h μ)):WSs w d A7 (pJ p num l g a (j:Int) n h μ) Q:=by
 skip;walk_at "w"
 have f:¬(sL [c]==("\x00":H))=true:=by refine V rR (V (iO ..) ?_);simp[q.1]
 have k:¬(sL [c]==("\x01":H))=true:=by refine V yx (V (iO ..) ?_);simp[q.2]
 have e:((j:Int)+1)=((j+1:Nat):Int):=by lia
 refine bG _ rfl _ rfl<|WL.lM aK b<|WL.nG<|WL.tB<|WL.bK f<|bG _ rfl _ rfl<|WL.lM aK b<|WL.nG<|WL.tB<|WL.bK k<|ah _ rfl<|WL.ql<|ah _ rfl<|WL.ql ?_
 refine V e ?_
 exact o
theorem PV{Q:FQ}(m:Option Nat)(G:List Tk)(b:List Nat)(n:Int)(s:n+(0:Nat)=a)(o:(∀x,Q .nx<|pJ p num l g a ((b++aq (cM 0 m G).1).length:Nat) x (dz (cM 0 m G).2.2) μ)):∃j,qk (λq K=>WT w d IT q K) (λq K=>WSs w d A7 q K) j (pJ p num l g a (b.length:Nat) n (dz m) μ) Q:=by
  refine⟨1,A8 ?_⟩
  have:decide (n<a)=false:=by simp;exact li 0x4a821047842420 [_,_] rfl s
  refine V this ?_
  have:=o n
  simp only[yG,yH,yI,yJ,yK] at this
  simpa[aq] using this
theorem adq{Q:FQ}(C:l.length<=10000000)(hs:g=l.length)(u:Nat)(m:Option Nat)(G:List Tk)(b:List Nat)(n:Int)(e:l=b++aq G)(s:n+u=a)(B:(∀t∈G,t.ok))(o:(∀x,Q .nx<|pJ p num l g a ((b++aq (cM u m G).1).length:Nat) x (dz (cM u m G).2.2) μ)):∃j,qk (λq K=>WT w d IT q K) (λq K=>WSs w d A7 q K) j (pJ p num l g a (b.length:Nat) n (dz m) μ) Q:=by
 induction G generalizing u m b n with
 |nil=>
  cases u with
  |zero=>exact PV m [] b n s o
  |succ u=>
   refine⟨1,A8 ?_⟩
   have f:l.length=b.length:=by refine V e ?_;simp[aq]
   have:decide (((b.length:Nat):Int)<g)=false:=by simp;exact li 0x4a8a00468a1046860 [_,_,_] rfl hs<|Li.ce f
   refine V this ?_
   have:=o n
   simp only[yG,yH,yI,yJ,yK] at this
   simpa[aq] using this
 |cons t G D=>
  cases u with
  |zero=>exact PV m _ b n s o
  |succ u=>
   cases t with
   |o k=>
    have r:l=(b++[0,k])++aq G:=by refine V e (V (rY ..) ?_);simp[Tk.cps]
    have f:b.length+2<=l.length:=by refine V r ?_;simp
    refine Ex (D (u+1) (Y k) (b++[0,k]) n r s (λt v=>B t<|a_ _ v) λx=>by
     have:=o x
     simp only[yG,yH,yI,yJ,yK,rY,Tk.cps] at this
     simpa using this) λy v=>?_
    refine⟨y+1,A8 ?_⟩
    have z:decide (n<a)=true:=by simp;exact li 0x4b8a00448d00470918e1046882860 [_,_,_,_] rfl s (Li.ca _ _)<|Li.cp _
    have A:decide (((b.length:Nat):Int)<g)=true:=by simp;exact li 0x4b8230470928e2044862047860 [_,_,_,_] rfl hs (Li.cl f)<|Li.ca _ _
    refine V z<|V A ?_
    refine adn (k:=k) (by exact la 0x1285f5e10014184112009284112625a004060 [_,_] rfl C f) (by refine V r ?_;simp) (by refine V r ?_;simp) ?_
    simpa[dz] using v
   |e=>
    have r:l=(b++[1])++aq G:=by refine V e (V (rY ..) ?_);simp[Tk.cps]
    have f:b.length+1<=l.length:=by refine V r ?_;simp
    refine Ex (D (u+1) Z (b++[1]) n r s (λt v=>B t<|a_ _ v) λx=>by
     have:=o x
     simp only[yG,yH,yI,yJ,yK,rY,Tk.cps] at this
     simpa using this) λy v=>?_
    refine⟨y+1,A8 ?_⟩
    have z:decide (n<a)=true:=by simp;exact li 0x4b8a00448d00470918e1046882860 [_,_,_,_] rfl s (Li.ca _ _)<|Li.cp _
    have A:decide (((b.length:Nat):Int)<g)=true:=by simp;exact li 0x4b8230470918e2044862047860 [_,_,_,_] rfl hs (Li.cl f)<|Li.ca _ _
    refine V z<|V A ?_
    refine ado (by exact la 0x1285f5e10014184112009184112625a004060 [_,_] rfl C f) (by refine V r ?_;simp) ?_
    simpa[dz] using v
   |s c=>
    have r:l=(b++[c])++aq G:=by refine V e (V (rY ..) ?_);simp[Tk.cps]
    have f:b.length+1<=l.length:=by refine V r ?_;simp
    refine Ex (D u m (b++[c]) (n+1) r (by exact lA (li 0x4a8828c24600470918e1046882860 [_,_,_,_] rfl s<|Li.ca _ _)<|li 0x4a0a30918220460918e1047882860 [_,_,_,_] rfl s<|Li.ca _ _) (λt v=>B t<|a_ _ v) λx=>by
     have:=o x
     simp only[yG,yH,yI,yJ,yK,rY,Tk.cps] at this
     simpa using this) λy v=>?_
    refine⟨y+1,A8 ?_⟩
    have z:decide (n<a)=true:=by simp;exact li 0x4b8a00448d00470918e1046882860 [_,_,_,_] rfl s (Li.ca _ _)<|Li.cp _
    have A:decide (((b.length:Nat):Int)<g)=true:=by simp;exact li 0x4b8230470918e2044862047860 [_,_,_,_] rfl hs (Li.cl f)<|Li.ca _ _
    refine V z<|V A ?_
    refine adp (by exact la 0x1285f5e10014184112009184112625a004060 [_,_] rfl C f) (by refine V r ?_;simp) (B _ aZ) ?_
    simpa using v
end
noncomputable def PW(N:List H)(p a b:AV)(xs:List af):St:=⟨[Y p,Y (.m 0),Y a,Y b]++bV (N.length-4) Z,[Y (.ai xs)]⟩
def A9(j:List af)(f:Fw)(q:St):Prop:=(f= .nx\/f= .rt .n)/\q.μ[0]?=Y (Y<|.ai j)
theorem PX(F:fY a fd D U)(hf:Ar fd U=true)
  (hN:4<=U.N.length)
  (hb:∀P (g:List aa),g.length=4->∀S,zR (K0 P) S (sJ fd ⟨g,[]⟩)=Y ((U.N.take 4).zip g))(BO:0<k)
  (l:∀(c:Cx) h,aW c->bA U c->c.w=w->c.d+1=k->dH c U.N h D (PW U.N p x y xs) (A9 j)):tu w k (.ref a) p xs x y j:=by
 obtain⟨BP,t_,d_⟩:=yg hf
 intro A J h s R E vp va vb L oL hh hd hu B nO hao rp ra rb tk K
 obtain⟨k,rfl⟩:∃n,k=n+1:=⟨k-1,(aY BO).symm⟩
 have d:∀(i:Nat) (a:ak),([]:List ak)[i]?=Y a->[L][i]?=Y a:=λi a e=>nS e
 have le:=(FM.le.refl J).C
 refine sM<|enter (G:=[(L,oL)]) (μ:=[Y (.ai xs)]) (C:=[]) (us:=[p,.m 0,x,y]) F BP t_ d_ hh hd hu B (lu.mpr ⟨lW,uf⟩) (λq hq e=>nO q hq<|bH.mp e) rfl (λi z q e l=>?_) (λ_ _ l=>nS l) hN (λQ M hq=>kK (n:=1) tk<|Gl B.e7 (hb _ [vp,.ref L,va,vb] rfl) _ _ _ _ λ(o:1<=s.toks)=>hq [vp,.ref L,va,vb] s.toks (sS (rp.le le d) (ah L rfl rfl) (ra.le le d) (rb.le le d) trivial) o) λc s' ok so N qG KL hA hf I fW hg u=>zJ ?_
 ·cases i with
  |zero=>cases e;cases l;exact hao
  |succ i=>exact nS e
 subst N
 have:=l c h ok so rfl (V qG rfl) J [L] _ (λf s'=>∃v,(match f with| .ret v=>v|_=>ux)=v/\R v s') (λe s'=>aF c.M (A.deeper c.aj) (xq c.aj e) (λ_ r=>E e r) (λe' r=>E e' r) s') I fW λt aJ s' f wf ez k' p' I' rf q=>?_
 ·rw[hA] at this
  exact cQ this (λf s' zz=>aD zz λv e hv=>by subst e;exact hv) λ_ _ e=>e
 ·refine Ea q λq jM=>
   cC I' λjO m I'=>?_
  obtain⟨b,S_,e1,e2,e3⟩:=I'.ff 0 _ jM
  have:=p' 0 L rfl
  rw[this] at e1;cases e1
  have Bx:bz c.w t ((L,S_)::h) s'.heap:=I'.base.sub λp hp=>by
   refine bN hp ?_ λhp=>?_
   ·exact e2
   ·exact I'.sub p hp
  have gF:∀v,v=ux->R v s':=λv e=>by subst e;exact K t s' S_ k' Bx e3 (I'.gens.trans hg)<|I'.os.trans u
  rcases q with rfl|rfl
  ·obtain rfl:f= .next:=rf
   exact ah _ rfl<|gF _ rfl
  ·refine aD rf λv e' rv=>?_;clear rf;subst e'
   cases(show RD t v .none from rv)
   exact ah _ rfl<|gF _ rfl
theorem PY(P)(g:List aa)(hv:g.length=4)(S):zR (K0 P) S (sJ (aM 65) ⟨g,[]⟩)=Y ((DB.N.take 4).zip g):=by
 obtain⟨a,b,c,d⟩:=O9 hv
 kernel_rfl
theorem IU:kT 111 "_split_line" 65:=yk λP=>by kernel_rfl
noncomputable def vf:af->Bool
 | .int n=>n !=0
 | .str y=>(y.length:Int) !=0
 |_=>false
theorem ads{w:aC}{d:Nat}{num:af}{q:St}{Q:Bool->St->Prop}(C:ko num)(l:Q (vf num) q):nC w d (.d num) q Q:=by
 cases num with
 |int n=>exact WL.tI l
 |str y=>exact WL.tS (by have:=C;refine V bI ?_;exact aK) l
 |_=>exact C.elim
def di(a f:Nat)(num:af)(G:List Tk):List (af×List Tk):=if vf num=true then rZ a f num G else[(num,G)]
theorem IV:∀a b:List Tk,fu (a++b)=fu a+fu b
 |[],b=>by simp[DV,DW,DX,DY]
 | .s _::a,b=>IV a b
 | .e::a,b=>IV a b
 | .o _::a,b=>by refine(?_:fu (a++b)+1=fu a+1+fu b);refine V (IV a b) ?_;exact nZ _ _ _
theorem adt(w:Nat)(q:Option Nat)(G:List Tk):fu (dF (cM w q G).2.2++(cM w q G).2.1)<=fu (dF q++G):=by
 refine A6 (P:=λw q G=>fu (dF (cM w q G).2.2++(cM w q G).2.1)<=fu (dF q++G)) (λ_ _ e=>by refine V e ?_;exact bM _) (λ_ _=>bM _) (λw m k G b=>ic b ?_) (λw m G b=>ic b ?_) (λw m c G b=>ic b ?_) w q G
 ·cases m with
  |none=>exact bM _
  |some j=>exact sH _
 ·cases m with
  |none=>exact bM _
  |some j=>exact sH _
 ·clear b;cases m<;>exact bM _
def adu:T:= .yr<|.k (.bx .LtE (.v 4)<|.v 5)<|.k (.bx .LtE (.aI .Sub (.v 4)<|.aI .Mult (.dg .count (.v 3)<|.k (.c<|.str "\x00") .z)<|.c<|.int 3)<|.v 5) .z
theorem adv(n:LJ (sL<|aq G) "\x00"=(fu G:Int))(b:(aq G).length=dj G+3*fu G)
  (l:P (decide<|dj G<=a) ⟨[p,Y (.m 0),num,Y (.s<|sL<|aq G),Y (.i ((aq G).length:Nat)),Y (.i (a:Nat)),o,R,L,N,i],μ⟩):
  WT w d adu ⟨[p,Y (.m 0),num,Y (.s<|sL<|aq G),Y (.i ((aq G).length:Nat)),Y (.i (a:Nat)),o,R,L,N,i],μ⟩ P:=by
 skip;walk_at "w"
 refine bG _ rfl _ rfl<|WL.le<|WL.tB ?_
 by_cases q:(((aq G).length:Nat):Int)<=((a:Nat):Int)
 ·refine WL.cy (by simpa using q) ?_
  have:decide (dj G<=a)=true:=by simp;exact gV.mp<|li 0x4a8a40470e34e50470a59210c48d00448a0047860 [_,_,_,_,_,_] rfl (Li.ce b) q (Li.cp _) (Li.ca _ _)<|Li.cm _ _
  rw[this] at l;exact l
 ·refine WL.bK (by simpa using q)<|eS _ rfl _ rfl rfl<|WL.cnt<|
   V n (
   WL.HV (.of_right<|by decide) (WL.pH<|ah _ rfl<|WL.le<|WL.tB ?_))
  have e:decide ((((aq G).length:Nat):Int)-(fu G:Int)*3<=((a:Nat):Int))=decide (dj G<=a):=by
   rw[decide_eq_decide];lia
  refine V e ?_
  cases e2:decide (dj G<=a) with
  |true=>rw[e2] at l;exact WL.cy rfl l
  |false=>rw[e2] at l;exact WL.bK (by decide) l
theorem PZ(C:ko num)(N:jF Z G)(u:∀t∈G,t.ok)(J:(aq G).length<=1000000)(U:xs.length<=1000000)(hf:dj G<=(f+1)*a)(hc:0<a)
  (K:∀g i j,f=g+1->jF Z i->(∀t∈i,t.ok)->(aq i).length<=1000000->dj i<=f*a->j.length=xs.length+1->∃k,k<=d/\tu w k (.ref 65) (.bF L a) j (.s ">") (.s<|sL<|aq i) (j++(rZ a g (.str ">") i).map eG)):
  WSs w d Ig (PW DB.N (.bF L a) (.d num) (.s<|sL<|aq G) xs) (A9<|xs++(di a f num G).map eG):=by
 have hz:=bI
 have b:=PT Z G N
 simp only[if_true,oW] at b
 have n:LJ (sL<|aq G) "\x00"=(fu G:Int):=by
  refine V rR ?_
  have:=count_cnt (sL<|aq G) 0
  rw[fq,adi G u] at this
  exact this
 refine(?_:WSs w d Ig ⟨[Y (.bF L a),Y (.m 0),Y (.d num),Y (.s<|sL<|aq G),Z,Z,Z,Z,Z,Z,Z],[Y (.ai xs)]⟩ _)
 have M:∀{q:St} {ss:Ss},q=⟨q.v,[Y (.ai xs)]⟩->q.v[1]?=Y (Y<|.m 0)->q.v[2]?=Y (Y<|.d num)->q.v[3]?=Y (Y<|.s<|sL<|aq G)->
   WSs w d (.k (.ex<|.dg .append (.v 1)<|.k (.bZ<|.k (.v 2)<|.k (.v 3) .z) .z)<|.k .x9 .z) q (rO (A9<|xs++[eG (num,G)]) λD=>WSs w d ss D<|A9<|xs++[eG (num,G)]):=λ{q ss} e h1 h2 h3=>by
  refine WSs.c ?_
  walk_at "w"
  have hm:q.μ[0]?=Y (Y<|.ai xs):=by refine V e ?_;rfl
  refine mh _ h1 ?_ _ h2 _ h3<|bk _ rfl (by refine V hz ?_;refine(?_:2<=16777216);decide)<|WL.append<|bk xs hm aK ?_
  ·exact congrArg xZ hm
  ·refine WSs.c ?_
   walk_at "s"
   exact⟨.inr rfl,by refine(?_:(q.μ.set 0 _)[0]?=_);refine V e ?_;rfl⟩
 refine WSs.c ?_
 walk_at "w"
 refine ah _ rfl<|ads C ?_
 by_cases c:vf num=true
 ·refine V c<|
   WL.bK (by decide) (WSs.n<|WSs.c ?_)
  walk_at "w"
  refine cJ _ rfl rfl _ rfl<|WL.wF (by refine V (aQ ..) ?_;exact aK)<|WSs.c ?_
  walk_at "w"
  refine ah _ rfl<|WL.aay<|WSs.c ?_
  walk_at "s"
  refine V (aQ ..)<|
   adv n b ?_
  by_cases hv:dj G<=a
  ·have e:di a f num G=[(num,G)]:=by
    unfold di
    refine V (if_pos c) ?_
    clear hf K;cases f with
    |zero=>rfl
    |succ f=>simp only[DT,DU,if_pos hv]
   exact V e<|
    WL.cy (by simpa using hv) (M rfl rfl rfl rfl)
  ·refine WL.bK (by simpa using hv) (WSs.n<|WSs.c ?_)
   obtain⟨g,rfl⟩:∃g,f=g+1:=⟨f-1,by
    rcases f with _|f
    ·(clear b;lia)
    ·lia⟩
   walk_at "w"
   refine WSs.c ?_
   walk_at "w"
   refine WSs.c ?_
   walk_at "w"
   refine WSs.c ?_
   walk_at "s"
   refine adq (l:=aq G) (num:=num) (μ:=[Y (.ai xs)]) aK rfl a Z G [] 0 rfl (by lia) u λn'=>?_
   have v:=adk a Z G
   have h:=adj a Z G N
   have p:=adt a Z G
   have x:=adl a Z G
   have y:=adm a Z G (λk e=>by cases e) u
   have E:∀t∈(cM a Z G).2.1,t.ok:=λt o=>u t<|az v<|gw _ o
   have eN:di a (g+1) num G=(num,(cM a Z G).1++eU (cM a Z G).2.2)::rZ a g (.str ">") (dF (cM a Z G).2.2++(cM a Z G).2.1):=by
    unfold di
    refine V (if_pos c) ?_
    simp only[DT,DU,if_neg hv]
   refine V eN ?_
   generalize hr:cM a Z G=r at v h p x y E ⊢
   obtain⟨A,B,m⟩:=r
   simp only[] at v h p x y E ⊢
   have z:aq G=aq A++aq B:=by exact az v<|V (jZ ..) rfl
   have hA:(aq A).length<=(aq G).length:=by refine V z ?_;simp
   rw[jt]
   refine WSs.c ?_
   walk_at "w"
   refine bG _ rfl _ rfl<|fH _ _ _ rfl (by refine V (aQ ..) ?_;exact aK) rfl rfl<|WSs.c ?_
   refine V (aai _ _ hA) ?_
   walk_at "w"
   refine bG _ rfl _ rfl<|fH _ _ _ rfl (by refine V (aQ ..) ?_;exact aK) rfl rfl<|WSs.c ?_
   refine V (OL _ _ hA) ?_
   have e1:(aq G).take (aq A).length=aq A:=by refine V z ?_;simp
   have e2:(aq G).drop (aq A).length=aq B:=by refine V z ?_;simp
   refine V e1<|V e2 ?_
   have hB:(aq B).length<=(aq G).length:=by refine V z ?_;simp
   have s:∀v9 I:H,v9=sL (aq<|A++eU m)->I=sL (aq<|dF m++B)->
     WSs w d (.k (.ex<|.dg .append (.v 1)<|.k (.bZ<|.k (.v 2)<|.k (.v 9) .z) .z)<|.k (.ex<|.own 111 65 (.v 0) "_split_line"<|.k (.v 1)<|.k (.c<|.str ">")<|.k (.v 10) .z) .z)
      ⟨[Y (.bF L a),Y (.m 0),Y (.d num),Y (.s<|sL<|aq G),Y (.i ((aq G).length:Nat)),Y (.i (a:Nat)),Y (.i ((aq A).length:Nat)),Y (.i n'),Y (.s<|dz m),Y (.s v9),Y (.s I)],[Y (.ai xs)]⟩
      (A9<|xs++(((num,A++eU m)::rZ a g (.str ">") (dF m++B)).map eG)):=λv9 I q1 q2=>by
    subst q1;subst q2
    refine WSs.c ?_
    walk_at "w"
    refine mh _ rfl rfl _ rfl _ rfl<|bk _ rfl (by refine V hz ?_;refine(?_:2<=16777216);decide)<|WL.append<|bk xs rfl aK<|WSs.c ?_
    walk_at "w"
    have Q:(aq<|dF m++B).length<=1000000:=by
     have h1:=PT Z _ h
     simp only[if_true,oW] at h1
     have h2:=PU m B
     have R:fu (dF m++B)<=fu G:=p
     (clear hc;exact la 0x4a0f42401019411a10a89031229c11a39811820e74e69411a48c11c20e24e1801103d09004060 [_,_,_,_,_,_,_,_,_] rfl J b x h1 h2 R<|aY<|la 0x4a821048860 [_,_] rfl hv)
    refine aD (K g (dF m++B) (xs++[.tuple [num,.str (sL<|aq<|A++eU m)]]) rfl h (λt o=>by
     rcases cj.mp o with o|o
     ·clear p Q h;cases m with
      |none=>simp[dF] at o
      |some k=>simp[dF] at o;subst o;exact y k rfl
     ·exact E t o) Q (by refine V (PU ..) (V x ?_);have:(g+1+1)*a=(g+1)*a+a:=F6 _ _;(clear b;exact la 0x4a8a40468028e40460a38a1044860 [_,_,_,_,_] rfl hf this<|aY<|la 0x4a821048860 [_,_] rfl hv))<|by simp) λk hk hF=>?_
    refine bR IU _ rfl<|bR rfl _ rfl<|ah _ rfl<|WL.Ij rfl rfl rfl rfl hk hF<|WSs.n ⟨.inl rfl,?_⟩
    refine(?_:Y (Y<|AO.ai _)=Y (Y<|AO.ai _))
    exact V ee<|V (eO ..)
     rfl
   walk_at "w"
   refine ah _ rfl ?_
   clear p y hr h;cases m with
   |none=>
    refine WL.tS (by refine V hz ?_;decide)<|WL.bK (by decide)<|WSs.n ?_
    exact s _ _ (by simp[eU])<|by simp[dF]
   |some k=>
    refine WL.tS (by refine V hz ?_;refine(?_:1<=16777216);decide)<|WL.cy (by rfl)<|WSs.c ?_
    walk_at "w"
    refine ah _ rfl<|WL.iP (by refine V yx (V (aQ ..)<|V (aQ ..) ?_);refine(?_:_+1<=_);lia)<|WSs.c ?_
    walk_at "w"
    refine ah _ rfl<|WL.iP (by refine V rR ?_;refine(?_:(sL [0]).length+(sL [k]).length<=_);(rewrite[aQ];refine V (aQ ..) ?_);refine(?_:1+1<=_);exact uB _ _)<|ah _ rfl<|WL.iP ?_<|WSs.n ?_
    ·refine V rR ?_
     refine(?_:(sL [0]++sL [k]).length+(sL<|aq B).length<=_)
     refine V (d9 ..) (V (aQ ..)<|V (aQ ..) ?_);refine(?_:2+_<=_);lia
    ·refine s _ _ ?_ ?_
     ·refine V yx (V (d9 ..)<|V (jZ ..) ?_);rfl
     ·refine V rR ?_
      refine(?_:(sL [0]++sL [k])++sL (aq B)=_)
      (rewrite[d9];refine V (d9 ..)<|V (jZ ..) ?_);rfl
 ·have hnf:vf num=false:=by simpa using c
  unfold di
  exact V hnf<|
   WL.cy rfl (M rfl rfl rfl rfl)
theorem adw(w:aC)(L:Int)(a:Nat)(hc:0<a):∀(f:Nat) (num:af) (G:List Tk) (xs:List af),ko num->jF Z G->(∀t∈G,t.ok)->(aq G).length<=1000000->xs.length+f<=1000000->dj G<=(f+1)*a->
  tu w (f+1) (.ref 65) (.bF L a) xs (.d num) (.s<|sL<|aq G) (xs++(di a f num G).map eG):=by
 intro f
 induction f with
 |zero=>
  intro num G xs C N u J U hv
  refine PX Pb (by kernel_rfl) (by decide) PY (by decide) λc h ok so d hd=>?_
  subst d
  exact fZ ok so OX<|PZ C N u J (by assumption) hv hc λg _ _ e=>by lia
 |succ f b=>
  intro num G xs C N u J U hv
  refine PX Pb (by kernel_rfl) (by decide) PY (oY _) λc h ok so d hd=>?_
  subst d
  refine fZ ok so OX<|PZ C N u J (la 0x4a0f4240101801103d09004042091860 [_,_] rfl U) hv hc λg i j e k l m n o=>(ah (f+1) (la 0x4a802461047091091842460 [_,_] rfl hd) ?_)
  obtain rfl:f=g:=by lia
  have:=b (.str ">") i j (show(">":H).length<=100 by decide+kernel) k l m (la 0x4a0f42401010a1881182460881103d09004042091860 [_,_,_] rfl U o) n
  unfold di at this
  rw[if_pos (show vf (.str ">")=true by decide+kernel)] at this
  exact this
end
abbrev Sg:=Nat×Option Nat
noncomputable def dW:Option Nat->List Sg->List Tk
 |j,[]=>eU j
 |j,(c,m)::r=>(if m=j then[] else eU j++dF m)++(.s c::dW m r)
theorem P0:dW j []=eU j:=rfl
theorem IW:dW j ((c,m)::r)=(if m=j then[] else eU j++dF m)++(.s c::dW m r):=rfl
noncomputable def fU:Option Nat->List Sg->List Tk
 |some k,(_,m)::_=>if m=Y k then[] else[.o k,.e]
 |_,_=>[]
noncomputable def iQ:Option Nat->List Sg->Option Nat
 |j,[]=>j
 |_,(_,m)::r=>iQ m r
noncomputable def mV(d:Nat):Nat->af->Option Nat->List Sg->List (af×List Tk)
 |0,num,b,a=>[(num,fU b a++dW Z a)]
 |f+1,num,b,a=>if a.length<=d then[(num,fU b a++dW Z a)] else
   (num,fU b a++dW Z (a.take d))::mV d f (.str ">") (iQ Z<|a.take d) (a.drop d)
theorem DZ:mV d 0 num b a=[(num,fU b a++dW Z a)]:=rfl
theorem wM:mV d (f+1) num b a=if a.length<=d then[(num,fU b a++dW Z a)] else
   (num,fU b a++dW Z (a.take d))::mV d f (.str ">") (iQ Z<|a.take d) (a.drop d):=rfl
theorem wN:∀(a b:List Tk),dj (a++b)=dj a+dj b
 |[],b=>by simp[IM,IP,IQ,IS]
 | .s _::a,b=>by have:=wN a b;simp only[zS,IM,IP,IQ,IS];exact dK (la 0x4a0a20918424600460a2860 [_,_,_] rfl this) (la 0x4a0918028824610470a2860 [_,_,_] rfl this)
 | .o _::a,b=>by have:=wN a b;assumption
 | .e::a,b=>by have:=wN a b;assumption
theorem P4(m:Option Nat):dj (eU m)=0:=by cases m<;>rfl
theorem adx(m:Option Nat):dj (dF m)=0:=by cases m<;>rfl
theorem P5(j:Option Nat)(a:List Sg):dj (dW j a)=a.length:=by
 induction a generalizing j with
 |nil=>
  exact P4 j
 |cons b r g=>
  obtain⟨c,m⟩:=b
  have:=g m
  refine V (wN ..) ?_
  have h:dj (if m=j then[] else eU j++dF m)=0:=by
   split
   ·rfl
   ·exact V (wN ..)<|V (P4 ..)<|V (adx ..) rfl
  refine V h ?_
  simp only[IM,IP,IQ,IS,cX];lia
theorem ady(b:Option Nat)(a:List Sg):dj (fU b a)=0:=by
 unfold fU
 split
 ·split<;>rfl
 ·rfl
theorem P6:∀(j:Option Nat) (a:List Sg),jF j (dW j a)
 |none,[]=>rfl
 |some k,[]=>rfl
 |j,(c,m)::r=>by
  have g:=P6 m r
  simp only[P0,IW]
  by_cases h:m=j
  ·subst h
   refine V (if_pos rfl) ?_
   cases m<;>exact g
  ·refine V (if_neg h) ?_
   cases j<;>cases m
   ·exact absurd rfl h
   ·exact g
   ·exact g
   ·exact g
theorem adz(n:Nat)(j:Option Nat)(a:List Sg)(h:n<=a.length):(cM n j<|dW j a).1++eU (iQ j<|a.take n)=dW j (a.take n)/\(cM n j<|dW j a).2.1=dW (iQ j<|a.take n) (a.drop n)/\(cM n j<|dW j a).2.2=iQ j (a.take n):=by
 induction n generalizing j a with
 |zero=>
  refine V alN<|V nY ?_
  have f:cM 0 j (dW j a)=([],dW j a,j):=by simp only[yG,yH,yI,yJ,yK]
  refine V f ?_
  exact bJ rfl rfl rfl
 |succ n g=>
  cases a with
  |nil=>exact absurd h<|Nat.not_succ_le_zero _
  |cons p r=>
  obtain⟨c,m⟩:=p
  refine gy (g m r<|alF h) λi k l=>?_
  refine V Cy<|V alJ ?_
  have d:iQ j ((c,m)::r.take n)=iQ m (r.take n):=rfl
  refine V d ?_
  have b:cM (n+1) j (dW j ((c,m)::r))=((if m=j then[] else eU j++dF m)++(.s c::(cM n m<|dW m r).1),(cM n m<|dW m r).2):=by
   have e:dW j ((c,m)::r)=(if m=j then[] else eU j++dF m)++(.s c::dW m r):=rfl
   refine V e ?_
   by_cases h:m=j
   ·clear e d;subst h
    refine V (if_pos rfl) ?_;rfl
   ·refine V (if_neg h) ?_
    clear e d;cases j<;>cases m
    ·exact absurd rfl h
    ·rfl
    ·rfl
    ·rfl
  refine V b ?_
  refine bJ ?_ k l
  exact V (eO ..)<|V zS<|V i rfl
theorem adA(m:Option Nat)(a:List Sg)(h:a≠[]):dF m++dW m a=fU m a++dW Z a:=by
 cases a with
 |nil=>exact absurd rfl h
 |cons p r=>
  obtain⟨c,b⟩:=p
  simp only[P0,IW,fU]
  cases m with
  |none=>
   refine(?_:[]++_=[]++_)
   rfl
  |some k=>
   by_cases d:b=Y k
   ·clear h;subst d
    simp[dF,eU]
   ·clear h;cases b with
    |none=>simp[dF,eU]
    |some f=>
     simp[dF,eU]
     have:¬f=k:=λe=>d<|by exact V e rfl
     simp[this]
theorem adB(n:Nat)(b:Option Nat)(a:List Sg)(G:List Tk):cM (n+1) Z (fU b a++G)=(fU b a++(cM (n+1) Z G).1,(cM (n+1) Z G).2):=by
 unfold fU
 split
 ·split
  ·rfl
  ·rfl
 ·rfl
theorem adC{d:Nat}(j:0<d)(e:Nat)(num:af)(b:Option Nat)(a:List Sg):rZ d e num (fU b a++dW Z a)=mV d e num b a:=by
 induction e generalizing num b a with
 |zero=>
  exact rfl
 |succ f g=>
  obtain⟨c,rfl⟩:∃c,d=c+1:=⟨d-1,by exact dK (la 0x4a091821047842460 [_,_] rfl<|aY<|la 0x4a811045810 [_] rfl j)<|la 0x4a842460046842460 [_,_] rfl<|aY<|la 0x4a811045810 [_] rfl j⟩
  simp only[DT,DU,DZ,wM]
  have m:dj (fU b a++dW Z a)=a.length:=by refine V (wN ..) (V (ady ..)<|V (P5 ..) ?_);exact zq _ _
  refine V m ?_
  by_cases h:a.length<=c+1
  ·exact V (if_pos h)<|V (if_pos h) rfl
  ·refine V (if_neg h) (V (if_neg h) ?_)
   refine gy (adz (c+1) Z a<|by exact la 0x4a802461048091860 [_,_] rfl h) λi k l=>?_
   simp only[adB]
   refine V l<|V k<|V (eO ..)<|V i<|V (adA _ _<|by intro q;have:=congrArg xw q;simp at this;exact la 0xc047802091862046422048091860 [_,_,_] rfl h this<|aY<|la 0x4a802461048091860 [_,_] rfl h) ?_
   exact V (g ..) rfl
section
open IR
theorem D0:rj.names=[(("line":H),NameKind.local),(("self":H),uv)]:=by kernel_rfl
theorem P7:rj.kind= .function:=by kernel_rfl
theorem adD(w:aC)(n:Nat)(l:List Nat)(hn:0<n)(vC:n<=10)(hl:l.length<=1000)(d:(eT n 0<|l.flatMap<|cu 32 [0]).length<=20000):AA w 1 n (.s<|sL l) (.s<|lN n l):=by
 intro A J h s R E f v hh hd hu B rf rv tk K
 obtain⟨a,c',BU,BV,pm,oc,vs,t,j,y,pv,k,rfl,h1,h2,h3,h4,h5,h6,h7⟩:=rf
 obtain⟨u⟩:=dG rv
 have X:=B.e7
 refine sM<|LV (fd:=Pk j c' BV pm BU) (body:=xP) aK (B.keep _ _ h1) rfl (by kernel_rfl) (by kernel_rfl) rfl (mq c' oc vs<|fG t rfl (B.keep _ _ h2) h3 h4) ?_
 refine gH (acw _ _ _ _ _ _) ?_
 refine alO (scope:=rj) (by decide+kernel) (λx d=>?_) (λh' M uc=>?_) P7
 ·refine V (bH.mp d) ?_;refine V D0 ?_;rfl
 have z:∀b o,s.heap.get? b=Y o->h'.get? b=Y o:=λb o e=>(uc.2 b<|gu<|iC e).trans<|ie _ e
 refine sV (id M) λoF es ep KO rF=>?_
 refine⟨wh λb o e=>z _ _<|X b o e,zJ ?_⟩
 let r:dw:=FZ rj s.heap.objs.size gW [("self",j)] (xQ++sF ".<locals>.") (Y a) (.ref c') Z nV
 let c:Cx:=⟨w,A.deeper r,r,[],s.gens,s.os,0,[]⟩
 have ok:aW c:=⟨hh,by assumption,by exact la 0x4a05dc030424e004405dc030420d1620 [_] rfl hu,⟨by assumption,by exact la 0x4a05dc030420d06024e004405dc030420d1620 [_] rfl hu⟩,P7,rfl,rfl⟩
 have so:bA DG c:=⟨rfl,by decide+kernel,λx d=>by cases d⟩
 have B':bz w J ((s.heap.objs.size,oF)::h) h':=by
  refine⟨λb o e=>z _ _<|B.keep _ _ e,λp q=>?_,λp q=>?_,B.K⟩
  ·refine bN q ?_ λq=>?_
   ·exact KO
   ·exact z _ _<|B.led p q
  ·refine bN q ?_ λq=>?_
   ·exact B.fresh
   ·exact B.cU p q
 have I:aH c DG.N h ⟨[Y (.s<|sL l),Y (.bF n k)],[]⟩ J [] ⟨h',s.gens,s.drawn,s.toks+1,s.os⟩:=by
  refine⟨_,_,B',λp q=>a_ _ q,λb C p q=>?_,lu.mpr ⟨lW,uf⟩,M,⟨oF,aZ⟩,(λx b d=>nomatch d),rfl,λi x d=>?_,⟨rfl,λ_ _ e=>nomatch e⟩,λi x d=>?_,rfl,rfl,(λb C=>nomatch C)⟩
  ·have oR:b∈[s.heap.objs.size]:=C
   refine V (bH.mp oR) ?_
   exact B.Af (a:=p.1) (o:=p.2) q
  ·rcases i with _|_|i
   ·have D:x="line":=by have:Y ("line":H)=Y x:=d;exact(iD this).symm
    clear d;subst D
    refine .mz (by refine V D0 ?_;rfl) λN g=>?_
    have g:Y (Y<|AV.s<|sL l)=Y (Y N):=by
     have:(Y<|Y<|AV.s<|sL l).join=Y N:=g
     simpa using this
    cases g
    exact ah _ rfl<|RD.str _ _
   ·have D:x="self":=by have:Y ("self":H)=Y x:=d;exact(iD this).symm
    clear d;subst D
    refine .free j y (Y pv) (.inr<|by refine V D0 ?_;rfl) rfl h5 h6 λN g=>?_
    have g:Y (Y<|AV.bF n k)=Y (Y N):=by
     have:(Y<|Y<|AV.bF n k).join=Y N:=g
     simpa using this
    cases g
    exact ah pv rfl h7
   ·exfalso
    have:(DG.N)[i+2]?=Z:=rfl
    rw[this] at d;cases d
  ·exact absurd d<|by simp
 have:=fZ (Q:=uP<|.s<|lN n l) ok so acv (acz hn vC hl d λv'=> .inl rfl) J [] _ (λf s'=>∃v,(match f with| .ret v=>v|_=>ux)=v/\R v s') (λe s'=>aF (aX pw w) (A.deeper r) (xq r e) (λ_ G=>E e G) (λe' G=>E e' G) s') I (by exact oY _) λU aJ s' f wf ez k' p' L rf av=>?_
 ·exact cQ this (λf s' zz=>aD zz λv e hv=>by subst e;exact hv) λ_ _ e=>e
 ·refine cC L λjO m L=>?_
  have Bx:bz w U h s'.heap:=L.base.sub L.sub
  rcases av with rfl|⟨rfl,av⟩
  ·refine aD rf λv e' rv=>?_;clear rf;subst e'
   exact ah v rfl<|K U s' v k' Bx L.gens L.os<|rv.aq rfl
  ·cases av
def IX(P:cH):Array eY:=match (kN P gW).data with| .dict a _=>a|_=>#[]
def mgN(P:cH):Nat:=match (kN P gW).data with| .dict _ n=>n|_=>0
def D3(P:cH):H->Option aa:=nsFind<|IX P
theorem adF(B:bz w J d f):f.Ns gW (D3 w.params):=by
 refine xG (kN w.params gW) (IX w.params) (mgN w.params) (B.keep _ _<|B.K _ _<|by kernel_rfl) (by kernel_rfl) (λe b=>?_) λ_=>rfl
 have a:(IX w.params).toList.all (λe=>match e.key with| .str .. =>true|_=>false)=true:=by kernel_rfl
 have:=l6.mp a e<|by simpa using b
 revert this
 cases e.key<;>intro q<;>first|(exact dU _ _ rfl)|cases q
theorem adG(B:bz w J d f):f.BuiltinsAt (D3 w.params) 55:=
 (oZ 4 (kN w.params 4) (by kernel_rfl) (by decide) (by decide)<|sS (by decide) (B.keep _ _<|B.K _ _<|by kernel_rfl) (by kernel_rfl) (by kernel_rfl)<|by kernel_rfl)
def vg(P:cH):Array aa:=match (kN P 57).data with| .fields vs=>vs|_=>#[]
noncomputable def P8:aa->H×k_
 | .str x t=>(x,t)
 |_=>("",0)
noncomputable def D4:aa->Int×k_
 | .int x t=>(x,t)
 |_=>(0,0)
noncomputable def adH:aa->Bool
 | .bool b=>b
 |_=>false
theorem adI(B:bz w J d f):CodeHd f 57 55:=
 (mq (kN w.params 57) (vg w.params) ((P8<|(vg w.params).getD 18 .none).1)<|mq ((P8<|(vg w.params).getD 18 .none).2) ((D4<|(vg w.params).getD 7 .none).1) ((D4<|(vg w.params).getD 7 .none).2)<|fH (adH<|(vg w.params).getD 9 .none)
  ((D4<|(vg w.params).getD 10 .none).1) ((D4<|(vg w.params).getD 10 .none).2) (B.keep _ _<|B.K _ _<|by kernel_rfl) (by kernel_rfl) (by kernel_rfl) (by kernel_rfl) (sS (by kernel_rfl) (by kernel_rfl) (by kernel_rfl) (by kernel_rfl) ⟨by kernel_rfl,by decide⟩))
theorem dZ.adJ{c:Cx}{N:List H}{h:ao}{q:St}{J l:FM}{as:List ak}{d:ao}{m:H->Option aa}{s s':au}(I:dZ c N h q J as d m s){i:Nat}{a:ak}{o g:bh}{y:AO}(p:as[i]?=Y a)(n:(a,o)∈d)
  (x:i<q.μ.length)(k:FM.le J l)(B:bz c.w l (d.jx a g) s'.heap)(A:∀b o,b≠a->s.heap.get? b=Y o->s'.heap.get? b=Y o)(r:gK l g y)(t:s'.gens=s.gens)(v:s'.os=s.os):dZ c N h (q.fR i y) l as (d.jx a g) m s':=
 I.gz p k B (λb C f w=>ao.rm f w) rfl (λj u e=>(ah u e λ_ r=>r.aO k)) (y:=Y y) rfl (λz e=>(ah g (ao.sZ n)<|iD e▸r)) (.inl ⟨g,ao.sZ n⟩) t v
def IY:aV:=CN.p
abbrev P9:bu:= .FunctionDef "expand_tabs" CO xP [] Z [] rj Z "expand_tabs" IY
theorem adK:cF (aM 58)=P9::(cF<|aM 58).tail:=by kernel_rfl
def mW:Sc:=⟨["self","fromlines","tolines","expand_tabs"],(aM 58).scope.names,["expand_tabs"]⟩
theorem qu:mW.names=[(("self":H),jR),(("fromlines":H),NameKind.local),(("tolines":H),NameKind.local),(("expand_tabs":H),jR)]:=by kernel_rfl
theorem adL:fY 58 (aM 58) (cF<|aM 58) mW:=⟨λP=>(ah (kN P 58) (by kernel_rfl)<|by kernel_rfl),λP=>by kernel_rfl,by kernel_rfl,by kernel_rfl,by kernel_rfl,by kernel_rfl,by kernel_rfl,by kernel_rfl,by decide+kernel⟩
theorem adM{a:dw}{d:ak}(aU:a.cells.lookup ("self":H)=Y d):LP rj a=pure [(("self":H),d)]:=by
 unfold LP
 refine V D0 ?_
 have b:FL a "self"=pure d:=by unfold FL;exact V aU rfl
 simp[b]
theorem bq.adN{c:Cx}{h:ao}{q:St}(ok:aW c)(so:bA mW c){n w:Int}(t8:c.fr[0]?=Y 55)(t_:∀a,(("self":H),a)∉c.cl)(N:c.aj.code= .ref 57)(U:c.aj.qual=("HtmlDiff._tab_newline_replace.<locals>.":H))(jM:q.μ[0]?=Y (Y .tab))(hs:q.v[0]?=Y (Y<|.bF n w))
  {Q:FQ}(aU:Q .nx ((q.fR 0 .fX).jz 3<|.e_ n)):bq c mW.N h P9 q Q:=λJ as s R E I tk K=>by
 refine cC I λjO m I=>?_
 have aiw:c.aj.kindOf "self"=Y .cell:=by refine(?_:c.aj.scope.names.lookup _=_);refine V so.names (V qu ?_);rfl
 have D:c.aj.kindOf "expand_tabs"=Y .cell:=by refine(?_:c.aj.scope.names.lookup _=_);refine V so.names (V qu ?_);rfl
 obtain⟨d,g,pv,KG,w6,hod,aix⟩:∃d g pv,c.aj.cells.lookup ("self":H)=Y d/\J d=Y g/\g.data= .cell (Y pv)/\uJ J pv n w:=by
  cases I.vars 0 "self" rfl with
  |mz a=>rw[aiw] at a;cases a
  |own _ _ _ _ k=>exact absurd k<|t_ _
  |free a o cv _ e1 e2 e3 e4=>
   refine aD (e4 (.bF n w)<|by refine V hs ?_;rfl) λkH e' r=>?_;clear e4;subst e'
   exact xG a o kH e1 e2 e3 r
 have E4:=I.gj.2 0 55 t8
 obtain⟨a',oT,e1,hT,e3⟩:=I.ff 0 _ jM
 rw[E4] at e1;cases e1
 obtain rfl:oT=iE #[]:=e3
 refine nestDef_K (by kernel_rfl) (by kernel_rfl) (by rfl) ?_
 have hq:qualnameIn c.aj "expand_tabs" "expand_tabs"=xQ:=by
  unfold qualnameIn
  refine V D<|V U ?_
  decide+kernel
 refine V hq ?_
 refine makeFunction_K (mg:=D3 c.w.params) (adM KG) ok.kg (adF I.base) N (adI I.base) (I.base.get hT) (by trivial) rfl (by decide) (adG I.base) λy BU BV h' fW hx z jN G Tc=>?_
 refine Vw G λc2 oc vs t ec hoc hcd hcv=>?_;clear G
 cases ec
 let f:ak:=h'.objs.size
 let l:bh:=fnMade "expand_tabs" xQ CO xP rj [("self",d)] BV ((D3 c.w.params "__name__").getD .none) y BU
 let L:FM:=(J.cY y oc).cY f l
 have Td:J y=Z:=by
  cases k:J y with
  |none=>rfl
  |some o=>exact absurd (I.base.lt k)<|jn.mpr z
 have M:FM.le J (J.cY y oc):=FM.iZ Td
 have ua:s.heap.objs.size<=h'.objs.size:=j7<|zu z jN
 have Te:(J.cY y oc) f=Z:=by
  unfold FM.cY
  refine V (if_neg<|vJ jN) ?_
  cases k:J f with
  |none=>rfl
  |some o=>exact absurd (I.base.lt k)<|jn.mpr ua
 have A:FM.le (J.cY y oc) L:=FM.iZ Te
 have x:FM.le J L:=M.trans A
 let Tf:bh:=iE<|#[]++#[l8 IY.line,l8 IY.col,.ref y]
 have j:∀b o,b≠55->s.heap.get? b=Y o->(h'.push l).get? b=Y o:=λb o ne e=>ie _<|hx b o ne e
 have n55:∀b o,J b=Y o->b≠55:=λb o e k=>by
  have:=I.base.cU _ hT
  subst k
  rw[e] at this;cases this
 have B:∀p∈jO,p.1<s.heap.objs.size:=λp C=>I.base.mw (a:=p.1) (o:=p.2) C
 have v:∀b,b<s.heap.objs.size->J b=Z->L b=Z:=λb hb e=>by
  refine(?_:(if b=f then Y l else if b=y then Y oc else J b)=Z)
  refine V (if_neg<|by(clear z;exact λk=>li 0xc047862045822044860 [_,_,_] rfl (Li.cl ua) (Li.ct hb)<|Li.ce k)) (V (if_neg<|by exact λk=>li 0xc047862045822044860 [_,_,_] rfl (Li.cl z) (Li.ct hb)<|Li.ce k) ?_);exact e
 have B2:bz c.w L (jO.jx 55 Tf) (h'.push l):=by
  refine⟨λb o e=>?_,λp C=>?_,λp C=>?_,λb o e=>x _ _<|I.base.K b o e⟩
  ·have e:(if b=f then Y l else if b=y then Y oc else J b)=Y o:=e
   split at e
   ·rename_i k;cases e;clear e;refine V k ?_;exact qM _ rfl
   ·split at e
    ·rename_i k;cases e;clear e Td Te z j jN Tc x M A Tf L v;refine V k ?_;exact ie _ hoc
    ·exact j b o (n55 b o e)<|I.base.keep b o e
  ·obtain⟨b,ob⟩:=p
   rcases ao.xR C with⟨rfl,rfl⟩|⟨ne,C⟩
   ·exact ie _ Tc
   ·exact j _ _ ne<|I.base.led _ C
  ·obtain⟨b,ob⟩:=p
   rcases ao.xR C with⟨rfl,rfl⟩|⟨ne,C⟩
   ·exact v 55 (B (55,iE #[]) hT)<|I.base.cU (55,iE #[]) hT
   ·exact v _ (B _ C)<|I.base.cU _ C
 have eX:aH c mW.N h (q.fR 0 .fX) L as {s with heap:=h'.push l,toks:=fW}:=
  (dU _ _<|I.adJ (s':={s with heap:=h'.push l,toks:=fW}) E4 hT (fF.mp jM).1 x B2 j ⟨_,rfl⟩ rfl rfl)
 have aiy:uL L (.ref f) n:=⟨f,y,BU,BV,_,oc,vs,t,d,g,pv,w,rfl,FM.eZ _ _ _,A _ _<|FM.eZ _ _ _,hcd,hcv,x _ _ w6,hod,aix.le x.C⟩
 have BI:mW.mF "expand_tabs"=true:=by refine V qu ?_;decide+kernel
 exact eX.Ah ok (by decide+kernel) (i:=3) rfl (.inr ⟨D,so.own "expand_tabs"<|by simp[mW]⟩) (u:= .e_ n) aiy λs' I'=>K L as s' .next .nx _ x (bU.rfl' _) I' rfl aU
def P_:Sc:=jE ["line","expand_tabs"] 1 [] ["expand_tabs"]
def Qa:Ss:=(.k (.pA 1 (.yp 1<|.v 0) (.n 0) (.ai<|.v 1) .gP P_ [Z,Y 3])<|.k (.pA 2 (.yp 1<|.v 0) (.n 0) (.ai<|.v 2) .gP P_ [Z,Y 3])<|.k (.ret<|.bZ<|.k (.v 1)<|.k (.v 2) .z) .z)
theorem adO:gQ mW Qa (cF<|aM 58).tail=true:=by kernel_rfl
def oG(l:List Nat):af:= .str<|sL l
def yL(n:Nat)(l:List Nat):Prop:=l.length<=1000/\(eT n 0<|l.flatMap<|cu 32 [0]).length<=20000
theorem Qc{w:aC}{d n:Nat}(hn:0<n)(vC:n<=10)(hd:1<=d){K:List af->Prop}(a:List (List Nat))(U:Option AV)(b:List af)(ho:(∀l∈a,yL n l))(c:b.length+a.length<=10000)(h:K (b++a.map λl=> .str<|lN n l)):mR (asg<|.n 0) (λq K=>WC w d .gP q K) (λq K=>W w d (.yp 1<|.v 0) q K) (a.map oG) [U,Y (.e_ n)] b K:=by
 induction a generalizing U b with
 |nil=>
  refine(?_:K b)
  simpa using h
 |cons l f e=>
  have h1:=ho l aZ
  walk_at "w"
  refine bG (n:Int) rfl _ rfl<|oZ (.s<|lN n l) 1 hd rfl rfl<|bR (adD w n l hn vC h1.1 h1.2) _ rfl<|bJ rfl (by refine V bI ?_;exact la 0x4a04000000506004409c403042860 [_,_] rfl c) ?_
  exact e _ (b++[.str (lN n l)]) (λx z=>ho x<|a_ _ z) (by simp;exact la 0x4a09c40304284246004409c403042091860 [_,_] rfl c)<|by simpa using h
theorem adP{w:aC}{d n:Nat}{C:Int}{μ:List (Option AO)}{k r:List (List Nat)}(hn:0<n)(vC:n<=10)(hd:1<=d)(h1:∀l∈k,yL n l)(h2:∀l∈r,yL n l)(e1:k.length<=1000)(e2:r.length<=1000){Q:FQ}
  (h:∀v',Q (.rt<|.t [.list (k.map λl=> .str<|lN n l),.list (r.map λl=> .str<|lN n l)]) ⟨v',μ⟩):
  WSs w d Qa ⟨[Y (.bF n C),Y (.d<|.list<|k.map oG),Y (.d<|.list<|r.map oG),Y (.e_ n)],μ⟩ Q:=by
 refine WSs.c ?_
 walk_at "w"
 refine eS _ rfl _ rfl ?_ ?_
 ·exact i_ rfl
 ·skip
  refine Qc hn vC hd k Z [] h1 (by simp;exact aK) ?_
  refine WSs.c ?_
  walk_at "w"
  refine eS _ rfl _ rfl ?_ ?_
  ·exact i_ rfl
  ·skip
   refine Qc hn vC hd r Z [] h2 (by simp;exact aK) ?_
   refine WSs.c ?_
   walk_at "w";skip
   exact qZ _ rfl _ rfl _ rfl (by refine V bI ?_;refine(?_:2<=16777216);decide)<|h _
def D5(w:aC)(k:Nat)(f:aa)(us:List AV)(r:AV):Prop:=
 ∀(A:cR) (J:FM) (h:ao) (s:au) (R:aa->au->Prop) (E:aa->au->Prop) (vs:List aa),A.handled=Z->A.depth+k<=900->A.units+8*k<=6000->
  bz w J ((55,iE #[])::h) s.heap->(∀p∈h,p.1≠55)->b_ J [] vs us->0<s.toks->
  (∀cN s' v ps,FM.le J cN->bz w cN ((55,iE ps)::h) s'.heap->s'.gens=s.gens->s'.os=s.os->RV cN [] v r->R v s')->aF (aX pw w) A (f_ f vs) R E s
theorem adQ(P)(g:List aa)(hv:g.length=3)(S):zR (K0 P) S (sJ (aM 58) ⟨g,[]⟩)=Y ((mW.N.take 3).zip g):=by
 obtain⟨a,b,c⟩:=yz hv
 kernel_rfl
theorem adR(w:aC)(n:Nat)(C:Int)(k r:List (List Nat))(hn:0<n)(vC:n<=10)(h1:∀l∈k,yL n l)(h2:∀l∈r,yL n l)(e1:k.length<=1000)(e2:r.length<=1000):
  D5 w 2 (.ref 58) [.bF n C,.d (.list<|k.map oG),.d (.list<|r.map oG)] (.t [.list (k.map λl=> .str<|lN n l),.list (r.map λl=> .str<|lN n l)]):=by
 intro A J h s R E vs hh hd N B E4 rs tk K
 have F:=adL
 refine aD (F.at w.params) λo ho KS=>?_
 have X:=B.e7
 obtain⟨v1,v2,v3⟩:=yz rs.length
 refine uF rs λr1 r2 r3 _=>?_;clear rs
 refine sM<|LV (by unfold alP;exact la 0x4b3e808180110e1020424a0 [_] rfl hd) (X _ _ ho) KS F.co (by kernel_rfl) F.body (LX X<|F.code _) ?_
 refine kK (n:=1) tk<|Gl X (adQ _ [v1,v2,v3] rfl) _ _ _ _ λ(ht:1<=s.toks)=>?_
 have aiF:(aM 58).closure=[]:=by kernel_rfl
 refine V aiF ?_
 have j:(aM 58).scope.names=[(("self":H),jR),(("fromlines":H),NameKind.local),(("tolines":H),NameKind.local),(("expand_tabs":H),jR)]:=qu
 have KU:((aM 58).scope.names.map (·.1)).Nodup:=by refine V j ?_;decide+kernel
 have zj:∀x,(x,jR)∈(aM 58).scope.names->∃b,(x,b)∈jS (s.heap.objs.size+1) (aM 58).scope.names []/\(jS (s.heap.objs.size+1) (aM 58).scope.names []).lookup x=Y b:=λx z=>by
  refine Ex (Ho (n:=s.heap.objs.size+1) z) λb L=>?_
  exact ah b L<|yb (C3 KU _) L
 have aiE:(("self":H),jR)∈(aM 58).scope.names:=by refine V j ?_;simp
 have aiG:(("expand_tabs":H),jR)∈(aM 58).scope.names:=by refine V j ?_;simp
 refine aD (zj _ aiE) λbS E5 E6=>?_
 refine aD (zj _ aiG) λbE E7 E8=>?_
 refine kK (n:=1) ht<|akE F.kind (λx z=>?_) λd G s' IC fW=>?_
 ·have z:x∈[(("self":H),v1),(("fromlines":H),v2),(("tolines":H),v3)]:=z
  refine GF z ?_ ?_ ?_
  ·exact .inr ⟨by refine V j ?_;rfl,by refine V E6 ?_;rfl⟩
  ·exact .inl<|by refine V j ?_;rfl
  ·exact .inl<|by refine V j ?_;rfl
 refine cC IC.toInCall.same λhp SY e'=>?_;subst e'
 have BZ:d.locals=s.heap.objs.size:=by refine V G ?_;rfl
 have BK:d.cells=jS (s.heap.objs.size+1) (aM 58).scope.names []:=by refine V G ?_;rfl
 have KP:d.scope=(aM 58).scope:=by refine V G ?_;rfl
 have xd:∀b o,s.heap.get? b=Y o->hp.get? b=Y o:=IC.toInCall.keep
 refine sV (id IC.toInCall.ns) λoL es ep EY rL=>?_
 refine⟨wh λb o e=>xd _ _<|X b o e,zJ ?_⟩
 rw[<-BK] at E5 E6 E7 E8
 have t:∀y,d.kindOf y=mW.names.lookup y:=λy=>by refine(?_:d.scope.names.lookup y=_);refine V KP ?_;rfl
 refine aD (IC.cell _ bS E6) λQ aiH aiI=>?_
 refine aD (IC.cell _ bE E8) λoE Th Ti=>?_
 have aS:=IC.above _ bS E5
 have aE:=IC.above _ bE E7
 have nO:bS≠bE:=λe=>by
  subst e
  have nd:(d.cells.map (·.2)).Nodup:=by unfold UN;rw[UO];exact IC.apart
  have:=Nc nd E5 E7
  exact absurd this<|by decide+kernel
 rw[BZ] at aS aE
 let c:Cx:=⟨w,A.deeper d,d,[("expand_tabs",bE)],s.gens,s.os,1,[55]⟩
 have ok:aW c:=⟨hh,by refine(?_:A.depth+1<=900);exact j7<|by assumption,by refine(?_:A.units+3<=6000);exact la 0x4a05dc030424e004405dc030420d2620 [_] rfl N,⟨by refine(?_:A.depth+1+1<=900);assumption,by refine(?_:A.units+3+8*1<=6000);exact la 0x4a05dc030420d16024e004405dc030420d2620 [_] rfl N⟩,by refine(?_:d.scope.kind=_);refine V KP ?_;exact F.kind,by refine(?_:d.globals=_);refine V G ?_;exact F.kg,by refine(?_:d.builtins=_);refine V G ?_;exact F.blt⟩
 have so:bA mW c:=⟨by refine(?_:d.scope.names=_);refine V KP ?_;rfl,F.nd,λx z=>by
  have z:x∈(["expand_tabs"]:List H):=z
  refine V (bH.mp z) ?_
  exact(ah bE aZ E8)⟩
 have Tj:∀b,s.heap.objs.size<=b->J b=Z:=λb L=>by
  cases av:J b with
  |none=>rfl
  |some o=>exact absurd (B.lt av)<|jn.mpr L
 have M:FM.le J (J.cY bS Q):=FM.iZ<|Tj _<|j7 aS
 have Tn:55<s.heap.objs.size:=B.mw (a:=55) (o:=iE #[]) aZ
 have B':bz w (J.cY bS Q) ((s.heap.objs.size,oL)::(bE,oE)::(55,iE #[])::h) hp:=by
  have KQ:∀b,b≠bS->J b=Z->(J.cY bS Q) b=Z:=λb hb e=>by unfold FM.cY;refine V (if_neg hb) ?_;exact e
  refine⟨λb o e=>?_,λp g=>?_,λp g=>?_,λb o e=>M _ _<|B.K b o e⟩
  ·have e:(if b=bS then Y Q else J b)=Y o:=e
   split at e
   ·rename_i av;cases e;clear E5;refine V av ?_;exact aiH
   ·exact xd _ _<|B.keep _ _ e
  ·refine bN g ?_ λg=>?_
   ·rw[BZ] at EY;exact EY
   ·refine bN g ?_ λg=>?_
    ·exact Th
    ·exact xd _ _<|B.led p g
  ·refine bN g ?_ λg=>?_
   ·exact KQ _ (gu aS) B.fresh
   ·refine bN g ?_ λg=>?_
    ·exact KQ _ (pU nO)<|Tj _<|j7 aE
    ·exact KQ _ (gu<|Cp (B.mw (a:=p.1) (o:=p.2) g) aS)<|B.cU p g
 have I:aH c mW.N h ⟨[Y (.bF n C),Y (.d<|.list<|k.map oG),Y (.d<|.list<|r.map oG),Z],[Y .tab]⟩ (J.cY bS Q) [55] ⟨hp,s.gens,s.drawn,SY,s.os⟩:=by
  refine⟨_,_,B',λp g=>a_ _<|a_ _<|a_ _ g,λb L p g=>?_,?_,IC.toInCall.ns,⟨oL,by show(d.locals,oL)∈_;refine V BZ ?_;exact aZ⟩,λx b z=>?_,rfl,λi x z=>?_,⟨rfl,λ_ _ e=>e⟩,λi x z=>?_,rfl,rfl,λb L=>?_⟩
  ·have oR:b∈d.locals::bE::[55]:=L
   have jN:=B.mw (a:=p.1) (o:=p.2)<|a_ _ g
   refine bN oR ?_ λoR=>?_
   ·refine V BZ ?_;exact gu jN
   ·clear B' E7 nO Th;refine bN oR ?_ λoR=>?_
    ·exact gu<|Cp jN aE
    ·refine V (bH.mp oR) ?_;exact E4 p g
  ·refine(?_:(d.locals::bE::[55]).Nodup)
   refine V BZ ?_
   simp only[lu,iX,lW,or_false,not_or,not_false_eq_true,uf,and_true]
   exact⟨⟨gu aE,vJ Tn⟩,vJ<|Cp Tn aE⟩
  ·have z:(x,b)∈[(("expand_tabs":H),bE)]:=z
   have:=bH.mp z
   cases this
   exact⟨oE,_,a_ _ aZ,Ti⟩
  ·have zl:∀(i:Nat) (a:ak),([]:List ak)[i]?=Y a->[55][i]?=Y a:=λi a e=>by simp at e
   have KR:(((mW.N.take 3).zip [v1,v2,v3]).map (·.1)).Nodup:=by
    refine(?_:([("self":H),"fromlines","tolines"]:List H).Nodup)
    decide+kernel
   rcases i with _|_|_|_|i
   ·have U:x="self":=by have:Y ("self":H)=Y x:=z;exact(iD this).symm
    refine V U ?_
    refine .free bS Q _ (.inl<|by refine(?_:d.kindOf _=_);refine V (t ..) (V qu ?_);rfl) E6 (FM.eZ _ _ _) aiI λu N=>?_
    have N:Y (Y<|AV.bF n C)=Y (Y u):=by
     have:(Y<|Y<|AV.bF n C).join=Y u:=N
     simpa using this
    cases N
    refine ah v1 ?_<|r1.le M.C zl
    exact NR (by refine V (t ..) (V qu ?_);decide+kernel) KR aZ
   ·have U:x="fromlines":=by have:Y ("fromlines":H)=Y x:=z;exact(iD this).symm
    refine V U ?_
    refine .mz (by refine(?_:d.kindOf _=_);refine V (t ..) (V qu ?_);rfl) λu N=>?_
    have N:Y (Y<|AV.d<|.list<|k.map oG)=Y (Y u):=by
     have:(Y<|Y<|AV.d<|.list<|k.map oG).join=Y u:=N
     simpa using this
    cases N
    refine ah v2 ?_<|r2.le M.C zl
    exact Hp (by refine V (t ..) (V qu ?_);rfl) KR<|a_ _ aZ
   ·have U:x="tolines":=by have:Y ("tolines":H)=Y x:=z;exact(iD this).symm
    refine V U ?_
    refine .mz (by refine(?_:d.kindOf _=_);refine V (t ..) (V qu ?_);rfl) λu N=>?_
    have N:Y (Y<|AV.d<|.list<|r.map oG)=Y (Y u):=by
     have:(Y<|Y<|AV.d<|.list<|r.map oG).join=Y u:=N
     simpa using this
    cases N
    refine ah v3 ?_<|r3.le M.C zl
    exact Hp (by refine V (t ..) (V qu ?_);rfl) KR<|a_ _<|a_ _ aZ
   ·have U:x="expand_tabs":=by have:Y ("expand_tabs":H)=Y x:=z;exact(iD this).symm
    refine V U ?_
    exact .own bE oE _ (by refine(?_:d.kindOf _=_);refine V (t ..) (V qu ?_);rfl) aZ E8 (a_ _ aZ) Ti λu N=>by cases N
   ·exfalso
    have:(mW.N)[i+4]?=Z:=rfl
    rw[this] at z;cases z
  ·rcases i with _|i
   ·have z:Y (Y AO.tab)=Y (Y x):=z
    cases z
    exact⟨55,iE #[],rfl,a_ _<|a_ _ aZ,rfl⟩
   ·have z:([]:List (Option AO))[i]?=Y (Y x):=z
    simp at z
  ·refine V (bH.mp L) ?_
   exact .inl ⟨iE #[],a_ _<|a_ _ aZ⟩
 have D:dH c mW.N h (cF<|aM 58) ⟨[Y (.bF n C),Y (.d<|.list<|k.map oG),Y (.d<|.list<|r.map oG),Z],[Y .tab]⟩
   (λf q=>f= .rt (.t [.list (k.map λl=> .str<|lN n l),.list (r.map λl=> .str<|lN n l)])/\q.μ[0]?=Y (Y .fX)):=by
  refine V adK ?_
  refine dH.cons<|bq.adN ok so rfl (λa hm=>?_) (by refine(?_:d.code=_);refine V G ?_;kernel_rfl) (by refine(?_:d.qual=_);refine V G ?_;kernel_rfl) rfl rfl ?_
  ·have hm:(("self":H),a)∈[(("expand_tabs":H),bE)]:=hm
   have e2:("self":H)="expand_tabs":=congrArg Prod.fst<|bH.mp hm
   exact absurd e2<|by decide+kernel
  ·exact fZ ok so adO<|adP (μ:=[Y .fX]) hn vC (bM _) h1 h2 e1 e2 λv'=>⟨rfl,rfl⟩
 have:=D (J.cY bS Q) [55] _ (λf s'=>∃v,(match f with| .ret v=>v|_=>ux)=v/\R v s') (λe s'=>aF (aX pw w) (A.deeper d) (xq d e) (λ_ w_=>E e w_) (λe' w_=>E e' w_) s') I fW λcN aJ s' f wf ez k' p' I' rf av=>?_
 ·exact cQ this (λf s' zz=>aD zz λv e hv=>by subst e;exact hv) λ_ _ e=>e
 ·refine Ea av λe' jM=>?_;clear av;subst e'
  refine cC I' λjO m I'=>?_
  obtain⟨a',oT,q1,q2,ps,rfl⟩:=I'.ff 0 _ jM
  have:=p' 0 55 rfl
  rw[this] at q1;cases q1
  refine aD rf λv e' rv=>?_;clear rf;subst e'
  refine ah v rfl<|K cN s' v ps (M.trans k') (I'.base.sub λp hp=>?_) I'.gens I'.os<|rv.aq rfl
  refine bN hp ?_ λhp=>?_
  ·exact q2
  ·exact I'.sub p hp
end
noncomputable def cV(g d c:Nat):List Nat:=if c=9 then bV (g-d%g) 9 else[c]
noncomputable def iu(g:Nat):Nat->List Nat->List Nat
 |_,[]=>[]
 |d,c::l=>cV g d c++iu g (d+(cV g d c).length) l
theorem D6:iu g a []=[]:=rfl
theorem D7:iu g d (c::l)=cV g d c++iu g (d+(cV g d c).length) l:=rfl
noncomputable def pK(g:Nat):Nat->List Sg->List Sg
 |_,[]=>[]
 |d,(c,m)::l=>(cV g d c).map (·,m)++pK g (d+(cV g d c).length) l
theorem D8:pK g a []=[]:=rfl
theorem D9:pK g d ((c,m)::l)=(cV g d c).map (·,m)++pK g (d+(cV g d c).length) l:=rfl
theorem adS(g d c:Nat):(if c=9 then d+(g-d%g) else d+1)=d+(cV g d c).length:=by
 unfold cV;split<;>simp
theorem wO(g d c:Nat)(l:List Nat):cz g d (c::l)=cz g (d+(cV g d c).length) l:=by
 (simp only[II,IJ];exact V (adS ..) rfl)
theorem A_(g:Nat)(a:List Nat)(d:Nat):(iu g d a).length+d=cz g d a:=by
 induction a generalizing d with
 |nil=>
  simp[D6,D7,II,IJ]
 |cons c l f=>
  have:=f<|d+(cV g d c).length
  refine V (wO ..)<|az this ?_
  simp only[D6,D7,bQ];lia
theorem adT(g:Nat)(e:List Nat)(b:List Nat)(d:Nat):iu g d (e++b)=iu g d e++iu g (cz g d e) b:=by
 induction e generalizing b d with
 |nil=>
  exact rfl
 |cons c a f=>
  refine V (wO ..)<|V zS ?_
  simp only[D6,D7]
  exact V (f b ..)<|V (eO ..) rfl
theorem Qd(g:Nat)(e:List Nat)(b:List Nat)(d:Nat):cz g d (e++b)=cz g (cz g d e) b:=by
 induction e generalizing b d with
 |nil=>
  exact rfl
 |cons c a f=>
  exact V zS<|V (wO ..)<|V (wO ..)<|V (f b ..) rfl
theorem adU{g:Nat}{l:List Nat}{k c:Nat}(h:l[k]?=Y c):cz g 0 (l.take<|k+1)=cz g 0 (l.take k)+(cV g (cz g 0<|l.take k) c).length/\
  ((iu g 0 l).drop<|cz g 0<|l.take k).take (cz g 0 (l.take<|k+1)-cz g 0 (l.take k))=cV g (cz g 0<|l.take k) c:=by
 refine Ex (fF.mp h) λd j=>?_
 have e:l.take (k+1)=l.take k++[c]:=by exact V (alQ d)<|V j rfl
 have a:l=l.take k++(c::l.drop (k+1)):=by
  have:l.drop k=c::l.drop (k+1):=by exact V (Cj d)<|V j rfl
  exact az this<|V (Gr ..) rfl
 have f:cz g 0 (l.take<|k+1)=cz g 0 (l.take k)+(cV g (cz g 0<|l.take k) c).length:=by
  refine V e (V (Qd ..)<|V (wO ..) ?_);rfl
 refine⟨f,?_⟩
 have b:=A_ g (l.take k) 0
 rw[oW] at b
 refine V f ?_
 have i:iu g 0 l=iu g 0 (l.take k)++(cV g (cz g 0<|l.take k) c++iu g (cz g 0 (l.take k)+(cV g (cz g 0<|l.take k) c).length) (l.drop<|k+1)):=by
  conv=>lhs;rw[a]
  rw[adT];rfl
 rw[i]
 generalize m:cz g 0 (l.take k)=X at b ⊢
 rw[<-b,Gm,Lm,Mq]
def wQ(n d:Nat)(l:List Nat):List Nat:=((eT n d<|l.flatMap<|cu 32 [0]).flatMap<|cu 32 [9]).flatMap<|cu 0 [32]
theorem Qe(c:Nat)(z:List Nat)(k:Nat) a:(bV a k).flatMap (cu c z)=(bV a<|cu c z k).flatten:=by
 induction a with
 |zero=>
  exact rfl
 |succ n f=>
  exact V nX<|V fQ<|V f<|V nX<|V nc rfl
theorem Qf(n k:Nat):(bV n [k]).flatten=bV n k:=by
 induction n with
 |zero=>rfl
 |succ n f=>refine V nX (V nc<|V f<|V nX ?_);rfl
theorem adV{n d c:Nat}{l:List Nat}(h:c≠0/\c≠10/\c≠13):wQ n d (c::l)=cV n d c++wQ n (d+(cV n d c).length) l:=by
 unfold wQ
 refine V fQ ?_
 by_cases f:c=9
 ·clear h;subst f
  have e:cu 32 [0] 9=[9]:=rfl
  (refine V e (V Mv ?_);refine V uS ?_;refine V (if_pos rfl)<|V lB<|V lB<|V (Qe ..) ?_)
  have a:cu 32 [9] 32=[9]:=rfl
  refine V a<|V (Qf ..)<|V (Qe ..) ?_
  have i:cu 0 [32] 9=[9]:=rfl
  refine V i<|V (Qf ..) ?_
  unfold cV
  exact V (if_pos rfl)<|V sQ rfl
 ·by_cases b:c=32
  ·clear h f;subst b
   have e:cu 32 [0] 32=[0]:=rfl
   (refine V e (V Mv ?_);simp only[yl,uS];refine V (if_neg<|by decide) (V (if_neg<|by decide) ?_);rewrite[fQ];refine V lB ?_)
   unfold cV
   refine V (if_neg<|by decide) ?_
   rfl
  ·have e:cu 32 [0] c=[c]:=by unfold cu;exact V (if_neg b) rfl
   (refine V e (V Mv ?_);simp only[yl,uS];refine V (if_neg f)<|V (if_neg<|by lia)<|V fQ<|V lB ?_)
   have a:cu 32 [9] c=[c]:=by unfold cu;exact V (if_neg b) rfl
   have i:([c]:List Nat).flatMap (cu 0 [32])=[c]:=by
    refine V fQ<|V Mw<|V (iH ..) ?_
    unfold cu;exact V (if_neg h.1) rfl
   refine V a<|V i ?_
   unfold cV
   refine V (if_neg f) ?_;rfl
theorem Qg{n:Nat}(t:List Nat)(a:List Nat)(d:Nat)(h:(∀c∈a,c≠0/\c≠10/\c≠13)):wQ n d (a++t)=iu n d a++wQ n (cz n d a) t:=by
 induction a generalizing d with
 |nil=>
  exact rfl
 |cons c l f=>
  refine V zS<|V (adV<|h c aZ)<|V (f _ λx hx=>h x<|a_ _ hx)<|V (wO ..) ?_
  exact V (eO ..) rfl
theorem Qh{g:Nat}:∀(l:List Nat) (d:Nat),∀k∈iu g d l,k∈l
 |[],_,k,h=>by cases h
 |c::l,d,k,h=>by
  rcases cj.mp h with h|h
  ·unfold cV at h
   split at h
   ·rename_i f
    refine V (UG h) (V f ?_);exact aZ
   ·refine V (bH.mp h) ?_;exact aZ
  ·exact a_ _<|Qh l _ k h
theorem Qi:(("\n":H).cps.contains)=λk=>k==10:=by
 funext k
 refine V tG ?_
 unfold sL
 rw[zM]
 simp
theorem Qj{n:Nat}{l:List Nat}(h:∀c∈l,c≠0/\c≠10/\c≠13):lN n l=sL (iu n 0 l)/\lN n (l++[10])=sL (iu n 0 l):=by
 have b:∀z,(iu n 0 l).getLast?=Y z->(λk:Nat=>k==10) z=false:=λz d=>by
  have:=(h z<|Qh l 0 z<|Vh d).2.1
  simpa using this
 constructor
 ·unfold lN FI
  refine V Qi<|V (DR ..) ?_
  have e:AP n l=iu n 0 l:=by
   have:=Qg (n:=n) [] l 0 h
   rw[iH] at this
   have a:wQ n (cz n 0 l) []=[]:=rfl
   rw[a,iH] at this
   exact this
  exact V e<|V (DS b) rfl
 ·unfold lN FI
  refine V Qi<|V (DR ..) ?_
  have e:AP n (l++[10])=iu n 0 l++[10]:=by
   have:=Qg (n:=n) [10] l 0 h
   have a:wQ n (cz n 0 l) [10]=[10]:=by
    rfl
   rw[a] at this
   exact this
  exact V e<|V (IL ..)<|V (if_pos<|by decide)<|V (DS b) rfl
theorem adW{n:Nat}(g:0<n)(a:List Nat)(d:Nat):(eT n d a).length<=a.length*n:=by
 induction a generalizing d with
 |nil=>
  simp[yl,uS]
 |cons c l f=>
  refine V uS ?_
  have e:(l.length+1)*n=l.length*n+n:=by exact V (qI ..)<|V (zo ..) rfl
  split
  ·have:=f (d+(n-d%n))
   refine V bQ (V sQ<|V cX<|V e ?_);(clear g;exact la 0x4a0a38428220448e2044860 [_,_,_,_] rfl this<|qW _ _)
  ·have:=f (if c=10\/c=13 then 0 else d+1)
   refine V cX (V cX<|V e ?_);exact la 0x4a0a08824610448a1045810 [_,_,_] rfl g this
theorem Qk{n:Nat}{l:List Nat}(g:0<n)(a:n<=10)(b:l.length<=1000):yL n l:=by
 refine⟨b,?_⟩
 have:=adW g (l.flatMap<|cu 32 [0]) 0
 rw[AS] at this
 have c:l.length*n<=1000*10:=ju b a
 exact la 0x1284e200c180110368fa02061044860 [_,_] rfl this c
theorem adX(g:Nat)(a:List Sg)(d:Nat):(pK g d a).map (·.1)=iu g d (a.map (·.1)):=by
 induction a generalizing d with
 |nil=>
  exact rfl
 |cons b l f=>
  obtain⟨c,m⟩:=b
  simp only[D8,D9,gZ,ee,D6,D7]
  refine V (f ..)<|V bY ?_
  have:((λx:Sg=>x.1)∘λx:Nat=>(x,m))=id:=rfl
  exact V this<|V (CB ..) rfl
theorem Ql{g:Nat}:∀(l:List Sg) (d:Nat),∀p∈pK g d l,p∈l
 |[],_,p,h=>by cases h
 |(c,m)::l,d,p,h=>by
  rcases cj.mp h with h|h
  ·refine aD (bg.mp h) λx hx a=>?_;clear h;subst a
   have:x=c:=by
    unfold cV at hx
    split at hx
    ·rename_i f;exact V (UG hx)<|V f rfl
    ·exact bH.mp hx
   refine V this ?_;exact aZ
  ·exact a_ _<|Ql l _ p h
theorem D_{g:Nat}(hs:0<g)(d c:Nat):(cV g d c).length<=g:=by
 unfold cV
 split
 ·refine V sQ ?_;exact qW _ _
 ·exact hs
theorem IZ{g:Nat}(hs:0<g)(a:List Sg)(d:Nat):(pK g d a).length<=a.length*g:=by
 induction a generalizing d with
 |nil=>
  simp[D8,D9]
 |cons b l f=>
  obtain⟨c,m⟩:=b
  have:=f<|d+(cV g d c).length
  have:=D_ hs d c
  simp only[D8,D9,bQ,bC,cX]
  refine V (qI ..) (V (zo ..) ?_);lia
theorem I0{g:Nat}(hs:0<g)(l:List Nat)(d:Nat):(iu g d l).length<=l.length*g:=by
 have:=IZ hs (l.map λc=>(c,Z)) d
 have e:=congrArg xw<|adX g (l.map λc=>(c,Z)) d
 rw[bC,bY] at e
 have:((λx:Sg=>x.1)∘λc:Nat=>((c,Z):Sg))=id:=rfl
 rw[this,CB] at e
 refine az e ?_
 simpa using IZ hs (l.map λc=>((c,Z):Sg)) d
section
open IR
def Qm(g:AV->St->(St->Prop)->Prop)(cond:St->(Bool->St->Prop)->Prop)(c:St->PQ->Prop)(x:af)(v:List (Option AV))(a:List af)(K:List (Option AV)->List af->Prop):Prop:=
 g (.d x) ⟨v,[Y (.ai a)]⟩ λe=>cond e λb d=>
   if b=true then c d λu f=>∃y,u= .d y/\f.μ=[Y (.ai a)]/\a.length<=aL/\K f.v (a++[y])
   else d.μ=[Y (.ai a)]/\K d.v a
theorem I1{g:AV->St->(St->Prop)->Prop}{cond:St->(Bool->St->Prop)->Prop}{c:St->PQ->Prop}{K:List af->Prop}(I:List (Option AV)->Prop)(F:af->List af)(b:List af)(v:List (Option AV))(a:List af)(m:I v)(l:(∀x∈b,(F x).length<=1))(n:a.length+b.length<=aL)(hs:(∀x∈b,∀v a j,I v->a.length<=aL->(∀f,I f->j f (a++F x))->Qm g cond c x v a j))(k:K (a++b.flatMap F)):mR g cond c b v a K:=by
 induction b generalizing v a with
 |nil=>
  refine(?_:K a)
  simpa using k
 |cons x xs h=>
  rw[cX] at n
  have o:=l x aZ
  refine hs x aZ v a (λf d=>mR g cond c xs f d K) m (by lia) λf i=>?_
  refine h f (a++F x) i (λy e=>l y<|a_ _ e) (by refine V bQ ?_;lia) (λy e=>hs y<|a_ _ e) ?_
  refine V (eO ..) (az fQ ?_);exact k
theorem nK{g:AV->St->(St->Prop)->Prop}{w:aC}{d:Nat}{c:St->PQ->Prop}{K:List af->Prop}(I:List (Option AV)->Prop)(F:af->af)(xs:List af)(v:List (Option AV))(m:I v)(n:xs.length<=aL)
  (hs:∀x∈xs,∀v μ j,I v->(∀f,I f->j (.d<|F x) ⟨f,μ⟩)->g (.d x) ⟨v,μ⟩ λe=>c e j)(k:K (xs.map F)):mR g (λq K=>WC w d .gP q K) c xs v [] K:=by
 refine I1 I (λx=>[F x]) xs v [] m (λ_ _=>bM _) (by simpa using n) (λx o v a j p r b=>?_) ?_
 ·skip
  walk_at "w";skip
  exact hs x o v _ _ p λf i=>(fG _ rfl rfl r<|b f i)
 ·refine V (jt ..) ?_
  have:∀l:List af,l.flatMap (λx=>[F x])=l.map F:=λl=>by
   induction l with
   |nil=>rfl
   |cons x l h=>refine V fQ (V h ?_);rfl
  refine V (this ..) ?_;exact k
theorem Qn:∀(l:List Nat),Ci (sL []) (l.map λk=>sL [k])=sL l:=λl=>by
 have:∀l:List Nat,uC (sL []) (l.map λk=>sL [k])=sL l:=λl=>by
  induction l with
  |nil=>rfl
  |cons k l h=>
   cases l with
   |nil=>rfl
   |cons a l=>
    refine(?_:sL [k]++sL []++uC (sL []) ((a::l).map λk=>sL [k])=_)
    (refine V h ?_;rewrite[d9];refine V (d9 ..) ?_);rfl
 refine az (this l) ?_
 exact Vd _ _
theorem yM(l:List af)(k:Nat)(b:k<=l.length):kQ l Z (Y (k:Int))=l.take k:=by
 refine V (Du ..) ?_
 have d:d7 l.length (Y (k:Int)) l.length=k:=u6 b
 have f:d7 l.length Z 0=0:=rfl
 exact V d<|V f<|V nY rfl
theorem adY(l:List af)(a b:Nat)(c:a<=l.length):kQ l (Y (a:Int)) (Y (b:Int))=(l.drop a).take (b-a):=by
 refine V (Du ..) ?_
 have f:d7 l.length (Y (a:Int)) 0=a:=u6 c
 refine V f ?_
 by_cases e:b<=l.length
 ·have d:d7 l.length (Y (b:Int)) l.length=b:=u6 e
  exact V d<|V Gg rfl
 ·have d:d7 l.length (Y (b:Int)) l.length=l.length:=by refine V (Dt ..) ?_;exact dK (la 0x4a860046860 [_,_] rfl<|Gs<|la 0x4a821048860 [_,_] rfl e) (la 0x4a821047860 [_,_] rfl<|Gs<|la 0x4a821048860 [_,_] rfl e)
  exact V d<|V Gj<|V (Cu<|by refine V kM ?_;exact la 0x4a9220478028e40468428e2048860 [_,_,_,_,_] rfl e (aY c)<|aY<|la 0x4a8a0048862044860 [_,_,_] rfl c e) rfl
theorem adZ(b:Nat)(a:Nat):rD (a:Int) 1 b=(Gb a b).map λ(i:Nat)=>jr (i:Int):=by
 induction b generalizing a with
 |zero=>
  exact rfl
 |succ k h=>
  refine(?_:jr (a:Int)::rD ((a:Int)+1) 1 k=_)
  have e:((a:Int)+1)=((a+1:Nat):Int):=by lia
  refine V e (V (h<|a+1)<|V Vb ?_);rfl
theorem Eb(k:Nat):rD 0 1 k=(l_ k).map λ(i:Nat)=>jr (i:Int):=by
 have:=adZ k 0
 refine V List.range_eq_range' ?_;exact this
theorem Ba(k:Nat):uu 0 (k:Int) 1=(k:Int):=by
 have:=PM 0 k
 simpa using this
theorem Ec{k:Nat}(b:k<=1000000000):Cn 0 (k:Int) 1=true:=IG (by decide) (by decide) (by lia) (by lia) (by decide) (by decide) (Ba k) aK
def bP(p:Sg):af:= .tuple [.str (sL [p.1]),.str (dz p.2)]
abbrev fy(l:List Sg):AV:= .l<|l.map bP
section
variable {w:aC} {d M:Nat} {D n g:H} {l:List Nat} {c h:Option AV}
theorem I3(x:P (decide<|(a:Int)<=(l.length:Int)-1-M) (qt D n g M l a i c h xs)):WT w d DM (qt D n g M l a i c h xs) P:=by
 skip;walk_at "w"
 exact bG _ rfl _ rfl<|WL.le<|WL.tB x
theorem ad0(p:4<=M)(E:M<=100)(N:l.length<=10000)(b:Nat)(a:Nat)(xs:List af)(i:Option AV)(B:(l.drop a).length<=b)(r:a<=l.length)(J:xs.length+b<=90000)(x:(∀e y,l.drop e=(dO M b<|l.drop a).2->e<=l.length->Q .nx (qt D n g M l e y c h<|xs++(dO M b<|l.drop a).1.map jc))):∃m,qk (λq K=>WT w d DM q K) (λq K=>WSs w d DL q K) m (qt D n g M l a i c h xs) Q:=by
 induction b generalizing a xs i with
 |zero=>
  refine⟨1,I3 ?_⟩
  rw[kM] at B
  have:decide ((a:Int)<=(l.length:Int)-1-M)=false:=by simp;(clear p;exact li 0x4b8cf84f4620473e38a0044850044420 [_,_,_,_] rfl (Li.cl B) (Li.cp _)<|jT r)
  refine V this<|
   WL.bK (by decide) ?_
  have:=x a i rfl r
  simpa[pI,nJ] using this
 |succ f R=>
  by_cases o:(l.drop a).length<=M
  ·refine⟨1,I3 ?_⟩
   have t:=o
   rw[kM] at t
   have:decide ((a:Int)<=(l.length:Int)-1-M)=false:=by simp;exact li 0x4b8cf84f4620473e38a0044860 [_,_,_,_] rfl (Li.cl t)<|jT r
   refine V this<|
    WL.bK (by decide) ?_
   have:=x a i (V nJ<|V (if_pos o) rfl) r
   rw[nJ] at this
   rw[if_pos o] at this
   simpa using this
  ·have z:M<(l.drop a).length:=by exact Fg (by assumption)
   have k:=z
   rw[kM] at k B
   have U:decide ((a:Int)<=(l.length:Int)-1-M)=true:=by simp;exact li 0x4a3e03d18a30463e38a1045860 [_,_,_,_] rfl (Li.ct k)<|jT r
   have G:∀(s:List Nat) (u:Nat),(if (l.drop a)[M-3]?=Y 61 then((l.drop a).take<|M-2,a+(M-3)) else if (l.drop a)[M-2]?=Y 61 then((l.drop a).take<|M-1,a+(M-2)) else((l.drop a).take (M-1)++[61],a+(M-1)))=(s,u)->
     a+1<=u->u<=l.length->dO M (f+1) (l.drop a)=(s::(dO M f<|l.drop u).1,(dO M f<|l.drop u).2)->
     ∃m,qk (λq K=>WT w d DM q K) (λq K=>WSs w d DL q K) m (qt D n g M l a i c h xs) Q:=λs u A h1 L hb=>by
    refine Ex (R u (xs++[jc s]) (Y<|.i ((a+(M-1):Nat):Int)) (V kM<|la 0x4a8650469028e50479028a00448c2462044091860 [_,_,_,_,_,_] rfl B h1 (aY r)<|aY L) L (by simp;exact la 0x4a57e40304284246004457e403042091860 [_,_] rfl J) λe I e1 e2=>by
     have:=x e I (V hb e1) e2
     rw[hb] at this
     simpa using this) λtn j=>?_
    exact⟨tn+1,I3<|
     V U (
     WL.cy rfl (
     acX p E N (by(clear p;exact la 0x4a61a80306004457e403042091860 [_,_] rfl J)) z A j))⟩
   by_cases v:(l.drop a)[M-3]?=Y 61
   ·refine G ((l.drop a).take<|M-2) (a+(M-3)) (V (if_pos v) rfl) (la 0x4a0a18824620478024e1044814 [_,_,_] rfl p<|aY<|la 0x4a813044814 [_] rfl p) (la 0x4a8c29220468024e40468c28a1045860 [_,_,_,_,_] rfl k (aY r)<|aY<|la 0x4a813044814 [_] rfl p) ?_
    (simp only[pI,nJ];exact V (if_neg o)<|V (if_pos v)<|V zY rfl)
   ·by_cases C:(l.drop a)[M-2]?=Y 61
    ·refine G ((l.drop a).take<|M-1) (a+(M-2)) (V (if_neg v)<|V (if_pos C) rfl) (la 0x4a0a18824620478024a1044814 [_,_,_] rfl p<|aY<|la 0x4a812044814 [_] rfl p) (la 0x4a8c29220468024a40468c28a1045860 [_,_,_,_,_] rfl k (aY r)<|aY<|la 0x4a812044814 [_] rfl p) ?_
     (simp only[pI,nJ];exact V (if_neg o)<|V (if_neg v)<|V (if_pos C)<|V zY rfl)
    ·refine G ((l.drop a).take (M-1)++[61]) (a+(M-1)) (V (if_neg v)<|V (if_neg C) rfl) (la 0x4a0a1882462047802461044814 [_,_,_] rfl p<|aY<|la 0x4a811044814 [_] rfl p) (la 0x4a8c29220468024640468c28a1045860 [_,_,_,_,_] rfl k (aY r)<|aY<|la 0x4a811044814 [_] rfl p) ?_
     (simp only[pI,nJ];exact V (if_neg o)<|V (if_neg v)<|V (if_neg C)<|V zY rfl)
end
def Ed:S:= .ck (.an<|.k (.val<|.v 7)<|.k (.bx .In (.sub (.v 7)<|.neg<|.c<|.int 1)<|.c<|.str " \t") .z) (.k (.aT (.k (.n 11) .z)<|.aI .Sub (.v 8)<|.v 9)<|.k (.ck (.bx .GtE (.v 11)<|.c<|.int 3) (.k (.aT (.k (.n 12) .z)<|.call 14<|.k (.sub (.v 7)<|.neg<|.c<|.int 1) .z) .z)<|.k (.ck (.bx .Eq (.v 11)<|.c<|.int 2) (.k (.aT (.k (.n 12) .z)<|.aI .Add (.sub (.v 7)<|.neg<|.c<|.int 1)<|.v 3) .z)<|.k (.aT (.k (.n 12) .z)<|.aI .Add (.v 3)<|.call 14<|.k (.sub (.v 7)<|.neg<|.c<|.int 1) .z) .z) .z)<|.k (.ex<|.lJ 6<|.aI .Add (.jD (.v 7) (.x<|.v 8)<|.x<|.neg<|.c<|.int 1)<|.v 12) .z)<|.k (.ex<|.lJ 6<|.jD (.v 7) (.x<|.v 8) .kU) .z
def Qo:Ss:= .k (.aT (.k (.n 8) .z)<|.c<|.int 0)<|.k (.aT (.k (.n 9) .z)<|.aI .Sub (.aI .Sub (.call 0<|.k (.v 7) .z)<|.c<|.int 1)<|.v 1)<|.k (.rG DM DL)<|.k Ed .z
section
variable {w:aC} {d M:Nat} {D:H} {n l:List Nat}
theorem ad1{l:List Nat}{p z:Nat}(u:l.getLast?=Y z)(t:l.drop p≠[]):(l.drop p).getLast?=Y z:=by
 have e:l=l.take p++l.drop p:=(Gr p l).symm
 rw[e,zT] at u
 cases G:(l.drop p).getLast? with
 |none=>exact absurd (Vi.mp G) t
 |some y=>rw[G] at u;simpa using u
theorem ad2{a:Nat}{i c h:Option AV}{xs:List af}{Q:FQ}(hM:4<=M)(L:M<=100)(hl:l.length<=10000)(he:n.length<=2)(hd:1<=d)(hxl:xs.length<=100000)(t:a<=l.length)(I:(l.drop a).length<=M)(v:l≠[]->l.drop a≠[])(k:∀z,l.getLast?=Y z->z<256)
  (u:∀m N,Q .nx<|qt D (sL n) (sL<|[61]++n) M l a i m N<|xs++[jc (lO M n<|l.drop a)]):WS w d Ed (qt D (sL n) (sL<|[61]++n) M l a i c h xs) Q:=by
 have A:=bI
 have R:(-(1:Int))= -1:=rfl
 have o:lO M n (l.drop a)=l.drop a->WSs w d (.k (.ex<|.lJ 6<|.jD (.v 7) (.x<|.v 8) .kU) .z) (qt D (sL n) (sL<|[61]++n) M l a i c h xs) Q:=λe=>by
  refine WSs.c ?_
  walk_at "w"
  refine nh 0 rfl _ rfl _ rfl<|fH _ _ _ rfl (by refine V (aQ ..) (V A ?_);exact aK) rfl rfl<|oZ _ xs rfl rfl aK<|WSs.n ?_
  refine V (OL l a t)<|az e ?_
  exact u c h
 simp only[Ed];walk_at "w"
 refine ah _ rfl<|WL.tS (by refine V (aQ ..) (V A ?_);exact aK) ?_
 refine V (aQ ..) ?_
 by_cases g:l=[]
 ·clear u hl k v t I;subst g
  refine WL.bK (by decide)<|WL.bK (by decide)<|o ?_
  refine V List.drop_nil ?_;rfl
 ·have BX:0<l.length:=zU.mpr g
  refine WL.cy (by simpa using g) ?_
  obtain⟨z,j⟩:∃z,l.getLast?=Y z:=by
   cases G:l.getLast? with
   |none=>exact absurd (Vi.mp G) g
   |some z=>exact⟨z,rfl⟩
  have q:=k z j
  have C:=ad1 (p:=a) j<|v g
  have x:a<l.length:=by
   have:=zU.mpr<|v g
   rw[kM] at this;exact la 0x4b8a1046882860045810 [_,_,_] rfl this<|aY t
  have r:(l.drop a).length=l.length-a:=kM
  refine bG _ rfl 1 rfl<|WL.uM j<|WL.AI<|WL.tB ?_
  have J:rA (" \t":H) (sL [z])=decide (z∈[32,9]):=by refine V acW ?_;exact A2 _ _
  refine V J ?_
  by_cases E:z=32\/z=9
  ·refine WL.cy (by simpa using E) (WL.cy trivial<|WSs.c ?_)
   walk_at "w"
   refine bG _ rfl _ rfl<|WL.pH<|WSs.c ?_
   have b:lO M n (l.drop a)=if (l.drop a).length+2<=M then(l.drop a).dropLast++[61,hx (z/16),hx (z%16)] else if (l.drop a).length+1=M then(l.drop a).dropLast++([z]++([61]++n)) else(l.drop a).dropLast++(([61]++n)++[61,hx (z/16),hx (z%16)]):=by
    unfold lO
    refine V C ?_
    simp only
    exact V (if_pos E) rfl
   have y:∀(K:List Nat) (m:Option AV),K.length<=10->lO M n (l.drop a)=(l.drop a).dropLast++K->
     WSs w d (.k (.ex<|.lJ 6<|.aI .Add (.jD (.v 7) (.x<|.v 8)<|.x<|.neg<|.c<|.int 1)<|.v 12) .z) (qt D (sL n) (sL<|[61]++n) M l a i m (Y<|.s<|sL K) xs) (λf s=>match f with| .nx=>WSs w d .z s Q|f=>Q f s):=λK m hq e=>by
    refine WSs.c ?_
    walk_at "w"
    refine nh 0 rfl _ rfl _ rfl<|ah 1 rfl<|fH _ _ _ rfl (by refine V (aQ ..) (V A ?_);exact aK) rfl rfl<|ah _ rfl ?_
    refine V R<|V (acT l a x) ?_
    refine WL.iP (by refine V (aQ ..) (V (aQ ..)<|V List.length_dropLast<|V A ?_);exact la 0x12810000001410a28c11a10918c111a881120841101902060 [_,_,_,_] rfl L I hq<|aY<|la 0x4a8910478428230478e2045860 [_,_,_,_] rfl x r<|aY t)<|oZ _ xs rfl rfl aK<|WSs.n<|WSs.n ?_
    refine V (d9 ..)<|az e ?_
    exact u m _
   walk_at "w"
   refine ah _ rfl<|WL.ge<|WL.tB ?_
   by_cases B:(l.drop a).length+2<=M
   ·rw[if_pos B] at b
    refine WL.cy (by simp;(clear hM J;exact li 0x4a3cf8cf4649530470928220473e59210448e2047860 [_,_,_,_,_,_] rfl (Li.ce r) (Li.cl B) (jT t)<|Li.ca _ _))<|WSs.c ?_
    walk_at "w"
    refine mh _ rfl rfl _ rfl 1 rfl<|WL.uM j<|WL.kW hd (PD w z q) rfl rfl<|WSs.n ?_
    exact y _ _ (by simp) b
   ·rw[if_neg B] at b
    refine WL.bK (by simp;(clear I x E;exact li 0x4b4cf3e23d19250460928230463e59210458e2046860 [_,_,_,_,_,_] rfl (Li.ce r) (Li.ct<|Ff.mp B) (jT t)<|Li.ca _ _))<|WSs.c ?_
    walk_at "w"
    refine ah _ rfl<|WL.Dv<|WL.tB ?_
    by_cases U:(l.drop a).length+1=M
    ·rw[if_pos U] at b
     refine WL.cy (by simp;(clear hM J;exact lA (li 0x4a48f3e23d19250460928230463e59210458e2046860 [_,_,_,_,_,_] rfl (Li.ce r) (Li.ct<|Ff.mp B) (jT t)<|Li.ca _ _)<|li 0x4a3cf8cf4649520470918220473e59210468e2047860 [_,_,_,_,_,_] rfl (Li.ce r) (Li.ce U) (jT t)<|Li.ca _ _))<|WSs.c ?_
     walk_at "w"
     refine bG _ rfl 1 rfl<|WL.uM j<|ah _ rfl<|WL.iP (by refine V (aQ ..) (V (aQ ..)<|V A ?_);simp;exact la 0x4a0400000050420918110444a0 [_] rfl he)<|WSs.n<|WSs.n ?_
     refine V (d9 ..) ?_
     exact y _ _ (by simp;exact aK) b
    ·rw[if_neg U] at b
     refine WL.bK (by simp;(clear I J B;lia))<|WSs.c ?_
     walk_at "w"
     refine eS _ rfl _ rfl rfl<|bG _ rfl 1 rfl<|WL.uM j<|WL.kW hd (PD w z q) rfl rfl<|WL.iP ?_<|WSs.n<|WSs.n ?_
     ·skip
      refine V (aQ ..) (V (aQ ..)<|V A ?_);simp;exact aK
     ·skip
      refine V (d9 ..) ?_
      exact y _ _ (by simp;exact aK) b
  ·refine WL.bK (by simpa using E) (WL.bK (by decide)<|o ?_)
   unfold lO
   refine V C ?_
   simp only
   exact V (if_neg E) rfl
end
def Ef(D n g:H)(M:Nat)(R L N i c h:Option AV)(xs:List af):St:=
 ⟨[Y (.s D),Y (.i M),Y (.s n),Y (.s g),Y (.i<|(M:Int)-1),Y (.m 0),Y (.ap 0),R,L,N,i,c,h],[Y (.ai xs)]⟩
structure yN(M:Nat)(l:List Nat):Prop where
 len:l.length<=10000
 Qp:(dO M l.length l).2.length<=M
 ne:l≠[]->(dO M l.length l).2≠[]
 ad3:∀z,l.getLast?=Y z->z<256
theorem Qq(d:Nat)(p:d<16):hx d<256:=by unfold hx;split<;>lia
theorem Qs(s:4<=M)(p:∀t∈G,t.kq)(m:(fE G).length<=10000):yN M (fE G):=by
 obtain⟨g,l,e,o,q,h,i⟩:=Pw s (fE G).length G (λt b=>(p t b).ok)<|bM _
 refine⟨m,by refine V e ?_;exact h,by refine V e ?_;exact i,λz B=>?_⟩
 have j:z∈fE G:=Vh B
 refine aD (xA.mp j) λt b a=>?_
 have f:=p t b
 cases t with
 |p c=>
  rewrite[bH.mp a]
  have:=f.2;lia
 |q c=>
  have k:c<256:=f
  simp only[ET.cps,iX,lW,or_false] at a
  rcases a with rfl|rfl|rfl
  ·decide
  ·exact Qq _<|qJ.mp<|li 0x102d00419011234011c39100418811c28e28411a0841144002060 [_,_,_,_,_] rfl (Li.ct k) (Li.ce<|xy _ _) (Li.ca _ _) (Li.cm _ _)<|Li.cp _
  ·exact Qq _<|la 0x4b401060045401060 [_] rfl<|lD _<|by decide
section
variable {w:aC} {d M:Nat} {D:H} {n l:List Nat}
theorem ad4(s:4<=M)(o:M<=100)(ok:yN M l)(C:n.length<=2)(E:1<=d)(q:xs.length<=70000)
  (p:∀t u v k b e,Q .nx<|Ef D (sL n) (sL<|[61]++n) M t u v k b e<|xs++(jY M n l).map jc):WSs w d Qo (Ef D (sL n) (sL<|[61]++n) M (Y<|.s<|sL l) L N i c h xs) Q:=by
 have B:=bI
 have m:=ok.len
 refine WSs.c ?_
 walk_at "w"
 refine WSs.c ?_
 walk_at "w"
 refine cJ _ rfl rfl _ rfl<|WL.wF (by refine V (aQ ..) (V B ?_);exact aK)<|WL.pH<|ah _ rfl<|WL.pH<|WSs.c ?_
 refine V (aQ ..) ?_
 walk_at "s"
 have j:=ad0 (w:=w) (d:=d) (D:=D) (n:=sL n) (g:=sL<|[61]++n) (l:=l) (c:=c) (h:=h) (Q:=λf a=>match f with
   | .nx=>WSs w d (.k Ed .z) a Q
   |f=>Q f a) s o m l.length 0 xs i (by simp) (eL _) (la 0x4a57e40304286004409c403061044445c03060 [_,_] rfl q m) λy z A G=>by
  rw[nY] at A ⊢
  refine WSs.c ?_
  refine ad2 s o m C E ?_ G (V A ok.Qp) (V A ok.ne) ok.ad3 λb e=>WSs.n ?_
  ·have:(dO M l.length l).1.length<=l.length:=by
    have:∀(f:Nat) (x:List Nat),(dO M f x).1.length<=f:=λf=>by
     induction f with
     |zero=>intro x;simp[pI,nJ]
     |succ f r=>
      intro x
      simp only[pI,nJ]
      split
      ·simp
      ·split
       ·simp[r]
       ·split<;>simp[r]
    exact this _ _
   refine V bQ (V (bC ..) ?_);exact la 0x4a61a8030428a004486204409c403061044445c03060 [_,_,_] rfl q m this
  ·have:=p (Y<|.s<|sL l) (Y<|.i y) (Y<|.i<|(l.length:Int)-1-M) z b e
   refine V A ?_
   unfold jY at this
   rw[gZ] at this
   exact V (eO ..)
    this
 exact j
theorem ad5(s:4<=M)(o:M<=100)(C:n.length<=2)(E:1<=d)(a:List (List Nat))(R:Option AV)(L:Option AV)(N:Option AV)(i:Option AV)(c:Option AV)(h:Option AV)(xs:List af)(A:(∀l∈a,yN M l))(hx:xs.length+11000*a.length<=70000)(p:(∀t u v k b e,Q .nx<|Ef D (sL n) (sL<|[61]++n) M t u v k b e<|xs++((a.map λl=>jY M n l).flatten).map jc)):mT (asg<|.n 7) (λq K=>WSs w d Qo q K) (a.map jc) (Ef D (sL n) (sL<|[61]++n) M R L N i c h xs) Q:=by
 induction a generalizing R L N i c h xs with
 |nil=>
  have:=p R L N i c h
  simp only[j_,alR,iH] at this
  exact this
 |cons l J r=>
  have m:=A l aZ
  rw[cX] at hx
  refine ad4 s o m C E (la 0x4a445c03060044445c030420c24610abe03060 [_,_] rfl hx) λt u v k b e=>?_
  have g:(jY M n l).length<=l.length+1:=by
   unfold jY
   have:∀(f:Nat) (x:List Nat),(dO M f x).1.length<=f:=λf=>by
    induction f with
    |zero=>intro x;simp[pI,nJ]
    |succ f r=>
     intro x
     simp only[pI,nJ]
     split
     ·simp
     ·split
      ·simp[r]
      ·split<;>simp[r]
   have:=this l.length l
   simp;assumption
  have:=m.len
  refine r t u v k b e _ (λx hx=>A x<|a_ _ hx) (by simp;exact la 0x4a445c030420e10abe030428a004409c4030630440918e2044445c030420c24610abe03060 [_,_,_,_] rfl hx g this) λB G I j y z=>?_
  have:=p B G I j y z
  simpa using this
end
def dX(k:Nat):ET:=if AZ k=true then .p k else .q k
theorem Eg{k:Nat}(b:k<256):(dX k).kq:=by
 unfold dX
 split
 ·rename_i hp
  refine(?_:k≠61/\(k=9\/(32<=k/\k<127)))
  unfold AZ at hp
  simp only[FJ,beq_iff_eq,jQ,decide_eq_true_eq] at hp
  lia
 ·exact b
theorem ad6(k:Nat):(dX k).code=k:=by unfold dX;split<;>rfl
theorem ad7(m:List Nat):(m.map dX).map ET.code=m:=by
 refine V bY ?_
 have:ET.code∘dX=id:=funext ad6
 exact V this<|V (CB ..) rfl
def vh(k:Nat):Prop:=k<256/\k≠10/\k≠13
theorem ad8{k:Nat}(b:vh k):((mQ[k]?).getD (⟨#[]⟩:H)).cps.toList=(dX k).cps:=by
 refine V IB<|V iW<|V (Mt b.1) ?_
 refine(?_:(if AZ k=true\/k=10\/k=13 then sL [k] else qs k).cps.toList=_)
 unfold dX
 by_cases hp:AZ k=true
 ·refine V (if_pos<|.inl hp) (V (if_pos hp)<|V (fq ..) ?_);rfl
 ·refine V (if_neg λN=>N.elim hp λN=>N.elim b.2.1 b.2.2) (V (if_neg hp) ?_)
  refine V (fq ..) ?_;rfl
theorem Qt(a b:List Nat):i8 mQ (a++b)=i8 mQ a++i8 mQ b:=by unfold i8;exact V gZ<|V U0 rfl
theorem ad9(a:List Nat)(b:(∀k∈a,vh k)):i8 mQ a=fE (a.map dX):=by
 induction a with
 |nil=>
  exact rfl
 |cons k m d=>
  have d:=d λx hx=>b x<|a_ _ hx
  refine(?_:((mQ[k]?).getD (⟨#[]⟩:H)).cps.toList++i8 mQ m=_)
  refine V (ad8<|b k aZ) (V d ?_);rfl
theorem aea(a:List (List Nat))(b:(∀m∈a,∀k∈m,vh k)):i8 mQ (aR [10] a)=aR [10] (a.map λm=>fE<|m.map dX):=by
 induction a with
 |nil=>
  exact rfl
 |cons m e d=>
  refine V (jb ..)<|V ee<|V (jb ..)<|V (Qt ..)<|V (Qt ..)<|V (ad9 m<|b m aZ)<|V (d λx hx=>b x<|a_ _ hx) ?_
  rfl
theorem Eh{n:List Nat}{B:Nat}(a:List (List Nat))(b:(∀m∈a,m.length<=B)):(aR n a).length<=a.length*(B+n.length):=by
 induction a with
 |nil=>
  simp[aR]
 |cons m e d=>
  have d:=d λx hx=>b x<|a_ _ hx
  have:=b m aZ
  refine V (jb ..) ?_
  simp only[bQ,cX]
  refine V (qI ..) ?_;exact la 0x4a0830a48d18420a09220448e2044860 [_,_,_,_,_] rfl d this
theorem Bb(m:List Nat):(fE<|m.map dX).length<=3*m.length:=by
 induction m with
 |nil=>simp[fE]
 |cons k m d=>
  refine V ee<|V (AX ..)<|V bQ<|V cX ?_
  have:((dX k).cps).length<=3:=by unfold dX;split<;>simp[ET.cps]
  exact la 0x4a0c24614c28220444e20440e14e0 [_,_,_] rfl d this
theorem Ei{M:Nat}(j:1<=M):∀(f:Nat) (x:List Nat),∀r∈(dO M f x).1,r.length<=M
 |0,x,r,b=>by simp[pI,nJ] at b
 |f+1,x,r,b=>by
  simp only[pI,nJ] at b
  split at b
  ·cases b
  ·split at b
   ·refine bN b ?_ λb=>?_
    ·simp;exact la 0x4a8a00448a1044860 [_,_,_] rfl (Cq _ _)<|qW _ _
    ·exact Ei j f _ r b
   ·split at b
    ·refine bN b ?_ λb=>?_
     ·simp;exact la 0x4a8a0046882461044860 [_,_,_] rfl (Cq _ _)<|aY j
     ·exact Ei j f _ r b
    ·refine bN b ?_ λb=>?_
     ·simp;exact la 0x4a882460046882461044860 [_,_,_] rfl (Cq _ _)<|aY j
     ·exact Ei j f _ r b
theorem aeb{M:Nat}(a:Nat)(x:List Nat):(dO M a x).1.length<=a:=by
 induction a generalizing x with
 |zero=>
  simp[pI,nJ]
 |succ f d=>
  simp only[pI,nJ]
  split
  ·simp
  ·split
   ·simp[d]
   ·split<;>simp[d]
theorem Ej{M:Nat}{n l:List Nat}(j:4<=M)(o:n.length<=2)(ok:yN M l):(∀r∈jY M n l,r.length<=M+8)/\(jY M n l).length<=l.length+1:=by
 unfold jY
 refine⟨λr v=>?_,by have:=aeb (M:=M) l.length l;simp;assumption⟩
 rcases cj.mp v with v|v
 ·have:=Ei (by exact la 0x4a811044814 [_] rfl j) _ _ r v;exact la 0x4a098860044860 [_,_] rfl this
 ·rewrite[bH.mp v]
  have:=ok.Qp
  unfold lO
  split
  ·split
   ·split
    ·simp;exact la 0x4a091095860044860 [_,_] rfl this
    ·split
     ·simp;exact la 0x4a0988820910918230448630448a10444a0 [_,_,_,_] rfl o this<|qW _ _
     ·simp;(clear j;exact la 0x4a0988820910938230448630448a10444a0 [_,_,_,_] rfl o this<|qW _ _)
   ·exact la 0x4a098860044860 [_,_] rfl this
  ·exact la 0x4a098860044860 [_,_] rfl this
theorem Bc{B:Nat}(c:List Nat)(b:(∀a∈c,a<=B)):c.sum<=c.length*B:=by
 induction c with
 |nil=>
  simp
 |cons a l d=>
  have:=d λx hx=>b x<|a_ _ hx
  have:=b a aZ
  refine V akT (V cX<|V (qI ..) ?_);lia
theorem Qu{C:Type _}{B:Nat}(c:List (List C))(b:(∀a∈c,a.length<=B)):c.flatten.length<=c.length*B:=by
 induction c with
 |nil=>
  simp
 |cons a l d=>
  have:=d λx hx=>b x<|a_ _ hx
  have:=b a aZ
  refine V nc (V bQ<|V cX<|V (qI ..) ?_);lia
def nL(M:Nat)(n:List Nat)(e:List (List Nat)):List Nat:=aR n<|(e.map λm=>jY M n<|fE<|m.map dX).flatten
theorem Ek{n:List Nat}{z:Nat}(o:n.getLast?=Y z):∀(e:List (List Nat)),e≠[]->(aR n e).getLast?=Y z
 |[],b=>absurd rfl b
 |[m],_=>by simp[aR,zT,o]
 |m::a::e,_=>by
  refine V (jb ..) (V zT<|V zT<|V (Ek o (a::e)<|by simp) ?_);rfl
theorem aec(w:aC)(M:Nat)(n:List Nat)(e:List (List Nat))(j:4<=M)(Q:M<=100)(o:n.length<=2)(R:e≠[])(U:e.length<=4)(A:∀m∈e,(∀k∈m,vh k)/\m.length<=500):
  iN w 2 (.ref 158) [.s (sL<|aR [10] e),.i M,.s (sL n)] (.s<|sL<|nL M n e):=by
 have K:=bI
 refine pB (cP:=[.s (sL<|aR [10] e),.i M,.s (sL n)]) abT (by kernel_rfl) (abU rfl) rfl (by decide) λc h ok so hw hd=>?_
 have hd1:c.d=1:=by lia
 subst hw
 refine fZ ok so aaM (q:=⟨[Y (.s<|sL<|aR [10] e),Y (.i M),Y (.s<|sL n),Z,Z,Z,Z,Z,Z,Z,Z,Z,Z],[]⟩)<|WSs.c ?_
 have hlm:=Eh (n:=[10]) (B:=500) e λm b=>(A m b).2
 have amA:(aR [10] e).length<=2004:=by
  have:e.length*(500+[10].length)<=4*501:=ju U<|by simp
  exact la 0x4a7d40818011031f5081521044860 [_,_] rfl hlm this
 have nO:aR [10] e≠[]:=by
  intro N
  have:=Ek (n:=[10]) (z:=10) rfl e R
  rw[N] at this;cases this
 walk_at "w"
 refine ah _ rfl<|WL.lt<|WL.tB<|WL.bK (by simp;exact li 0x4a814044814 [_] rfl<|Li.cl j)<|WSs.n<|WSs.c ?_
 walk_at "w"
 refine ah _ rfl<|WL.tS (by refine V (aQ ..) (V K ?_);exact aK) ?_
 refine V (aQ ..) ?_
 have hp:=zU.mpr nO
 refine WL.bK (by simp;exact nO)<|WSs.n<|WSs.c ?_
 walk_at "w"
 refine cJ _ rfl rfl _ rfl<|WL.aaG<|fG mQ rfl ?_ ?_<|bJ ?_ ?_ ?_
 ·intro k hk
  rw[fq] at hk
  have i:mQ.length=256:=by refine V IB ?_;simp
  refine V i ?_
  refine aD (Ms.mp hk) λx f C=>?_
  refine aD (bg.mp f) λm hm1 g=>?_;clear f;subst g
  rcases cj.mp C with b|b
  ·exact((A m hm1).1 k b).1
  ·rewrite[bH.mp b];decide
 ·have i:mQ.length=256:=by refine V IB ?_;simp
  refine V i ?_;decide
 ·intro y hy
  have:∀y∈mQ,y.length<=10:=by decide+kernel
  exact this y hy
 ·refine V (aQ ..) ?_;exact aK
 refine V (fq ..)<|V (aea e λm b=>(A m b).1) ?_
 have hb:(⟨(aR [10]<|e.map λm=>fE<|m.map dX).toArray⟩:H)=sL (aR [10]<|e.map λm=>fE<|m.map dX):=rfl
 refine V hb ?_
 have hlb:(aR [10]<|e.map λm=>fE<|m.map dX).length<=6004:=by
  have s:=Eh (n:=[10]) (B:=1500) (e.map λm=>fE<|m.map dX) λx hx=>by
   refine aD (bg.mp hx) λm b g=>?_;clear hx;subst g
   have:=Bb m
   have:=(A m b).2
   lia
  rw[bC] at s
  have:e.length*(1500+[10].length)<=4*1501:=ju U<|by simp
  exact la 0x12817740c18011035dd081521044860 [_,_] rfl s this
 refine WSs.c ?_
 walk_at "w"
 refine ah _ rfl ?_
 refine V wL ?_
 refine WL.iP (by refine V (aQ ..) (V (aQ ..)<|V K ?_);simp;exact la 0x4a0400000050428110444a0 [_] rfl o)<|WSs.c ?_
 refine V (d9 ..) ?_
 walk_at "w"
 refine ah _ rfl<|WL.pH<|WSs.c ?_
 walk_at "w"
 refine bk [] rfl (by refine V K ?_;simp)<|WSs.c ?_
 walk_at "w"
 refine ah _ rfl<|gx 0 [] rfl rfl<|WSs.c ?_
 have D:∀r∈e.map (λm=>fE<|m.map dX),∀k∈r,lC k=false:=λr v k hk=>by
  refine aD (bg.mp v) λm b g=>?_;clear v;subst g
  have:=RW.free (r:=⟨m.map dX,true⟩) (λt ht=>by
   refine aD (bg.mp ht) λx f g=>?_;clear ht;subst g
   exact Eg ((A m b).1 x f).1) k<|by exact iF _ hk
  exact this.1
 refine Ea (Po (n:=[10]) (.inl rfl) (e.map λm=>fE<|m.map dX) D) λu E=>?_
 walk_at "w"
 refine bk _ rfl rfl<|WL.OU<|mj (by refine V (aQ ..) (V K ?_);exact aK) (by refine V E (V K<|V (bC ..) ?_);exact aK) _ rfl ?_
 refine V u ?_
 have hmm:p_ oU (p_ sL<|e.map λm=>fE<|m.map dX)=(e.map λm=>fE<|m.map dX).map jc:=by refine V bY ?_;rfl
 refine V hmm ?_
 have G:∀l∈e.map (λm=>fE<|m.map dX),yN M l:=λl hl=>by
  refine aD (bg.mp hl) λm b g=>?_;clear hl;subst g
  refine Qs j (λt ht=>?_)<|by have:=Bb m;have:=(A m b).2;lia
  refine aD (bg.mp ht) λx f g=>?_;clear ht;subst g
  exact Eg ((A m b).1 x f).1
 refine ad5 (d:=c.d) j Q o (by exact la 0x4a811047482460 [_] rfl hd) _ Z Z Z Z Z Z [] G (by refine V (bC ..) ?_;simp;exact la 0x4a445c03043802af80c10abe03004520 [_] rfl U) λb7 b8 b9 b10 b11 b12=>?_
 refine V bY ?_
 have To:((λl=>jY M n l)∘λm:List Nat=>fE<|m.map dX)=λm=>jY M n (fE<|m.map dX):=rfl
 (refine V To ?_;rw[jt])
 generalize I:(e.map λm=>jY M n<|fE<|m.map dX).flatten=L
 have aiJ:L.length<=6004:=by
  refine az I ?_
  have s:=Qu (B:=1501) (e.map λm=>jY M n<|fE<|m.map dX) λx hx=>by
   refine aD (bg.mp hx) λm b g=>?_;clear hx;subst g
   have s:=(Ej j o<|G (fE<|m.map dX)<|bg.mpr<|ah m b rfl).2
   have:=Bb m
   have:=(A m b).2
   lia
  rw[bC] at s
  have:e.length*1501<=4*1501:=ju U<|bM _
  exact la 0x4a05dd030610440d7742060857742004520 [_,_] rfl U s
 have aiK:∀p∈L,p.length<=108:=λp hp=>by
  rw[<-I] at hp
  refine aD (Ms.mp hp) λx f C=>?_
  refine aD (bg.mp f) λm b g=>?_;clear f;subst g
  have:=(Ej j o<|G (fE<|m.map dX)<|bg.mpr<|ah m b rfl).1 p C
  exact la 0x4a06c081841102620841101902060 [_,_] rfl Q this
 refine WSs.c ?_
 walk_at "w"
 have J:(aR [10]<|e.map λm=>fE<|m.map dX).getLast?=Y 10:=Ek rfl _<|by simpa using R
 refine bG _ rfl 1 rfl<|WL.uM J<|ah _ rfl ?_
 refine WL.AI<|WL.tB ?_
 have hcr:rA ("\r\n":H) (sL [10])=true:=by refine V ID (V (A2 ..) ?_);rfl
 refine V hcr ?_
 refine WL.cy rfl<|WSs.c ?_
 walk_at "w"
 refine ah 0 rfl<|oZ _ _ rfl rfl (by refine V (bC ..) (V K ?_);exact aK)<|WSs.n<|WSs.c ?_
 walk_at "w"
 refine cJ _ rfl rfl _ rfl<|WL.join<|bk ((L++[[]]).map sL) ?_ ?_<|.inl ?_
 ·skip
  refine V bY (V gZ ?_);rfl
 ·refine V bY ?_
  have s:=Bc (B:=108) ((L++[[]]).map<|(λx:H=>x.length)∘sL) λa ha=>by
   refine aD (bg.mp ha) λp hp g=>?_;clear ha;subst g
   refine(?_:(sL p).length<=108)
   refine V (aQ ..) ?_
   rcases cj.mp hp with hp|hp
   ·exact aiK p hp
   ·rewrite[bH.mp hp];simp
  rw[bC] at s ⊢
  rw[bQ,vO] at s ⊢
  refine V (aQ ..) ?_
  have h2:(L.length+1)*108<=6005*108:=ju (by exact gI (by assumption)<|by rfl)<|bM _
  have h3:(L.length+1)*n.length<=6005*2:=ju (by exact gI (by assumption)<|by rfl) o
  exact la 0x4a0400000050428a10440d205dd430620440c1b02042460841b0200405dd03060 [_,_,_] rfl aiJ s h3
 ·refine V (acV ..) ?_
  unfold nL
  exact V I rfl
def El:T:= .bx .Lt (.v 4)<|.v 5
def I4:S:= .ck (.bx .Eq (.v 4)<|.v 5) (.k (.eF 2<|.v 1) .z) .z
def yO:Ss:=(.k (.aT (.k (.n 6) .z)<|.sub (.v 3)<|.v 4)<|.k (.ck (.bx .NotEq (.v 6)<|.c<|.str "=") (.k (.eF 2<|.v 6)<|.k (.eF 4<|.c<|.int 1) .z)<|.k (.ck (.bx .Eq (.aI .Add (.v 4)<|.c<|.int 1)<|.v 5) (.k (.eF 4<|.c<|.int 1)<|.k .cnt .z)<|.k (.ck (.an<|.k (.bx .Lt (.aI .Add (.v 4)<|.c<|.int 2)<|.v 5)<|.k (.bx .In (.sub (.v 3)<|.aI .Add (.v 4)<|.c<|.int 1)<|.g 13)<|.k (.bx .In (.sub (.v 3)<|.aI .Add (.v 4)<|.c<|.int 2)<|.g 13) .z) (.k (.eF 2<|.call 15<|.k (.jD (.v 3) (.x<|.v 4)<|.x<|.aI .Add (.v 4)<|.c<|.int 3) .z)<|.k (.eF 4<|.c<|.int 3) .z)<|.k (.eF 2<|.v 6)<|.k (.eF 4<|.c<|.int 1) .z) .z) .z)<|.k I4 .z)
def I5:Ss:=(.k (.aT (.k (.n 3) .z)<|.dg .rstrip (.v 3) .z)<|.k (.ck (.nt<|.val<|.v 3) (.k (.eF 2<|.v 1)<|.k .cnt .z) .z)<|.k (.aT (.k (.n 4) .z)<|.c<|.int 0)<|.k (.aT (.k (.n 5) .z)<|.call 0<|.k (.v 3) .z)<|.k (.rG El yO) .z)
def oH(h:H)(D a:List Nat)(i n:Nat)(l:Option AV):St:=⟨[Y (.s h),Y (.s<|sL [10]),Y (.s<|sL D),Y (.s<|sL a),Y (.i i),Y (.i n),l],[]⟩
theorem Qv:∀d:Fin 16,rA ("0123456789abcdefABCDEF":H) (sL [hx d.1])=true:=by decide+kernel
section
variable {w:aC} {d:Nat} {h:H} {D a:List Nat} {n:Nat}
theorem Bd(e:P (decide<|i<n) (oH h D a i n l)):WT w d El (oH h D a i n l) P:=by
 skip;walk_at "w"
 refine bG _ rfl _ rfl<|WL.lt<|WL.tB ?_
 have:decide ((i:Int)<(n:Int))=decide (i<n):=by rw[decide_eq_decide];lia
 refine V this ?_;exact e
theorem Qw(j:D.length<=100000)(e:Q .nx (oH h (if i=n then D++[10] else D) a i n l)):WSs w d (.k I4 .z) (oH h D a i n l) Q:=by
 refine WSs.c ?_
 simp only[I4];walk_at "w"
 refine bG _ rfl _ rfl<|WL.Dv<|WL.tB ?_
 by_cases hi:i=n
 ·rw[if_pos hi] at e
  refine WL.cy (by simp;lia)<|WSs.c ?_
  walk_at "w"
  refine bG _ rfl _ rfl<|WL.AJ (by refine V (aQ ..) (V (aQ ..)<|V bI ?_);simp;exact aK)<|WSs.n<|WSs.n ?_
  exact V (d9 ..)
   e
 ·rw[if_neg hi] at e
  exact WL.bK (by simp;lia)<|WSs.n<|WSs.n e
theorem aed(j:D.length<=90000)(hi:i<=10000)(f:c≠61)(b:a[i]?=Y c)
  (e:Q .nx (oH h (if i+1=n then D++[c]++[10] else D++[c]) a (i+1) n<|Y<|.s<|sL [c])):WSs w d yO (oH h D a i n l) Q:=by
 refine WSs.c ?_
 walk_at "w"
 refine bG _ rfl _ rfl<|WL.lM aK b<|WSs.c ?_
 walk_at "w"
 refine ah _ rfl<|WL.rP<|WL.tB ?_
 refine WL.cy (by(refine V wL ?_;rewrite[bne];refine V (iO ..)<|V (lP ..) ?_);simpa using f)<|WSs.c ?_
 walk_at "w"
 refine bG _ rfl _ rfl<|WL.AJ (by refine V (aQ ..) (V (aQ ..)<|V bI ?_);simp;exact aK)<|WSs.c ?_
 refine V (d9 ..) ?_
 walk_at "w"
 exact ah _ rfl<|WL.ql<|WSs.n<|
  Qw (D:=D++[c]) (i:=i+1) (l:=Y<|.s<|sL [c]) (by simp;exact aK) e
theorem aee(q:1<=d)(j:D.length<=90000)(hi:i<=10000)(m:k<256)(x:a.length<=10000)(c:i+3<=n)(b:(a.drop i).take 3=[61,hx (k/16),hx (k%16)])
  (e:Q .nx (oH h (if i+3=n then D++[k]++[10] else D++[k]) a (i+3) n<|Y<|.s<|sL [61])):WSs w d yO (oH h D a i n l) Q:=by
 have g:a[i]?=Y 61:=by
  have:=congrArg (·[0]?) b
  simpa using this
 have r:a[i+1]?=Y (hx<|k/16):=by
  have:=congrArg (·[1]?) b
  simpa using this
 have o:a[i+2]?=Y (hx<|k%16):=by
  have:=congrArg (·[2]?) b
  simpa using this
 have f:i+3<=a.length:=by
  have:=(fF.mp o).1
  assumption
 refine WSs.c ?_
 walk_at "w"
 refine bG _ rfl _ rfl<|WL.lM aK g<|WSs.c ?_
 walk_at "w"
 refine ah _ rfl<|WL.rP<|WL.tB ?_
 refine WL.bK (by(refine V wL ?_;rewrite[bne];refine V (iO ..)<|V (lP ..) ?_);simp)<|WSs.c ?_
 walk_at "w"
 refine ah _ rfl<|WL.fK<|ah _ rfl<|WL.Dv<|WL.tB<|
  WL.bK (by simp;exact λs=>li 0xc0470938a0047842462044860 [_,_,_] rfl (Li.cl c) s<|Li.ca _ _) (WSs.c ?_)
 walk_at "w"
 refine ah _ rfl<|WL.fK<|ah _ rfl<|WL.lt<|WL.tB<|
  WL.cy (by simp;exact li 0x4b8424a20470938a0044860 [_,_,_] rfl (Li.cl c)<|Li.ca _ _) (bG _ rfl _ rfl<|WL.fK ?_)
 have t:((i:Int)+1)=((i+1:Nat):Int):=by lia
 have u:((i:Int)+2)=((i+2:Nat):Int):=by lia
 have p:((i:Int)+3)=((i+3:Nat):Int):=by lia
 refine V t<|
  WL.lM (by exact gI (by assumption)<|by rfl) r (ah _ rfl<|WL.AI<|WL.tB<|
  WL.cy (Qv ⟨k/16,by exact qJ.mp<|li 0x102d00419011234011c39100418811c28e28411a0841144002060 [_,_,_,_,_] rfl (Li.ct m) (Li.ce<|xy _ _) (Li.ca _ _) (Li.cm _ _)<|Li.cp _⟩) (bG _ rfl _ rfl<|WL.fK<|
  V u (
  WL.lM (by exact la 0x4aee6b280050424a004409c403060 [_] rfl hi) o (ah _ rfl<|WL.AI<|WL.tB<|
  WL.cy (Qv ⟨k%16,by exact la 0x4b401060045401060 [_] rfl<|lD _<|by decide⟩) (WL.cy trivial<|WSs.c ?_)))))
 walk_at "w"
 refine eS _ rfl _ rfl rfl<|nh _ rfl _ rfl _ rfl<|WL.fK<|
  V p ?_
 refine fH _ _ _ rfl (V (aQ ..)<|V bI aK) rfl rfl ?_
 refine V (A0 a i (i+3) (pZ _ _) f) ?_
 have v:i+3-i=3:=by exact dK (la 0x4a4e0046093842860 [_,_] rfl<|aY<|la 0x4a093820 [_] rfl)<|la 0x4a813047093842860 [_,_] rfl<|aY<|la 0x4a093820 [_] rfl
 refine V v<|V b ?_
 refine WL.kW q (acS w k m) rfl rfl<|WL.AJ (by refine V (aQ ..) (V (aQ ..)<|V bI ?_);simp;exact aK)<|WSs.c ?_
 refine V (d9 ..) ?_
 walk_at "w"
 refine ah _ rfl<|WL.ql<|WSs.n<|WSs.n<|WSs.n ?_
 have:=Qw (w:=w) (d:=d) (h:=h) (a:=a) (n:=n) (D:=D++[k]) (i:=i+3) (l:=Y<|.s<|sL [61]) (by simp;exact aK) e
 exact V p
  this
theorem aef(hi:i<=10000)(c:i+1=n)(g:a[i]?=Y 61)
  (e:∀b,Q .ct<|oH h D a (i+1) n b):WSs w d yO (oH h D a i n l) Q:=by
 refine WSs.c ?_
 walk_at "w"
 refine bG _ rfl _ rfl<|WL.lM aK g<|WSs.c ?_
 walk_at "w"
 refine ah _ rfl<|WL.rP<|WL.tB ?_
 refine WL.bK (by(refine V wL ?_;rewrite[bne];refine V (iO ..)<|V (lP ..) ?_);simp)<|WSs.c ?_
 walk_at "w"
 refine ah _ rfl<|WL.fK<|ah _ rfl<|WL.Dv<|WL.tB<|
  WL.cy (by simp;exact lA (li 0x4a8424620470918a0046860 [_,_,_] rfl (Li.ce c)<|Li.ca _ _)<|li 0x4a0918a10460918a0047860 [_,_,_] rfl (Li.ce c)<|Li.ca _ _) (WSs.c ?_)
 walk_at "w"
 refine ah _ rfl<|WL.ql<|WSs.c ?_
 walk_at "s"
 exact e _
end
noncomputable def yP(g:Bool):List Nat:=if g=true then[61] else[]
section
variable {w:aC} {d:Nat} {h:H} {a:List Nat} {g:Bool}
theorem aeg{Q:FQ}(U:1<=d)(J:a.length<=5000)(m:List ET)(f:List Nat)(D:List Nat)(l:Option AV)(M:(∀t∈m,t.kq))(A:a=f++(fE m++yP g))(B:(m≠[]\/g=true))(E:D.length+m.length<=80000)(G:(∀r,Q .nx<|oH h (D++(m.map ET.code++(if g=true then[] else[10]))) a a.length a.length r)):∃n,qk (λq K=>WT w d El q K) (λq K=>WSs w d yO q K) n (oH h D a f.length a.length l) Q:=by
 induction m generalizing f D l with
 |nil=>
  have hs:g=true:=B.resolve_left λI=>I rfl
  subst hs
  have e:a=f++[61]:=by refine V A ?_;simp[fE,yP]
  have s:f.length+1=a.length:=by refine V e ?_;simp
  refine⟨2,Bd ?_⟩
  refine V (decide_eq_true<|by exact la 0x4b860046842460 [_,_] rfl s) ?_
  refine WL.cy rfl<|aef (by exact la 0x4a09c40306104680246104404e203060 [_,_] rfl J s) s (by refine V e (V (kJ<|bM _) ?_);simp) λr=>?_
  refine Bd ?_
  refine V (decide_eq_false<|by exact jn.mpr<|la 0x4a091821047842460 [_,_] rfl s) ?_
  refine WL.bK (by decide) ?_
  have:=G r
  refine V s ?_
  simpa using this
 |cons t b N=>
  have y:=M t aZ
  rw[cX] at E
  have e:a=(f++t.cps)++(fE b++yP g):=by refine V A (V (AX ..) ?_);simp
  have i:f.length+t.cps.length+(fE b).length+(yP g).length=a.length:=by refine V e ?_;simp;lia
  have C:0<t.cps.length:=by clear i y;cases t<;>simp[ET.cps]
  have o:∀r,∃n,qk (λq K=>WT w d El q K) (λq K=>WSs w d yO q K) n (oH h (if f.length+t.cps.length=a.length then D++[t.code]++[10] else D++[t.code]) a (f.length+t.cps.length) a.length r) Q:=λr=>by
   by_cases p:b=[]/\g=false
   ·obtain⟨rfl,rfl⟩:=p
    have s:f.length+t.cps.length=a.length:=by refine az i ?_;simp[fE,yP]
    refine V (if_pos s)<|V s ?_
    refine⟨1,Bd ?_⟩
    refine V (decide_eq_false<|by lia) ?_
    refine WL.bK (by decide) ?_
    have:=G r
    simpa using this
   ·have u:b≠[]\/g=true:=by
     by_cases u:b=[]
     ·right
      clear i;cases g
      ·exact absurd ⟨u,rfl⟩ p
      ·rfl
     ·exact .inl u
    have s:¬f.length+t.cps.length=a.length:=by
     intro I
     rcases u with u|u
     ·cases b with
      |nil=>exact u rfl
      |cons R b'=>
       rw[AX,bQ] at i
       have:0<R.cps.length:=by clear u i;cases R<;>simp[ET.cps]
       exact la 0xc0458d00468829420a48c2860047882860 [_,_,_,_,_,_] rfl I i this
     ·clear e G p B A N;subst u
      have:(yP true).length=1:=rfl
      exact la 0xc0474640468829028c2860047882860 [_,_,_,_,_] rfl I i this
    refine V (if_neg s) ?_
    have j:=N (f++t.cps) (D++[t.code]) r (λx hx=>M x<|a_ _ hx) e u (by simp;exact la 0x4a4e20030428424600444e2003042091860 [_,_] rfl E) λr=>by
     have:=G r
     simpa using this
    rw[bQ] at j
    exact j
  have v:f.length<a.length:=by exact la 0x4b9200458500469028c2882860 [_,_,_,_,_] rfl i C
  cases t with
  |p c=>
   have z:a[f.length]?=Y c:=by refine V A (V (kJ<|bM _) ?_);simp[fE,ET.cps]
   obtain⟨L,j⟩:=o<|Y<|.s<|sL [c]
   refine⟨L+1,Bd ?_⟩
   refine V (decide_eq_true v) ?_
   exact WL.cy rfl<|aed (by exact la 0x4a57e4030600444e2003042091860 [_,_] rfl E) (by exact la 0x4a09c40306104582104404e203060 [_,_] rfl J v) y.1 z j
  |q k=>
   have hk:k<256:=y
   have z:(a.drop f.length).take 3=[61,hx (k/16),hx (k%16)]:=by refine V A (V Gm ?_);rfl
   obtain⟨L,j⟩:=o<|Y<|.s<|sL [61]
   have h3:(ET.q k).cps.length=3:=rfl
   refine⟨L+1,Bd ?_⟩
   refine V (decide_eq_true v) ?_
   exact WL.cy rfl<|aee U (by exact la 0x4a57e4030600444e2003042091860 [_,_] rfl E) (by exact la 0x4a09c40306104582104404e203060 [_,_] rfl J v) hk aK (by exact la 0x4a9024e00474e10469028c2882860 [_,_,_,_,_] rfl i h3) z j
end
theorem RW.range{r:RW}(b:∀t∈r.ts,t.kq):∀k∈r.bO,k=61\/k=9\/(32<=k/\k<127):=by
 intro k a
 rcases cj.mp a with a|a
 ·skip
  refine aD (xA.mp a) λt g e=>?_
  have:=b t g
  cases t with
  |p c=>
   rewrite[bH.mp e]
   exact .inr this.2
  |q c=>
   have i:c<256:=this
   have f:∀d,d<16->32<=hx d/\hx d<127:=λd y=>by unfold hx;split<;>lia
   simp only[ET.cps,iX,lW,or_false] at e
   clear a;rcases e with rfl|rfl|rfl
   ·exact .inl rfl
   ·exact .inr<|.inr<|f _<|by exact qJ.mp<|li 0x102d00419011234011c39100418811c28e28411a0841144002060 [_,_,_,_,_] rfl (Li.ct i) (Li.ce<|xy _ _) (Li.ca _ _) (Li.cm _ _)<|Li.cp _
   ·exact .inr<|.inr<|f _<|by exact la 0x4b401060045401060 [_] rfl<|lD _<|by decide
 ·split at a
  ·rewrite[bH.mp a];exact .inl rfl
  ·cases a
theorem aeh(z:Nat)(b:33<=z/\z<127):uE z=false:=by
 have:∀z:Fin 127,33<=z.1->uE z.1=false:=by decide+kernel
 exact this ⟨z,b.2⟩ b.1
theorem aei{r:RW}(b:∀t∈r.ts,t.kq)(x:vd r.bO):zD (sL r.bO)=sL r.bO:=by
 unfold zD
 rewrite[DR,DS λz i=>?_]
 ·rfl
 have e:=RW.range b z<|Vh i
 have m:=x z i
 exact aeh z<|by lia
def Be(h:H)(D:List Nat)(a3 M B o:Option AV):St:=⟨[Y (.s h),Y (.s<|sL [10]),Y (.s<|sL D),a3,M,B,o],[]⟩
theorem Qx(G:List ET):G.length<=(fE G).length:=by
 induction G with
 |nil=>exact eL _
 |cons t G i=>
  refine V (AX ..)<|V bQ<|V cX ?_
  have:0<t.cps.length:=by cases t<;>simp[ET.cps]
  exact la 0x4a0a1882460045890044860 [_,_,_] rfl i this
section
variable {w:aC} {d:Nat} {h:H}
theorem aej{D:List Nat}{r:RW}{M B o:Option AV}{Q:FQ}(y:1<=d)(x:r.bO.length<=5000)(n:D.length<=20000)(z:∀t∈r.ts,t.kq)(C:vd r.bO)
  (b:∀f p u v k,f= .nx\/f= .ct->Q f (Be h (D++r.dh) p u v k)):WSs w d I5 (Be h D (Y<|.s<|sL r.bO) M B o) Q:=by
 have i:=bI
 refine WSs.c ?_
 walk_at "w"
 refine bk _ rfl rfl<|WL.rstrip ⟨by refine V (aQ ..) (V i ?_);exact aK,?_⟩
 refine V (aei z C) ?_
 refine WSs.c ?_
 walk_at "w"
 refine ah _ rfl<|WL.tS (by refine V (aQ ..) (V i ?_);exact aK) ?_
 refine V (aQ ..) ?_
 by_cases l:r.bO=[]
 ·refine WL.cy (by refine V l ?_;rfl) (WSs.c ?_)
  walk_at "w"
  refine bG _ rfl _ rfl<|WL.AJ (by refine V (aQ ..) (V (aQ ..)<|V i ?_);simp;exact aK)<|WSs.c ?_
  refine V (d9 ..) ?_
  walk_at "s"
  have q:r.dh=[10]:=by
   have e:=l
   unfold RW.bO at e
   rw[List.append_eq_nil_iff] at e
   have m:=Qx r.ts
   rw[e.1] at m
   have E:r.ts=[]:=Vj<|by simpa using m
   have J:r.soft=false:=by
    cases A:r.soft
    ·rfl
    ·rw[A] at e;simp at e
   unfold RW.dh
   refine V E (V J ?_);rfl
  have:=b .ct (Y<|.s<|sL r.bO) M B o<|.inr rfl
  rw[q] at this
  exact this
 ·have K:=zU.mpr l
  refine WL.bK (by simp;exact l)<|WSs.n<|WSs.c ?_
  walk_at "w"
  refine WSs.c ?_
  walk_at "w"
  refine cJ _ rfl rfl _ rfl<|WL.wF (by refine V (aQ ..) (V i ?_);exact aK)<|WSs.c ?_
  refine V (aQ ..) ?_
  walk_at "s"
  have G:r.ts≠[]\/r.soft=true:=by
   by_cases A:r.ts=[]
   ·right
    cases s:r.soft
    ·exfalso;apply l;unfold RW.bO;refine V A (V s ?_);rfl
    ·rfl
   ·exact .inl A
  have I:r.ts.length<=r.bO.length:=by
   have:=Qx r.ts
   skip;refine V bQ ?_;exact la 0x4a0a2860044860 [_,_,_] rfl this
  have j:=aeg (w:=w) (d:=d) (h:=h) (a:=r.bO) (g:=r.soft) (Q:=λf c=>match f with
   | .nx=>WSs w d .z c Q
   |f=>Q f c) y x r.ts [] D o z (by rfl) G (by exact la 0x4a4e20030428a104482204413880306104404e203060 [_,_,_] rfl x n I) λk=>WSs.n<|b .nx (Y<|.s<|sL r.bO) (Y<|.i r.bO.length) (Y<|.i r.bO.length) k<|.inl rfl
  exact j
theorem aek{Q:FQ}(y:1<=d)(a:List RW)(D:List Nat)(a3:Option AV)(M:Option AV)(B:Option AV)(o:Option AV)(j:(∀r∈a,r.bO.length<=5000/\(∀t∈r.ts,t.kq)/\vd r.bO))(n:(D++a.flatMap RW.dh).length<=20000)(b:(∀p u v k,Q .nx<|Be h (D++a.flatMap RW.dh) p u v k)):mT (asg<|.n 3) (λq K=>WSs w d I5 q K) (a.map λr=>jc r.bO) (Be h D a3 M B o) Q:=by
 induction a generalizing D a3 M B o with
 |nil=>
  have:=b a3 M B o
  simp only[Mw,iH] at this
  exact this
 |cons r s i=>
  refine gy (j r aZ) λe m E=>?_
  rw[fQ] at n
  have g:=n
  simp only[bQ] at g
  refine(?_:WSs w d I5 (Be h D (Y<|.s<|sL r.bO) M B o) _)
  refine aej y e (by exact la 0x4a1388030600441388030420a2860 [_,_,_] rfl g) m E λf p u v k z=>?_
  have c:=i (D++r.dh) p u v k (λx hx=>j x<|a_ _ hx) (by refine V (eO ..) ?_;exact n) λA C G l=>by
   have:=b A C G l
   rw[fQ] at this
   refine V (eO ..) ?_;exact this
  rcases z with rfl|rfl
  ·exact c
  ·exact c
end
theorem ael{w:aC}{x:H}:i7 w (aM 166) Dz.N [.s x] [.s x,.s (sL [10])]:=O8 (by refine(?_:2<=Dz.N.length);decide) λP g b=>by
 obtain⟨a⟩:=rT b
 refine ah [a,.str "\n" 377] (λS=>?_) λJ _ r=>?_
 ·kernel_rfl
 ·refine Ea r λc e=>?_;clear r
  exact bJ c (by refine az tG ?_;exact RD.str _ _) e
theorem I6{n:List Nat}(o:1<=n.length):∀a:List (List Nat),a.length<=(aR n a).length
 |[]=>eL _
 |r::a=>by
  have:=I6 o a
  refine V (jb ..) ?_
  simp only[bQ,cX];exact la 0x4a0828a08c24610448a1044811 [_,_,_,_] rfl o this
theorem aem(w:aC)(M:Nat)(n:List Nat)(o:n=[10]\/n=[13,10])(a:List RW)(g:a≠[])(ok:PA M a)(s:M<=5000)(u:(aR n<|a.map RW.bO).length<=1000000)(B:(a.flatMap RW.dh).length<=20000):
  iN w 2 (.ref 166) [.s (sL<|aR n<|a.map RW.bO)] (.s<|sL<|a.flatMap RW.dh):=by
 have v:=bI
 refine pB (cP:=[.s (sL<|aR n<|a.map RW.bO),.s (sL [10])]) abV (by kernel_rfl) ael rfl (by decide) λc h y C D z=>?_
 have E:c.d=1:=by lia
 subst D
 refine fZ y C aaO (q:=⟨[Y (.s<|sL<|aR n<|a.map RW.bO),Y (.s<|sL [10]),Z,Z,Z,Z,Z],[]⟩)<|WSs.c ?_
 have i:n.getLast?=Y 10:=by clear u;rcases o with rfl|rfl<;>rfl
 have e:(aR n<|a.map RW.bO).getLast?=Y 10:=Ek i _<|by simpa using g
 have t:aR n (a.map RW.bO)≠[]:=by intro G;rw[G] at e;cases e
 have I:=zU.mpr t
 walk_at "w"
 refine ah _ rfl<|WL.tS (by refine V (aQ ..) (V v ?_);exact aK) ?_
 refine V (aQ ..) ?_
 refine WL.bK (by simp;exact t)<|WSs.n<|WSs.c ?_
 walk_at "w"
 refine WSs.c ?_
 have b:∀r∈a.map RW.bO,∀k∈r,lC k=false:=λr g k J=>by
  refine aD (bg.mp g) λx f j=>?_;clear g;subst j
  exact(RW.free (ok.qp x f).2.2 k J).1
 refine Ea (Po o (a.map RW.bO) b) λl m=>?_
 have K:a.length<=1000000:=by
  have:=I6 (n:=n) (by clear m i u e l t I;rcases o with rfl|rfl<;>decide)<|a.map RW.bO
  rw[bC] at this;exact la 0x4a0f4240101841120841103d09004060 [_,_] rfl u this
 walk_at "w"
 refine bk _ rfl rfl<|WL.OU<|mj (by refine V (aQ ..) (V v ?_);exact aK) (by refine V m (V v<|V (bC ..) ?_);exact aK) _ rfl ?_
 refine V l ?_
 have A:p_ oU (p_ sL<|a.map RW.bO)=a.map λr=>jc r.bO:=by refine V bY (V bY ?_);rfl
 refine V A<|V qm ?_
 refine aek (d:=c.d) (by exact la 0x4a811047482460 [_] rfl z) a [] Z Z Z Z (λr g=>(bJ (by have:=(ok.qp r g).1;exact la 0x4a04e20306104482104404e203060 [_,_] rfl s this) ((ok.qp r g).2.2)<|(ok.qp r g).2.1)) (by simpa using B) λL N Q R=>?_
 refine V (jt ..) ?_
 refine WSs.c ?_
 walk_at "w"
 refine bG _ rfl 1 rfl<|WL.uM e<|WL.OO<|WL.tB ?_
 have p:rA ("\r\n":H) (sL [10])=true:=by refine V ID (V (A2 ..) ?_);rfl
 refine V p ?_
 refine WL.bK (by decide)<|WL.bK (by decide)<|WSs.n<|WSs.c ?_
 walk_at "w"
 exact ah _ rfl<|.inl rfl
structure Qy(w:aC)(M:Nat)(n:List Nat)(d:List (List Nat)):Prop where
 enc:iN w 2 (.ref 158) [.s (sL<|aR [10] d),.i M,.s (sL n)] (.s<|sL<|nL M n d)
 dh:iN w 2 (.ref 166) [.s (sL<|nL M n d)] (.s<|sL<|aR [10] d)
 len:(nL M n d).length<=1000000
 qv:∃a:List (List Nat),xr (sL<|nL M n d) (sL n)=a.map sL++[sL []]/\(∀r∈a,r.length<=M)/\
  (uy (sL<|nL M n d) (nW (sL<|nL M n d) (sL n) 0 (sL<|nL M n d).length<|(sL<|nL M n d).length+1) (sL n).length).length=a.length+1/\a.length<=1000000
theorem aeo(w:aC)(M:Nat)(n:List Nat)(d:List (List Nat))(o:n=[10]\/n=[13,10])(s:4<=M)(v:M<=100)(z:d≠[])(I:d.length<=4)(u:∀m∈d,(∀k∈m,vh k)/\m.length<=500):Qy w M n d:=by
 have i:n.length<=2/\1<=n.length:=by rcases o with rfl|rfl<;>decide
 have A:∀m∈d,yN M (fE<|m.map dX):=λm f=>by
  refine Qs s (λt N=>?_)<|by have:=Bb m;have:=(u m f).2;lia
  refine aD (bg.mp N) λx q j=>?_;subst j
  exact Eg ((u m f).1 x q).1
 have e:(nL M n d).length<=1000000:=by
  unfold nL
  have h1:=Eh (n:=n) (B:=108) ((d.map λm=>jY M n<|fE<|m.map dX).flatten) λx J=>by
   refine aD (Ms.mp J) λy C Q=>?_
   refine aD (bg.mp C) λm f j=>?_;clear C;subst j
   have:=(Ej s i.1<|A m f).1 x Q
   exact la 0x4a06c081841102620841101902060 [_,_] rfl v this
  have K:=Qu (B:=1501) (d.map λm=>jY M n<|fE<|m.map dX) λx J=>by
   refine aD (bg.mp J) λm f j=>?_;clear J;subst j
   have:=(Ej s i.1<|A m f).2
   have:=Bb m
   have:=(u m f).2
   lia
  rw[bC] at K
  have h3:d.length*1501<=4*1501:=ju I<|bM _
  have h4:((d.map λm=>jY M n<|fE<|m.map dX).flatten).length*(108+n.length)<=6004*110:=ju (by exact la 0x4a05dd030610440d7742060857742004520 [_,_] rfl I K)<|by exact la 0x4a06e0810a006c0810444a0 [_] rfl i.1
  exact la 0x4a0f424010180110306e08105dd03061044860 [_,_] rfl h1 h4
 refine xH (acQ s n (d.map λm=>m.map dX) λG D t N=>by
  refine aD (bg.mp D) λm f j=>?_;clear D;subst j
  refine aD (bg.mp N) λx q j=>?_;subst j
  exact Eg ((u m f).1 x q).1) λa e1 L R r3=>?_
 rw[bY] at e1
 have h:nL M n d=aR n (a.map RW.bO):=e1
 have l:(d.map λm=>m.map dX).map (·.map ET.code)=d:=by
  refine V bY ?_
  have:((λx:List ET=>x.map ET.code)∘λm:List Nat=>m.map dX)=id:=funext ad7
  exact V this<|V (CB ..) rfl
 rw[l] at R
 have E:a≠[]:=r3<|by simpa using z
 have U:(a.flatMap RW.dh).length<=20000:=by
  refine V R ?_
  have:=Eh (n:=[10]) (B:=500) d λm f=>(u m f).2
  have K:d.length*(500+[10].length)<=4*501:=ju I<|by simp
  exact la 0x1284e200c18011031f5081521044860 [_,_] rfl this K
 refine⟨aec w M n d s v i.1 z I u,?_,e,a.map RW.bO,?_,?_,?_,?_⟩
 ·have:=aem w M n o a E L aK (by refine az h ?_;exact e) U
  rw[R,<-h] at this
  exact this
 ·have b:∀c,c=10\/c=13->∀r∈a.map RW.bO,c∉r:=λc hc r g p=>by
   refine aD (bg.mp g) λx f j=>?_;clear g;subst j
   have:=RW.free (L.qp x f).2.2 c p
   lia
  refine V h ?_
  rcases o with rfl|rfl
  ·exact Ir (c:=10) rfl (by simp) (by decide+kernel) _<|b 10<|.inl rfl
  ·exact Ir (c:=13) rfl (by simp) (by decide+kernel) _<|b 13<|.inr rfl
 ·intro r g
  refine aD (bg.mp g) λx f j=>?_;clear g;subst j
  exact(L.qp x f).1
 ·have b:∀c,c=10\/c=13->∀r∈a.map RW.bO,c∉r:=λc hc r g p=>by
   refine aD (bg.mp g) λx f j=>?_;clear g;subst j
   have:=RW.free (L.qp x f).2.2 c p
   lia
  refine V h<|V (aQ n) ?_
  rcases o with rfl|rfl
  ·exact Iu (c:=10) rfl (by simp) _<|b 10<|.inl rfl
  ·exact Iu (c:=13) rfl (by simp) _<|b 13<|.inr rfl
 ·have:=I6 (n:=n) i.2 (a.map RW.bO)
  rw[<-h] at this
  exact la 0x4a0f4240101841120841103d09004060 [_,_] rfl e this
noncomputable abbrev bX(l:List Sg):List Nat:=l.map (·.1)
def I7:Ss:=(.k (.eF 2<|.ite (.bx .Eq (.v 3)<|.c<|.str "\t") (.aI .Sub (.v 1)<|.aI .Mod (.v 2)<|.v 1)<|.c<|.int 1) .z)
theorem aep{w:aC}{d:Nat}{U:Option AV}{g:Nat}(hs:0<g){Q:FQ}(b:List Sg)(a:Nat)(a3:Option AV)(M:Option AV)(f:(∀n o,Q .nx ⟨[U,Y (.i g),Y (.i<|cz g a<|bX b),n,o],[]⟩)):mT (asg<|.t<|.k (.n 3)<|.k (.n 4) .z) (λq K=>WSs w d I7 q K) (b.map bP) ⟨[U,Y (.i g),Y (.i a),a3,M],[]⟩ Q:=by
 induction b generalizing a a3 M with
 |nil=>
  exact f a3 M
 |cons h l j=>
  obtain⟨c,m⟩:=h
  walk_at "w"
  refine⟨rfl,?_⟩
  refine(?_:WSs w d I7 ⟨[U,Y (.i g),Y (.i a),Y (.s<|sL [c]),Y (.s<|dz m)],[]⟩ _)
  have p:cz g a (bX ((c,m)::l))=cz g (if c=9 then a+(g-a%g) else a+1) (bX l):=rfl
  rw[p] at f
  delta I7
  refine WSs.c ?_
  walk_at "w"
  refine bG _ rfl _ rfl<|WL.nG<|WL.tB ?_
  have e:(sL [c]==("\t":H))=decide (c=9):=by exact V AQ<|V (iO ..)<|V (lP ..) rfl
  refine V e ?_
  by_cases i:c=9
  ·rw[if_pos i] at f
   refine WL.cy (by simpa using i)<|nh _ rfl _ rfl _ rfl<|WL.ou (by lia)<|WL.pH<|WL.ql<|WSs.n ?_
   have r:((a:Int).fmod (g:Int))=((a%g:Nat):Int):=by refine V (Gu _<|by(clear hs;lia)) ?_;rfl
   have k:=lD a hs
   have s:((a:Int)+((g:Int)-(a:Int).fmod (g:Int)))=((a+(g-a%g):Nat):Int):=by refine V r ?_;exact lA (li 0x4a8023e48e10473e48e20470a2860 [_,_,_,_,_] rfl (Li.ca _ _)<|jT<|j7 k)<|li 0x4a08f9238600463e48e20460a2860 [_,_,_,_,_] rfl (Li.ca _ _)<|jT<|j7 k
   refine V s ?_
   exact j _ _ _ f
  ·rw[if_neg i] at f
   refine WL.bK (by simpa using i)<|WL.ql<|WSs.n ?_
   exact j _ _ _ f
theorem aeq(w:aC)(l:List Sg)(g:Nat)(hs:0<g):iN w 1 (.ref 272) [fy l,.i g] (.i<|cz g 0<|bX l):=by
 refine pB (cP:=[fy l,.i g]) ab7 (by kernel_rfl) (ab8 rfl) rfl (by decide) λc h ok u A C=>?_
 subst A
 refine fZ ok u aa4 (q:=⟨[Y (fy l),Y (.i g),Z,Z,Z],[]⟩)<|WSs.c ?_
 walk_at "w"
 refine WSs.c ?_
 walk_at "w"
 refine bG _ rfl _ rfl ?_
 refine aep hs l 0 Z Z λn o=>WSs.c ?_
 walk_at "w"
 exact ah _ rfl<|.inl rfl
theorem aer:kT 228 "indent_level" 197:=yk λP=>by kernel_rfl
noncomputable def mX(l:List Nat):List Nat:=l.map λc=>if c=9 then 9 else 32
theorem I8(g:Nat)(b:List Nat)(a:Nat):cz g a (mX b)=cz g a b:=by
 induction b generalizing a with
 |nil=>
  exact rfl
 |cons c l j=>
  have D:mX (c::l)=(if c=9 then 9 else 32)::mX l:=rfl
  refine V D ?_
  by_cases f:c=9
  ·(refine V (if_pos f) ?_;rewrite[IJ,IJ];refine V (if_pos rfl)<|V (if_pos f) ?_);exact j _
  ·(refine V (if_neg f) ?_;rewrite[IJ,IJ];refine V (if_neg<|by decide)<|V (if_neg f) ?_);exact j _
def kB(g:Nat)(l:List Nat):List af:=(l_<|l.length+1).map λk=> .int (cz g 0 (l.take k):Nat)
theorem aes:("x\t":H)=sL [120,9]:=by decide+kernel
theorem aet(w:aC)(l:List Sg)(g:Nat)(hs:0<g)(E:g<=1000)(J:l.length<=100):iN w 3 (.ref 265) [fy l,.i g] (.l<|kB g<|bX l):=by
 have G:=bI
 refine pB (cP:=[fy l,.i g]) ab5 (by kernel_rfl) (ab6 rfl) rfl (by decide) λc h ok u A C=>?_
 have M:c.d=2:=by lia
 subst A
 refine fZ ok u aa2 (q:=⟨[Y (fy l),Y (.i g),Z],[]⟩)<|WSs.c ?_
 have m:(l.map bP).length=l.length:=bC ..
 walk_at "w"
 refine cJ _ rfl rfl _ rfl<|bR rfl _ rfl<|WL.rQ rfl (by refine V m (V G ?_);exact aK)<|WL.fK<|WL.Dy ?_
 refine V m ?_
 have N:((l.length:Int)+1)=((l.length+1:Nat):Int):=by lia
 refine V N ?_
 refine n6 _ _ _ (l.length+1) rfl (Ec<|by exact gI (by assumption)<|by rfl) (Ba _) ?_ ?_
 ·exact i_ rfl
 refine V (Eb ..) ?_
 refine nK (d:=c.d) (λv=>∃a,v=[a,Y (fy l)]) (λx=>match x with| .int k=> .str (sL<|mX<|(bX l).take k.toNat)|_=> .none) _ _ ⟨Z,rfl⟩ (by simp;exact gI (by assumption)<|by rfl) (λx n v μ Q o t=>?_) ?_
 ·refine Ex o λa e=>?_;clear o;subst e
  refine aD (bg.mp n) λk r e=>?_;clear n;subst e
  have j:k<l.length+1:=zZ.mp r
  walk_at "w"
  refine bR rfl _ rfl<|ah _ rfl<|fH _ Z (Y (k:Int)) rfl (by refine V m (V G ?_);exact aK) rfl rfl<|bk _ rfl ?_ ?_
  ·exact i_ rfl
  refine V (yM _ _<|by refine V m ?_;exact Vk<|by assumption)<|az vP ?_
  refine nK (d:=c.d) (λv=>∃a b,v=[a,b]) (λx=>match x with| .tuple (.str y::_)=> .str (if y==sL [9] then sL [9] else sL [32])|_=> .none) _ _ (dU Z Z rfl) (by simp;lia) (λx n v μ K2 o s=>?_) ?_
  ·refine cC o λa b e=>?_;clear o;subst e
   refine aD (bg.mp n) λp R e=>?_;clear n;subst e
   delta bP
   walk_at "w"
   refine bR rfl _ rfl<|WL.nG<|WL.tB ?_
   refine V AQ<|V AR ?_
   by_cases i:(sL [p.1]==sL [9])=true
   ·refine WL.cy i ?_
    have:=s [Y (.s<|sL [p.1]),Y (.s<|dz p.2)]<|dU _ _ rfl
    simp only[bP,i,if_true] at this
    exact this
   ·refine WL.bK i ?_
    have:=s [Y (.s<|sL [p.1]),Y (.s<|dz p.2)]<|dU _ _ rfl
    simp only[bP,i,if_false,ly] at this
    exact this
  ·refine(WL.join<|bk ((mX<|(bX l).take k).map λc=>sL [c]) ?_ ?_ ?_)
   ·refine(?_:Y _=Y _)
    congr 1
    delta mX bX
    refine V bY<|V bY<|az vP<|V bY<|V bY ?_
    refine sP λp R=>?_
    refine(?_:(oU (if (sL [p.1]==sL [9])=true then sL [9] else sL [32]))=oU (sL [if p.1=9 then 9 else 32]))
    refine V (iO ..)<|V (lP ..) ?_
    by_cases i:p.1=9
    ·exact V (if_pos i)<|V (if_pos<|by simpa using i) rfl
    ·exact V (if_neg i)<|V (if_neg<|by simpa using i) rfl
   ·have K:=Bc (B:=1) (((mX<|(bX l).take k).map λc=>sL [c]).map (λx:H=>x.length)) λa I=>by
     rw[bY] at I
     refine aD (bg.mp I) λx _ e=>?_;clear I;subst e
     refine(?_:(sL [x]).length<=1)
     refine V (aQ ..) ?_;simp
    rw[bC,bC] at K
    refine V (bC ..) ?_
    have D:(mX<|(bX l).take k).length<=l.length:=by delta mX bX;simp;exact la 0x4a862046822045091860 [_,_,_] rfl j<|zQ<|la 0x4a860045091860 [_,_] rfl j
    have U:("":H).length=0:=by decide+kernel
    refine V U ?_;exact la 0x1281000000141083422841120881103462841101902060 [_,_,_] rfl J K D
   ·refine V qm (V (Qn ..) ?_)
    exact t [Y (.d<|.int (k:Int)),Y (fy l)] ⟨_,rfl⟩
 ·refine V bY ?_
  refine WSs.c ?_
  walk_at "w"
  refine eS _ rfl _ rfl ?_ ?_
  ·exact i_ rfl
  refine nK (d:=c.d) (λv=>∃a,v=[a,Y (.i g)]) (λx=>match x with| .str y=> .int (cz g 0 y.cps.toList:Nat)|_=> .none) _ _ ⟨Z,rfl⟩ (by simp;exact gI (by assumption)<|by rfl) (λx n v μ Q o t=>?_) ?_
  ·refine Ex o λa e=>?_;clear o;subst e
   refine aD (bg.mp n) λk r e=>?_;clear n;subst e
   have j:k<l.length+1:=zZ.mp r
   have KH:(mX<|(bX l).take k).length<=100:=by delta mX bX;simp;exact la 0x4a0640818811a1881142460841101902060 [_,_,_] rfl J j<|zQ<|la 0x4a860045091860 [_,_] rfl j
   refine(?_:asg (.n 0) (.s<|sL<|mX<|(bX l).take k) ⟨[a,Y (.i g)],μ⟩ _)
   walk_at "w"
   refine bR aer _ rfl<|bR rfl _ rfl ?_
   refine V aes ?_
   refine WL.iP (by refine V (aQ ..) (V (aQ ..)<|V G ?_);simp;exact aK) ?_
   refine V (d9 ..) ?_
   refine WL.kW (by exact la 0x4a8120474c2460 [_] rfl C) (ac7 c.w (mX<|(bX l).take k) (λy L=>?_) aK) rfl rfl<|bR rfl _ rfl ?_
   ·refine aD (bg.mp L) λz _ e=>?_;clear L;subst e
    by_cases f:z=9
    ·exact .inl<|if_pos f
    ·exact .inr<|if_neg f
   refine WL.kW (by exact la 0x4a8110474c2460 [_] rfl C) (adg c.w (mX<|(bX l).take k) g hs E aK) rfl rfl ?_
   have:=t [Y (.s<|sL<|mX<|(bX l).take k),Y (.i (g:Int))] ⟨_,rfl⟩
   simp only[CC,gY,fq,I8] at this
   refine V (I8 ..) ?_
   exact this
  ·refine .inl ?_
   congr 2
   refine V bY ?_
   delta kB
   have:(bX l).length=l.length:=bC ..
   refine V this ?_
   refine sP λk t=>?_
   simp only[CC,gY,fq,I8]
theorem WL.jd{w:aC}{d:Nat}{q:St}{Q:PQ}{xs:List af}{x:af}{k:Nat}(a:xs.length<=aL)(h:xs[k]?=Y x)(b:Q (.d x) q):jB w d (.l xs) (.i (k:Int)) q Q:=u7 ⟨a,.inl<|bR (Fi _) x h b⟩
noncomputable def qw:List Nat:=[9,32,45,38,94,9,60,233,62,43,34,160]
theorem aeu:("\t -&^\t<\xe9>+\"\xa0":H)=sL qw:=by decide+kernel
def jf(p:Sg):Prop:=p.1∈qw/\(p.2=Z\/p.2=Y 45\/p.2=Y 43\/p.2=Y 94)
def I9:Ss:=(.k (.An (.v 1) (.aI .Mod (.v 5)<|.c<|.int 8)<|.aI .Mod (.v 6)<|.aI .Pow (.c<|.int 10)<|.c<|.int 6) .z)
def r5(s:AV)(B o R L N:Option AV)(b:List Nat)(g i:List Sg):St:=
 ⟨[Y s,Y (.m 0),Y (.s<|sL qw),Y (.m 1),Y (.m 2),B,o,R,L,N],[Y (.ai<|cD b),Y (.ai<|g.map bP),Y (.ai<|i.map bP)]⟩
noncomputable def qx:Nat->List Int->List Nat->List Nat
 |_,[],b=>b
 |i,x::xs,b=>qx (i+1) xs<|b.set (i%8)<|b.getD (i%8) 0+(x.fmod 1000000).toNat
theorem I_:qx a [] b=b:=rfl
theorem Ja:qx i (x::xs) b=qx (i+1) xs (b.set (i%8)<|b.getD (i%8) 0+(x.fmod 1000000).toNat):=rfl
theorem fmM(x:Int):x.fmod 1000000=((x.fmod 1000000).toNat:Int):=by
 have m:=alS x (b:=1000000)<|by decide+kernel
 exact(vD m).symm
theorem aew(x:Int):(x.fmod 1000000).toNat<1000000:=by
 have r:=Int.fmod_lt_of_pos x (b:=1000000)<|by decide+kernel
 have m:=alS x (b:=1000000)<|by decide+kernel
 generalize x.fmod 1000000=y at m r
 exact qJ.mp<|li 0x4b0f42401018411a0841143d09004060 [_,_] rfl r<|vD<|li 0x4a810044810 [_] rfl m
theorem aex(a:List Int)(i:Nat)(b:List Nat):(qx i a b).length=b.length:=by
 induction a generalizing i b with
 |nil=>
  exact rfl
 |cons x xs f=>
  (simp only[I_,Ja];exact V (f ..)<|V ug rfl)
theorem Qz{B:Nat}:∀(xs:List Int) (i:Nat) (b:List Nat) (k:Nat),(∀c∈b,c<=B+k*1000000)->∀c∈qx i xs b,c<=B+(k+xs.length)*1000000
 |[],i,b,k,h,c,f=>by(refine V l7 ?_;rw[oW]);exact h c f
 |x::xs,i,b,k,h,c,f=>by
  simp only[I_,Ja] at f
  have:=Qz (B:=B) xs (i+1) _ (k+1) (λy a=>?_) c f
  ·refine V cX ?_
   have e:k+1+xs.length=k+(xs.length+1):=by exact nZ _ _ _
   refine az e ?_;exact this
  ·have j:=aew x
   have g:∀y:Nat,y<=B+k*1000000+(x.fmod 1000000).toNat->y<=B+(k+1)*1000000:=λy a=>by
    refine V (qI ..)<|V (zo ..) ?_
    exact ic a<|by rewrite[<-Cz];exact alT (j7 j) _
   rcases List.mem_or_eq_of_mem_set a with a|rfl
   ·exact g y<|ic (h y a)<|pZ _ _
   ·refine g _ (Ls ?_ _)
    refine V zV ?_
    cases q:b[i%8]? with
    |none=>exact eL _
    |some z=>exact h z<|m_ q
section
variable {w:aC} {d:Nat} {s:AV}
theorem aey{Q:FQ}:∀(xs:List Int) (i:Nat) (B o:Option AV) (b:List Nat),b.length=8->
  (∀l p,Q .nx<|r5 s l p Z Z Z (qx i xs b) [] [])->
  mT (asg<|.t<|.k (.n 5)<|.k (.n 6) .z) (λq K=>WSs w d I9 q K) (we i<|xs.map .int) (r5 s B o Z Z Z b [] []) Q:=by
 intro xs
 induction xs with
 |nil=>
  intro i B o b a h
  exact h B o
 |cons x xs f=>
  intro i B o b a h
  have n:=bI
  show asg (.t<|.k (.n 5)<|.k (.n 6) .z) (.d<|.tuple [.int (i:Nat),.int x]) _ _
  walk_at "w"
  refine⟨rfl,?_⟩
  show WSs w d I9 (r5 s (Y<|.i (i:Nat)) (Y<|.i x) Z Z Z b [] []) _
  unfold I9
  refine WSs.c ?_
  walk_at "w"
  have r:((i:Int).fmod 8)=((i%8:Nat):Int):=by refine V (Gu _<|by decide) ?_;rfl
  have c:i%8<b.length:=by refine V a ?_;exact lD _<|by decide
  obtain⟨z,e⟩:∃z,b[i%8]?=Y z:=⟨_,fM c⟩
  refine bG _ rfl _ rfl<|WL.ou (by decide) ?_
  refine V r ?_
  refine(WL.Dw<|fG (cD b) rfl (by refine V (ku ..) (V n ?_);exact la 0x4a040000005060046620 [_] rfl a) (by exact li 0x4a810044810 [_] rfl<|Li.cp _)<|ah (.int z) ?_ ?_)
  ·refine V (gY ..) ?_;unfold cD;refine V iW (V e ?_);rfl
  refine ah _ rfl ?_
  refine(WL.aao<|g5 (by decide+kernel) (by decide+kernel) (by decide+kernel) ?_)
  have t:((10:Int)^(6:Int).toNat)=1000000:=by decide+kernel
  refine V t ?_
  have j:=fmM x
  generalize g:(x.fmod 1000000).toNat=m at j
  refine WL.ou (by decide+kernel) ?_
  refine V j ?_
  refine WL.ql<|n6 0 ((i%8:Nat):Int) (cD b) (.int<|(z:Int)+(m:Int)) rfl rfl rfl rfl<|g5 (by exact li 0x4a810044810 [_] rfl<|Li.cp _) (by refine V (gY ..) (V (ku ..) ?_);exact c) (by refine V (ku ..) (V n ?_);exact la 0x4a040000005060046620 [_] rfl a)<|WSs.n ?_
  have hs:(cD b).set ((i%8:Nat):Int).toNat (.int<|(z:Int)+(m:Int))=cD (b.set (i%8)<|z+m):=by
   refine V (gY ..) ?_
   unfold cD
   refine V alH ?_;rfl
  refine V hs ?_
  have k:qx i (x::xs) b=qx (i+1) xs (b.set (i%8)<|z+m):=by
   (simp only[I_,Ja];refine V g<|V zV<|V e ?_);rfl
  rw[k] at h
  exact f (i+1) _ _ (b.set (i%8)<|z+m) (by refine V ug ?_;exact a) h
def j0(j:Nat):Nat:=qw.getD (j%12) 0
theorem Jb(j:Nat):j0 j∈qw:=by
 unfold j0
 have h:j%12<qw.length:=lD _<|by decide
 refine V zV<|V (fM h) ?_
 exact FY _
noncomputable def r6(a c:Nat):List Sg:=match c%4 with
 |0=>[(a,Z)]
 |1=>[(a,Y 45)]
 |2=>[]
 |_=>[(a,Y 94)]
noncomputable def tH(a e c:Nat):List Sg:=match c%4 with
 |0=>[(a,Z)]
 |1=>[]
 |2=>[(a,Y 43)]
 |_=>[(e,Y 94)]
def Em:Ss:=(.k (.lK true [9,8]<|.k (.sub (.v 2)<|.aI .Mod (.aI .FloorDiv (.v 7)<|.c<|.int 4)<|.c<|.int 12)<|.k (.sub (.v 2)<|.aI .Mod (.aI .FloorDiv (.v 7)<|.c<|.int 48)<|.c<|.int 12) .z)<|.k (.ex<|.dg .nu (.v 3)<|.k (.sub (.ai<|.k (.ai<|.k (.bZ<|.k (.v 8)<|.k (.c<|.str "") .z) .z)<|.k (.ai<|.k (.bZ<|.k (.v 8)<|.k (.c<|.str "-") .z) .z)<|.k (.ai .z)<|.k (.ai<|.k (.bZ<|.k (.v 8)<|.k (.c<|.str "^") .z) .z) .z)<|.aI .Mod (.v 7)<|.c<|.int 4) .z)<|.k (.ex<|.dg .nu (.v 4)<|.k (.sub (.ai<|.k (.ai<|.k (.bZ<|.k (.v 8)<|.k (.c<|.str "") .z) .z)<|.k (.ai .z)<|.k (.ai<|.k (.bZ<|.k (.v 8)<|.k (.c<|.str "+") .z) .z)<|.k (.ai<|.k (.bZ<|.k (.v 9)<|.k (.c<|.str "^") .z) .z) .z)<|.aI .Mod (.v 7)<|.c<|.int 4) .z) .z)
theorem aez:("-":H)=sL [45]:=by decide+kernel
theorem aeA:("+":H)=sL [43]:=by decide+kernel
theorem QA:("^":H)=sL [94]:=by decide+kernel
theorem aeB{c:Nat}{L N:Option AV}{B o:Option AV}{b:List Nat}{g i:List Sg}{Q:FQ}(G:g.length<=1000)(I:i.length<=1000)
  (h:∀J K,Q .nx<|r5 s B o (Y<|.i c) J K b (g++r6 (j0<|c/4) c)<|i++tH (j0<|c/4) (j0<|c/48) c):
  WSs w d Em (r5 s B o (Y<|.i c) L N b g i) Q:=by
 have n:=bI
 have t:qw.length=12:=rfl
 have C:∀k:Nat,0<k->((c:Int).fdiv (k:Int)).fmod 12=((c/k%12:Nat):Int):=λk M=>by
  have R:((c:Int).fdiv (k:Int))=((c/k:Nat):Int):=by refine V (Ve _<|by(clear M;lia)) ?_;rfl
  refine V R (V (Gu _<|by decide) ?_);rfl
 have get:∀j:Nat,∃z,qw[j%12]?=Y z:=λj=>⟨_,fM<|by refine V t ?_;exact lD _<|by decide⟩
 refine Ex (get<|c/4) λa m=>?_
 refine Ex (get<|c/48) λe r=>?_
 have U:=C 4<|by decide
 have y:=C 48<|by decide
 have l:∀j:Nat,j%12<=1000000000:=λj=>by exact la 0x4aee6b28005060045720 [_] rfl<|lD _<|by decide
 unfold Em
 refine WSs.c ?_
 walk_at "w"
 refine bG _ rfl _ rfl<|WL.yw (by decide) (zX<|by decide)<|WL.ou (by decide) ?_
 have A:((c:Int).fdiv 4).fmod 12=((c/4%12:Nat):Int):=U
 have u:((c:Int).fdiv 48).fmod 12=((c/48%12:Nat):Int):=y
 refine V A ?_
 refine WL.lM (l _) m<|bG _ rfl _ rfl<|WL.yw (by decide) (zX<|by decide)<|WL.ou (by decide) ?_
 refine V u ?_
 refine WL.lM (l _) r<|bJ (by refine V n ?_;show 2<=_;decide) rfl<|WSs.c ?_
 have D:((c:Int).fmod 4)=((c%4:Nat):Int):=by refine V (Gu _<|by decide) ?_;rfl
 have p:2<=aL:=by refine V n ?_;decide
 have q:1<=aL:=by refine V n ?_;decide
 have v:4<=aL:=by refine V n ?_;decide
 have E:0<=aL:=eL _
 walk_at "w"
 refine mh _ rfl rfl _ rfl [.str (sL [a]),.str ""] rfl<|bR p [.tuple [.str (sL [a]),.str ""]] rfl<|bR q _ rfl<|cJ [.str (sL [a]),.str "-"] rfl p [.tuple [.str (sL [a]),.str "-"]] rfl<|bR q [] rfl<|bR E _ rfl<|cJ [.str (sL [a]),.str "^"] rfl p [.tuple [.str (sL [a]),.str "^"]] rfl<|bR q
  [.list [.tuple [.str (sL [a]),.str ""]],.list [.tuple [.str (sL [a]),.str "-"]],.list [],.list [.tuple [.str (sL [a]),.str "^"]]] rfl<|bR v _ rfl<|WL.ou (by decide) ?_
 refine V D ?_
 refine WL.jd v (x:= .list<|(r6 a c).map bP) (k:=c%4) ?_ ?_
 ·have f:c%4=0\/c%4=1\/c%4=2\/c%4=3:=by lia
  unfold r6
  rcases f with f|f|f|f<;>refine V f ?_<;>simp only[ee,j_,bP,dz,<-qm,<-aez,<-QA]<;>rfl
 refine(WL.nu<|bk (g.map bP) rfl ?_<|WSs.c ?_)
 ·have:(r6 a c).length<=1:=by unfold r6;split<;>simp
  refine V (bC ..) (V (bC ..)<|V n ?_);exact la 0x12810000001410a180111184110fa02060 [_,_] rfl G this
 walk_at "w"
 refine mh _ rfl rfl _ rfl [.str (sL [a]),.str ""] rfl<|bR p [.tuple [.str (sL [a]),.str ""]] rfl<|bR q [] rfl<|bR E _ rfl<|cJ [.str (sL [a]),.str "+"] rfl p [.tuple [.str (sL [a]),.str "+"]] rfl<|bR q _ rfl<|cJ [.str (sL [e]),.str "^"] rfl p [.tuple [.str (sL [e]),.str "^"]] rfl<|bR q
  [.list [.tuple [.str (sL [a]),.str ""]],.list [],.list [.tuple [.str (sL [a]),.str "+"]],.list [.tuple [.str (sL [e]),.str "^"]]] rfl<|bR v _ rfl<|WL.ou (by decide) ?_
 refine V D ?_
 refine WL.jd v (x:= .list<|(tH a e c).map bP) (k:=c%4) ?_ ?_
 ·have f:c%4=0\/c%4=1\/c%4=2\/c%4=3:=by lia
  unfold tH
  rcases f with f|f|f|f<;>refine V f ?_<;>simp only[ee,j_,bP,dz,<-qm,<-aeA,<-QA]<;>rfl
 refine(WL.nu<|bk (i.map bP) rfl ?_<|WSs.n ?_)
 ·have:(tH a e c).length<=1:=by unfold tH;split<;>simp
  refine V (bC ..) (V (bC ..)<|V n ?_);exact la 0x12810000001410a180111184110fa02060 [_,_] rfl I this
 have:=h (Y<|.s<|sL [a])<|Y<|.s<|sL [e]
 have g1:j0 (c/4)=a:=by unfold j0;refine V zV (V m ?_);rfl
 have g2:j0 (c/48)=e:=by unfold j0;refine V zV (V r ?_);rfl
 rw[g1,g2] at this
 unfold r5 at this
 rw[gZ,gZ] at this
 exact this
end
def vj(l:List Nat):List Sg:=l.flatMap λc=>r6 (j0<|c/4) c
def vm(l:List Nat):List Sg:=l.flatMap λc=>tH (j0<|c/4) (j0<|c/48) c
theorem QB(a c:Nat):(r6 a c).length<=1:=by unfold r6;split<;>simp
theorem QC(a b c:Nat):(tH a b c).length<=1:=by unfold tH;split<;>simp
theorem aeC{w:aC}{d:Nat}{s:AV}{a:List Nat}{Q:FQ}:∀(l:List Nat) (B o R L N:Option AV) (b e:List Sg),b.length+l.length<=1000->e.length+l.length<=1000->
  (∀n i j,Q .nx<|r5 s B o n i j a (b++vj l)<|e++vm l)->
  mT (asg<|.n 7) (λq K=>WSs w d Em q K) (cD l) (r5 s B o R L N a b e) Q:=by
 intro l
 induction l with
 |nil=>
  intro B o R L N b e f h k
  have:=k R L N
  simp only[vj,vm,Mw,iH] at this
  exact this
 |cons c l g=>
  intro B o R L N b e f h k
  rw[cX] at f h
  have p:=QB (j0<|c/4) c
  have m:=QC (j0<|c/4) (j0<|c/48) c
  refine(?_:WSs w d Em (r5 s B o (Y<|.i c) L N a b e) _)
  refine aeB (by exact la 0x4a3e808180110fa02042091860 [_,_] rfl f) (by exact la 0x4a3e808180110fa02042091860 [_,_] rfl h) λi j=>?_
  refine g B o _ i j _ _ (by refine V bQ ?_;exact la 0x4a3e80810a10a280111188110fa02042091860 [_,_,_] rfl f p) (by refine V bQ ?_;exact la 0x4a3e80810a10a280111188110fa02042091860 [_,_,_] rfl h m) λn i j=>?_
  have:=k n i j
  unfold vj vm at this ⊢
  rw[fQ,fQ,<-eO,<-eO] at this
  exact this
noncomputable def Bg:List Nat:=[0,15,301,9,26,111,41,13]
def vn(xs:List Int):List Nat:=qx 0 (xs.take 60) Bg
theorem aeD(xs:List Int):(vn xs).length=8:=aex _ _ _
theorem aeE(xs:List Int):∀c∈vn xs,c<=400+60*1000000:=λc a=>by
 have:=Qz (B:=400) (xs.take 60) 0 Bg 0 (by decide) c a
 have m:(xs.take 60).length<=60:=by refine V qV ?_;exact la 0x4af01060044f01060 [_] rfl<|Cq _ _
 exact ic this<|alT (ju (by exact la 0x4af01042810044f01060 [_] rfl m)<|bM _) _
theorem aeF(l:List Nat):(∀p∈vj l,jf p)/\(vj l).length<=l.length:=by
 constructor
 ·intro p hp
  unfold vj at hp
  refine aD (xA.mp hp) λc _ a=>?_
  have b:=Jb<|c/4
  unfold r6 at a
  split at a
  ·rewrite[bH.mp a];exact⟨b,.inl rfl⟩
  ·rewrite[bH.mp a];exact⟨b,.inr<|.inl rfl⟩
  ·cases a
  ·rewrite[bH.mp a];exact⟨b,.inr<|.inr<|.inr rfl⟩
 ·unfold vj
  have:=alU (l:=l) (f:=λc=>r6 (j0<|c/4) c)
  induction l with
  |nil=>simp
  |cons c l g=>
   refine V fQ<|V bQ<|V cX ?_
   have:=QB (j0<|c/4) c
   have:=g alU
   lia
theorem aeG(l:List Nat):(∀p∈vm l,jf p)/\(vm l).length<=l.length:=by
 constructor
 ·intro p hp
  unfold vm at hp
  refine aD (xA.mp hp) λc _ a=>?_
  have b:=Jb<|c/4
  have d:=Jb<|c/48
  unfold tH at a
  split at a
  ·rewrite[bH.mp a];exact⟨b,.inl rfl⟩
  ·cases a
  ·rewrite[bH.mp a];exact⟨b,.inr<|.inr<|.inl rfl⟩
  ·rewrite[bH.mp a];exact⟨d,.inr<|.inr<|.inr rfl⟩
 ·unfold vm
  induction l with
  |nil=>simp
  |cons c l g=>
   refine V fQ<|V bQ<|V cX ?_
   have:=QC (j0<|c/4) (j0<|c/48) c
   exact la 0x4a091842822044462044860 [_,_,_] rfl g this
theorem aeH(l:List Nat)(k:Nat):(cD l).take k=cD (l.take k):=by unfold cD;exact V vP rfl
theorem aeI(w:aC)(xs:List Int)(J:xs.length<=2000000)(a:List Nat)(q:qx 0 (xs.take 60) Bg=a)(l:a.length=8)(o p:Nat)(r:a[6]?=Y o)(t:a[7]?=Y p)(O N:List af)(x:(vj<|a.take 6).map bP=O)(y:(vm<|a.take 6).map bP=N):iN w 1 (.ref 253) [.iJ xs]
  (.t [.list O,.list N,.int o,.int p]):=by
 have b:=bI
 refine pB (cP:=[.iJ xs]) ab1 (by kernel_rfl) (ab2 rfl) rfl (by decide) λc h ok z A K=>?_
 subst A
 suffices k:WSs c.w c.d H9 ⟨[Y (.iJ xs),Z,Z,Z,Z,Z,Z,Z,Z,Z],[]⟩ (uP<|.t [.list O,.list N,.int o,.int p]) from @fZ c DA h ok z H9 _ _ _ IR.aaV k
 refine WSs.c ?_
 walk_at "w"
 refine cJ (cD Bg) rfl (by refine V b ?_;decide) [] rfl<|bR (by refine V b ?_;decide) [] rfl<|g5 (by refine V b ?_;decide) (by refine V b ?_;refine(?_:4<=_);decide) rfl ?_
 refine V aeu ?_
 refine WSs.c ?_
 have e:(xs.map jr).length=xs.length:=bC ..
 walk_at "w"
 refine cJ _ rfl rfl _ rfl<|fH (xs.map .int) Z (Y 60) rfl (by refine V e (V b ?_);exact aK) rfl rfl<|ah _ rfl ?_
 have u:kQ (xs.map jr) Z (Y 60)=(xs.take 60).map .int:=by
  refine V (Du ..) ?_
  have B:d7 (xs.map jr).length Z 0=0:=rfl
  refine V B<|V nY<|V vP ?_
  have C:d7 (xs.map jr).length (Y 60) (xs.map jr).length=min 60 xs.length:=by exact V (show(60:Int)=((60:Nat):Int) from rfl)<|V (Dt ..)<|V e rfl
  refine V C ?_
  by_cases g:60<=xs.length
  ·exact V (zQ g) rfl
  ·exact V (Gs<|by exact la 0x4af0106004883c041 [_] rfl g)<|V (Cu<|by refine V e ?_;exact bM _)<|V (Cu<|by refine V e ?_;exact la 0x4af0106004883c041 [_] rfl g) rfl
 refine V u ?_
 refine aey (w:=c.w) (d:=c.d) (s:= .iJ xs) (xs.take 60) 0 Z Z Bg rfl λD E=>?_
 refine V q ?_
 have f:(cD a).length=8:=by exact V (ku ..)<|V l rfl
 refine WSs.c ?_
 walk_at "w"
 refine ah _ rfl<|fH _ _ _ rfl (by refine V f (V b ?_);decide) rfl rfl<|ah _ rfl ?_
 have m:kQ (cD a) Z (Y 6)=cD (a.take 6):=by
  have:=yM (cD a) 6<|by refine V f ?_;decide
  refine az (aeH ..) ?_;exact this
 refine V m ?_
 have v:(a.take 6).length=6:=by refine V qV (V l ?_);rfl
 refine aeC (w:=c.w) (d:=c.d) (s:= .iJ xs) (a.take 6) D E Z Z Z [] [] (by refine V v ?_;decide) (by refine V v ?_;decide) λn i j=>?_
 refine V (jt ..)<|V (jt ..) ?_
 unfold r5
 refine V x<|V y ?_
 refine WSs.fz<|gx 1 _ rfl rfl<|WSs.fz<|gx 2 _ rfl rfl<|WSs.c ?_
 walk_at "w"
 have G:(cD a)[6]?=Y (.int o):=by unfold cD;refine V iW (V r ?_);rfl
 have I:(cD a)[7]?=Y (.int p):=by unfold cD;refine V iW (V t ?_);rfl
 refine nh _ rfl _ rfl _ rfl ?_
 refine(WL.Dw<|fG (cD a) rfl (by refine V f (V b ?_);decide) (by decide)<|bG _ G _ rfl ?_)
 refine(WL.Dw<|fG (cD a) rfl (by refine V f (V b ?_);decide) (by decide)<|eS _ I _ rfl (by refine V b ?_;refine(?_:4<=_);decide)<|.inl rfl)
theorem aeJ(w:aC)(xs:List Int)(m:xs.length<=2000000):∃(b c:List Sg) (first a:Nat),(∀p∈b,jf p)/\(∀p∈c,jf p)/\b.length<=6/\c.length<=6/\first<=100000000/\a<=100000000/\
  iN w 1 (.ref 253) [.iJ xs] (.t [.list (b.map bP),.list (c.map bP),.int first,.int a]):=by
 have g:=aeD xs
 have j:=aeE xs
 obtain⟨h,e⟩:∃z,(vn xs)[6]?=Y z:=⟨_,fM<|by refine V g ?_;decide⟩
 obtain⟨i,f⟩:∃z,(vn xs)[7]?=Y z:=⟨_,fM<|by refine V g ?_;decide⟩
 have d:=aeF<|(vn xs).take 6
 have k:=aeG<|(vn xs).take 6
 have l:((vn xs).take 6).length=6:=by refine V qV (V g ?_);rfl
 have n:=j h<|m_ e
 have o:=j i<|m_ f
 refine n6 _ _ h i d.1 k.1 (by exact la 0x4a5a00465a1044860 [_,_] rfl d.2 l) (by exact la 0x4a5a00465a1044860 [_,_] rfl k.2 l)<|bJ aK aK<|aeI w xs m (vn xs) rfl g h i e f _ _ rfl rfl
def En:Sc:=⟨["self","tabsize","wrapcolumn","linejunk","charjunk"],(aM 44).scope.names,[]⟩
def aeK:Ss:=(.k (.oj (.v 0) "_tabsize"<|.v 1)<|.k (.oj (.v 0) "_wrapcolumn"<|.v 2)<|.k (.oj (.v 0) "_linejunk"<|.v 3)<|.k (.oj (.v 0) "_charjunk"<|.v 4) .z)
theorem aeL:gQ En aeK (cF<|aM 44)=true:=by kernel_rfl
theorem aeM:fY 44 (aM 44) (cF<|aM 44) En:=ki λP=>by kernel_rfl
theorem aeN:C6 111 44:=NV λP=>by kernel_rfl
theorem aeO:mH 111 "_tabsize":=rH λP=>by kernel_rfl
theorem aeP:mH 111 "_wrapcolumn":=rH λP=>by kernel_rfl
theorem aeQ:mH 111 "_linejunk":=rH λP=>by kernel_rfl
theorem aeR:mH 111 "_charjunk":=rH λP=>by kernel_rfl
theorem aeS:mH 111 "_prefix":=rH λP=>by kernel_rfl
theorem aeT{w:aC}{a b:Int}:C7 w (aM 44) En.N [.i a,.i b] [.i a,.i b,.n,.k 29]:=PG (by show 5<=En.N.length;decide) λP c g d=>by
 obtain⟨x,y⟩:=tE d
 refine ah [x,y,.none,.ref 29] (λS=>?_) λJ _ r=>?_
 ·kernel_rfl
 ·refine gy r λe f h=>?_;clear r
  exact sS e f RD.none rfl trivial
def QD(a b:Int):List (H×AV):=[("_tabsize",.i a),("_wrapcolumn",.i b),("_linejunk",.n),("_charjunk",.k 29)]
theorem aeU(w:aC)(a b:Int):yj w 2 111 [.i a,.i b] (QD a b):=by
 refine NW (cP:=[.i a,.i b,.n,.k 29]) aeN aeM (by kernel_rfl) aeT (bM _) λc h ok e f g=>?_
 subst f
 refine fZ ok e aeL (q:=⟨[Y (.gA 0 111),Y (.i a),Y (.i b),Y .n,Y (.k 29)],[Y (.gJ 111 [])]⟩) ?_
 refine WSs.c ?_
 walk_at "w"
 refine bG _ rfl _ rfl<|fH 0 111 [] rfl rfl aeO rfl<|bJ (by decide) rfl<|WSs.c ?_
 walk_at "w"
 refine bG _ rfl _ rfl<|fH 0 111 _ rfl rfl aeP (by kernel_rfl)<|bJ (by simp) rfl<|WSs.c ?_
 walk_at "w"
 refine bG _ rfl _ rfl<|fH 0 111 _ rfl rfl aeQ (by kernel_rfl)<|bJ (by simp) rfl<|WSs.c ?_
 walk_at "w"
 refine bG _ rfl _ rfl<|fH 0 111 _ rfl rfl aeR (by kernel_rfl)<|bJ (by simp) rfl<|WSs.n ⟨rfl,rfl⟩
theorem aeV(w:aC)(a b:Int):iN w 3 (.ref 260) [.i a,.i b] (.bF a b):=by
 refine pB (cP:=[.i a,.i b]) ab3 (by kernel_rfl) (ab4 rfl) rfl (by decide) λc h ok e f g=>?_
 have i:c.d=2:=by lia
 subst f
 refine fZ ok e aaX (q:=⟨[Y (.i a),Y (.i b),Z],[]⟩)<|WSs.c ?_
 walk_at "w"
 refine mh _ rfl rfl _ rfl _ rfl<|WL.aax (k:=2) (by exact la 0x4a8120474c2460 [_] rfl g) (aeU c.w a b) rfl<|WSs.c ?_
 have l:2<=aL:=by refine V bI ?_;decide
 walk_at "w"
 refine cJ [.str "old_",.str "new_"] rfl l _ rfl<|fH 0 111 _ rfl rfl aeS (by kernel_rfl)<|bJ (by unfold QD;simp) rfl ?_
 refine n6 0 111 _ (.bF a b) rfl rfl (Zo a b) ?_<|WSs.c ?_
 ·rintro j D ⟨o,d,rfl⟩ m
  simp only[St.jz,St.fR,St.pn,List.set_cons_succ,List.set_cons_zero,iX,lW,or_false] at d
  rcases d with d|d|d
  ·cases d
  ·cases d
  ·cases d;rfl
 walk_at "w"
 exact ah _ rfl<|.inl rfl
noncomputable def lQ:Option Nat->List Sg->List Tk
 |_,[]=>[]
 |j,(c,m)::r=>(if m=j then[] else eU j++dF m)++(.s c::lQ m r)
theorem aeW:lQ a []=[]:=rfl
theorem QE:lQ j ((c,m)::r)=(if m=j then[] else eU j++dF m)++(.s c::lQ m r):=rfl
theorem QF(j:Option Nat)(f:List Sg):dW j f=lQ j f++eU (iQ j f):=by
 induction f generalizing j with
 |nil=>
  exact rfl
 |cons a r b=>
  obtain⟨c,m⟩:=a
  refine V IW<|V QE ?_
  refine V (b m) (V (eO ..) ?_);rfl
theorem Jc(a b:Option Nat):(dz a==dz b)=decide (a=b):=by
 cases a<;>cases b<;>(unfold dz;simp only[iO];rw[zM];simp)
theorem Eo(a:Option Nat):(dz a).length<=1:=by cases a<;>(refine V (aQ ..) ?_;simp)
theorem QG{w:aC}{d:Nat}{a:Option Nat}{q:St}{B:Bool->St->Prop}(h:B (decide<|a≠Z) q):nC w d (.s<|dz a) q B:=by
 refine WL.tS (by have:=Eo a;refine V bI ?_;exact aK) ?_
 have:(((dz a).length:Int) !=0)=decide (a≠Z):=by clear h;cases a<;>(refine V (aQ ..) ?_;simp)
 refine V this ?_;exact h
def Ep:Ss:=(.k (.ck (.bx .NotEq (.v 9)<|.v 7) (.k (.eF 6<|.aI .Add (.ite (.val<|.v 7) (.c<|.str "\x01")<|.c<|.str "")<|.ite (.val<|.v 9) (.aI .Add (.c<|.str "\x00")<|.v 9)<|.c<|.str "") .z) .z)<|.k (.lK true [7,6]<|.k (.aI .Add (.v 6)<|.v 8)<|.k (.v 9) .z) .z)
def vo(f:List Sg)(a:Nat)(num:af)(b:Option Nat)(B:Option AV)(T:List Nat)(j:Option Nat)(L N:Option AV)(P:List af):St:=
 ⟨[Y (fy f),Y (.i a),Y (.d num),Y (.m 0),Y (.s<|dz b),B,Y (.s<|sL T),Y (.s<|dz j),L,N],[Y (.ai P)]⟩
theorem aeX(m:Option Nat):aq (eU m)=if m=Z then[] else[1]:=by cases m<;>rfl
theorem aeY(m:Option Nat):aq (dF m)=match m with|none=>[]|some k=>[0,k]:=by cases m<;>rfl
theorem Jd(m:Option Nat):(aq<|dF m).length<=2:=by cases m<;>simp[aeY]
theorem Bh(m:Option Nat):(aq<|eU m).length<=1:=by cases m<;>simp[aeX]
theorem QH{w:aC}{d:Nat}{f:B6}{a b:X}{q:St}{Q:PQ}(h:W w d a q λu c=>W w d b c λv e=>lG w d f u v e Q):W w d (.aI f a b) q Q:=h
theorem QI{w:aC}{d i:Nat}{j:Option Nat}{q:St}{Q:PQ}(a:q.v[i]?=Y (Y<|.s<|dz j))(h:Q (.s<|sL<|aq<|eU j) q):W w d (.ite (.val<|.v i) (.c<|.str "\x01")<|.c<|.str "") q Q:=by
 walk_at "w"
 refine ah _ a<|QG ?_
 cases j with
 |none=>exact WL.bK (by decide)<|by refine V qm ?_;exact h
 |some k=>exact WL.cy (by simp)<|by refine V yx ?_;exact h
theorem aeZ{w:aC}{d i:Nat}{m:Option Nat}{q:St}{Q:PQ}(a:q.v[i]?=Y (Y<|.s<|dz m))(h:Q (.s<|sL<|aq<|dF m) q):W w d (.ite (.val<|.v i) (.aI .Add (.c<|.str "\x00")<|.v i)<|.c<|.str "") q Q:=by
 walk_at "w"
 refine ah _ a<|QG ?_
 cases m with
 |none=>exact WL.bK (by decide)<|by refine V qm ?_;exact h
 |some k=>
  refine WL.cy (by simp)<|ah _ a<|WL.iP (by have:=Eo (Y k);have:("\x00":H).length=1:=(by decide+kernel);refine V bI ?_;exact uB _ _) ?_
  refine V rR ?_
  refine V (d9 ..) ?_
  exact h
theorem ae0{w:aC}{d:Nat}{f:List Sg}{a:Nat}{num:af}{b:Option Nat}{B:Option AV}{P:List af}{T:List Nat}{j:Option Nat}{c:Nat}{m:Option Nat}{Q:FQ}(i:T.length<=10000)
  (h:Q .nx (vo f a num b B (T++aq ((if m=j then[] else eU j++dF m)++[.s c])) m (Y<|.s<|sL [c]) (Y<|.s<|dz m) P)):
  WSs w d Ep (vo f a num b B T j (Y<|.s<|sL [c]) (Y<|.s<|dz m) P) Q:=by
 have g:=bI
 have e:∀n:List Nat,n.length<=10010->Q .nx (vo f a num b B (n++[c]) m (Y<|.s<|sL [c]) (Y<|.s<|dz m) P)->
   WSs w d (.k (.lK true [7,6]<|.k (.aI .Add (.v 6)<|.v 8)<|.k (.v 9) .z) .z) (vo f a num b B n j (Y<|.s<|sL [c]) (Y<|.s<|dz m) P) Q:=λn p q=>by
  refine WSs.c ?_
  walk_at "w"
  refine bG _ rfl _ rfl<|WL.iP (by refine V (aQ ..) (V (aQ ..)<|V g ?_);simp;exact aK)<|fG _ rfl (by refine V g ?_;refine(?_:2<=_);decide) rfl<|WSs.n ?_
  refine V (d9 ..) ?_
  exact q
 refine WSs.c ?_
 walk_at "w"
 refine bG _ rfl _ rfl (WL.rP<|WL.tB ?_)
 (rewrite[bne];refine V (Jc ..) ?_)
 by_cases o:m=j
 ·rw[if_pos o] at h
  refine WL.bK (by simpa using o)<|WSs.n<|e T aK ?_
  exact h
 ·rw[if_neg o] at h
  refine WL.cy (by simpa using o)<|WSs.c ?_
  walk_at "s"
  have k:=Bh j
  have l:=Jd m
  refine ah _ rfl<|QH<|QI (j:=j) rfl<|aeZ (m:=m) rfl<|WL.iP (by refine V (aQ ..) (V (aQ ..)<|V g ?_);exact la 0x4a0400000050428600444a1044460 [_,_] rfl k l) ?_
  refine V (d9 ..) ?_
  refine WL.AJ (by refine V (aQ ..) (V (aQ ..)<|V g<|V bQ ?_);exact la 0x4a0400000050420a28600444a204446104409c403060 [_,_,_] rfl i k l)<|WSs.n ?_
  refine V (d9 ..) ?_
  refine e (T++(aq (eU j)++aq (dF m))) (by simp;exact la 0x4a09c6830420a28600444a204446104409c403060 [_,_,_] rfl i k l) ?_
  rw[jZ,jZ] at h
  refine V (eO ..) ?_
  exact h
theorem QJ{w:aC}{d:Nat}{g:List Sg}{a:Nat}{num:af}{b:Option Nat}{B:Option AV}{P:List af}{Q:FQ}:∀(f:List Sg) (T:List Nat) (j:Option Nat) (L N:Option AV),T.length+4*f.length<=10000->
  (∀n o,Q .nx<|vo g a num b B (T++aq (lQ j f)) (iQ j f) n o P)->
  mT (asg<|.t<|.k (.n 8)<|.k (.n 9) .z) (λq K=>WSs w d Ep q K) (f.map bP) (vo g a num b B T j L N P) Q
 |[],T,j,L,N,i,h=>by
  have:=h L N
  simp only[aeW,QE,aq,Mw,iH] at this
  exact this
 |(c,m)::f,T,j,L,N,i,h=>by
  rw[cX] at i
  walk_at "w"
  refine⟨rfl,?_⟩
  refine ae0 (by exact la 0x4a09c40306004409c4030420c2461520 [_,_] rfl i) ?_
  have p:(aq<|(if m=j then[] else eU j++dF m)++[.s c]).length<=4:=by
   have k:=Bh j
   have l:=Jd m
   refine V (jZ ..)<|V bQ ?_
   have:(aq [Tk.s c]).length=1:=rfl
   split
   ·have r:aq ([]:List Tk)=[]:=rfl
    refine V r (V l7 ?_);exact oY _
   ·refine V (jZ ..) (V bQ ?_);exact la 0x4a5028828600464620444a1044460 [_,_,_] rfl k l this
  refine QJ f _ m _ _ (by refine V bQ ?_;exact la 0x4a09c4030420e15028a004452204409c4030420c2461520 [_,_,_] rfl i p) λn o=>?_
  have:=h n o
  have e:T++aq (lQ j ((c,m)::f))=T++aq ((if m=j then[] else eU j++dF m)++[.s c])++aq (lQ m f):=by
   refine V (eO ..)<|az (jZ ..) ?_
   have s:lQ j ((c,m)::f)=(if m=j then[] else eU j++dF m)++(.s c::lQ m f):=rfl
   refine V s (V (eO ..) ?_);rfl
  rw[e] at this
  exact this
def Je:Ss:=(.k (.lK false [6,7]<|.k (.c<|.str "")<|.k (.c<|.str "") .z)<|.k (.ck (.an<|.k (.bx .NotEq (.v 4)<|.c<|.str "")<|.k (.bx .NotEq (.sub (.sub (.v 0)<|.v 5)<|.c<|.int 1)<|.v 4) .z) (.k (.aT (.k (.n 6) .z)<|.aI .Add (.aI .Add (.c<|.str "\x00")<|.v 4)<|.c<|.str "\x01") .z) .z)<|.k (.kR (.t<|.k (.n 8)<|.k (.n 9) .z) (.ai<|.nD (.v 0) (.x<|.v 5)<|.x<|.aI .Add (.v 5)<|.v 1) Ep)<|.k (.ex<|.dg .append (.v 3)<|.k (.bZ<|.k (.ite (.val<|.v 5) (.c<|.str ">")<|.v 2)<|.k (.aI .Add (.v 6)<|.ite (.val<|.v 7) (.c<|.str "\x01")<|.c<|.str "") .z) .z)<|.k (.aT (.k (.n 4) .z)<|.v 7) .z)
def Er(f:List Sg)(a:Nat)(num:af)(e:Option Nat)(B o R L N:Option AV)(P:List af):St:=
 ⟨[Y (fy f),Y (.i a),Y (.d num),Y (.m 0),Y (.s<|dz e),B,o,R,L,N],[Y (.ai P)]⟩
theorem QK(e:Option Nat)(f:List Sg):(aq<|fU e f).length<=3:=by
 unfold fU
 split
 ·split<;>(unfold aq;simp[Tk.cps])
 ·exact eL _
theorem QL(j:Option Nat)(b:List Sg):(aq<|lQ j b).length<=4*b.length:=by
 induction b generalizing j with
 |nil=>
  exact eL _
 |cons e f g=>
  obtain⟨c,m⟩:=e
  have g:=g m
  have M:=Bh j
  have h:=Jd m
  have i:lQ j ((c,m)::f)=(if m=j then[] else eU j++dF m)++([.s c]++lQ m f):=rfl
  (refine V i (V (jZ ..)<|V (jZ ..)<|V bQ<|V bQ ?_);rw[cX])
  have:(aq [Tk.s c]).length=1:=rfl
  have:(aq (if m=j then[] else eU j++dF m)).length<=3:=by
   split
   ·have k:aq ([]:List Tk)=[]:=rfl
    refine V k ?_;simp
   ·refine V (jZ ..) (V bQ ?_);exact la 0x4a4c28600444a1044460 [_,_] rfl M h
  lia
section
variable {w:aC} {d:Nat} {f:List Sg} {a:Nat} {num:af}
theorem QM{b:Nat}{e:Option Nat}{o R L N:Option AV}{P:List af}{Q:FQ}(hc:0<a)(U:a<=1000)(hb:b<=1000)(KV:f.length<=1000)(hP:P.length<=100000)(hn:(AV.d num).aq=true)(l:e=Z\/f.drop b≠[])
  (x:∀b6 b7 E G,Q .nx<|Er f a num (iQ Z<|(f.drop b).take a) (Y<|.i b) b6 b7 E G<|P++[eG (if b=0 then num else .str ">",fU e (f.drop b)++dW Z ((f.drop b).take a))]):
  WSs w d Je (Er f a num e (Y<|.i b) o R L N P) Q:=by
 have n:=bI
 have h:(f.map bP).length=f.length:=bC ..
 unfold Je
 refine WSs.c ?_
 walk_at "w"
 refine bJ (by refine V n ?_;show 2<=_;decide) rfl ?_
 have D:∀T:List Nat,T=aq (fU e<|f.drop b)->
   WSs w d (.k (.kR (.t<|.k (.n 8)<|.k (.n 9) .z) (.ai<|.nD (.v 0) (.x<|.v 5)<|.x<|.aI .Add (.v 5)<|.v 1) Ep)<|.k (.ex<|.dg .append (.v 3)<|.k (.bZ<|.k (.ite (.val<|.v 5) (.c<|.str ">")<|.v 2)<|.k (.aI .Add (.v 6)<|.ite (.val<|.v 7) (.c<|.str "\x01")<|.c<|.str "") .z) .z)<|.k (.aT (.k (.n 4) .z)<|.v 7) .z)
    (vo f a num e (Y<|.i b) T Z L N P) Q:=λT hT=>by
  have y:T.length<=3:=by refine V hT ?_;exact QK _ _
  refine WSs.c ?_
  walk_at "w"
  refine nh _ rfl _ rfl _ rfl<|ah _ rfl<|WL.fK<|fH _ _ _ rfl (by refine V h (V n ?_);exact aK) rfl rfl<|ah _ rfl ?_
  have eb:((b:Int)+(a:Int))=((b+a:Nat):Int):=by lia
  refine V eb ?_
  have r:kQ (f.map bP) (Y (b:Int)) (Y ((b+a:Nat):Int))=((f.drop b).take a).map bP:=by
   by_cases i:b<=f.length
   ·refine V (adY _ _ _<|by refine V h ?_;exact i) (az List.map_drop<|az vP ?_)
    congr 2;exact dK (la 0x4a8a00460a2842860 [_,_,_] rfl<|aY<|la 0x4a0a1820 [_,_] rfl)<|la 0x4a8220470a2842860 [_,_,_] rfl<|aY<|la 0x4a0a1820 [_,_] rfl
   ·refine V (Du ..) (V (Mu (by exact la 0x4a821048860 [_,_] rfl i:f.length<=b))<|V alD<|V j_ ?_)
    refine Mu ?_
    have:d7 (f.map bP).length (Y (b:Int)) 0=f.length:=by refine V (Dt ..) (V h ?_);exact dK (la 0x4a860046860 [_,_] rfl<|Gs<|la 0x4a821048860 [_,_] rfl i)<|la 0x4a821047860 [_,_] rfl<|Gs<|la 0x4a821048860 [_,_] rfl i
    refine V this (V qV<|V h ?_);exact la 0x4a860044860 [_,_] rfl<|Gi _ _
  refine V r ?_
  have g:((f.drop b).take a).length<=1000:=by simp;(clear hc;exact la 0x4a3e808184112084110fa02060 [_,_] rfl U<|Cq _ _)
  refine QJ ((f.drop b).take a) T Z L N (by exact la 0x12827100c108385480410fa020610444e0 [_,_] rfl y g) λE G=>?_
  have hTr:=QL Z<|(f.drop b).take a
  generalize hch:(f.drop b).take a=q at*
  refine WSs.c ?_
  walk_at "w"
  refine cJ _ rfl rfl _ rfl<|WL.tI ?_
  have s:∀I:af,I=(if b=0 then num else .str ">")->
    W w d (.aI .Add (.v 6)<|.ite (.val<|.v 7) (.c<|.str "\x01")<|.c<|.str "") (vo f a num e (Y<|.i b) (T++aq (lQ Z q)) (iQ Z q) E G P) (λu t=>∃ds,gM [.d I,u]=Y ds/\ds.length<=aL/\mP w d .append [.m 0,.t ds] t λ_ v=>WSs w d (.k (.aT (.k (.n 4) .z)<|.v 7) .z) v Q):=λI KU=>by
   have M:=Bh<|iQ Z q
   refine QH<|ah _ rfl<|QI (j:=iQ Z q) rfl<|WL.iP (by refine V (aQ ..) (V (aQ ..)<|V n<|V bQ ?_);exact la 0x12810000001410a30a28011118c110385488410fa020610444e0 [_,_,_,_] rfl y g hTr M)<|bk _ rfl (by refine V n ?_;show 2<=_;decide) ?_
   refine(WL.append<|bk P rfl (by refine V n ?_;exact aK)<|WSs.c ?_)
   refine V (d9 ..) ?_
   walk_at "w"
   refine ah _ rfl<|WSs.n ?_
   have:=x (Y<|.s<|sL<|T++aq (lQ Z q)) (Y<|.s<|dz<|iQ Z q) E G
   have ep:eG (if b=0 then num else .str ">",fU e (f.drop b)++dW Z q)= .tuple [I,.str (sL<|T++aq (lQ Z q)++aq (eU<|iQ Z q))]:=by
    unfold eG
    exact V KU<|V hT<|V (QF ..)<|V (jZ ..)<|V (jZ ..)<|V (eO ..) rfl
   rw[ep] at this
   exact this
  by_cases z:b=0
  ·clear eb x hT hb hch l r;subst z
   exact WL.bK (by decide)<|ah _ rfl<|s num<|by exact V (if_pos rfl) rfl
  ·exact WL.cy (by simp;assumption)<|s (.str ">")<|by exact V (if_neg z) rfl
 refine WSs.c ?_
 walk_at "w"
 refine ah _ rfl<|WL.rP<|WL.tB ?_
 have J:(dz e !=("":H))=decide (e≠Z):=by
  have:("":H)=dz Z:=qm
  (refine V this ?_;rewrite[bne];refine V (Jc ..) ?_)
  cases e<;>rfl
 refine V J ?_
 by_cases A:e=Z
 ·clear J x l;subst A
  refine WL.bK (by decide)<|WL.bK (by decide)<|WSs.n ?_
  refine D [] ?_
  unfold fU
  rfl
 ·refine WL.cy (by simpa using A) ?_
  have hd:=l.resolve_left A
  have i:b<f.length:=by
   have:=zU.mpr hd
   rw[kM] at this;(clear h;exact la 0x4b8a1046882860045810 [_,_,_] rfl this<|La.sp this)
  obtain⟨p,hp⟩:∃p,f[b]?=Y p:=⟨_,fM i⟩
  obtain⟨c,m⟩:=p
  have B:f.drop b=(c,m)::f.drop (b+1):=by
   refine Ex (fF.mp hp) λjN C=>?_
   exact V (Cj jN)<|V C rfl
  refine bG _ rfl _ rfl ?_
  refine(WL.u7 ⟨by refine V h (V n ?_);exact aK,.inl<|bR (by exact li 0x4a810044810 [_] rfl<|Li.cp _) (bP (c,m)) (by refine V (gY ..) (V iW<|V hp ?_);rfl) ?_⟩)
  refine(WL.ow<|mj (by refine V n ?_;show 2<=_;decide) (by decide) (.str<|dz m) rfl<|ah _ rfl<|WL.rP<|WL.tB ?_)
  (rewrite[bne];refine V (Jc ..) ?_)
  by_cases K:m=e
  ·refine WL.bK (by simpa using K) (WL.bK (by decide)<|WSs.n ?_)
   refine D [] ?_
   refine V B ?_
   unfold fU
   clear D J x A l;cases e with
   |none=>rfl
   |some k=>simp only;refine V (if_pos K) ?_;rfl
  ·refine WL.cy (by simpa using K) (WL.cy trivial<|WSs.c ?_)
   walk_at "w"
   clear J x l;cases e with
   |none=>exact absurd rfl A
   |some k=>
    refine ah _ rfl<|WL.iP (by have:=Eo (Y k);have:("\x00":H).length=1:=(by decide+kernel);refine V n ?_;exact uB _ _) ?_
    have e3:("\x00":H)++dz (Y k)=sL [0,k]:=by
     refine V rR ?_;unfold dz;refine V (d9 ..) ?_;rfl
    have e4:sL [0,k]++("\x01":H)=sL [0,k,1]:=by
     refine V yx (V (d9 ..) ?_);rfl
    have e5:("\x01":H).length=1:=by decide+kernel
    refine V e3 ?_
    refine WL.iP (by refine V (aQ ..) (V n<|V e5 ?_);simp)<|WSs.n ?_
    refine V e4 ?_
    refine D [0,k,1] ?_
    refine V B ?_
    unfold fU
    simp only
    refine V (if_neg K) ?_;rfl
end
theorem ae1{w:aC}{d:Nat}{e:List Sg}{a:Nat}{num:af}{Q:FQ}(j:0<a)(m:a<=1000)(i:e.length<=1000)(G:(AV.d num).aq=true)(c:Nat)(f:Nat)(b:Nat)(g:Option Nat)(B:Option AV)(o:Option AV)(R:Option AV)(L:Option AV)(N:Option AV)(P:List af)(M:c<=f)(A:b<=e.length)(U:(e.drop b).length<=(c+1)*a)(u:(c=0\/c*a<(e.drop b).length))(C:(g=Z\/e.drop b≠[]))(hP:P.length+c<=90000)(l:(∀I J p r s t,Q .nx<|Er e a num I J p r s t<|P++(mV a f (if b=0 then num else .str ">") g<|e.drop b).map eG)):mT (asg<|.n 5) (λq K=>WSs w d Je q K) (rD (b:Int) (a:Int)<|c+1) (Er e a num g B o R L N P) Q:=by
 induction c generalizing f b g B o R L N P with
 |zero=>
  refine QM j m (by exact la 0x4a3e808184112084110fa02060 [_,_] rfl i A) i aK G C λp r s t=>?_
  have D:(e.drop b).length<=a:=by lia
  have hp:mV a f (if b=0 then num else .str ">") g (e.drop b)=[((if b=0 then num else .str ">"),fU g (e.drop b)++dW Z (e.drop b))]:=by
   clear l M;cases f with
   |zero=>rfl
   |succ f=>(simp only[DZ,wM];exact V (if_pos D) rfl)
  have:=l (iQ Z<|(e.drop b).take a) (Y<|.i b) p r s t
  rw[hp,alV] at this
  rw[Cu D] at this ⊢
  exact this
 |succ k ih=>
  obtain⟨f',rfl⟩:∃f',f=f'+1:=⟨f-1,by exact dK (la 0x4a091821047842460 [_,_] rfl<|aY<|la 0x4a851044842460 [_,_] rfl M)<|la 0x4a842460046842460 [_,_] rfl<|aY<|la 0x4a851044842460 [_,_] rfl M⟩
  have v:=u.resolve_left<|by lia
  have h:(k+1)*a=k*a+a:=by exact V (qI ..)<|V (zo ..) rfl
  have x:(k+1+1)*a=(k+1)*a+a:=by exact V (qI (k+1) 1 ..)<|V (zo ..) rfl
  have KD:0<=k*a:=eL _
  have y:¬(e.drop b).length<=a:=by(clear u;exact Ff.mpr<|la 0x4b8630470a38a0045860 [_,_,_,_] rfl v h)
  refine QM j m (by exact la 0x4a3e808184112084110fa02060 [_,_] rfl i A) i (by exact la 0x4a61a80306004457e403042091860 [_,_] rfl hP) G C λp r s t=>?_
  have n:=v
  rw[kM] at n
  have z:e.drop (b+a)=(e.drop b).drop a:=by exact V zY rfl
  have E:e.drop (b+a)≠[]:=by
   intro av
   have:=congrArg xw av
   rw[kM,l7] at this;exact la 0xc0479820a29640469829630464240458e00470a2860 [_,_,_,_,_,_,_] rfl h n this (aY A)<|aY<|la 0x4a9428a40469429230458e00470a2860 [_,_,_,_,_,_] rfl h n<|aY A
  have eb:((b:Int)+(a:Int))=((b+a:Nat):Int):=by lia
  refine V eb ?_
  refine ih f' (b+a) (iQ Z<|(e.drop b).take a) _ p r s t _ (by exact Vk<|by assumption) (by exact la 0x4a9428a40469429230458e00470a2860 [_,_,_,_,_,_] rfl h n<|aY A) ?_ ?_ (.inr E) (by refine V bQ (V vO ?_);exact la 0x4a57e40304284246004457e403042091860 [_,_] rfl hP) λI J p r s t=>?_
  ·refine V z (V kM ?_);exact la 0x4a8a40468028e40460a38a1044860 [_,_,_,_,_] rfl U x<|aY<|la 0x4a821048860 [_,_] rfl y
  ·by_cases h0:k=0
   ·exact .inl h0
   ·right
    refine V z (V kM ?_);(clear u;exact la 0x4b9220478428e40470a38a0045860 [_,_,_,_,_] rfl v h<|aY<|la 0x4a821048860 [_,_] rfl y)
  ·have:=l I J p r s t
   rw[wM,if_neg y,ee] at this
   refine V (if_neg (show¬b+a=0 by exact λav=>li 0xc044850046422046882821045810 [_,_,_] rfl (Li.ct j) eb (Li.ce av)<|Li.cp _))<|V z<|V (eO ..) ?_
   exact this
noncomputable def tK(n a:Nat):Nat:=(max n 1-1)/a
theorem ae2{n a:Nat}(j:0<a):uu 0 ((max n 1:Nat):Int) (a:Int)=((tK n a+1:Nat):Int):=by
 unfold uu tK
 refine V (if_pos<|by exact li 0x4b810045810 [_] rfl<|Li.ct j)<|V (if_pos<|by exact li 0x4b810044811 [_] rfl<|Li.cl<|Mx _ _) ?_
 have e:(((max n 1:Nat):Int)-0-1)=((max n 1-1:Nat):Int):=by exact lA (li 0x4a80f44f4210473d1860 [_,_] rfl<|jT<|Mx _ _)<|li 0x4a3d13d08600463d1860 [_,_] rfl<|jT<|Mx _ _
 refine V e ?_
 rfl
theorem ae3{n a:Nat}(j:0<a):n<=(tK n a+1)*a/\(tK n a=0\/tK n a*a<n)/\tK n a<=n:=by
 unfold tK
 have c:=xy (max n 1-1) a
 have g:=lD (max n 1-1) j
 have h:((max n 1-1)/a+1)*a=a*((max n 1-1)/a)+a:=by exact V (qI ..)<|V (zo ..)<|V (TX ..) rfl
 have e:(max n 1-1)/a*a=a*((max n 1-1)/a):=TX _ _
 have d:(max n 1-1)/a<=max n 1-1:=alL _ _
 refine bJ (by(clear j;exact la 0x4a9260449660440918a50470a38240458e1047882860 [_,_,_,_,_,_,_] rfl c g h (La.ls _ _)<|Gq _ _)) ?_<|by exact(sR _ _).elim (λb=>(sR _ _).elim (λf=>la 0x4a8e00468e2046882461044860 [_,_,_,_] rfl d (aY b)<|uD f) λf=>la 0x4a8e0046462046882461044860 [_,_,_,_] rfl d (aY b)<|xB f) λb=>la 0x4a8a0046421044860 [_,_,_] rfl d<|Gh b
 by_cases l:n=0
 ·clear c g h e d;subst l;left;simp
 ·right;exact(sR _ _).elim (λb=>la 0x4b963046964046902462046823046882860 [_,_,_,_,_,_] rfl c e (aY b)<|uD<|la 0x4a811045810 [_] rfl<|xC (la 0x4a810 [_] rfl)<|pU l) λb=>la 0x4b923046422045910046823046882860 [_,_,_,_,_] rfl c e (xC (la 0x4a810 [_] rfl)<|pU l)<|Gh b
theorem ae4(n:Nat):(if (1:Int)>(n:Int) then(1:Int) else(n:Int))=((max n 1:Nat):Int):=by
 by_cases l:n=0
 ·subst l;rfl
 ·refine V (if_neg<|by lia) ?_;exact lA (li 0x4a860044860 [_,_] rfl<|Li.cl<|Gq _ _)<|li 0x4a860046860 [_,_] rfl<|Li.ce<|uD<|gV.mp<|li 0x4a811045810 [_] rfl<|Li.ct<|Nat.pos_of_ne_zero l
theorem QN(w:aC)(e:List Sg)(a f:Nat)(num:af)(j:0<a)(m:a<=1000)(i:e.length<=1000)(o:e.length<=f)(G:(AV.d num).aq=true):
  iN w 1 (.ref 279) [fy e,.i a,.d num] (.l<|(mV a f num Z e).map eG):=by
 have g:=bI
 have b:(e.map bP).length=e.length:=bC ..
 refine pB (cP:=[fy e,.i a,.d num]) ab9 (by kernel_rfl) (acd rfl) rfl (by decide) λc h ok u v z=>?_
 subst v
 refine fZ ok u aa6 (q:=⟨[Y (fy e),Y (.i a),Y (.d num),Z,Z,Z,Z,Z,Z,Z],[]⟩)<|WSs.c ?_
 walk_at "w"
 refine fG [] rfl (by refine V g ?_;decide) (by refine V g ?_;decide) ⟨rfl,WSs.c ?_⟩
 refine gy (ae3 (n:=e.length) j) λx y k=>?_
 have l:=ae2 (n:=e.length) j
 walk_at "w"
 refine cJ _ rfl rfl _ rfl<|bR rfl _ rfl<|bR rfl _ rfl<|WL.rQ rfl (by refine V b (V g ?_);exact la 0x128100000014180110fa02060 [_] rfl i)<|WL.OS<|ah _ rfl<|WL.aat (by lia) (zX<|by exact gI (by assumption)<|by rfl) ?_
 refine V b<|V (ae4 ..) ?_
 refine mq _ _ _<|fG (tK e.length a+1) rfl (IG (by decide) (by decide) (by lia) (by lia) (by exact li 0x4b810045810 [_] rfl<|Li.ct j) (by lia) l<|by lia) l ?_
 refine ae1 (d:=c.d) j m i G (tK e.length a) f 0 Z Z Z Z Z Z [] (by exact la 0x4a862044822044860 [_,_,_] rfl o k) (eL _) (by refine V nY ?_;exact x) (by refine V nY ?_;exact y) (.inl rfl) (by simp;exact la 0x1295f900c184112084110fa02060 [_,_] rfl i k) λI J p r s t=>?_
 refine V nY<|V (if_pos rfl)<|V (jt ..) ?_
 refine WSs.fz<|gx 0 _ rfl rfl<|WSs.c ?_
 walk_at "w"
 exact ah _ rfl<|.inl rfl
end
structure cg(W D:Nat)(d:af):Prop where
 QO:d.canLay0=true
 QS:d.depth<=D
 QT:d.weight<=W
theorem cg.ok{W D:Nat}{d:af}(h:cg W D d)(a:W<=2^20)(b:D<=64):d.layable0=true:=by
 unfold Vl
 refine V h.QO (V (decide_eq_true<|ic h.QS b)<|V (decide_eq_true<|ic h.QT a) ?_);rfl
theorem cg.aO{W D c e:Nat}{d:af}(h:cg W D d)(a:W<=c)(b:D<=e):cg c e d:=⟨h.QO,ic h.QS b,ic h.QT a⟩
theorem cg.int{i:Int}(h:i.natAbs<2^63):cg 64 0 (.int i):=by
 refine⟨by simp only[xD],by simp only[Gv];exact bM _,?_⟩
 simp only[Gw]
 split
 ·lia
 ·rename_i b
  have a:i.natAbs≠0:=by simpa using b
  have:=(alW a).mpr h
  exact la 0x1281002042460045fc1060 [_] rfl this
theorem cg.none:cg 0 0 .none:=⟨by simp only[xD],by simp only[Gv];exact bM _,by simp only[Gw];exact bM _⟩
theorem cg.bool(b:Bool):cg 0 0 (.bool b):=⟨by simp only[xD],by simp only[Gv];exact bM _,by simp only[Gw];exact bM _⟩
theorem cg.str{x:H}{W:Nat}(h:qX x=true)(a:x.length<=W):cg W 0 (.str x):=⟨by exact h,by exact bM _,by exact a⟩
theorem cg.all{W D:Nat}:∀{xs:List af},(∀x∈xs,cg W D x)->CD xs=true/\PyData.depthAll xs<=D/\PyData.weightAll xs<=xs.length*(W+1)
 |[],_=>(bJ (by simp only[CD]) (by exact eL _)<|by exact eL _)
 |x::xs,h=>by
  refine gy (cg.all (xs:=xs) λy e=>h y<|a_ _ e) λa b c=>?_
  obtain⟨k1,f,g⟩:=h x aZ
  refine bJ (by simp only[CD,k1,a,alX]) (by exact(sR _ _).elim (λd=>la 0x4a862046822044860 [_,_,_] rfl f<|uD d) λd=>la 0x4a862046822044860 [_,_,_] rfl b<|xB d) ?_
  refine V (qI ..) ?_;exact la 0x4a0830918d18428024620448e2044860 [_,_,_,_] rfl c g
theorem cg.list{W D:Nat}{xs:List af}(h:∀x∈xs,cg W D x):cg (xs.length*(W+1)) (D+1) (.list xs):=by
 refine gy (cg.all h) λa b c=>?_
 exact⟨by simp only[xD];exact a,by simp only[Gv];exact la 0x4a091842460044860 [_,_] rfl b,by simp only[Gw];exact c⟩
theorem cg.tuple{W D:Nat}{xs:List af}(h:∀x∈xs,cg W D x):cg (xs.length*(W+1)) (D+1) (.tuple xs):=by
 refine gy (cg.all h) λa b c=>?_
 exact⟨by simp only[xD];exact a,by simp only[Gv];exact la 0x4a091842460044860 [_,_] rfl b,by simp only[Gw];exact c⟩
mutual
theorem Jf:∀d:af,d.canLay0=true->d.eqv d=true
 | .none,_=>by simp only[My]
 | .bool b,_=>by simp only[My];simp
 | .int i,_=>by simp only[My];simp
 | .str x,_=>by simp only[My];simp
 | .list xs,h=>by exact Jg xs (by simpa[xD] using h)
 | .tuple xs,h=>by exact Jg xs (by simpa[xD] using h)
 | .dict _,h=>by simp[xD] at h
theorem Jg:∀xs:List af,CD xs=true->Vm xs xs=true
 |[],_=>by simp only[Vm]
 |x::xs,h=>by
  have a:x.canLay0=true/\CD xs=true:=by simpa[CD] using h
  simp only[Vm,Jf x a.1,Jg xs a.2,alX]
end
section
open IR
theorem ae5:kT 111 "_format_line" 86:=yk λP=>by kernel_rfl
theorem QU:DE 111 "_format_line" 86:=⟨ae5,λP=>by kernel_rfl,λP=>by kernel_rfl,λP=>by kernel_rfl,by decide+kernel,λP=>by kernel_rfl⟩
theorem Jh{q:St}{j:Nat}{xs:List af}(f:q.μ[j]?=Y (Y<|.ai xs)):rz q (.m j)=Y "list":=by
 show xZ _=_
 refine V f ?_;rfl
section
variable {c:Cx} {U:Sc} {h:ao} {q:St} {d:List dw}
def QV(k:Nat)(g:Int)(U:Sc)(e:ay):Bool:=mB "_format_line" e&&(aA U (.v 0) (ev (ev e).e0).e0&&((ev e).l.length==3&&(dB (hd (ev e).l)&&(dB (hd (ev e).l.tail)&&(aA U (.c<|.int g) (hd (ev e).l)&&(aA U (.v 7) (hd (ev e).l.tail)&&(et (hd (ev e).l.tail.tail) 18&&aA U (.v k) (ev<|hd (ev e).l.tail.tail).e0)))))))
theorem ae6(f:QV k g U e=true): .Call (.Attribute (ev (ev e).e0).e0 "_format_line" (ev (ev e).e0).p) [hd (ev e).l,hd (ev e).l.tail,.Starred (ev<|hd (ev e).l.tail.tail).e0 (ev<|hd (ev e).l.tail.tail).p] [] (ev e).p=e:=by
 have l:=b2<|b2 f
 refine V (show alz _ _=_ from eE (b1<|b2<|b2<|b2<|b2<|b2 l) (by decide))<|az (l3<|b1 l) ?_
 exact mE<|b1 f
def Bj(i k:Nat)(g:Int)(U:Sc)(s:bu):Bool:=jv s 3&&(mB "append" (sv s).e0&&(aA U (.v i) (ev (ev (sv s).e0).e0).e0&&((ev (sv s).e0).l.length==1&&QV k g U (hd (ev (sv s).e0).l))))
theorem QW(f:Bj i k g U s=true): .Expr (.Call (.Attribute (ev (ev (sv s).e0).e0).e0 jA.append.nm (ev (ev (sv s).e0).e0).p) [.Call (.Attribute (ev (ev<|hd (ev (sv s).e0).l).e0).e0 "_format_line" (ev (ev<|hd (ev (sv s).e0).l).e0).p) [hd (ev<|hd (ev (sv s).e0).l).l,hd (ev<|hd (ev (sv s).e0).l).l.tail,.Starred (ev<|hd (ev<|hd (ev (sv s).e0).l).l.tail.tail).e0 (ev<|hd (ev<|hd (ev (sv s).e0).l).l.tail.tail).p] [] (ev<|hd (ev (sv s).e0).l).p] [] (ev (sv s).e0).p) (sv s).p=s:=by
 have l:=b2<|b2<|b2 f
 refine V (ae6<|b2 l)<|az (l1<|b1 l) ?_
 have:=mE<|b1<|b2 f
 refine V (show Expr.Call (.Attribute _ jA.append.nm _) _ _ _=_ from this) ?_
 exact sE (b1 f)<|by decide
theorem QX(b:aW c)(e:bA U c)(D:ir c d)(o:Bj i k g U s=true)
  (v:q.v[0]?=Y (Y<|.bF B C))(w:q.v[7]?=Y (Y<|.d n))(y:q.v[k]?=Y (Y<|.d<|.tuple [num,.str x]))(u:q.v[i]?=Y (Y<|.m j))(p:q.μ[j]?=Y (Y<|.ai xs))
  (z:xs.length<=aL)(E:tD d q)(G:(dN d).length=1)(hd:1<=c.d)(hs:g=0\/g=1)(A:x.length<=1000)(I:ko num)(f:Q .nx (q.fR j<|.ai<|xs++[.str (kj g num x)])):
  bq c U.N h s q Q:=by
 refine az (QW o) ?_
 have m:=b1<|b2 o
 have l:=b2<|b2 o
 have a:=b2<|b2 l
 have r:=b2<|b2<|b2 a
 have t:=b2<|b2 r
 exact bq.ex b rfl<|aG.G6 .append (mS m) rfl (mL m)<|(X.v i).ok b e (b1 l)<|bk _ u (Jh p)<|dD.cons rfl<|aG.abL b D QU (by decide+kernel) (mS<|b1 a) (b1 r) (b1<|b2 r)
  ((X.v 0).ok b e (b1<|b2 a)<|fG _ v rfl rfl<|(X.c<|.int g).ok b e (b1 t) ⟨rfl,(X.v 7).ok b e (b1<|b2 t)<|bk _ w rfl
   ((X.v k).ok b e (b2<|b2<|b2 t)<|ah _ y<|fH [num,.str x] _ 1 rfl (by refine V bI ?_;show 2<=16777216;decide) E hd<|bJ (by refine V G ?_;exact acu c.w B C g n num x hs A I) rfl<|dD.nil<|Ak p z f)⟩)
theorem ae7(b:aW c)(e:bA U c)(o:Bj i k g U s=true)
  (v:q.v[0]?=Y (Y<|.bF B C))(w:q.v[7]?=Y (Y<|.d n))(y:q.v[k]?=Y (Y<|.d .none))(u:q.v[i]?=Y (Y<|.m j))(p:q.μ[j]?=Y (Y<|.ai xs))(f:Q q):
  ja c U.N h (l9 s c.aj) q Q:=by
 refine az (QW o) ?_
 have m:=b1<|b2 o
 have l:=b2<|b2 o
 have a:=b2<|b2 l
 have r:=b2<|b2<|b2 a
 have t:=b2<|b2 r
 exact ja.ex b.K rfl<|ja.nF b.K .append (mS m) rfl (mL m)<|(X.v i).ok b e (b1 l)<|bk _ u (Jh p)<|ja.abM b QU (by decide+kernel) (mS<|b1 a) (b1 r) (b1<|b2 r)
  ((X.v 0).ok b e (b1<|b2 a)<|fG _ v rfl rfl<|(X.c<|.int g).ok b e (b1 t) ⟨rfl,(X.v 7).ok b e (b1<|b2 t)<|bk _ w rfl<|(X.v k).ok b e (b2<|b2<|b2 t)<|bk _ y rfl f⟩)
def QY(s:bu):H×aV×aV×Nat×aV×aV×aV:=
 let c:=ev (sv s).e0
 let a:=ev c.e0
 ((ev a.e0).s,(ev a.e0).p,a.p,(ev<|hd c.l).n,(ev<|hd c.l).p,c.p,(sv s).p)
def AN.rV(x:H)(t:H×aV×aV×Nat×aV×aV×aV):bu:= .Expr (.Call (.Attribute (.Name x t.2.1) jA.append.nm t.2.2.1) [.Constant .none t.2.2.2.1 t.2.2.2.2.1] [] t.2.2.2.2.2.1) t.2.2.2.2.2.2
theorem QZ(b:n9 c){x:H}{t:H×aV×aV×Nat×aV×aV×aV}{i j:Nat}{xs:List af}{Q:FQ}(a:U.N[i]?=Y x)(A:mC x=true)(z:(t.2.2.1.endLine==t.2.2.2.2.2.1.line)=true)
  (u:q.v[i]?=Y (Y<|.m j))(p:q.μ[j]?=Y (Y<|.ai xs))(e:xs.length<=aL)(f:Q .nx (q.fR j<|.ai<|xs++[.none])):bq c U.N h (AN.rV x t) q Q:=
 bq.exK b rfl (aG.G6 .append rfl rfl z<|aG.abl b a A u ⟨Jh p,dD.cons rfl<|aG.Nn<|dD.nil<|Ak p e f⟩)
end
inductive eH where
 |eK
 |pr (a:af) (b:H) (e:af) (f:H) (g:af)
noncomputable def eH.data:eH->af
 | .eK=> .tuple [.none,.none,.none]
 | .pr a b e f g=> .tuple [.tuple [a,.str b],.tuple [e,.str f],g]
def eH.ok:eH->Prop
 | .eK=>True
 | .pr a b e f _=>ko a/\b.length<=1000/\ko e/\f.length<=1000
def eH.c0:eH->af
 | .eK=> .none
 | .pr a b _ _ _=> .str<|kj 0 a b
def eH.c1:eH->af
 | .eK=> .none
 | .pr _ _ e f _=> .str<|kj 1 e f
noncomputable def eH.fl:eH->af
 | .eK=> .none
 | .pr _ _ _ _ f=>f
def ae8(s:bu):ay×ay×List bu×aV:=((sv s).e0,(sv s).e1,(sv s).a,(sv s).p)
def Q0:bu:=(cF<|aM 79).headD<|.Pass default
def nM:ay×ay×List bu×aV:=ae8<|hS (cF<|aM 79).tail
def Q2:List bu:=(cF<|aM 79).tail.tail
def oJ:TR:=Pd<|hS nM.2.2.1
def wR:List bu:=nM.2.2.1.tail
theorem ae9:cF (aM 79)=Q0:: .For nM.1 nM.2.1 nM.2.2.1 [] nM.2.2.2::Q2:=by kernel_rfl
theorem afa:nM.2.2.1=oJ.rV::wR:=by kernel_rfl
def Q3:bu:=oJ.1.headD<|.Pass default
def Q4:bu:=oJ.1.tail.headD<|.Pass default
theorem Q5:oJ.1=[Q3,Q4]:=by kernel_rfl
def hn1:H×aV×aV×Nat×aV×aV×aV:=QY oJ.2.2.2.2.1
def hn2:H×aV×aV×Nat×aV×aV×aV:=QY<|hS oJ.2.2.2.2.2
theorem afd:oJ.2.2.2.2.1=AN.rV "fromlist" hn1:=by kernel_rfl
theorem afe:oJ.2.2.2.2.2=[AN.rV "tolist" hn2]:=by kernel_rfl
def Ji:S:= .lK true [4,3,2]<|.k (.lF .z)<|.k (.lF .z)<|.k (.lF .z) .z
def afg:Ss:= .k (.ex<|.dg .append (.v 4)<|.k (.v 7) .z) .z
def afh:Ss:= .gk 2<|.gk 3<|.gk 4<|.k (.ret<|.bZ<|.k (.v 2)<|.k (.v 3)<|.k (.v 4) .z) .z
def wU:IR.Tg:= .t<|.k (.n 5)<|.k (.n 6)<|.k (.n 7) .z
theorem afi:pG g9 Ji Q0=true:=by kernel_rfl
theorem afj:gQ g9 afg wR=true:=by kernel_rfl
theorem afk:gQ g9 afh Q2=true:=by kernel_rfl
theorem Q6:OM g9 wU nM.1=true:=by kernel_rfl
theorem Q7:Bj 2 5 0 g9 Q3=true:=by kernel_rfl
theorem afl:Bj 3 6 1 g9 Q4=true:=by kernel_rfl
theorem afm:aA g9 (.v 1) nM.2.1=true:=by kernel_rfl
theorem afn:eo nM.2.1=true:=by kernel_rfl
def r7(g k:Int)(m:List af)(d:Array eY×Nat)(L G M:List af)(B o R:Option AV):St:=
 ⟨[Y (.bF g k),Y (.d<|.list m),Y (.m 1),Y (.m 2),Y (.m 3),B,o,R],[nq d,Y (.ai L),Y (.ai G),Y (.ai M)]⟩
section
variable {c:Cx} {h:ao} {b:List dw}
theorem Jj{g k:Int}{m L G M:List af}{d:Array eY×Nat}{B o R:Option AV}(n:(dN b).length=1):tD b (r7 g k m d L G M B o R):=λi a=>by
 have:i=0:=by exact dK (la 0x4a421045821046460 [_,_] rfl n a)<|la 0x4a810 [_] rfl
 subst this
 exact dU d.1 d.2 rfl
theorem Q8{h:ao}(ok:aW c)(l:bA g9 c){g k:Int}{m L G M:List af}{d:Array eY×Nat}{B o:Option AV}{f:af}{Q:FQ}(a:M.length<=1000000)(p:Q .nx (r7 g k m d L G (M++[f]) B o<|Y<|.d f)):
  dH c g9.N h wR (r7 g k m d L G M B o<|Y<|.d f) Q:=by
 refine fZ ok l afj ?_
 refine WSs.c ?_
 walk_at "w"
 exact cJ _ rfl rfl _ rfl<|WL.append<|bk M rfl (by refine V bI ?_;exact aK) p
theorem afo{h:ao}(ok:aW c)(l:bA g9 c)(q:ir c b)(n:(dN b).length=1)(s:1<=c.d){g k:Int}{m L G M:List af}{d:Array eY×Nat}{B o R:Option AV}{r:eH}{Q:FQ}(A:r.ok)
  (h1:L.length<=1000000)(h2:G.length<=1000000)(I:M.length<=1000000)(p:∀t v y,Q .nx<|r7 g k m d (L++[r.c0]) (G++[r.c1]) (M++[r.fl]) t v y):
  iM c g9.N h nM.1 (.d r.data) (r7 g k m d L G M B o R) λa=>dH c g9.N h nM.2.2.1 a Q:=by
 have x:=bI
 have E:c.aj.kindOf "TypeError"=Y .globalImplicit:=by refine(?_:c.aj.scope.names.lookup _=_);refine V l.names ?_;decide+kernel
 refine V afa ?_
 cases r with
 |eK=>
  refine wU.ok ok l Q6 (u:= .d (eH.eK).data) (K:=λa=>dH c g9.N h (oJ.rV::wR) a Q) ?_
  refine(?_:asg wU (.d<|.tuple [.none,.none,.none]) _ _)
  simp only[wU];walk_at "w"
  refine⟨rfl,?_⟩
  refine(?_:dH c g9.N h (oJ.rV::wR) (r7 g k m d L G M (Y<|.d .none) (Y<|.d .none)<|Y<|.d .none) Q)
  refine dH.cons<|bq.O4 ok q E ?_
  refine V Q5 ?_
  refine ja.head<|ae7 ok l Q7 rfl rfl rfl rfl rfl ⟨Jj n,λe=>?_⟩
  refine V afd<|V afe ?_
  refine dH.cons<|QZ ok.K.on (U:=g9) (i:=2) (j:=1) (xs:=L) rfl (by decide+kernel) (by kernel_rfl) rfl rfl aK ?_
  refine dH.cons<|QZ ok.K.on (U:=g9) (i:=3) (j:=2) (xs:=G) rfl (by decide+kernel) (by kernel_rfl) rfl rfl aK<|dH.nil ?_
  exact Q8 ok l (L:=L++[.none]) (G:=G++[.none]) I<|p _ _ _
 |pr w z C D f=>
  refine uF A λJ N o3 o4=>?_;clear A
  refine wU.ok ok l Q6 (u:= .d (eH.pr w z C D f).data) (K:=λa=>dH c g9.N h (oJ.rV::wR) a Q) ?_
  refine(?_:asg wU (.d<|.tuple [.tuple [w,.str z],.tuple [C,.str D],f]) _ _)
  simp only[wU];walk_at "w"
  refine⟨rfl,?_⟩
  refine(?_:dH c g9.N h (oJ.rV::wR) (r7 g k m d L G M (Y<|.d<|.tuple [w,.str z]) (Y<|.d<|.tuple [C,.str D])<|Y<|.d f) Q)
  refine dH.cons<|bq.Hu ?_
  refine(?_:dH c g9.N h oJ.1 _ _)
  refine V Q5 ?_
  refine dH.cons<|QX ok l q Q7 (j:=1) (xs:=L) rfl rfl rfl rfl rfl aK (Jj n) n s (.inl rfl) N J ?_
  refine dH.cons<|QX ok l q afl (j:=2) (xs:=G) rfl rfl rfl rfl rfl aK ?_ n s (.inr rfl) o4 o3<|dH.nil ?_
  ·exact Jj (L:=L++[.str (kj 0 w z)]) n
  ·exact Q8 ok l (L:=L++[.str (kj 0 w z)]) (G:=G++[.str (kj 1 C D)]) I<|p _ _ _
theorem Q9{h:ao}(ok:aW c)(l:bA g9 c)(q:ir c b)(n:(dN b).length=1)(s:1<=c.d){g k:Int}{m:List af}{d:Array eY×Nat}{Q:FQ}:∀(a:List eH) (L G M:List af) (B o R:Option AV),(∀r∈a,r.ok)->
  L.length+a.length<=1000000->G.length=L.length->M.length=L.length->(∀t v y,Q .nx<|r7 g k m d (L++a.map eH.c0) (G++a.map eH.c1) (M++a.map eH.fl) t v y)->
  ya c g9.N h nM.1 nM.2.2.1 (a.map eH.data) (r7 g k m d L G M B o R) Q
 |[],L,G,M,B,o,R,_,_,_,_,p=>by refine(?_:Q .nx _);simpa using p B o R
 |r::a,L,G,M,B,o,R,f,e,i,j,p=>λhs=>by
  rw[cX] at e
  exact afo ok l q n s (f r aZ) (by exact la 0x4a0f4240101801103d09004042091860 [_,_] rfl e) (by exact la 0x4a0f42401018811a0881103d09004042091860 [_,_,_] rfl e i) (by exact la 0x4a0f42401018811a0881103d09004042091860 [_,_,_] rfl e j) λt v y=>
   Q9 ok l q n s a _ _ _ t v y (λx E=>f x<|a_ _ E) (by simp;exact la 0x4a0f42401010a1091801103d09004042091860 [_,_] rfl e) (by simp;assumption) (by simp;assumption) (by simpa using p)
end
theorem afp(w:aC)(g k:Int)(a:List eH)(A:∀r∈a,r.ok)(e:a.length<=100000):
  rS w 1 2 (.ref 79) [.bF g k,.d (.list<|a.map eH.data)] (.t [.list (a.map eH.c0),.list (a.map eH.c1),.list (a.map eH.fl)]):=by
 refine O6 (cP:=[.bF g k,.d (.list<|a.map eH.data)]) ack (by kernel_rfl) (acm rfl) rfl (by decide) λc b h j ok l q m s n f=>?_
 have x:=bI
 obtain⟨d⟩:=rT f
 refine V ae9 ?_
 refine dH.cons<|Ji.ok ok l afi ?_
 simp only[Ji];walk_at "w"
 refine cJ [] rfl (by refine V x ?_;decide) [] rfl<|bR (by refine V x ?_;decide) [] rfl<|g5 (by refine V x ?_;decide) (by refine V x ?_;refine(?_:3<=16777216);decide) rfl ?_
 refine(?_:dH c g9.N h _ (r7 g k (a.map eH.data) d [] [] [] Z Z Z) _)
 refine dH.cons<|bq.kR ok (wB afn _)<|d8.list<|(X.v 1).ok ok l afm<|bG _ rfl _ rfl ?_
 refine Q9 ok l q n (by exact la 0x4a811047482460 [_] rfl s) a [] [] [] Z Z Z A (by simp;exact aK) rfl rfl λt v y=>?_
 refine fZ ok l afk ?_
 refine gx 1 _ rfl rfl<|gx 2 _ rfl rfl<|gx 3 _ rfl rfl<|WSs.c ?_
 walk_at "w"
 refine nh _ rfl _ rfl _ rfl<|bk _ rfl (by refine V x ?_;refine(?_:3<=16777216);decide) ?_
 exact⟨.inl rfl,λi o p=>by
  rcases i with _|i
  ·simp at p;subst p;rfl
  ·simp at p⟩
noncomputable def vq:List Nat:=[38,97,109,112,59]
noncomputable def vt:List Nat:=[38,103,116,59]
noncomputable def vv:List Nat:=[38,108,116,59]
noncomputable def yQ:List Nat:=[38,110,98,115,112,59]
theorem Jk:("&amp;":H)=sL vq:=by decide+kernel
theorem Jl:("&gt;":H)=sL vt:=by decide+kernel
theorem Jm:("&lt;":H)=sL vv:=by decide+kernel
theorem Q_:("&nbsp;":H)=sL yQ:=by decide+kernel
theorem Ra:("&":H)=⟨#[38]⟩:=by decide+kernel
theorem Rb:(">":H)=⟨#[62]⟩:=by decide+kernel
theorem Rc:("<":H)=⟨#[60]⟩:=by decide+kernel
def fj(c:Nat):List Nat:=if c=38 then vq else if c=60 then vv else if c=62 then vt else[c]
def gp(c:Nat):List Nat:=if c=32 then yQ else fj c
theorem afq(l:List Nat):((l.flatMap<|cu 38 vq).flatMap<|cu 62 vt).flatMap (cu 60 vv)=l.flatMap fj:=by
 induction l with
 |nil=>rfl
 |cons c l h=>
  refine V fQ<|V lB<|V lB<|V h<|V fQ ?_
  congr 1
  unfold fj
  by_cases a:c=38
  ·subst a;decide
  ·by_cases f:c=62
   ·clear a;subst f;decide
   ·by_cases b:c=60
    ·clear a f;subst b;decide
    ·simp[cu,a,f,b]
theorem afr(l:List Nat):((l.flatMap<|cu 38 vq).flatMap<|cu 60 vv).flatMap (cu 62 vt)=l.flatMap fj:=by
 induction l with
 |nil=>rfl
 |cons c l h=>
  refine V fQ<|V lB<|V lB<|V h<|V fQ ?_
  congr 1
  unfold fj
  by_cases a:c=38
  ·subst a;decide
  ·by_cases f:c=62
   ·clear a;subst f;decide
   ·by_cases b:c=60
    ·clear a f;subst b;decide
    ·simp[cu,a,f,b]
theorem afs(l:List Nat):(l.flatMap fj).flatMap (cu 32 yQ)=l.flatMap gp:=by
 induction l with
 |nil=>rfl
 |cons c l h=>
  refine V fQ<|V lB<|V h<|V fQ ?_
  congr 1
  unfold gp
  by_cases h0:c=32
  ·subst h0;decide
  ·refine V (if_neg h0) ?_
   unfold fj
   by_cases a:c=38
   ·clear h0;subst a;decide
   ·by_cases b:c=60
    ·clear h0 a;subst b;decide
    ·by_cases f:c=62
     ·clear h0 a b;subst f;decide
     ·simp[cu,a,f,b,h0]
def tL(c:Nat):Prop:=c<1114112/\(uE c=true->c=9\/c=10\/c=160\/c=32)
theorem sp3:∀c:Nat,(c=9\/c=10\/c=160)->uE c=true:=by
 intro c d
 rcases d with rfl|rfl|rfl<;>decide+kernel
theorem afu{g:Nat->Bool}(a:List Nat)(e:Nat)(t:List Nat)(j:t.length=e)(d:(∀c∈t,g c=true)):ve g (a++t)=ve g a:=by
 induction e generalizing t with
 |zero=>
  exact V (Vj j)<|V (iH ..) rfl
 |succ n h=>
  rcases CA t with rfl|⟨b,c,rfl⟩
  ·cases j
  ·rw[Gp] at j d ⊢
   refine az (eO ..)<|V (IL ..)<|V (if_pos<|d c<|by simp) ?_
   exact h b (by simpa using j) λx hx=>d x<|by simp[hx]
theorem afv{c:Nat}(d:tL c)(j:¬(c=9\/c=10\/c=160)):∀z,(gp c).getLast?=Y z->uE z=false:=λz b=>by
 have a:uE 59=false:=by decide+kernel
 unfold gp at b
 split at b
 ·cases b;exact a
 ·rename_i e
  unfold fj at b
  split at b
  ·cases b;exact a
  ·split at b
   ·cases b;exact a
   ·split at b
    ·cases b;exact a
    ·cases b
     cases q:uE c with
     |false=>exact q
     |true=>
      have:=d.2 q
      lia
structure Bk(l:List Nat)(M:Nat):Prop where
 Jo:M=0\/∃k c,M=k+1/\l[k]?=Y c/\¬(c=9\/c=10\/c=160)
 all:∀(k c:Nat),l[k]?=Y c->¬(c=9\/c=10\/c=160)->k+1<=M
theorem afw{l:List Nat}{M:Nat}(g:∀c∈l,tL c)(s:Bk l M):ve uE (l.flatMap gp)=(l.take M).flatMap gp:=by
 have v:M<=l.length:=by
  rcases s.Jo with d|⟨k,c,d,f,_⟩
  ·exact la 0x4a860046420 [_,_] rfl d
  ·have:=(fF.mp f).1;exact la 0x4a8a00458a1046091860 [_,_,_] rfl d this
 have a:∀c∈l.drop M,c=9\/c=10\/c=160:=λc m=>by
  refine Ex (List.mem_iff_getElem?.mp m) λi u=>?_
  rw[vM] at u
  by_cases q:c=9\/c=10\/c=160
  ·exact q
  ·have:=s.all (M+i) c u q;lia
 have n:(l.drop M).flatMap gp=l.drop M:=by
  generalize l.drop M=t at a
  induction t with
  |nil=>rfl
  |cons c t h=>
   refine V fQ<|V (h λx hx=>a x<|a_ _ hx) ?_
   have:=a c aZ
   have e:gp c=[c]:=by unfold gp fj;exact V (if_neg<|by lia)<|V (if_neg<|by lia)<|V (if_neg<|by lia)<|V (if_neg<|by lia) rfl
   refine V e ?_;rfl
 have e:l.flatMap gp=(l.take M).flatMap gp++l.drop M:=by
  conv=>lhs;rw[<-Gr M l]
  rw[lB,n]
 rw[e,afu _ _ _ rfl λc m=>sp3 c<|a c m]
 refine DS λz b=>?_
 rcases s.Jo with d|⟨k,c,d,f,j⟩
 ·clear e v n a s;subst d;simp at b
 ·refine Ex (fF.mp f) λp o=>?_
  have w:l.take M=l.take k++[c]:=by rw[d,alQ p,o]
  rw[w,lB] at b
  have A:([c]:List Nat).flatMap gp=gp c:=by simp
  rw[A,zT] at b
  have r:=afv (g c<|m_ f) j
  cases q:(gp c).getLast? with
  |none=>
   exfalso
   have:=Vi.mp q
   unfold gp fj at this
   split at this
   ·cases this
   ·split at this
    ·cases this
    ·split at this
     ·cases this
     ·split at this<;>cases this
  |some y=>
   rw[q] at b
   have:y=z:=by simpa using b
   clear b;subst this
   exact r y q
theorem Rd{l:List Nat}{M:Nat}(g:∀c∈l,tL c)(s:Bk l M):qo (sL l)=sL ((l.take M).flatMap gp):=by
 unfold qo
 (refine V Ra ?_;rewrite[u0];refine V Rb ?_;rewrite[u0];refine V Rc ?_;rewrite[u0];refine V Il<|V (u0 ..)<|V Jk<|V Jl<|V Jm<|V Q_<|V (fq ..)<|V (fq ..)<|V (fq ..)<|V (fq ..)<|V (afq ..)<|V (afs ..) ?_)
 unfold zD
 exact V (DR ..)<|V (afw g s) rfl
theorem afx:("&":H)=sL [38]:=by decide+kernel
theorem afy:(">":H)=sL [62]:=by decide+kernel
theorem afz:("<":H)=sL [60]:=by decide+kernel
theorem afA(w:aC)(l:List Nat)(g:l.length<=1000):iN w 1 (.ref 246) [.s (sL l)] (.s<|sL<|l.flatMap fj):=by
 have b:=bI
 refine pB (cP:=[.s (sL l)]) abZ (by kernel_rfl) (ab0 rfl) rfl (by decide) λc h ok u v B=>?_
 subst v
 have e:∀(x:List Nat) (f:Nat) (i j:H) (h:Ss) (Q:FQ),i=⟨#[f]⟩->j.length<=10->x.length<=100000->WSs c.w c.d h ⟨[Y (.s<|sL<|x.flatMap<|cu f j.cps.toList)],[]⟩ Q->
   WSs c.w c.d (.k (.ck (.bx .In (.c<|.str i)<|.v 0) (.k (.aT (.k (.n 0) .z)<|.nA (.v 0) i j) .z) .z) h) ⟨[Y (.s<|sL x)],[]⟩ Q:=λx f i j h Q k n hx d=>by
  refine WSs.c ?_
  walk_at "w"
  refine ah _ rfl<|WL.AI<|WL.tB ?_
  have m:rA (sL x) i=decide (f∈x):=by
   refine V k ?_
   exact A2 x f
  refine V m ?_
  by_cases o:f∈x
  ·refine WL.cy (by simpa using o) (WSs.c ?_)
   walk_at "w"
   have a:(x.length+1)*j.length<=100001*10:=ju (by exact gI (by assumption)<|by rfl) n
   refine eS _ rfl _ rfl (by refine V (aQ ..) ?_;exact la 0x4a0400000050428600440da61a84306104461a803060 [_,_] rfl hx a)<|WSs.n ?_
   refine V k<|V (u0 ..) ?_
   exact d
  ·refine WL.bK (by simpa using o) (WSs.n ?_)
   rw[Dr _ _ _ o] at d
   exact d
 refine fZ ok u aaU (q:=⟨[Y (.s<|sL l)],[]⟩)<|WSs.c ?_
 walk_at "s"
 have y:("&amp;":H).length<=10:=by decide+kernel
 have z:("&lt;":H).length<=10:=by decide+kernel
 have p:("&gt;":H).length<=10:=by decide+kernel
 have r:("&amp;":H).length+1<=11:=by decide+kernel
 have s:=Ds 38 ("&amp;":H).cps.toList l
 have t:=Ds 60 ("&lt;":H).cps.toList<|l.flatMap<|cu 38 ("&amp;":H).cps.toList
 rw[wD] at s t
 have C:(l.flatMap<|cu 38 ("&amp;":H).cps.toList).length<=11000:=ic s<|ju g (r:("&amp;":H).length+1<=11)
 refine e l 38 _ _ _ _ Ra y aK ?_
 refine e _ 60 _ _ _ _ Rc z aK ?_
 have D:((l.flatMap<|cu 38 ("&amp;":H).cps.toList).flatMap<|cu 60 ("&lt;":H).cps.toList).length<=55000:=by
  have A:("&lt;":H).length=4:=by decide+kernel
  rw[A] at t
  lia
 refine e _ 62 _ _ _ _ Rb p aK<|WSs.c ?_
 walk_at "w"
 refine ah _ rfl<|.inl ?_
 exact V Jk<|V Jm<|V Jl<|V (fq ..)<|V (fq ..)<|V (fq ..)<|V (afr ..) rfl
theorem Rf(a:List (List Nat)):Ci (sL []) (a.map sL)=sL a.flatten:=by
 have:∀a:List (List Nat),uC (sL []) (a.map sL)=sL a.flatten:=λa=>by
  induction a with
  |nil=>rfl
  |cons k l J=>
   cases l with
   |nil=>refine(?_:sL k=_);simp
   |cons b l=>
    refine(?_:sL k++sL []++uC (sL []) ((b::l).map sL)=_)
    (refine V J ?_;rewrite[d9];refine V (d9 ..) ?_);simp
 refine az (this a) ?_
 exact Vd _ _
theorem Jp(c:Nat):(fj c).length<=5:=by delta fj vq vv vt;split<;>(try split)<;>(try split)<;>simp
theorem Jq(c:Nat):(gp c).length<=6:=by
 delta gp;split
 ·decide
 ·have:=Jp c;exact aK
theorem Jr{B:Nat}{f:Nat->List Nat}(E:∀c,(f c).length<=B)(l:List Nat):(l.flatMap f).length<=l.length*B:=by
 induction l with
 |nil=>simp
 |cons c l J=>
  refine V fQ<|V bQ<|V cX<|V (qI ..) ?_
  have:=E c;exact la 0x4a0838d18428220448e2044860 [_,_,_,_] rfl J this
theorem afB:("\t\n\xa0":H)=sL [9,10,160]:=by decide+kernel
def Js(num:af):Prop:=(∃n,num= .int n/\0<=n/\n<10^10)\/num= .str ""\/num= .str ">"
theorem afC(k:Nat):[(("&":H),("&amp;":H)),("<","&lt;"),(">","&gt;")].lookup (sL [k])=if k=38 then Y (sL vq) else if k=60 then Y (sL vv) else if k=62 then Y (sL vt) else Z:=by
 refine V afx<|V afz<|V afy<|V Jk<|V Jm<|V Jl ?_
 simp only[List.lookup]
 refine V (iO ..)<|V (lP ..)<|V (iO ..)<|V (lP ..)<|V (iO ..)<|V (lP ..) ?_
 by_cases b:k=38
 ·subst b;simp
 ·by_cases u:k=60
  ·clear b;subst u;simp
  ·by_cases K:k=62
   ·clear b u;subst K;simp
   ·simp[b,u,K]
def afD:Ss:=(.k (.aT (.k (.n 6) .z)<|.call 1<|.k (.aI .Add (.comp (.aI .Add (.v 0)<|.c<|.int 1) (.n 0) (.uY<|.call 4<|.k (.call 0<|.k (.v 2) .z) .z) (.t<|.bx .NotIn (.sub (.v 1)<|.v 0)<|.c<|.str "\t\n\xa0") OV [Z,Y 2])<|.ai<|.k (.c<|.int 0) .z) .z)<|.k (.aT (.k (.n 7) .z)<|.dg .join (.c<|.str "")<|.k (.comp (.ite (.bx .Eq (.v 0)<|.c<|.str " ") (.c<|.str "&nbsp;")<|.v 0) (.n 0) (.ai<|.nD (.v 4) .kU<|.x<|.v 6) .gP OW [Z]) .z)<|.k (.ret<|.fst<|.lit "<td class=\"diff_header\""<|.val (.v 5)<|.lit ">"<|.val (.v 1)<|.lit "</td><td nowrap=\"nowrap\">"<|.val (.v 7)<|.lit "</td>" .z) .z)
theorem afE(w:aC)(g:Int)(num:af)(l:List Nat)(hn:Js num)(hl:l.length<=1000)(hc:∀c∈l,tL c):iN w 2 (.ref 284) [.s (gm g),.d num,.s (sL l)] (.s<|kj g num<|sL l):=by
 have r:=bI
 refine pB (cP:=[.s (gm g),.d num,.s (sL l)]) ace (by kernel_rfl) (acf rfl) rfl (by decide) λc h ok so hw hd=>?_
 have hd1:c.d=1:=by lia
 subst hw
 refine fZ ok so aa9 (q:=⟨[Y (.s<|gm g),Y (.d num),Y (.s<|sL l),Z,Z,Z,Z,Z],[]⟩)<|WSs.c ?_
 walk_at "w"
 refine g5 (by decide+kernel) (by simp) (by decide)<|WSs.c ?_
 walk_at "w"
 refine eS _ rfl _ rfl ?_ ?_
 ·exact i_ rfl
 refine V (IE ..) ?_
 refine nK (d:=c.d) (λv=>∃a,v=[a,Y (AV.dt c.w [("&","&amp;"),("<","&lt;"),(">","&gt;")])]) (λx=>match x with| .str y=> .str (sL<|fj<|y.cps.toList.headD 0)|_=> .none) _ _ ⟨Z,rfl⟩ (by simp;exact aK) (λx G v μ K1 L s=>?_) ?_
 ·refine Ex L λa m=>?_;clear L;subst m
  refine aD (bg.mp G) λk p m=>?_;clear G;subst m
  walk_at "w"
  refine mh _ rfl rfl _ rfl _ rfl ?_
  refine WL.get ?_
  have:=s [Y (.s<|sL [k]),Y (AV.dt c.w [("&","&amp;"),("<","&lt;"),(">","&gt;")])] ⟨_,rfl⟩
  simp only[fq,List.headD_cons] at this
  delta fj at this
  refine V (afC ..) ?_
  by_cases b:k=38
  ·rw[if_pos b] at this ⊢;exact this
  ·rw[if_neg b] at this ⊢
   by_cases u:k=60
   ·rw[if_pos u] at this ⊢;exact this
   ·rw[if_neg u] at this ⊢
    by_cases K:k=62
    ·rw[if_pos K] at this ⊢;exact this
    ·rw[if_neg K] at this ⊢;exact this
 have hsg:p_ (λx=>match x with|oU y=>oU (sL<|fj<|y.cps.toList.headD 0)|_=> .none) (l.map λk=>oU<|sL [k])=(l.map fj).map jc:=by
  refine V bY<|V bY ?_
  refine sP λk s=>?_
  skip;rfl
 refine V hsg ?_
 have KV:((l.map fj).map jc).length=l.length:=by simp
 refine WSs.c ?_
 walk_at "w"
 refine cJ _ rfl rfl _ rfl<|WL.kW (by exact la 0x4a811047482460 [_] rfl hd) (afA c.w l hl) rfl rfl<|bR rfl _ rfl ?_
 have KH:=Jr Jp l
 refine(WL.join<|bk ((l.map fj).map sL) ?_ ?_ ?_)
 ·skip
  refine V bY (V bY<|V bY ?_);rfl
 ·have b:=Bc (B:=5) (((l.map fj).map sL).map (λx:H=>x.length)) λa D=>by
   rw[bY,bY] at D
   refine aD (bg.mp D) λx _ m=>?_;clear D;subst m
   refine(?_:(sL<|fj x).length<=5)
   refine V (aQ ..) ?_;exact Jp x
  rw[bC,bC,bC] at b
  refine V (bC ..)<|V (bC ..) ?_
  have h0:("":H).length=0:=by decide+kernel
  refine V h0 ?_;exact la 0x128100000014108342084110356084510fa02060 [_,_] rfl hl b
 have je:Ci ("":H) ((l.map fj).map sL)=sL (l.map fj).flatten:=by refine V qm ?_;exact Rf _
 refine V je ?_
 have hff:(l.map fj).flatten=l.flatMap fj:=rfl
 refine V hff ?_
 refine WL.rP<|WL.tB ?_
 have hb:(sL (l.flatMap fj) !=sL (l.flatMap fj))=false:=by(rewrite[bne];refine V (beq_self_eq_true ..) ?_);rfl
 refine V hb ?_
 refine WL.bK (by decide)<|WSs.n<|WSs.c ?_
 have A:∀I:H,I.length<=200->(∃ln,wA (.d num)=Y ln/\ln.length<=100/\kj g num (sL l)=wI I ln (sL l))->
   WSs c.w c.d (afD) ⟨[Y (.s<|gm g),Y (.d num),Y (.s<|sL l),Y (.dt c.w [("&","&amp;"),("<","&lt;"),(">","&gt;")]),Y (.l<|(l.map fj).map jc),Y (.s I),Z,Z],[]⟩ (uP<|.s<|kj g num<|sL l):=λI D zz=>jU zz λln hln To he=>by
  refine WSs.c ?_
  walk_at "w"
  refine cJ _ rfl rfl _ rfl<|bR rfl _ rfl<|bR rfl _ rfl<|WL.wF (by refine V (aQ ..) (V r ?_);exact aK)<|WL.Dy ?_
  refine V (aQ ..) ?_
  refine n6 _ _ _ l.length rfl (Ec aK) (Ba _) ?_ ?_
  ·exact i_ rfl
  refine V (Eb ..) ?_
  refine I1 (λv=>∃a,v=[a,Y (AV.s<|sL l)]) (λx=>match x with| .int k=>(if l[k.toNat]?.getD 9∈[9,10,160] then[] else[.int (k+1)])|_=>[]) _ _ [] ⟨Z,rfl⟩ (λx G=>?_) (by simp;exact aK) (λx G v acc K1 L D s=>?_) ?_
  ·split
   ·split<;>simp
   ·simp
  ·refine Ex L λa m=>?_;clear L;subst m
   refine aD (bg.mp G) λk Tp m=>?_;clear G;subst m
   have p:k<l.length:=zZ.mp Tp
   obtain⟨f,j⟩:∃f,l[k]?=Y f:=⟨_,fM p⟩
   delta Qm
   walk_at "w"
   refine bG _ rfl _ rfl<|WL.lM (by exact la 0x12bb9aca0014184116084110fa02060 [_,_] rfl hl p) j<|WL.OO<|WL.tB ?_
   have e:rA ("\t\n\xa0":H) (sL [f])=decide (f∈[9,10,160]):=by exact V afB<|V (A2 ..) rfl
   refine V e ?_
   simp only[gY,j,F7] at s
   by_cases hb:f∈[9,10,160]
   ·rw[if_pos hb,iH] at s
    refine WL.bK (by refine V (decide_eq_true hb) ?_;decide) ⟨rfl,s _ ⟨_,rfl⟩⟩
   ·rw[if_neg hb] at s
    refine WL.cy (by refine V (decide_eq_false hb) ?_;rfl)<|ah _ rfl<|WL.fK<|fG _ rfl rfl D<|s _ ⟨_,rfl⟩
  refine V (jt ..) ?_
  generalize w7:((l_ l.length).map λi:Nat=>jr (i:Int)).flatMap (λx=>match x with| .int k=>(if l[k.toNat]?.getD 9∈[9,10,160] then[] else[jr (k+1)])|_=>[])=nd
  have BY:nd=((l_ l.length).flatMap λk:Nat=>if l[k]?.getD 9∈[9,10,160] then[] else[((k:Int)+1)]).map jr:=by
   refine az w7 ?_
   generalize l_ l.length=N
   induction N with
   |nil=>rfl
   |cons k N J=>
    refine V ee<|V fQ<|V J<|V fQ<|V gZ ?_
    congr 1
    simp only[gY]
    split<;>rfl
  refine V BY ?_
  generalize Q:((l_ l.length).flatMap λk:Nat=>if l[k]?.getD 9∈[9,10,160] then[] else[((k:Int)+1)])=o
  have zh:∀z,z∈o↔∃(k:Nat) (f:Nat),l[k]?=Y f/\¬(f∈[9,10,160])/\z=(k:Int)+1:=λz=>by
   (refine az Q ?_;rw[xA])
   constructor
   ·rintro ⟨k,s,r⟩
    have p:=zZ.mp s
    obtain⟨f,j⟩:∃f,l[k]?=Y f:=⟨_,fM p⟩
    rw[j,F7] at r
    split at r
    ·cases r
    ·rename_i hb
     exact gx k f j hb<|bH.mp r
   ·rintro ⟨k,f,j,hb,rfl⟩
    have p:=(fF.mp j).1
    refine ah k (zZ.mpr p) ?_
    refine V j (V F7<|V (if_neg hb) ?_);exact bH.mpr rfl
  have hnl:o.length<=l.length:=by
   refine az Q ?_
   have:∀N:List Nat,(N.flatMap λk:Nat=>if l[k]?.getD 9∈[9,10,160] then[] else[((k:Int)+1)]).length<=N.length:=λN=>by
    induction N with
    |nil=>simp
    |cons k N J=>
     refine V fQ<|V bQ<|V cX ?_
     split
     ·refine V l7 ?_;exact la 0x4a091842810044860 [_,_] rfl J
     ·refine V vO ?_;exact la 0x4a091842811044860 [_,_] rfl J
   have:=this (l_ l.length)
   rwa[List.length_range] at this
  refine bk [.int 0] rfl (by refine V r ?_;decide)<|WL.OQ (by refine V (bC ..) (V r ?_);simp;exact la 0x4affffff10184112084110fa02060 [_,_] rfl hl hnl) ?_
  refine WL.OT (o:=o++[0]) ?_ (by simp) λM hM R=>WSs.c ?_
  ·skip
   refine V gZ ?_;rfl
  obtain⟨t,rfl⟩:∃t:Nat,M=(t:Int):=by
   have:=R 0<|by simp
   exact⟨M.toNat,by exact lA (li 0x4a821047860 [_,_] rfl<|vD<|li 0x4a810044810 [_] rfl this)<|li 0x4a860046860 [_,_] rfl<|vD<|li 0x4a810044810 [_] rfl this⟩
  have BI:Bk l t:=by
   constructor
   ·rcases cj.mp hM with E|E
    ·refine o9 ((zh _).mp E) λk f b u K=>?_
     exact .inr<|gx k f (by exact dK (gV.mp<|li 0x4a8a0047091862046091860 [_,_,_] rfl K<|Li.ca _ _)<|gV.mp<|li 0x4a822046091862047091860 [_,_,_] rfl K<|Li.ca _ _) b<|by simpa using u
    ·have:(t:Int)=0:=bH.mp E
     exact .inl<|by lia
   ·intro k f b u
    have:=R ((k:Int)+1)<|iF _<|(zh _).mpr<|gx k f b (by simpa using u) rfl
    exact gV.mp<|li 0x4a862046091822044842460 [_,_,_] rfl this<|Li.ca _ _
  have Tq:t<=l.length:=by
   rcases BI.Jo with E|⟨k,f,E,u,_⟩
   ·exact la 0x4a860046420 [_,_] rfl E
   ·have:=(fF.mp u).1;exact la 0x4a8a00458a1046091860 [_,_,_] rfl E this
  walk_at "w"
  refine bR rfl _ rfl<|ah _ rfl<|fH _ Z (Y (t:Int)) rfl (by refine V KV (V r ?_);exact aK) rfl rfl<|bk _ rfl ?_ ?_
  ·exact i_ rfl
  refine V (yM _ _<|by refine V KV ?_;assumption)<|az vP<|az vP ?_
  refine nK (d:=c.d) (λv=>∃a,v=[a]) (λx=>match x with| .str y=> .str (if y==sL [32] then sL yQ else y)|_=> .none) _ _ ⟨Z,rfl⟩ (by simp;lia) (λx G v μ K1 L s=>?_) ?_
  ·refine Ex L λa m=>?_;clear L;subst m
   refine aD (bg.mp G) λk Tp m=>?_;clear G;subst m
   refine ah _ rfl<|WL.nG<|WL.tB ?_
   refine V AR<|V Q_ ?_
   have:=s [Y (.s<|sL k)] ⟨_,rfl⟩
   by_cases h9:(sL k==sL [32])=true
   ·refine WL.cy h9 ?_
    simp only[jc,h9,if_true] at this
    exact this
   ·refine WL.bK h9 (ah _ rfl ?_)
    simp only[jc,h9,if_false,ly] at this
    exact this
  have t_:p_ (λx=>match x with|oU y=>oU (if y==sL [32] then sL yQ else y)|_=> .none) (((l.take t).map fj).map jc)=((l.take t).map gp).map jc:=by
   refine V bY<|V bY<|V bY ?_
   refine sP λk s=>?_
   simp only[CC,jc]
   refine V (iO ..) ?_
   delta gp
   by_cases KW:k=32
   ·clear s;subst KW;rfl
   ·refine V (if_neg KW) ?_
    have:(fj k==[32])=false:=by
     delta fj vq vv vt
     split
     ·rfl
     ·split
      ·rfl
      ·split
       ·rfl
       ·refine V (lP ..) ?_;simpa using KW
    refine V this ?_;rfl
  refine V t_ ?_
  have Tr:(l.take t).length<=1000:=by refine V qV ?_;exact la 0x4a3e80818811a188112084110fa02060 [_,_,_] rfl hl Tq<|zQ Tq
  have hfc:=Jr Jq<|l.take t
  refine(WL.join<|bk (((l.take t).map gp).map sL) ?_ ?_ ?_)
  ·refine(?_:Y _=Y _)
   refine V bY (V bY<|V bY ?_);rfl
  ·have b:=Bc (B:=6) ((((l.take t).map gp).map sL).map (λx:H=>x.length)) λa D=>by
    rw[bY,bY] at D
    refine aD (bg.mp D) λx _ m=>?_;clear D;subst m
    refine(?_:(sL<|gp x).length<=6)
    refine V (aQ ..) ?_;exact Jq x
   rw[bC,bC,bC] at b
   refine V (bC ..)<|V (bC ..) ?_
   have h0:("":H).length=0:=by decide+kernel
   refine V h0 ?_;exact la 0x12810000001410834208411035a084610fa02060 [_,_] rfl Tr b
  refine V qm<|V (Rf ..) ?_
  have hfm:((l.take t).map gp).flatten=(l.take t).flatMap gp:=rfl
  refine V hfm ?_
  have U:=Rd hc BI
  refine az U ?_
  have hft:(qo<|sL l).length<=6000:=by refine V U (V (aQ ..) ?_);exact la 0x12817700c18411035a084610fa02060 [_,_] rfl Tr hfc
  have l1:("<td class=\"diff_header\"":H).length=23:=by decide+kernel
  have l2:("</td><td nowrap=\"nowrap\">":H).length=25:=by decide+kernel
  have l3:("</td>":H).length=5:=by decide+kernel
  have l4:(">":H).length=1:=by decide+kernel
  have l0:(⟨#[]⟩:H).length=0:=rfl
  refine WSs.c ?_
  walk_at "w"
  refine bR ?_ _ rfl<|fG _ rfl ?_ ?_<|eS _ rfl _ hln ?_<|bR ?_ _ rfl<|fG _ rfl ?_ ?_ ?_
  all_goals first|(simp only[wJ,l0,l1,l2,l3,l4,r];lia)|skip
  refine .inl ?_
  refine V he ?_
  rfl
 have C:(j8 [.str "",.str ">"]).layable0=true:=by decide+kernel
 walk_at "w"
 rcases hn with⟨n,rfl,h0,b⟩|rfl|rfl
 ·refine eS _ rfl [.str "",.str ">"] rfl (by refine V r ?_;decide) ?_
  refine(WL.HU<|g5 ((cg.int<|by lia).ok (by decide)<|by decide) C ?_<|WL.tB ?_)
  ·intro y hy
   simp only[iX,lW,or_false] at hy
   rcases hy with rfl|rfl<;>simp[FA]
  have hci:Lu (.int n) [.str "",.str ">"]=0:=by simp[Lu,Spec.same]
  refine V hci ?_
  have hp:(gm g).length=4:=by delta gm;split<;>decide+kernel
  have hdl:=AM h0 b
  refine WL.bK (by decide)<|qZ _ rfl _ rfl [.str (gm g),.int n] rfl (by refine V r ?_;refine(?_:2<=_);decide) ?_
  refine WL.aaq (by delta G8;exact la 0x4a61a803060046520 [_] rfl hp) ⟨h0,b⟩ ?_
  have l1:(" id=\"":H).length=5:=by decide+kernel
  have l2:("\"":H).length=1:=by decide+kernel
  refine A (Al (gm g)<|dh n) ?_<|bk (dh n) ?_ aK ?_
  ·delta Al;simp only[wJ,l1,l2];exact la 0x12832020424428428150446a1046520 [_,_] rfl hp hdl
  ·refine(?_:(if n.natAbs.log2<1920 then Y (dh n) else Z)=_)
   rw[if_pos]
   by_cases Tt:n.natAbs=0
   ·refine V Tt ?_;decide
   ·have:n.natAbs.log2<64:=(alW Tt).mpr (by lia)
    exact aK
  ·skip
   have:(⟨#[]⟩:H)++(" id=\"":H)=" id=\"":=by decide+kernel
   exact V this rfl
 ·refine eS _ rfl [.str "",.str ">"] rfl (by refine V r ?_;decide) ?_
  refine(WL.HU<|g5 (by decide+kernel) C ?_<|WL.tB ?_)
  ·intro y hy
   simp only[iX,lW,or_false] at hy
   rcases hy with rfl|rfl<;>simp[FA]
  refine WL.cy (by decide+kernel) ?_
  exact A "" (by decide+kernel)<|bk ("") rfl (by decide+kernel) rfl
 ·refine eS _ rfl [.str "",.str ">"] rfl (by refine V r ?_;decide) ?_
  refine(WL.HU<|g5 (by decide+kernel) C ?_<|WL.tB ?_)
  ·intro y hy
   simp only[iX,lW,or_false] at hy
   rcases hy with rfl|rfl<;>simp[FA]
  refine WL.cy (by decide+kernel) ?_
  exact A "" (by decide+kernel)<|bk (">") rfl (by decide+kernel) rfl
end
section
variable {M:k9} {A:cR} {R:GenEnd} {j:Vn} {n:Nat} {h:au} {c:xh} {L:List z0} {s:au} {d:dw}
 {K:pW->bT Fin} {o:aa->bT Fin} {q:Bool->Bool} {u:List aa->List aa}
theorem qy{C U:Type}{m:bT C}{f:C->bT U}{K:U->bT Fin}
  (y:aF M (A.over c L) m (λa s'=>dM M A R j n h c ((f a).wrap K o q u) L s') (λx s'=>dM M A R j n h c (o x) L s') s):
  dM M A R j n h c ((m>>=f).wrap K o q u) L s:=by
 exact V (alY ..)<|V (alZ ..)<|
  seg_wrap y
theorem afF
  (y:aF M (A.over c L) (Fy t d<|eval t d) (λx s'=>if x=true then dM M A R j n h c ((kc a d).wrap K o q u) L s' else dM M A R j n h c ((kc b d).wrap K o q u) L s') (λx s'=>dM M A R j n h c (o x) L s') s):
  dM M A R j n h c ((l9 (.If t a b r) d).wrap K o q u) L s:=by
 refine V (exec_If ..) ?_
 refine qy<|kL<|qy<|cQ y (λx s' f=>?_) λU U e=>e
 cases x
 ·exact f
 ·exact f
noncomputable abbrev Jt(d:dw)(K:pW->bT Fin)(o:aa->bT Fin)(q:Bool->Bool)(u:List aa->List aa):sN->bT Fin:=λr=>((match r with| .ok f=>(.pure f:bT pW)| .error e=> .raise e).onRaise λ(x:aa)=>do
    if (<-field x 1)==ux then F9 "frame.own-activation:exception-without-traceback"
    setFlight x d.frame).wrap K o q u
theorem afG(hs:∀x,qS f d x=pure x)
  (y:aF M (A.over c L) (eval f d) (λx b=>aF M (A.over c L) (zG x) (λk g=>∀p,dM M A R j n h (.forLoop B k D a d) (M.den<|.forLoop B k D a d) (.ret (Jt d K o q u) Z (q false) (u []) c p []::L) g)
   (λx s'=>dM M A R j n h c (o x) L s') b) (λx s'=>dM M A R j n h c (o x) L s') s):
  dM M A R j n h c ((l9 (.For B f D a r) d).wrap K o q u) L s:=by
 refine V (exec_For ..) ?_
 refine qy<|kL<|qy<|cQ y (λx b l=>?_) λU U e=>e
 refine qy<|gH (hs x)<|qy<|kL<|qy<|j9<|cQ l (λk g m=>?_) λU U e=>e
 exact seg_call m
end
section
variable {i:xg} {w:aC} {A:cR} {R:GenEnd} {j:Vn} {n:Nat} {h:au} {L:List z0} {s:au} {d:dw}
noncomputable abbrev yR(d:dw):aa->bT Fin:=λe=>(do vI e d;zH e:bT Unit).wrap (λU=> .raise e) .raise id id
theorem Rg
  (C:∀x s',E x s'->dM (aX i w) A R j n h (.forLoop B k D a d) (yR d x) L s')
  (y:aF (aX i w) (A.over (.forLoop B k D a d) L) (sG k) (λr b=>match r with
   |none=>dM (aX i w) A R j n h (.block a d) ((aX i w).den<|.block a d) L b
   |some v=>aF (aX i w) (A.over (.forLoop B k D a d) L) (qK B k v) (λU p=>aF (aX i w) (A.over (.forLoop B k D a d) L) (pX B d v) (λU g=>
     dM (aX i w) A R j n h (.forLoop B k D a d) ((kc D d).wrap (λf=>match f with
      | .next| .cont=> .pure (.again<|.forLoop B k D a d)
      | .brk=> .pure (.done .next)
      | .ret v=> .pure<|.done<|.ret v) (yR d) id id) L g) E p) E b) E s):
  dM (aX i w) A R j n h (.forLoop B k D a d) ((aX i w).den<|.forLoop B k D a d) L s:=by
 show dM _ A R j n h _ ((forTurn B k D a d).onRaise λx=>do vI x d;zH x) L s
 refine V (Sem.onRaise_eq_wrap ..) ?_
 unfold forTurn
 have t:∀x s',E x s'->dM (aX i w) A R j n h (.forLoop B k D a d) ((do vI x d;zH x:bT Unit).bind λU=> .raise x) L s':=λx s' e=>by
  have:=C x s' e
  refine V (Vo ..) ?_;exact this
 refine qy<|kL<|qy<|wpAny_onRaise<|cQ y (λr b l=>?_) λx s' e=>kL<|t x s' e
 cases r with
 |none=>exact Vp rfl l
 |some v=>
  refine qy<|cQ l (λU p z=>?_) t
  refine qy<|cQ z (λU g m=>?_) t
  refine V (alY ..)<|V (alZ ..) ?_
  refine V (Sem.wrap_congr (kc D d) _ _ (K':=λf=>match f with
      | .next| .cont=> .pure (.again<|.forLoop B k D a d)
      | .brk=> .pure (.done .next)
      | .ret v=> .pure<|.done<|.ret v) (H':=yR d)
    (λf=>by cases f<;>rfl)
    (λe=>by first|exact Vo _ _|(show(do vI e d;zH e:bT Unit).bind (λU=> .raise e)=_;rw[Vo]))) ?_
  exact m
theorem afH(y:dM (aX i w) A R j n h a (k<|.ok .next) L s):
  dM (aX i w) A R j n h (.block [] d) ((aX i w).den<|.block [] d) (.ret k e g l a b f::L) s:=seg_leaf (.ok .next) y
end
section
variable {c:Cx} {N:List H} {h:ao} {q:St} {J:FM} {as:List ak} {s s':au}
theorem aH.afI(I:aH c N h q J as s)(g:(S,l)∈h)(hs:pS S s.heap s'.heap)(ho:s'.heap.get? S=Y f)(hg:s'.gens=s.gens)(Bu:s'.os=s.os):
  aH c N (ao.jx h S f) q J as s':=by
 refine cC I λjO m I=>?_
 have hS:∀a∈own c as,a≠S:=λa ha e=>I.apart a ha _ g e.symm
 have i:=I.sub _ g
 refine dU (jO.jx S f) m (I.to (X:=(·=S)) (FM.le.refl J) (I.base.update i hs ho) (λb o M d=>ao.rm M d) (λb e=>e▸⟨λav=>hS _ (CR c as) av.symm,λx av=>hS _ (GV av) rfl⟩) (λp hp=>?_) (λa ha p hp=>?_) rfl (λj u e=>(ah u e λ_ r=>r)) rfl
  (λj a z ha e=> .inl ⟨hS _<|CS ha,e⟩) (λb k M=>absurd M<|hS _<|a_ _<|gw _ k) hg Bu)
 ·obtain⟨b,t⟩:=p
  rcases ao.xR hp with⟨rfl,rfl⟩|⟨d,hp⟩
  ·exact ao.sZ i
  ·exact ao.rm (I.sub _ hp) d
 ·obtain⟨b,t⟩:=p
  rcases ao.xR hp with⟨rfl,rfl⟩|⟨d,hp⟩
  ·exact λe=>hS a ha e.symm
  ·exact I.apart a ha _ hp
theorem ao.Rh(M:∀p∈l,p.1≠S):ao.jx l S o=l:=by
 conv=>rhs;rw[<-CB l]
 refine sP λp hp=>?_
 rw[if_neg (M p hp)];rfl
theorem ao.Ri(b:∀p∈hs,p.1≠S)(d:∀p∈h,p.1≠S):ao.jx (hs++(S,o)::h) S a=hs++(S,a)::h:=by
 have e:ao.jx (hs++(S,o)::h) S a=ao.jx hs S a++(S,a)::ao.jx h S a:=by
  unfold ao.jx
  exact V gZ<|V ee<|V (if_pos rfl) rfl
 exact V e<|V (ao.Rh b)<|V (ao.Rh d) rfl
end
section
variable (w:aC) (J:FM) (S:ak) (h:ao) (C:List af) (G:Array sq) (os:xj)
inductive Rj(n:Nat)(B s:au):Prop
 |mk (D:FM) (l:bh):n=0->FM.le J D->bz w D ((S,l)::h) s.heap->gK D l (.ai C)->s.gens=G->s.os=os->Rj n B s
abbrev GR:GenEnd:=λn B r s=>r= .ok (.ret .none)/\Rj w J S h C G os n B s
inductive Rk(m:Nat)(v:aa)(s:au)(b:Resume->au->Prop):Prop
 |mk (k:Nat) (D:FM) (d:af) (l:bh):FM.le J D->m+k+1=C.length->C[k]?=Y d->RD D v d->bz w D ((S,l)::h) s.heap->gK D l (.ai<|C.take k)->s.gens=G->s.os=os->
  (∀a f,pS S s.heap a.heap->a.heap.get? S=Y f->gK D f (.ai<|C.take<|k+1)->a.gens=G->a.os=os->0<a.toks->b (.send .none) a)->Rk m v s b
def GY:Vn:=λm B v s b=>Rk w J S h C G os m v s b
end
structure jg(c:Cx)(N:List H)(J:FM)(S:ak)(h:ao)(C:List af)(hs:ao)(k n:Nat)(q:St)(D:FM)(aJ:List ak)(s:au):Prop where
 le:FM.le J D
 cnt:n+k=C.length
 tN:∃l,aH c N (hs++(S,l)::h) q D aJ s/\gK D l (.ai<|C.take k)
 apart:∀p∈hs,p.1≠S/\∀av∈h,av.1≠p.1
 tk:0<s.toks
section
variable {c:Cx} {N:List H} {J:FM} {S:ak} {h:ao} {C:List af} {hs:ao} {k n:Nat} {q:St} {D:FM} {aJ:List ak} {s:au}
 {A:cR} {B:au} {gU:xh} {L:List z0} {K:pW->bT Fin} {d_:aa->bT Fin} {gd:Bool->Bool} {lv:List aa->List aa}
theorem Ju(g:jg c N J S h C hs k n q D aJ s)(M:∀y,bq (c.on<|A.over gU L) N y e q Q)
  (bB:∀i j o f d w,jg c N J S h C hs k n w i j o->FM.le D i->rF i j f d->Q d w->dM (aX pw c.w) A (GR c.w J S h C c.g c.os) (GY c.w J S h C c.g c.os) n B gU (K f) L o):
  dM (aX pw c.w) A (GR c.w J S h C c.g c.os) (GY c.w J S h C c.g c.os) n B gU ((l9 e c.aj).wrap K d_ gd lv) L s:=by
 exact aD g.tN λl I r=>
  seg_wrap (aN.bw (M _) I.on g.tk λi j o f d w z gr R E U av=>bB i j o f d w ⟨g.le.trans z,g.cnt,(ah l R.cU<|r.le z),g.apart,E⟩ z U av)
theorem Rl(g:jg c N J S h C hs k n q D aJ s)(M:∀y,iL (c.on<|A.over gU L) N y t q Q)
  (bB:∀i j o x w,jg c N J S h C hs k n w i j o->FM.le D i->Q x w->if x=true then dM (aX pw c.w) A (GR c.w J S h C c.g c.os) (GY c.w J S h C c.g c.os) n B gU ((kc a c.aj).wrap K d_ gd lv) L o
   else dM (aX pw c.w) A (GR c.w J S h C c.g c.os) (GY c.w J S h C c.g c.os) n B gU ((kc b c.aj).wrap K d_ gd lv) L o):
  dM (aX pw c.w) A (GR c.w J S h C c.g c.os) (GY c.w J S h C c.g c.os) n B gU ((l9 (.If t a b cK) c.aj).wrap K d_ gd lv) L s:=by
 refine aD g.tN λl I r=>
  afF (aN.bw (M _) I.on g.tk λi j o x d w z gr R E U av=>?_)
 obtain rfl:x=d:=U
 exact bB i j o x w ⟨g.le.trans z,g.cnt,(ah l R.cU<|r.le z),g.apart,E⟩ z av
theorem Rm{e:ay}{ai0 cK:aV}{Q:AV->St->Prop}(g:jg c N J S h C hs k (n+1) q D aJ s)(hS:∀p∈h,p.1≠S)(KX:splitAtGen L=Z)(KY:gd false=false)(KZ:L.any al0=false)
  (K3:c.aj.scope.isCoroutine=false)(hk:c.aj.scope.kind= .function)(M:∀y,aG (c.on<|A.over gU L) N y e q λu w=>∃d,u= .d d/\C[k]?=Y d/\Q u w)
  (bB:∀i j o u w,jg c N J S h C hs (k+1) n w i j o->FM.le D i->Q u w->dM (aX pw c.w) A (GR c.w J S h C c.g c.os) (GY c.w J S h C c.g c.os) n o gU (K .next) L o):
  dM (aX pw c.w) A (GR c.w J S h C c.g c.os) (GY c.w J S h C c.g c.os) (n+1) B gU ((l9 (.Expr (.Yield (Y e) ai0) cK) c.aj).wrap K d_ gd lv) L s:=by
 refine aD g.tN λl I r=>?_
 refine seg_Expr_Yield KX KY KZ (aN.bw (M _) I.on g.tk λi j o v u w z gr R E U av=>?_) K3<|by unfold LM;refine V hk ?_;rfl
 refine jU av λd e' hd av=>?_;subst e'
 intro b ai1
 have t:=R.cU
 have gn:o.gens=c.g/\o.os=c.os:=let ⟨_,_,t⟩:=t;⟨t.gens,t.os⟩
 refine⟨k,i,d,l,g.le.trans z,by have:=g.cnt;exact dK (la 0x4a882442860046882842460 [_,_,_] rfl this)<|la 0x4a0910a1822047882842460 [_,_,_] rfl this,hd,U,?_,r.le z,gn.1,gn.2,λa f uc ho ha hg Bu htk=>ai1 .none a ?_⟩
 ·exact cC t λjO m t=>
   t.base.sub λp hp=>t.sub p<|gw _ hp
 ·have x:=t.afI (s':=a) (gw _ aZ) uc ho (hg.trans gn.1.symm) (Bu.trans gn.2.symm)
  rw[ao.Ri (λp hp=>(g.apart p hp).1) hS] at x
  exact bB i j a _ w ⟨g.le.trans z,by have:=g.cnt;exact dK (la 0x4a882091860046882842460 [_,_,_] rfl this)<|la 0x4a082461822047882842460 [_,_,_] rfl this,(ah f x ha),g.apart,htk⟩ z av
theorem Rn(a:Fw)(g:jg c N J S h C hs k n q D aJ s)(M:∀y (Q:Fw->St->Prop),Q a b->bq (c.on<|A.over gU L) N y e q Q)
  (bB:∀i j o f,rF i j f a->jg c N J S h C hs k n b i j o->FM.le D i->dM (aX pw c.w) A (GR c.w J S h C c.g c.os) (GY c.w J S h C c.g c.os) n B gU (K f) L o):
  dM (aX pw c.w) A (GR c.w J S h C c.g c.os) (GY c.w J S h C c.g c.os) n B gU ((l9 e c.aj).wrap K d_ gd lv) L s:=
 Ju g (Q:=λf w=>f=a/\w=b) (λy=>M y _ ⟨rfl,rfl⟩) λi j o f d w l z r av=>by
  refine Ea av λe' m=>?_;clear av;subst e';subst m
  exact bB i j o f r l z
theorem Es(b:St)(g:jg c N J S h C hs k n q D aJ s)(M:∀y (Q:Fw->St->Prop),Q .nx b->bq (c.on<|A.over gU L) N y e q Q)
  (bB:∀i j o,jg c N J S h C hs k n b i j o->FM.le D i->dM (aX pw c.w) A (GR c.w J S h C c.g c.os) (GY c.w J S h C c.g c.os) n B gU (K .next) L o):
  dM (aX pw c.w) A (GR c.w J S h C c.g c.os) (GY c.w J S h C c.g c.os) n B gU ((l9 e c.aj).wrap K d_ gd lv) L s:=
 Rn .nx g M λi j o f r=>by
  obtain rfl:f= .next:=r
  exact bB i j o
theorem afJ(b:St)(g:jg c N J S h C hs k n q D aJ s)(M:∀y (Q:Fw->St->Prop),Q .ct b->bq (c.on<|A.over gU L) N y e q Q)
  (bB:∀i j o,jg c N J S h C hs k n b i j o->FM.le D i->dM (aX pw c.w) A (GR c.w J S h C c.g c.os) (GY c.w J S h C c.g c.os) n B gU (K .cont) L o):
  dM (aX pw c.w) A (GR c.w J S h C c.g c.os) (GY c.w J S h C c.g c.os) n B gU ((l9 e c.aj).wrap K d_ gd lv) L s:=
 Rn .ct g M λi j o f r=>by
  obtain rfl:f= .cont:=r
  exact bB i j o
end
section
open IR
noncomputable abbrev dS:bu:= .Pass default
def afK(s:bu):ay×ay×List bu×aV:=((sv s).e0,(sv s).e1,(sv s).a,(sv s).p)
def Ro(s:bu):ay×aV×aV:=((ev (sv s).e0).o0.getD eD,(ev (sv s).e0).p,(sv s).p)
def iR:ay×ay×List bu×aV:=afK<|hS<|cF<|aM 72
theorem afL:cF (aM 72)=[.For iR.1 iR.2.1 iR.2.2.1 [] iR.2.2.2]:=by kernel_rfl
def nN(i:Nat):bu:=(iR.2.2.1[i]?).getD dS
def Bl:ay×List bu×aV:=((sv<|nN 0).e0,(sv<|nN 0).a,(sv<|nN 0).p)
def Et:ay×aV×aV:=Ro<|hS Bl.2.1
def lwC:aV:=(sv<|hS Bl.2.1.tail).p
def r8:ay×List bu×aV:=((sv<|nN 5).e0,(sv<|nN 5).a,(sv<|nN 5).p)
def Bm(i:Nat):bu:=(r8.2.1[i]?).getD dS
def Eu:ay×aV×aV:=Ro<|Bm 2
theorem Rp:iR.2.2.1=[.If Bl.1 [.Expr (.Yield (Y Et.1) Et.2.1) Et.2.2,.Continue lwC] [] Bl.2.2,nN 1,nN 2,nN 3,nN 4,.While r8.1 r8.2.1 [] r8.2.2]:=by kernel_rfl
theorem afN:r8.2.1=[Bm 0,Bm 1,.Expr (.Yield (Y Eu.1) Eu.2.1) Eu.2.2]:=by kernel_rfl
def dP:Sc:=⟨["self","diffs","fromdata","todata","flag","fromline","fromtext","toline","totext","fromlist","tolist"],(aM 72).scope.names,[]⟩
theorem afO:fY 72 (aM 72) (cF<|aM 72) dP:=⟨λP=>(ah (kN P 72) (by kernel_rfl)<|by kernel_rfl),λP=>by kernel_rfl,by kernel_rfl,by kernel_rfl,by kernel_rfl,by kernel_rfl,by kernel_rfl,by kernel_rfl,by decide+kernel⟩
theorem afP(P)(g:List aa)(c:g.length=2)(S):zR (K0 P) S (sJ (aM 72) ⟨g,[]⟩)=Y ((dP.N.take 2).zip g):=by
 obtain⟨a,b⟩:=tE c
 kernel_rfl
def Ew:IR.T:= .bx .Is (.v 4)<|.c .none
def Bo:IR.X:= .bZ<|.k (.v 2)<|.k (.v 3)<|.k (.v 4) .z
def Jv:IR.S:= .aT (.k (.t<|.k (.t<|.k (.n 5)<|.k (.n 6) .z)<|.k (.t<|.k (.n 7)<|.k (.n 8) .z) .z) .z)<|.bZ<|.k (.v 2)<|.k (.v 3) .z
def Jw:IR.S:= .lK true [10,9]<|.k (.lF .z)<|.k (.lF .z) .z
def Jx:IR.S:= .ex<|.own 111 65 (.v 0) "_split_line"<|.k (.v 9)<|.k (.v 5)<|.k (.v 6) .z
def Jy:IR.S:= .ex<|.own 111 65 (.v 0) "_split_line"<|.k (.v 10)<|.k (.v 7)<|.k (.v 8) .z
def Ey:IR.T:= .yr<|.k (.val<|.v 9)<|.k (.val<|.v 10) .z
def Rq:IR.X:= .bZ<|.k (.c<|.str "")<|.k (.c<|.str " ") .z
def Jz:IR.S:= .ck (.val<|.v 9) (.k (.aT (.k (.n 2) .z)<|.dg .pop (.v 9)<|.k (.c<|.int 0) .z) .z)<|.k (.aT (.k (.n 2) .z) Rq) .z
def JA:IR.S:= .ck (.val<|.v 10) (.k (.aT (.k (.n 3) .z)<|.dg .pop (.v 10)<|.k (.c<|.int 0) .z) .z)<|.k (.aT (.k (.n 3) .z) Rq) .z
def Ez:IR.Tg:= .t<|.k (.n 2)<|.k (.n 3)<|.k (.n 4) .z
theorem Rr:ON dP Ew Bl.1=true:=by kernel_rfl
theorem afQ:aA dP Bo Et.1=true:=by kernel_rfl
theorem afR:aA dP Bo Eu.1=true:=by kernel_rfl
theorem afS:pG dP Jv (nN 1)=true:=by kernel_rfl
theorem afT:pG dP Jw (nN 2)=true:=by kernel_rfl
theorem afU:pG dP Jx (nN 3)=true:=by kernel_rfl
theorem afV:pG dP Jy (nN 4)=true:=by kernel_rfl
theorem Rt:ON dP Ey r8.1=true:=by kernel_rfl
theorem afW:pG dP Jz (Bm 0)=true:=by kernel_rfl
theorem afX:pG dP JA (Bm 1)=true:=by kernel_rfl
theorem Ru:OM dP Ez iR.1=true:=by kernel_rfl
theorem afY:aA dP (.v 1) iR.2.1=true:=by kernel_rfl
theorem afZ:eo iR.2.1=true:=by kernel_rfl
noncomputable def g_:af:= .tuple [.str "",.str " "]
noncomputable def oq(g:af):Nat->List af->List af->List af
 |0,_,_=>[]
 |n+1,as,c=> .tuple [as.headD g_,c.headD g_,g]::oq g n as.tail c.tail
theorem amk:oq g 0 a b=[]:=rfl
theorem af0:oq g (n+1) as c= .tuple [as.headD g_,c.headD g_,g]::oq g n as.tail c.tail:=rfl
theorem Rv(g:af) a as c:(oq g a as c).length=a:=by
 induction a generalizing as c with
 |zero=>
  exact rfl
 |succ n b=>
  exact congrArg (·+1)<|b as.tail c.tail
structure tO(q:St)(k f:Int)(j i:Nat)(as c:List af)(g:af):Prop where
 len:q.v.length=11
 v0:q.v[0]?=Y (Y<|.bF k f)
 v4:q.v[4]?=Y (Y<|.d g)
 v9:q.v[9]?=Y (Y<|.m j)
 wV:q.v[10]?=Y (Y<|.m i)
 m:q.μ[j]?=Y (Y<|.ai as)
 m':q.μ[i]?=Y (Y<|.ai c)
 ne:j≠i
 la:as.length<=10000
 lb:c.length<=10000
section
variable {w:aC} {d:Nat} {q:St} {k f:Int} {j i:Nat} {as c:List af} {g:af}
theorem EA(h:q.μ[j]?=Y (Y<|.ai xs))(b:xs.length<=10000)(a:P (!xs.isEmpty) q):nC w d (.m j) q P:=by
 exact WL.tM<|bk xs (CU h) (by refine V bI ?_;exact aK) a
theorem Rw(L:tO q k f j i as c g)(h:P (!as.isEmpty|| !c.isEmpty) q):WT w d Ey q P:=by
 skip;walk_at "w"
 refine ah _ L.v9<|EA L.m L.la ?_
 cases e:as.isEmpty with
 |false=>rw[e] at h;exact WL.cy rfl h
 |true=>
  refine WL.bK (by decide)<|ah _ L.wV<|EA L.m' L.lb ?_
  rw[e] at h
  cases a:c.isEmpty with
  |false=>rw[a] at h;exact WL.cy rfl h
  |true=>rw[a] at h;exact WL.bK (by decide) h
theorem Rx(h:q.μ[j]?=Y (Y<|.ai xs)):rz q (.m j)=Y "list":=by
 refine(?_:xZ _=_)
 refine V h ?_;rfl
theorem af1(L:tO q k f j i as c g)(h:∀e,tO e k f j i as.tail c g->e.v[2]?=Y (Y<|.d<|as.headD g_)->Q .nx e):WS w d Jz q Q:=by
 have l:=bI
 skip;walk_at "w"
 refine ah _ L.v9<|EA L.m L.la ?_
 cases as with
 |nil=>
  refine WL.bK (by decide)<|WSs.c ?_
  skip;walk_at "w"
  refine bk _ rfl (by refine V l ?_;decide)<|WSs.n<|h _ ⟨by refine V ug ?_;exact L.len,?_,?_,?_,?_,L.m,L.m',L.ne,L.la,L.lb⟩ ?_
  ·exact(gX<|by decide).trans L.v0
  ·exact(gX<|by decide).trans L.v4
  ·exact(gX<|by decide).trans L.v9
  ·exact(gX<|by decide).trans L.wV
  ·exact qN<|by refine V L.len ?_;decide
 |cons a as=>
  refine WL.cy rfl<|WSs.c ?_
  walk_at "w"
  refine bk _ L.v9 (Rx L.m)<|WL.pop<|gx a as L.m (by have:=L.la;simp at this;exact gI (by assumption)<|by rfl)<|WSs.n<|h _ ⟨by refine V ug ?_;exact L.len,?_,?_,?_,?_,?_,?_,L.ne,by have:=L.la;simp at this;exact aK,L.lb⟩ ?_
  ·exact(gX<|by decide).trans L.v0
  ·exact(gX<|by decide).trans L.v4
  ·exact(gX<|by decide).trans L.v9
  ·exact(gX<|by decide).trans L.wV
  ·exact qN (fF.mp L.m).1
  ·exact(gX L.ne).trans L.m'
  ·exact qN<|by refine V L.len ?_;decide
theorem af2(L:tO q k f j i as c g)(a:q.v[2]?=Y (Y<|.d x))(h:∀e,tO e k f j i as c.tail g->e.v[2]?=Y (Y<|.d x)->e.v[3]?=Y (Y<|.d<|c.headD g_)->Q .nx e):WS w d JA q Q:=by
 have l:=bI
 skip;walk_at "w"
 refine ah _ L.wV<|EA L.m' L.lb ?_
 cases c with
 |nil=>
  refine WL.bK (by decide)<|WSs.c ?_
  skip;walk_at "w"
  refine bk _ rfl (by refine V l ?_;decide)<|WSs.n<|h _ ⟨by refine V ug ?_;exact L.len,?_,?_,?_,?_,L.m,L.m',L.ne,L.la,L.lb⟩ ?_ ?_
  ·exact(gX<|by decide).trans L.v0
  ·exact(gX<|by decide).trans L.v4
  ·exact(gX<|by decide).trans L.v9
  ·exact(gX<|by decide).trans L.wV
  ·exact(gX<|by decide).trans a
  ·exact qN<|by refine V L.len ?_;decide
 |cons b c=>
  refine WL.cy rfl<|WSs.c ?_
  walk_at "w"
  refine bk _ L.wV (Rx L.m')<|WL.pop<|gx b c L.m' (by have:=L.lb;simp at this;exact gI (by assumption)<|by rfl)<|WSs.n<|h _ ⟨by refine V ug ?_;exact L.len,?_,?_,?_,?_,?_,?_,L.ne,L.la,by have:=L.lb;simp at this;exact aK⟩ ?_ ?_
  ·exact(gX<|by decide).trans L.v0
  ·exact(gX<|by decide).trans L.v4
  ·exact(gX<|by decide).trans L.v9
  ·exact(gX<|by decide).trans L.wV
  ·exact(gX<|pU L.ne).trans L.m
  ·exact qN (fF.mp L.m').1
  ·exact(gX<|by decide).trans a
  ·exact qN<|by refine V L.len ?_;decide
theorem Ry(a:q.v[2]?=Y (Y<|.d x))(b:q.v[3]?=Y (Y<|.d y))(e:q.v[4]?=Y (Y<|.d z))(h:Q (.t [x,y,z]) q):W w d Bo q Q:=by
 skip;walk_at "w"
 exact nh _ a _ b _ e<|bk _ rfl (by refine V bI ?_;refine(?_:3<=16777216);decide) h
end
section
variable {c:Cx} {J:FM} {S:ak} {h:ao} {C:List af} {hs:ao} {A:cR} {K:pW->bT Fin} {d_:aa->bT Fin} {n:xh} {B:List z0} {sz BS:Int} {j j':Nat} {fl:af}
abbrev yS(c:Cx):xh:= .whileLoop r8.1 r8.2.1 [] c.aj
abbrev wW(c:Cx)(K:pW->bT Fin)(d_:aa->bT Fin)(n:xh)(p:aV)(B:List z0):List z0:= .ret (Jt c.aj K d_ id id) Z false [] n p []::B
theorem af3(so:bA dP c)(hk:c.aj.scope.kind= .function)(K3:c.aj.scope.isCoroutine=false)(hS:∀p∈h,p.1≠S)(p:aV)(KX:splitAtGen (wW c K d_ n p B)=Z)(KZ:(wW c K d_ n p B).any al0=false)
  (ok:aW (c.on<|A.over (yS c)<|wW c K d_ n p B)):
  ∀(t:Nat) (as D:List af) (q:St) (k m:Nat) (cN:FM) (aJ:List ak) (s E:au) (G:List af),jg c dP.N J S h C hs k (t+m) q cN aJ s->tO q sz BS j j' as D fl->t=max as.length D.length->C.drop k=oq fl t as D++G->
  (∀o w z i E,jg c dP.N J S h C hs (k+t) m i o w z->FM.le cN o->i.v.length=11->i.v[0]?=Y (Y<|.bF sz BS)->dM (aX pw c.w) A (GR c.w J S h C c.g c.os) (GY c.w J S h C c.g c.os) m E n (K .next) B z)->
  dM (aX pw c.w) A (GR c.w J S h C c.g c.os) (GY c.w J S h C c.g c.os) (t+m) E (yS c) ((aX pw c.w).den<|yS c) (wW c K d_ n p B) s:=by
 intro t
 induction t with
 |zero=>
  intro as D q k m cN aJ s E G g L ht hd bB
  rw[pQ] at g ⊢
  refine aD g.tN λl I r=>?_
  have fC:bA dP (c.on<|A.over (yS c)<|wW c K d_ n p B):=so.on
  refine al1<|aN.bw (Ey.ok (e:=r8.1) (q:=q) (Q:=(λx i=>x=(!as.isEmpty|| !D.isEmpty)/\i=q)) ok fC Rt<|Rw L ⟨rfl,rfl⟩) I.on g.tk λo w z x x' i y gr jK N jL av=>?_
  obtain rfl:x=x':=jL
  refine Ea av λe' iB=>?_;clear av;subst e';clear I;subst iB
  have ea:as=[]:=Mk.mp<|by exact dK (gV.mp<|li 0x4a421044821047810 [_,_] rfl (Li.ce ht)<|Li.cl<|Gq _ _)<|gV.mp<|li 0x4a810044810 [_] rfl<|Li.cp _
  have eb:D=[]:=Mk.mp<|by exact dK (la 0x4a421044821047810 [_,_] rfl ht<|Mx _ _)<|la 0x4a810 [_] rfl
  subst ea;clear hd ht;subst eb
  refine WL.bK (by decide)<|Gx<|seg_leaf (.ok .next) ?_
  exact bB o w z _ _ ⟨g.le.trans y,by have:=g.cnt;assumption,(ah l jK.cU<|r.le y),g.apart,N⟩ y L.len L.v0
 |succ t ih=>
  intro as D q k m cN aJ s E G g L ht hd bB
  refine aD g.tN λl I r=>?_
  have fC:bA dP (c.on<|A.over (yS c)<|wW c K d_ n p B):=so.on
  refine al1<|aN.bw (Ey.ok (e:=r8.1) (q:=q) (Q:=(λx i=>x=(!as.isEmpty|| !D.isEmpty)/\i=q)) ok fC Rt<|Rw L ⟨rfl,rfl⟩) I.on g.tk λo w z x x' i y gr jK N jL av=>?_
  obtain rfl:x=x':=jL
  refine Ea av λe' iB=>?_;clear av;subst e';clear I;subst iB
  have nO:(!as.isEmpty|| !D.isEmpty)=true:=by
   clear hd;cases as with
   |cons _ _=>rfl
   |nil=>cases D with
    |cons _ _=>rfl
    |nil=>simp at ht
  refine WL.cy nO ?_
  refine V afN ?_
  have ai4:jg c dP.N J S h C hs k (t+1+m) i o w z:=⟨g.le.trans y,g.cnt,(ah l jK.cU<|r.le y),g.apart,N⟩
  refine qa<|Ju ai4 (Q:=λf R=>f= .nx/\tO R sz BS j j' as.tail D fl/\R.v[2]?=Y (Y<|.d<|as.headD g_)) (λqH=>Jz.ok ok fC afW<|af1 L λez a b=>(bJ rfl a b)) λfB iA dJ f wf R ai5 cZ cG E3=>?_
  refine gy E3 λe' ai6 h2=>?_;clear E3;subst e'
  obtain rfl:f= .next:=cG
  refine qa<|Ju ai5 (Q:=λf v=>f= .nx/\tO v sz BS j j' as.tail D.tail fl/\v.v[2]?=Y (Y<|.d<|as.headD g_)/\v.v[3]?=Y (Y<|.d<|D.headD g_)) (λqH=>JA.ok ok fC afX<|af2 ai6 h2 λez a b d=>(g5 rfl a b d)) λh_ iz fV f wf v M c_ m5 E9=>?_
  refine uF E9 λe' Tu h3 h4=>?_;clear E9;subst e'
  obtain rfl:f= .next:=m5
  have lV:C[k]?=Y (.tuple [as.headD g_,D.headD g_,fl]):=by
   have:(C.drop k)[0]?=Y (.tuple [as.headD g_,D.headD g_,fl]):=by refine V hd ?_;rfl
   rw[vM] at this
   simpa using this
  have ai3:jg c dP.N J S h C hs k (t+m+1) v h_ iz fV:=⟨M.le,by have:=M.cnt;exact dK (la 0x4a8c28824428600468c2882842460 [_,_,_,_] rfl this)<|la 0x4a0a20910a18230478c2882842460 [_,_,_,_] rfl this,M.tN,M.apart,M.tk⟩
  have e:t+1+m=t+m+1:=by exact nZ _ _ _
  refine V e ?_
  refine qa<|Rm ai3 (Q:=λu U=>U=v) hS KX rfl KZ K3 hk (λqH=>Bo.ok ok fC afR<|Ry h3 h4 Tu.v4<|bk _ rfl lV rfl) λj6 m6 kG u U zm fL pP=>?_
  subst pP
  refine Gx<|Vp rfl ?_
  have qG:C.drop (k+1)=oq fl t as.tail D.tail++G:=by
   have:C.drop (k+1)=(C.drop k).drop 1:=by exact V zY rfl
   refine V this (V hd ?_);rfl
  have e3:k+(t+1)=k+1+t:=by lia
  refine ih as.tail D.tail U (k+1) m j6 m6 kG kG G zm Tu (by refine V al2 (V al2<|V (Nat.sub_max_sub_right ..) ?_);exact congrArg Nat.pred ht) qG λkZ oN nQ r_ oO ud nP K4 t7=>?_
  rw[<-e3] at ud
  exact bB kZ oN nQ r_ oO ud (y.trans<|cZ.trans<|c_.trans<|fL.trans nP) K4 t7
end
inductive dQ where
 |eK
 |pr (c:af) (g:List Tk) (e:af) (h:List Tk) (b:Bool)
def dQ.data:dQ->af
 | .eK=> .tuple [.none,.none,.none]
 | .pr c g e h b=> .tuple [.tuple [c,.str (sL<|aq g)],.tuple [e,.str (sL<|aq h)],.bool b]
def wX(a f:Nat)(n:af)(G:List Tk):Prop:=ko n/\jF Z G/\(∀t∈G,t.ok)/\(aq G).length<=10^4/\dj G<=(f+1)*a
def dQ.ok(a f:Nat):dQ->Prop
 | .eK=>True
 | .pr c g e h _=>wX a f c g/\wX a f e h
def dQ.out(a f:Nat):dQ->List af
 | .eK=>[.tuple [.none,.none,.none]]
 | .pr c g e h b=>oq (.bool b) (max (di a f c g).length (di a f e h).length) ((di a f c g).map eG)<|(di a f e h).map eG
theorem af4(a:Nat) b num G:(rZ a b num G).length<=b+1:=by
 induction b generalizing num G with
 |zero=>
  exact bM _
 |succ f c=>
  simp only[DT,DU]
  split
  ·simp
  ·have:=c (.str ">") (dF (cM a Z G).2.2++(cM a Z G).2.1);exact Vq<|by assumption
theorem Rz(a f num G):(di a f num G).length<=f+1:=by
 unfold di
 split
 ·exact af4 a f num G
 ·simp
inductive RA{C:Type _}:List C->Prop
 |mk (U a1 a2 a3 M B o R L N i:C):RA [U,a1,a2,a3,M,B,o,R,L,N,i]
theorem af5{C:Type _}{l:List C}(h:l.length=11):RA l:=by
 refine az (Gr 5 l) ?_
 have f:(l.take 5).length=5:=by refine V qV (V h ?_);rfl
 have g:(l.drop 5).length=6:=by exact V kM<|V h rfl
 generalize l.take 5=x at f ⊢
 generalize l.drop 5=y at g ⊢
 obtain⟨a,b,c,d,e⟩:=Ik f
 obtain⟨z,y,h⟩:=yy g
 obtain⟨j,k,m,n,p⟩:=Ik h
 exact .mk ..
section
variable {w:aC} {d:Nat} {U a1 a2 a3 M B o R L N i:Option AV} {μ:List (Option AO)}
theorem RB(h:P (match x with| .none=>true|_=>false) ⟨[U,a1,a2,a3,Y (.d x),B,o,R,L,N,i],μ⟩):WT w d Ew ⟨[U,a1,a2,a3,Y (.d x),B,o,R,L,N,i],μ⟩ P:=by
 skip;walk_at "w"
 exact ah _ rfl<|WL.HT<|WL.tB h
theorem af6(h:Q .nx ⟨[U,a1,Y (.d<|.tuple [c,b]),Y (.d<|.tuple [e,f]),M,Y (.d c),Y (.d b),Y (.d e),Y (.d f),N,i],μ⟩):
  WS w d Jv ⟨[U,a1,Y (.d<|.tuple [c,b]),Y (.d<|.tuple [e,f]),M,B,o,R,L,N,i],μ⟩ Q:=by
 have a:=bI
 skip;walk_at "w"
 refine qZ _ rfl _ rfl _ rfl (by refine V a ?_;refine(?_:2<=16777216);decide) ⟨rfl,?_⟩
 walk_at "w"
 exact bJ rfl rfl h
theorem af7(h:Q .nx ⟨[U,a1,a2,a3,M,B,o,R,L,Y (.m μ.length),Y (.m<|μ.length+1)],μ++[Y (.ai []),Y (.ai [])]⟩):WS w d Jw ⟨[U,a1,a2,a3,M,B,o,R,L,N,i],μ⟩ Q:=by
 have a:=bI
 skip;walk_at "w"
 refine cJ [] rfl (by refine V a ?_;decide) [] rfl<|g5 (by refine V a ?_;decide) (by refine V a ?_;refine(?_:2<=16777216);decide) rfl ?_
 have e:μ++[Y (AO.ai [])]++[Y (AO.ai [])]=μ++[Y (AO.ai []),Y (AO.ai [])]:=by simp
 have b:(μ++[Y (AO.ai [])]).length=μ.length+1:=by simp
 refine(?_:Q .nx ⟨[U,a1,a2,a3,M,B,o,R,L,Y (.m μ.length),Y (.m (μ++[Y (AO.ai [])]).length)],μ++[Y (AO.ai [])]++[Y (AO.ai [])]⟩)
 refine V e (V b ?_);exact h
theorem af8(c:k<=d)(e:tu w k (.ref 65) (.bF b a) [] (.d n) (.d x) xs)(f:μ[j]?=Y (Y<|.ai []))
  (h:Q .nx ⟨[Y (.bF b a),a1,a2,a3,M,Y (.d n),Y (.d x),R,L,Y (.m j),i],μ.set j<|Y<|.ai xs⟩):WS w d Jx ⟨[Y (.bF b a),a1,a2,a3,M,Y (.d n),Y (.d x),R,L,Y (.m j),i],μ⟩ Q:=by
 skip;walk_at "w"
 exact bR IU _ rfl<|bR rfl _ rfl<|bG _ rfl _ rfl<|WL.Ij rfl rfl rfl f c e h
theorem af9(c:k<=d)(e:tu w k (.ref 65) (.bF b a) [] (.d n) (.d x) xs)(f:μ[j]?=Y (Y<|.ai []))
  (h:Q .nx ⟨[Y (.bF b a),a1,a2,a3,M,B,o,Y (.d n),Y (.d x),N,Y (.m j)],μ.set j<|Y<|.ai xs⟩):WS w d Jy ⟨[Y (.bF b a),a1,a2,a3,M,B,o,Y (.d n),Y (.d x),N,Y (.m j)],μ⟩ Q:=by
 skip;walk_at "w"
 exact bR IU _ rfl<|bR rfl _ rfl<|bG _ rfl _ rfl<|WL.Ij rfl rfl rfl f c e h
end
section
variable {c:Cx} {J:FM} {S:ak} {h:ao} {C:List af} {A:cR} {sz:Int} {a f:Nat}
noncomputable abbrev JB:pW->bT Fin:=λf=> .pure<|.done<|.ret (match f with| .ret v=>v|_=> .none)
noncomputable abbrev JC(b:dw):aa->bT Fin:=λe=>(xq b e).wrap (λk7=> .raise e) .raise id id
abbrev yT(c:Cx):xh:= .func (cF<|aM 72) c.aj
abbrev mY(c:Cx)(p:aV):List z0:=[.ret (Jt c.aj (λf=>match f with| .next=>(kc [] c.aj).wrap JB (JC c.aj) id id|f=>JB f) (JC c.aj) id id) Z false [] (yT c) p []]
abbrev kC(c:Cx)(it:aa):xh:= .forLoop iR.1 it iR.2.2.1 [] c.aj
structure tP(A:cR)(c:Cx):Prop where
 hand:A.handled=Z
 iK:A.depth+1+c.d<=900/\A.units+3+8*c.d<=6000
 kind:c.aj.scope.kind= .function
 kg:c.aj.globals=gW
 blt:c.aj.builtins=nV
 co:c.aj.scope.isCoroutine=false
theorem tP.for(g:tP A c)(it:aa)(p:aV):aW (c.on<|A.over (kC c it)<|mY c p):=
 ⟨by simp[Cx.on,Vr,Vs,Vt,markOver,g.hand],by have:=g.iK;exact la 0x4a38408109180110e102042842460 [_,_] rfl this.1,by have:=g.iK;exact la 0x4a05dc030424e004405dc030420e16024e0 [_,_] rfl this.2,⟨g.iK.1,g.iK.2⟩,g.kind,g.kg,g.blt⟩
theorem tP.rG(g:tP A c)(it:aa)(p av:aV){K:pW->bT Fin}{b:aa->bT Fin}:aW (c.on<|A.over (yS c)<|wW c K b (kC c it) av<|mY c p):=
 ⟨by simp[Cx.on,Vr,Vs,Vt,markOver,g.hand],by have:=g.iK;exact la 0x4a38408109180110e102042842460 [_,_] rfl this.1,by have:=g.iK;exact la 0x4a05dc030424e004405dc030420e16024e0 [_,_] rfl this.2,⟨g.iK.1,g.iK.2⟩,g.kind,g.kg,g.blt⟩
theorem tP.fun(g:tP A c):aW (c.on<|A.over (yT c) []):=
 ⟨by simp[Cx.on,Vr,Vs,Vt,markOver,g.hand],by have:=g.iK;exact la 0x4a38408109180110e102042842460 [_,_] rfl this.1,by have:=g.iK;exact la 0x4a05dc030424e004405dc030420e16024e0 [_,_] rfl this.2,⟨g.iK.1,g.iK.2⟩,g.kind,g.kg,g.blt⟩
theorem RC{U a1 a2 a3 M B o R L N i:Option AV}{μ:List (Option AO)}{x y z:af}{K:St->Prop}(aU:K ⟨[U,a1,Y (.d x),Y (.d y),Y (.d z),B,o,R,L,N,i],μ⟩):
  asg Ez (.d<|.tuple [x,y,z]) ⟨[U,a1,a2,a3,M,B,o,R,L,N,i],μ⟩ K:=by
 skip;walk_at "w"
 exact⟨rfl,aU⟩
theorem aga(gc:tP A c)(so:bA dP c)(hS:∀p∈h,p.1≠S)(it:aa)(p:aV){kk:Nat}(Fc:kk<=c.d)(Fd:∀n G,wX a f n G->tu c.w kk (.ref 65) (.bF sz a) [] (.d n) (.s<|sL<|aq G) ((di a f n G).map eG))(hf:f<=9000)
  (gF:∀jl iU jJ nU w hs,jg c dP.N J S h C hs C.length 0 nU jl iU jJ->dM (aX pw c.w) A (GR c.w J S h C c.g c.os) (GY c.w J S h C c.g c.os) 0 w (yT c) ((kc [] c.aj).wrap JB (JC c.aj) id id) [] jJ):
  ∀(j:List dQ) (q:St) (k n:Nat) (cN:FM) (aJ:List ak) (s w:au) (hs:ao),(∀r∈j,r.ok a f)->jg c dP.N J S h C hs k n q cN aJ s->q.v.length=11->q.v[0]?=Y (Y<|.bF sz a)->
   C.drop k=(j.map<|dQ.out a f).flatten->Nx c.w (A.over (kC c it)<|mY c p) cN iR.1 it (j.map dQ.data) hs->
   dM (aX pw c.w) A (GR c.w J S h C c.g c.os) (GY c.w J S h C c.g c.os) n w (kC c it) ((aX pw c.w).den<|kC c it) (mY c p) s:=by
 intro j
 induction j with
 |nil=>
  intro q k n cN aJ s w hs ho g hl h0 hd nx
  refine aD g.tN λl I r=>?_
  have K7:k=C.length/\n=0:=by
   have h1:(C.drop k).length=0:=by refine V hd ?_;rfl
   rw[kM] at h1
   have:=g.cnt;exact⟨dK (gV.mp<|li 0x4a8630448900470a38a0046860 [_,_,_,_] rfl (Li.ce this) (Li.ca _ _)<|Li.cp _)<|gV.mp<|li 0x4a8e10460a38220448a1046420 [_,_,_,_] rfl (Li.ce h1) (Li.cl<|La.ls _ _)<|Li.ca _ _,dK (gV.mp<|li 0x4a4240460a58230470a59210448e20468a1046420 [_,_,_,_,_,_] rfl (Li.ce h1) (Li.ce this) (Li.cl<|La.ls _ _) (Li.ca _ _)<|Li.ca _ _)<|gV.mp<|li 0x4a810044810 [_] rfl<|Li.cp _⟩
  refine Ea K7 λe' iB=>?_;clear K7;clear hd;subst e';subst iB
  have D:∀p∈(S,l)::h,p.1∉hs.map (·.1):=λp hp aU=>by
   refine aD (bg.mp aU) λav hq e=>?_
   clear aU;rcases iX.mp hp with rfl|hp
   ·exact(g.apart av hq).1 e
   ·exact(g.apart av hq).2 p hp e.symm
  refine Rg (E:=λx s'=>dM (aX pw c.w) A (GR c.w J S h C c.g c.os) (GY c.w J S h C c.g c.os) 0 w (kC c it) (yR c.aj x) (mY c p) s') (λk7 k7 e=>e) ?_
  refine kK (n:=1) g.tk<|nx (c.on<|A.over (kC c it)<|mY c p) dP.N ((S,l)::h) q cN aJ s _ _ rfl rfl (gc.for it p) (FM.le.refl _) I.on D λdJ cI=>?_
  intro dY
  exact afH<|gF cN aJ dJ q w [] ⟨g.le,by exact zq _ _,(ah l cI.cU r),(λk7 aU=>nomatch aU),dY⟩
 |cons TH j ih=>
  intro q k n cN aJ s w hs ho g hl h0 hd nx
  refine aD g.tN λl I r=>?_
  have D:∀p∈(S,l)::h,p.1∉hs.map (·.1):=λp hp aU=>by
   refine aD (bg.mp aU) λav hq e=>?_
   clear aU;rcases iX.mp hp with rfl|hp
   ·exact(g.apart av hq).1 e
   ·exact(g.apart av hq).2 p hp e.symm
  have ok:=gc.for it p
  have fC:bA dP (c.on<|A.over (kC c it)<|mY c p):=so.on
  have kd:c.aj.scope.kind= .function:=gc.kind
  have Tw:=ho TH aZ
  have K8:∀r∈j,r.ok a f:=λx hx=>ho x<|a_ _ hx
  have next:∀kZ oN nQ t oO d k' n',FM.le cN kZ->jg c dP.N J S h C d k' n' t kZ oN nQ->t.v.length=11->t.v[0]?=Y (Y<|.bF sz a)->C.drop k'=(j.map<|dQ.out a f).flatten->
    Nx c.w (A.over (kC c it)<|mY c p) kZ iR.1 it (j.map dQ.data) d->dM (aX pw c.w) A (GR c.w J S h C c.g c.os) (GY c.w J S h C c.g c.os) n' oO (kC c it) (.pure<|.again<|kC c it) (mY c p) nQ:=
   λkZ oN nQ t oO d k' n' kk' ud K4 t7 aje ai8=>Vp rfl<|ih t k' n' kZ oN nQ oO d K8 ud K4 t7 aje ai8
  let E0:aa->au->Prop:=λx s'=>dM (aX pw c.w) A (GR c.w J S h C c.g c.os) (GY c.w J S h C c.g c.os) n w (kC c it) (yR c.aj x) (mY c p) s'
  refine Rg (E:=E0) (λk7 k7 e=>e) ?_
  refine cQ (ur (n:=1) g.tk<|nx (c.on<|A.over (kC c it)<|mY c p) dP.N ((S,l)::h) q cN aJ s (λr fV=>0<fV.toks->∃v,r=Y v/\aF (aX pw c.w) (A.over (kC c it)<|mY c p) (pX iR.1 c.aj v) (λk7 dJ=>
    dM (aX pw c.w) A (GR c.w J S h C c.g c.os) (GY c.w J S h C c.g c.os) n w (kC c it) ((kc iR.2.2.1 c.aj).wrap (λf=>match f with
      | .next| .cont=> .pure (.again<|kC c it)
      | .brk=> .pure (.done .next)
      | .ret v=> .pure<|.done<|.ret v) (yR c.aj) id id) (mY c p) dJ) E0 fV) _ E0 rfl rfl ok (FM.le.refl _) I.on D λfB d v dJ cZ cI BA cG nR dY=>(ah v rfl ?_)) (λr fV y=>?_) λk7 k7 y=>y.2
  ·have Tv:∀p∈d,p.1≠S/\∀av∈h,av.1≠p.1:=λav hq=>by
    have:av.1∈hs.map (·.1):=by refine az BA ?_;exact bg.mpr<|ah av hq rfl
    refine aD (bg.mp this) λq' hq' e=>?_
    refine az e ?_;exact g.apart q' hq'
   obtain⟨v0,μ⟩:=q
   obtain⟨U,a1,a2,a3,M,B,o,R,L,N,i⟩:=af5 hl
   have EZ:Y U=Y (Y<|AV.bF sz a):=h0
   clear I h0 hl;cases EZ
   clear ho nx;cases TH with
   |eK=>
    have K5:=Ez.ok (h:=d++(S,l)::h) ok fC Ru (u:= .d<|.tuple [.none,.none,.none]) (K:=λnU=>nU=⟨[Y (.bF sz a),a1,Y (.d .none),Y (.d .none),Y (.d .none),B,o,R,L,N,i],μ⟩)<|RC (U:=Y<|.bF sz a) (a1:=a1) (a2:=a2) (a3:=a3) (M:=M) (B:=B) (o:=o) (R:=R) (L:=L) (N:=N) (i:=i) (μ:=μ) rfl
    refine P1.bw K5 cI dY cG λh_ iz fV k7 k7 t6 c_ eV gq iT k7 jh=>?_
    subst jh
    have E_:jg c dP.N J S h C d k n _ h_ iz fV:=⟨g.le.trans<|cZ.trans c_,g.cnt,(ah l gq.cU<|r.le<|cZ.trans c_),Tv,iT⟩
    refine V Rp ?_
    have lV:C[k]?=Y (.tuple [.none,.none,.none]):=by
     have:(C.drop k)[0]?=Y (.tuple [.none,.none,.none]):=by refine V hd ?_;rfl
     rw[vM] at this;simpa using this
    clear E0;obtain⟨m,rfl⟩:∃m,n=m+1:=⟨n-1,by have:=(fF.mp lV).1;have:=g.cnt;lia⟩
    refine qa<|Rl E_ (Q:=λx j4=>x=true/\j4=⟨[Y (.bF sz a),a1,Y (.d .none),Y (.d .none),Y (.d .none),B,o,R,L,N,i],μ⟩) (λqH=>Ew.ok ok fC Rr<|RB ⟨rfl,rfl⟩) λj6 m6 kG x j4 zm fL pP=>?_
    refine Ea pP λe' iB=>?_;clear pP;subst e';subst iB
    refine WL.cy rfl<|qa<|Rm zm (Q:=λu t=>t=⟨[Y (.bF sz a),a1,Y (.d .none),Y (.d .none),Y (.d .none),B,o,R,L,N,i],μ⟩) hS rfl rfl rfl gc.co kd (λqH=>Bo.ok ok fC afQ<|Ry rfl rfl rfl<|bk _ rfl lV rfl) λkZ oN nQ u t ud nP ajf=>?_
    subst ajf
    refine qa<|afJ ⟨[Y (.bF sz a),a1,Y (.d .none),Y (.d .none),Y (.d .none),B,o,R,L,N,i],μ⟩ ud (λqH Q aU=>bq.cnt aU) λtY w5 oO Fb m7=>?_
    have qG:C.drop (k+1)=(j.map<|dQ.out a f).flatten:=by
     have:C.drop (k+1)=(C.drop k).drop 1:=by exact V zY rfl
     refine V this (V hd ?_);rfl
    exact next tY w5 oO _ _ d (k+1) m (cZ.trans<|c_.trans<|fL.trans<|nP.trans m7) Fb rfl rfl qG (nR.aO<|c_.trans<|fL.trans<|nP.trans m7)
   |pr n1 t1 n2 t2 b=>
    have T1:af:= .tuple [n1,.str (sL<|aq t1)]
    have K5:=Ez.ok (h:=d++(S,l)::h) ok fC Ru (u:= .d<|.tuple [.tuple [n1,.str (sL<|aq t1)],.tuple [n2,.str (sL<|aq t2)],.bool b]) (K:=λnU=>nU=⟨[Y (.bF sz a),a1,Y (.d<|.tuple [n1,.str (sL<|aq t1)]),Y (.d<|.tuple [n2,.str (sL<|aq t2)]),Y (.d<|.bool b),B,o,R,L,N,i],μ⟩)<|RC (U:=Y<|.bF sz a) (a1:=a1) (a2:=a2) (a3:=a3) (M:=M) (B:=B) (o:=o) (R:=R) (L:=L) (N:=N) (i:=i) (μ:=μ) rfl
    refine P1.bw K5 cI dY cG λh_ iz fV k7 k7 t6 c_ eV gq iT k7 jh=>?_
    subst jh
    have E_:jg c dP.N J S h C d k n _ h_ iz fV:=⟨g.le.trans<|cZ.trans c_,g.cnt,(ah l gq.cU<|r.le<|cZ.trans c_),Tv,iT⟩
    refine V Rp ?_
    refine qa<|Rl E_ (Q:=λx j4=>x=false/\j4=⟨[Y (.bF sz a),a1,Y (.d<|.tuple [n1,.str (sL<|aq t1)]),Y (.d<|.tuple [n2,.str (sL<|aq t2)]),Y (.d<|.bool b),B,o,R,L,N,i],μ⟩) (λqH=>Ew.ok ok fC Rr<|RB ⟨rfl,rfl⟩) λj6 m6 kG x j4 zm fL pP=>?_
    refine Ea pP λe' iB=>?_;clear pP;subst e';subst iB
    refine WL.bK (by decide)<|Gx ?_
    refine qa<|Es ⟨[Y (.bF sz a),a1,Y (.d<|.tuple [n1,.str (sL<|aq t1)]),Y (.d<|.tuple [n2,.str (sL<|aq t2)]),Y (.d<|.bool b),Y (.d n1),Y (.d<|.str<|sL<|aq t1),Y (.d n2),Y (.d<|.str<|sL<|aq t2),N,i],μ⟩ zm (λqH Q aU=>Jv.ok ok fC afS<|af6 aU) λkZ oN nQ ud nP=>?_
    refine qa<|Es ⟨[Y (.bF sz a),a1,Y (.d<|.tuple [n1,.str (sL<|aq t1)]),Y (.d<|.tuple [n2,.str (sL<|aq t2)]),Y (.d<|.bool b),Y (.d n1),Y (.d<|.str<|sL<|aq t1),Y (.d n2),Y (.d<|.str<|sL<|aq t2),Y (.m μ.length),Y (.m<|μ.length+1)],μ++[Y (AO.ai []),Y (AO.ai [])]⟩ ud (λqH Q aU=>Jw.ok ok fC afT<|af7 aU) λtY w5 oO Fb m7=>?_
    have f1:=Fd n1 t1 Tw.1
    have f2:=Fd n2 t2 Tw.2
    have m1:(μ++[Y (AO.ai []),Y (AO.ai [])])[μ.length]?=Y (Y<|AO.ai []):=by refine V (kJ<|bM _) ?_;simp
    have m2:((μ++[Y (AO.ai []),Y (AO.ai [])]).set μ.length<|Y<|AO.ai<|(di a f n1 t1).map eG)[μ.length+1]?=Y (Y<|AO.ai []):=by
     refine V (gX<|by lia) (V (kJ<|by exact sH _) ?_);simp
    refine qa<|Es ⟨[Y (.bF sz a),a1,Y (.d<|.tuple [n1,.str (sL<|aq t1)]),Y (.d<|.tuple [n2,.str (sL<|aq t2)]),Y (.d<|.bool b),Y (.d n1),Y (.d<|.str<|sL<|aq t1),Y (.d n2),Y (.d<|.str<|sL<|aq t2),Y (.m μ.length),Y (.m<|μ.length+1)],(μ++[Y (AO.ai []),Y (AO.ai [])]).set μ.length<|Y<|AO.ai<|(di a f n1 t1).map eG⟩ Fb
     (λqH Q aU=>Jx.ok ok fC afU<|af8 (n:=n1) (x:= .str<|sL<|aq t1) Fc f1 m1 aU) λamH amI amJ Tz TA=>?_
    refine qa<|Es ⟨[Y (.bF sz a),a1,Y (.d<|.tuple [n1,.str (sL<|aq t1)]),Y (.d<|.tuple [n2,.str (sL<|aq t2)]),Y (.d<|.bool b),Y (.d n1),Y (.d<|.str<|sL<|aq t1),Y (.d n2),Y (.d<|.str<|sL<|aq t2),Y (.m μ.length),Y (.m<|μ.length+1)],((μ++[Y (AO.ai []),Y (AO.ai [])]).set μ.length<|Y<|AO.ai<|(di a f n1 t1).map eG).set (μ.length+1)<|Y<|AO.ai<|(di a f n2 t2).map eG⟩ Tz
     (λqH Q aU=>Jy.ok ok fC afV<|af9 (n:=n2) (x:= .str<|sL<|aq t2) Fc f2 m2 aU) λai9 aja ajg ajh TF=>?_
    have hl1:=Rz a f n1 t1
    have hl2:=Rz a f n2 t2
    have BX:((μ++[Y (AO.ai []),Y (AO.ai [])]).length)=μ.length+2:=by simp
    have LW:tO ⟨[Y (.bF sz a),a1,Y (.d<|.tuple [n1,.str (sL<|aq t1)]),Y (.d<|.tuple [n2,.str (sL<|aq t2)]),Y (.d<|.bool b),Y (.d n1),Y (.d<|.str<|sL<|aq t1),Y (.d n2),Y (.d<|.str<|sL<|aq t2),Y (.m μ.length),Y (.m<|μ.length+1)],((μ++[Y (AO.ai []),Y (AO.ai [])]).set μ.length<|Y<|AO.ai<|(di a f n1 t1).map eG).set (μ.length+1)<|Y<|AO.ai<|(di a f n2 t2).map eG⟩ sz a μ.length (μ.length+1) ((di a f n1 t1).map eG) ((di a f n2 t2).map eG) (.bool b):=
     ⟨rfl,rfl,rfl,rfl,rfl,by exact V (gX<|by lia)<|V (qN<|by refine V BX ?_;exact sH _) rfl,by exact V (qN<|by refine V ug (V BX ?_);exact bM _) rfl,by lia,by refine V (bC ..) ?_;exact la 0x4a09c40306104409182104408ca03060 [_,_] rfl hf hl1,by refine V (bC ..) ?_;exact la 0x4a09c40306104409182104408ca03060 [_,_] rfl hf hl2⟩
    have K6:C.drop k=oq (.bool b) (max (di a f n1 t1).length (di a f n2 t2).length) ((di a f n1 t1).map eG) ((di a f n2 t2).map eG)++(j.map<|dQ.out a f).flatten:=by refine V hd ?_;rfl
    have hn:∃m,n=max (di a f n1 t1).length (di a f n2 t2).length+m/\m=(j.map<|dQ.out a f).flatten.length:=by
     have h1:=congrArg xw K6
     rw[kM,bQ,Rv] at h1
     have:=g.cnt
     exact ah _ (by exact dK (la 0x4a0a28630479429200469429230460a2860 [_,_,_,_,_,_] rfl h1 this<|aY<|la 0x4a8a1046882860 [_,_,_] rfl this)<|la 0x4a8c28a10469429200479429230470a2860 [_,_,_,_,_,_] rfl h1 this<|aY<|la 0x4a8a1046882860 [_,_,_] rfl this) rfl
    refine aD hn λm e' hm=>?_;clear hn;clear E0 g E_ zm ud Fb Tz;subst e'
    refine qa<|seg_While λav=>?_
    refine af3 so kd gc.co hS av rfl rfl (gc.rG it p av) (max (di a f n1 t1).length (di a f n2 t2).length) _ _ _ k m ai9 aja ajg w _ ajh LW (by exact V (bC ..)<|V (bC ..) rfl) K6 λajb ajc aji ajd ai7 ajj TG ajk ajl=>?_
    refine Gx ?_
    have qG:C.drop (k+max (di a f n1 t1).length (di a f n2 t2).length)=(j.map<|dQ.out a f).flatten:=by
     exact az zY<|V K6<|V (Mr<|Rv _ _ _ _) rfl
    exact next ajb ajc aji ajd ai7 d _ m (cZ.trans<|c_.trans<|fL.trans<|nP.trans<|m7.trans<|TA.trans<|TF.trans TG) ajj ajk ajl qG (nR.aO<|c_.trans<|fL.trans<|nP.trans<|m7.trans<|TA.trans<|TF.trans TG)
  ·obtain⟨iT,y⟩:=y
   obtain⟨v,rfl,y⟩:=y
   exact cQ (ur (n:=1) iT y) (λk7 kG z=>by
    obtain⟨qD,z⟩:=z
    obtain⟨v',e',z⟩:=z qD
    cases e'
    exact z) λk7 k7 z=>z.2
theorem agb(gc:tP A c)(so:bA dP c)(hS:∀p∈h,p.1≠S)(Fc:kk<=c.d)(Fd:∀n G,wX a f n G->tu c.w kk (.ref 65) (.bF sz a) [] (.d n) (.s<|sL<|aq G) ((di a f n G).map eG))(hf:f<=9000)
  (b:List dQ)(D:∀r∈b,r.ok a f)(lV:C=(b.map<|dQ.out a f).flatten)(hφ:FM.le J M)
  (I:aH c dP.N ((S,l)::h) ⟨[Y (.bF sz a),Y (.d<|.list<|b.map dQ.data),Z,Z,Z,Z,Z,Z,Z,Z,Z],[]⟩ M aJ s)(ha:gK M l (.ai []))(tk:0<s.toks):
  dM (aX pw c.w) A (GR c.w J S h C c.g c.os) (GY c.w J S h C c.g c.os) C.length N (yT c) ((aX pw c.w).den<|yT c) [] s:=by
 have ok:=gc.fun
 have fC:bA dP (c.on<|A.over (yT c) []):=so.on
 refine seg_func ?_
 have e:kc (cF<|aM 72) c.aj=kc [.For iR.1 iR.2.1 iR.2.2.1 [] iR.2.2.2] c.aj:=by exact az afL rfl
 refine V e<|
  qa (afG (wB afZ _)<|
  aN.bw ((X.v 1).ok (e:=iR.2.1) (q:=⟨[Y (.bF sz a),Y (.d<|.list<|b.map dQ.data),Z,Z,Z,Z,Z,Z,Z,Z,Z],[]⟩) (Q:=(λu i=>u= .l (b.map dQ.data)/\i=⟨[Y (.bF sz a),Y (.d<|.list<|b.map dQ.data),Z,Z,Z,Z,Z,Z,Z,Z,Z],[]⟩)) ok fC afY<|bk _ rfl rfl rfl) I.on tk λj E d v u i x gr k K R av=>?_)
 refine Ea av λe' iB=>?_;clear av;subst e';subst iB
 obtain⟨la,lvs,ln,gl,rl⟩:=xS R
 refine akp (g8 _ (k.keep _ _ gl) rfl _ rfl)<|
  Ea (k.CZ (o:={cls:= .type "list_iterator",data:= .fields #[.ref la,.int 0 0]}) rfl d.toks) λy t=>?_
 intro p
 have U:Nx c.w (A.over (kC c<|.ref d.heap.objs.size)<|mY c p) j iR.1 (.ref d.heap.objs.size) (b.map dQ.data) [(d.heap.objs.size,{cls:= .type "list_iterator",data:= .fields #[.ref la,.int 0 0]})]:=by
  have:=NH (w:=c.w) (A:=A.over (kC c<|.ref d.heap.objs.size)<|mY c p) (B:=iR.1) (I:=d.heap.objs.size) gl rl 0 {cls:= .type "list_iterator",data:= .fields #[.ref la,.int 0 0]} (eL _) rfl rfl
  rwa[nY] at this
 generalize EU:([(d.heap.objs.size,({cls:= .type "list_iterator",data:= .fields #[.ref la,.int 0 0]}:bh))]:ao)=hs at y t U
 refine aga gc so hS (.ref d.heap.objs.size) p Fc Fd hf (λL iA dJ ajq amL By z=>?_) b _ 0 C.length j E _ N hs D ⟨hφ.trans x,rfl,(ah l y.cU<|ha.le x),λp hp=>⟨?_,λav hq=>?_⟩,K⟩ rfl rfl (V nY lV) U
 ·refine Gx<|seg_end (.ok<|.ret .none) ⟨rfl,(
   aD z.tN λTJ g cG=>
   cC g λjO m g=>?_)⟩
  refine⟨L,TJ,rfl,z.le,g.base.sub λp hp=>g.sub p<|gw _ hp,?_,g.gens,g.os⟩
  have:=cG
  rw[Gj] at this
  exact this
 ·exact λe=>t (S,l) aZ<|bg.mpr<|ah p hp e
 ·exact λe=>t av (a_ _ hq)<|bg.mpr<|ah p hp e.symm
end
end
section
variable {w:aC} {A:cR} {J:FM} {S I:ak} {h:ao} {C:List af} {q:Array sq} {os:xj}
theorem agc(hh:A.handled=Z)(z:A.depth<alP){TL:aa}(hS:∀p∈h,p.1≠S){D:bh}(hI:J I=Y D)(hgc:D.cls= .type "generator"){nm qn:aa}(KY:D.data= .fields #[.int q.size 0,nm,qn])(hgs:D.slots=#[])(hz:C.length<=aL){R:sN->au->Prop}
  (hR:∀s' r l,FM.le J r->bz w r ((S,l)::h) s'.heap->gK r l (.ai C)->s'.gens=q.push .finished->s'.os=os->R (.ok<|.ret TL) s'):
  ∀(j k:Nat) (s:au) (r:FM) (l:bh) (M:sq),j+k=C.length->FM.le J r->bz w r ((S,l)::h) s.heap->gK r l (.ai<|C.take k)->s.gens=q.push M->s.os=os->0<s.toks->
   M.Goes (aX pw w) A.in1.in1 (GR w J S h C (q.push .running) os) (GY w J S h C (q.push .running) os) j (.send .none) (s.setGen q.size .running)->
   iY (aX pw w) A (.builtin "list.extend.loop" ⟨[.ref S,.ref I,TL],[]⟩) R s:=by
 have E:∀{ψ:FM} {jO:ao} {aU:fk},FM.le J ψ->bz w ψ jO aU->aU.IsGen I q.size:=λk B=>(xG D nm qn (B.keep _ _<|k _ _ hI) hgc KY hgs)
 have u:∀(s:au) (x y:sq),s.gens=q.push x->(s.setGen q.size y).gens=q.push y:=λs x y e=>by
  refine(?_:s.gens.setIfInBounds q.size y=_)
  refine V e ?_
  apply al3
  ·simp
  ·intro i h1 h2
   simp only[al4,L8] at h1
   refine V (al5<|by simpa using h1) ?_
   by_cases av:q.size=i
   ·subst av;simp
   ·refine V (if_neg av) ?_
    have:i<q.size:=by exact la 0x4b860045860 [_,_] rfl<|xC (la 0x4a860045091860 [_,_] rfl h1)<|pU av
    exact V (Mz this)<|V (Mz this) rfl
 intro j
 induction j with
 |zero=>
  intro k s r l M L U B ha hg ho tk K9
  refine U8 al6 ?_
  refine V (al7 MA _) ?_
  refine aB<|al8 (A:=A.in1) hh (wh B.e7) z (E U B) (gs:=M) (by refine V hg ?_;simp) K9 (λv a K_ hv=>?_) λa hp h' hk=>?_
  ·obtain⟨N,m,d,t,g,hm,hd,rv,o,b,c,f,Lb⟩:=hv
   refine sU b λvs n e' rr=>?_;clear b;subst e'
   have gS:=o.led _ aZ
   exfalso
   refine Lb {a with heap:=a.heap.update S (pV (·.push v)),toks:=1} _ (sC ..) (zN _ gS rfl) (iI (vs.push v) _ rfl ?_) c f alA
   have e:C.take (N+1)=C.take N++[d]:=by refine V U9 (V hd ?_);rfl
   refine V e<|V Ly ?_
   exact rr.append<|.cons rv .nil
  ·obtain⟨m,t,_,g,o,b,c,f⟩:=hp
   refine bf<|hR _ m t g (o.aO hk) b ?_ f
   exact u a _ _ c
 |succ j ih=>
  intro k s r l M L U B ha hg ho tk K9
  refine U8 al6 ?_
  refine V (al7 MA _) ?_
  refine aB<|kK (n:=1) tk<|al8 (A:=A.in1) hh (wh B.e7) z (E U B) (gs:=M) (by refine V hg ?_;simp) K9 (λv a K_ hv=>?_) λa hp h' hk=>?_
  ·obtain⟨N,m,d,t,g,hm,hd,rv,o,b,c,f,Lb⟩:=hv
   intro G
   refine sU b λvs n e' rr=>?_;clear b;subst e'
   have gS:=o.led _ aZ
   have EW:N=k:=by exact dK (la 0x4a864047091802463046882442923047882842460 [_,_,_,_,_] rfl L hm<|aY<|la 0x4a091811 [_] rfl)<|la 0x4a921046091802463047882442923046882842460 [_,_,_,_,_] rfl L hm<|aY<|la 0x4a091811 [_] rfl
   clear ha L;subst EW
   have e:C.take (N+1)=C.take N++[d]:=by refine V U9 (V hd ?_);rfl
   have ua:vs.size=N:=by refine az fN (V rr.length<|V qV ?_);exact dK (la 0x4a860046860 [_,_] rfl<|zQ<|la 0x4a8a1046882442860 [_,_,_] rfl hm)<|la 0x4a821047860 [_,_] rfl<|zQ<|la 0x4a8a1046882442860 [_,_,_] rfl hm
   refine aB ?_
   have K:gK m (pV (·.push v) {cls:= .type "list",data:= .seq vs n}) (.ai<|C.take<|N+1):=(iI (vs.push v) _ rfl<|by refine V e (V Ly ?_);exact rr.append<|.cons rv .nil)
   have uc:pS S a.heap (a.heap.update S (pV (·.push v))):=sC ..
   have Q:=zN (pV (·.push v)) gS rfl
   refine Ge gS rfl (bf ⟨al9 MA _,ih (N+1) _ m _ K_ (by assumption) g ?_ K (u a _ _ c) f G ?_⟩) (by refine V ua ?_;lia)<|by refine V (L8 ..) (V ua ?_);lia
   ·have:=o.update aZ uc Q
    rw[show ao.jx ((S,_)::h) S _=_ from ao.Ri (hs:=[]) (λ_ aU=>nomatch aU) hS] at this
    exact this
   ·refine Lb _ _ uc Q K ?_ f G
    exact u _ K_ _<|u a _ _ c
  ·cases hp;cases ‹j+1=0›
end
section
variable {c:xg} {w:aC} {A:cR} {s:au} {S I:ak} {g:Nat} {E:aa->au->Prop}
theorem agd{R:sN->au->Prop}(k:s.heap.get? S=Y {cls:= .type "list",data:= .seq #[]})(m:s.heap.IsGen I g)(l:S≠I)
  (K:∀i n,pS S s.heap i->i.get? S=Y {cls:= .type "list",data:= .seq #[] n}->iY (aX c w) A (.builtin "list.extend.loop" ⟨[.ref S,.ref I,.none],[]⟩) R {s with heap:=i}):
  aF (aX c w) A.in1 (Cs.«list.__init__» ⟨[.ref S,.ref I],[]⟩)
   (λo s'=>match o with| .done f=>R (.ok f) s'| .again q=>q.quiet=true/\iY (aX c w) A q R s') (λe s'=>R (.error e) s') s:=by
 refine aB ?_
 refine aB<|Ma k rfl<|bf ?_
 refine aB<|Ge k rfl ?_
 have b:=zN (pV λ_=>(#[]:Array aa)) k rfl
 have d:pS S s.heap (s.heap.update S<|pV λ_=>(#[]:Array aa)):=sC ..
 refine aB<|wpAny_letGo ?_
 have a:=m.sameBut d<|pU l
 refine aB<|akd a.typeIs ?_
 have r:ama (.ref S) (.ref I)=false:=by simp[ama,l]
 have t:(MB "generator"==MB "list")=false:=by decide
 have u:(MB "generator"==MB "tuple")=false:=by decide
 simp only[r,t,u,LY,ly,if_false]
 refine aB<|wpAny_pyIter_gen a ?_
 refine aB<|j9 ?_
 refine aB<|Va a.typeIs F.gen_no_len ?_
 refine aB<|Va a.typeIs F.gen_no_hint ?_
 refine bf ?_
 show aF _ A.in1 (rule "list.extend.makes-room">>=λ_=>anh (.ref S)>>=λ_=>
  again (.builtin "list.extend.loop" ⟨[.ref S,.ref I,.none],[]⟩)) _ _ _
 refine aB<|uq ?_
 refine aB ?_
 refine aB<|Ge b rfl ?_
 have h:=zN (pV (·.push ux)) b rfl
 refine Ge (hz:=by seq_fits) h rfl ?_
 have j:=zN (pV (·.pop)) h rfl
 have p:pS S s.heap (((s.heap.update S<|pV λ_=>(#[]:Array aa)).update S (pV (·.push ux))).update S (pV (·.pop))):=
  (d.trans<|sC ..).trans (sC ..)
 refine bf ⟨al9 MA _,K _ _ p j⟩
theorem age{Q:aa->au->Prop}(m:s.heap.IsGen I g)
  (K:∀i n (R:sN->au->Prop),s.heap.objs.size<i.objs.size->(∀b o,s.heap.get? b=Y o->i.get? b=Y o)->i.get? s.heap.objs.size=Y {cls:= .type "list",data:= .seq #[] n}->(∀s',Q (.ref s.heap.objs.size) s'->R (.ok<|.ret .none) s')->
   iY (aX c w) A.in1 (.builtin "list.extend.loop" ⟨[.ref s.heap.objs.size,.ref I,.none],[]⟩) R {s with heap:=i}):
  aF (aX c w) A (f_ (.type "list") [.ref I]) Q E s:=by
 refine callType_codes (Q₁:=λd a=>d= .ref s.heap.objs.size/\a={s with heap:=s.heap.push {cls:= .type "list",data:= .seq #[]}}) F.called_list (F.typeCall_list_1 _) F.entry_list_init
  (code_list_new _ ⟨rfl,rfl⟩) λd a f=>?_
 obtain⟨rfl,rfl⟩:=f
 have k:(s.heap.push {cls:= .type "list",data:= .seq #[]}).get? s.heap.objs.size=Y {cls:= .type "list",data:= .seq #[]}:=qM _ rfl
 have h:I<s.heap.objs.size:=let ⟨o,_,_,l,_⟩:=m;iC l
 refine⟨⟨_,k,rfl⟩,F.args_list_init_2 _ _,agd (A:=A.in1) k (m.push _) (vJ h) λi n p j=>?_⟩
 refine K i n _ (by(refine V p.1 ?_;rw[sO]);exact lz _) (λb o e=>(p.2 b<|gu<|iC e).trans<|ie _ e) j λs' q=>?_
 exact⟨rfl,q⟩
end
section
open IR
def yU(w:aC)(k:Nat)(f:aa)(us:List AV)(C:List af):Prop:=
 ∀(A:cR) (J:FM) (h:ao) (s:au) (R:aa->au->Prop) (E:aa->au->Prop) (vs:List aa),A.handled=Z->A.depth+k<=900->A.units+8*k<=6000->
  bz w J h s.heap->b_ J [] vs us->0<s.toks->
  (∀D s' v,FM.le J D->bz w D h s'.heap->s'.gens=s.gens.push .finished->s'.os=s.os->RV D [] v (.l C)->R v s')->
  aF (aX pw w) A (f_ f vs) (λg a=>aF (aX pw w) A (f_ (.type "list") [g]) R E a) E s
theorem agf(w:aC)(sz:Int)(d f:Nat)(hc:0<d)(hf:f<=9000)(k:List dQ)(aju:∀r∈k,r.ok d f)(hl:((k.map<|dQ.out d f).flatten).length<=100000):
  yU w (f+4) (.ref 72) [.bF sz d,.d (.list<|k.map dQ.data)] ((k.map<|dQ.out d f).flatten):=by
 intro A J h s R E vs hh hd N B rs tk K
 have F:=afO
 refine aD (F.at w.params) λo ho KS=>?_
 have X:=B.e7
 obtain⟨v1,v2⟩:=tE rs.length
 refine gy rs λr1 r2 _=>?_;clear rs
 have ajv:∀n G,wX d f n G->tu w (f+1) (.ref 65) (.bF sz d) [] (.d n) (.s<|sL<|aq G) ((di d f n G).map eG):=λn G zz=>GB zz λt1 t2 t3 t4 t5=>by
  have:=adw w sz d hc f n G [] t1 t2 t3 aK (by simp;exact aK) t5
  simpa using this
 refine sM<|codeAny_call_generator (by exact la 0x4b3e808180110e102042094860 [_,_] rfl hd) (X _ _ ho) KS F.co (by kernel_rfl) F.body (LX X<|F.code _) ?_
 refine kK (n:=1) tk<|Gl X (afP _ [v1,v2] rfl) _ _ _ _ λ(ht:1<=s.toks)=>?_
 have ajt:∀x∈dP.N,dP.names.lookup x=Y .local:=by decide+kernel
 have Q:∀x∈dP.N,(aM 72).scope.names.lookup x=Y .local:=ajt
 refine alO (by decide+kernel) (λx M=>?_) (λh' w7 uc=>?_) F.kind
 ·exact Q _<|F0 (akF M).1
 have xd:∀b o,s.heap.get? b=Y o->h'.get? b=Y o:=λb o e=>(uc.2 b<|gu<|iC e).trans<|ie _ e
 refine sV (id w7) λoF es ep KO rF=>?_
 refine⟨wh λb o e=>xd _ _<|X b o e,?_⟩
 have TM:h'.objs.size=s.heap.objs.size+1:=by exact V uc.1<|V (sO ..) rfl
 generalize y:({cls:= .type "generator",data:= .fields #[.int s.gens.size 0,.str (aM 72).name (s.toks+((dP.N.take 2).zip [v1,v2]).length),.str (aM 72).qualname (s.toks+((dP.N.take 2).zip [v1,v2]).length+1)]}:bh)=z
 let L:=s.heap.objs.size
 let I:=h'.objs.size
 have hLs:L<h'.objs.size:=by exact la 0x4b821047091860 [_,_] rfl TM
 have B1:bz w J ((L,oF)::h) h':=by
  refine⟨λb o e=>xd _ _<|B.keep _ _ e,λp v=>?_,λp v=>?_,B.K⟩
  ·refine bN v ?_ λv=>?_
   ·exact KO
   ·exact xd _ _<|B.led p v
  ·refine bN v ?_ λv=>?_
   ·exact B.fresh
   ·exact B.cU p v
 have hgf:z.isFreed=false:=by subst y;rfl
 have B3:=B1.alloc hgf
 have U:FM.le J (J.cY I z):=FM.iZ B1.fresh
 have TN:(J.cY I z) I=Y z:=FM.eZ _ _ _
 let env:dw:=FZ (aM 72).scope s.heap.objs.size (aM 72).globals (aM 72).closure ((aM 72).qualname++sF ".<locals>.") (Y 72) (aM 72).code Z (aM 72).builtins
 let c:Cx:=⟨w,A,env,[],s.gens.push .running,s.os,f+1,[]⟩
 have gc:tP A.in1.in1.in1 c:=⟨hh,⟨by exact la 0x4a38408108246109180110e102042094860 [_,_] rfl hd,by exact la 0x4a05dc030420c24616024c244244246004405dc030420c2521620 [_,_] rfl N⟩,F.kind,F.kg,F.blt,F.co⟩
 have so:bA dP c:=⟨F.names,F.nd,λx M=>by cases M⟩
 have ajw:(h'.push z).IsGen I s.gens.size:=(xG z _ _ (B3.keep _ _ TN) (by subst y;rfl) (by subst y;rfl)<|by subst y;rfl)
 refine age (g:=s.gens.size) ajw λh2 n R2 ua Fe hS2 gF=>?_
 let S:=(h'.push z).objs.size
 have Lc:∀p∈h,p.1≠S:=λp v e=>by
  have:=B3.Af (a:=p.1) (o:=p.2)<|a_ _ v
  exact this e
 let l:bh:={cls:= .type "list",data:= .seq #[] n}
 have B4:bz w (J.cY I z) ((L,oF)::(S,l)::h) h2:=by
  refine⟨λb o e=>Fe _ _<|B3.keep _ _ e,λp v=>?_,λp v=>?_,B3.K⟩
  ·refine bN v ?_ λv=>?_
   ·exact Fe _ _<|B3.led _ aZ
   ·refine bN v ?_ λv=>?_
    ·exact hS2
    ·exact Fe _ _<|B3.led p<|a_ _ v
  ·refine bN v ?_ λv=>?_
   ·exact B3.cU _ aZ
   ·refine bN v ?_ λv=>?_
    ·exact B3.fresh
    ·exact B3.cU p<|a_ _ v
 have hLS:L≠S:=λe=>by
  have:S=h'.objs.size+1:=sO _ _
  exact la 0xc0470918220478a1047091860 [_,_,_] rfl TM e this
 refine agc (A:=A.in1) (J:=J.cY I z) (S:=S) (h:=h) (C:=(k.map<|dQ.out d f).flatten) (q:=s.gens) (os:=s.os) hh (by exact la 0x4b3e808180110e102042094860 [_,_] rfl hd) Lc TN (by subst y;rfl) (by subst y;rfl) (by subst y;rfl) (by refine V bI ?_;exact aK) (λs' D TJ ajx B' TP hg' K8=>gF s' ?_)
  _ 0 _ (J.cY I z) l _ rfl (FM.le.refl _) (B4.sub λp v=>a_ _ v) (iI (#[]) n rfl<|by refine V alN ?_;exact .nil) rfl rfl (by exact oY _) ⟨rfl,?_⟩
 ·refine sU TP λvs m e' rr=>?_;clear TP;subst e'
  have Bf:=B'.Ag aZ
  have kf:FM.le D (D.cY S {cls:= .type "list",data:= .seq vs m}):=FM.iZ<|B'.cU _ aZ
  exact K _ s' (.ref S) (U.trans<|ajx.trans kf) (Bf.sub λp v=>jq.mpr ⟨a_ _ v,by simpa using Lc p v⟩) hg' K8<|RD.list (FM.eZ _ _ _)<|rr.aO kf
 ·have hG:∀(t:au) (x:sq),t.gens=s.gens.push x->(t.setGen s.gens.size .running).gens=s.gens.push .running:=λt x e=>by
   refine(?_:t.gens.setIfInBounds s.gens.size .running=_)
   refine V e ?_
   apply al3
   ·simp
   ·intro i h1 h2
    simp only[al4,L8] at h1
    refine V (al5<|by simpa using h1) ?_
    by_cases av:s.gens.size=i
    ·subst av;simp
    ·refine V (if_neg av) ?_
     have:i<s.gens.size:=by exact la 0x4b860045860 [_,_] rfl<|xC (la 0x4a860045091860 [_,_] rfl h1)<|pU av
     exact V (Mz this)<|V (Mz this) rfl
  refine agb (c:=c) (aJ:=[]) gc so Lc (bM _) ajv hf k aju rfl (FM.le.refl _) (l:=l) ?_ (iI (#[]) n rfl .nil)<|by exact oY _
  refine⟨_,_,B4,λp v=>a_ _ v,λb BN p v=>?_,lu.mpr ⟨lW,uf⟩,(w7.keeps λb o e=>Fe _ _<|ie _ e),⟨oF,aZ⟩,(λx b M=>nomatch M),rfl,λi x M=>?_,⟨rfl,λ_ _ e=>nomatch e⟩,λi x M=>?_,hG _ _ rfl,rfl,(λb BN=>nomatch BN)⟩
  ·have oR:b∈[L]:=BN
   refine V (bH.mp oR) ?_
   refine bN v ?_ λv=>?_
   ·exact pU hLS
   ·exact B.Af (a:=p.1) (o:=p.2) v
  ·refine .mz (Q x<|m_ M) λu N=>?_
   have zl:∀(i:Nat) (a:ak),([]:List ak)[i]?=Y a->([]:List ak)[i]?=Y a:=λ_ _ e=>e
   rcases i with _|_|i
   ·have N:Y (Y<|AV.bF sz d)=Y (Y u):=by
     have:(Y<|Y<|AV.bF sz d).join=Y u:=N
     simpa using this
    cases N
    have w9:x="self":=by have:Y ("self":H)=Y x:=M;exact(iD this).symm
    clear M;subst w9
    exact ah v1 rfl<|r1.le U.C zl
   ·have N:Y (Y<|AV.d<|.list<|k.map dQ.data)=Y (Y u):=by
     have:(Y<|Y<|AV.d<|.list<|k.map dQ.data).join=Y u:=N
     simpa using this
    cases N
    have w9:x="diffs":=by have:Y ("diffs":H)=Y x:=M;exact(iD this).symm
    clear M;subst w9
    exact ah v2 rfl<|r2.le U.C zl
   ·exfalso
    have:∀(j:Nat),(([Y (AV.bF sz d),Y (.d<|.list<|k.map dQ.data),Z,Z,Z,Z,Z,Z,Z,Z,Z]:List (Option AV))[j+2]?.join)=Z:=λj=>by
     rcases j with _|_|_|_|_|_|_|_|_|j<;>rfl
    have h2:=this i
    have N:(([Y (AV.bF sz d),Y (.d<|.list<|k.map dQ.data),Z,Z,Z,Z,Z,Z,Z,Z,Z]:List (Option AV))[i+2]?.join)=Y u:=N
    rw[h2] at N;cases N
  ·exact absurd M<|by simp
noncomputable abbrev Cx.lR(c:Cx)(g:Array sq):Cx:={c with g:=g}
theorem aW.lR(ok:aW c)(g:Array sq):aW (c.lR g):=⟨ok.hand,ok.depth,ok.units,ok.iK,ok.kind,ok.kg,ok.blt⟩
theorem bA.lR(a:bA U c)(g:Array sq):bA U (c.lR g):=⟨a.names,a.nd,a.own⟩
section
variable {c:Cx} {N:List H} {h:ao} {q:St} {J C:FM} {as:List ak} {s s':au}
theorem aH.tab(I:dZ c N h q J as d m s)(g:q.μ[0]?=Y (Y .tab))(ha:as[0]?=Y 55)(k:FM.le J C)(B:bz c.w C ((55,iE L)::d.filter λp=>p.1 !=55) s'.heap)
  (A:s'.gens=s.gens)(l:s'.os=s.os):aH c N h (q.fR 0 .fX) C as s':=by
 have a:∀p∈d,p.1≠55->p∈((55,iE L)::d.filter λp=>p.1 !=55:ao):=λp i f=>a_ _<|jq.mpr ⟨i,by simpa using f⟩
 exact dU _ m<|I.gz ha k B (λb o U f=>a (b,o) U f) rfl (λj u e=>(ah u e λ_ r=>r.aO k)) (y:=Y .fX) rfl (λz e=>(ah (iE L) aZ<|iD e▸⟨L,rfl⟩)) (.inl ⟨_,aZ⟩) A l
theorem dZ.agg(I:dZ c N h q J as d m s)(k:FM.le J C)(B:bz c.w C d s'.heap)(A:s'.gens=g)(l:s'.os=s.os):dZ (c.lR g) N h q C as d m s':=
 ⟨B,I.sub,I.apart,I.nd,let ⟨r,b⟩:=I.lo;CQ I.ns (λo e=>by rw[I.base.get b] at e;cases e;exact B.get b),I.lo,I.e_,I.nv,λi x e=>(I.vars i x e).le k (λ_ _ e=>e) λ_ f=>f,I.gj,λi x e=>let ⟨a,o,j,n,p⟩:=I.ff i x e;⟨a,o,j,n,p.le k.C⟩,A,l.trans I.os,λa ha=>(I.al a ha).imp id λ⟨o,e⟩=>⟨o,k _ _ e⟩⟩
theorem aG.agh(ok:aW c)(h0:c.fr[0]?=Y 55)(ma:kT bB name f)(hn:rI name=true)(l:lE o=true)(hs:ny es=true)(hl:(x.endLine==cK.line)=true)
  (U:aG c N h o q λu j=>mJ u=Y bB/\dD c N h es j λus a=>(u::us).all AV.aq=true/\a.μ[0]?=Y (Y .tab)/\∃r k,k<=c.d/\D5 c.w k (.ref f) (u::us) r/\r.aq=true/\Q r (a.fR 0 .fX)):
  aG c N h (.Call (.Attribute o name x) es [] cK) q Q:=λJ as s R E I tk K=>
 C8 (Q:=λus a=>us.all AV.aq=true/\a.μ[0]?=Y (Y .tab)/\∃r k,k<=c.d/\D5 c.w k (.ref f) us r/\r.aq=true/\Q r (a.fR 0 .fX)) ma hn l hs hl U I tk λn t y vs us a z D e w G zz=>gy zz λhf hm zz=>GA zz λr k hk hF hr hq=>by
  refine cC e λd m M=>?_;clear e
  have b:=ok.iK
  have ha:t[0]?=Y 55:=M.gj.2 0 55 h0
  obtain⟨a',oT,q1,q2,rfl⟩:=M.ff 0 _ hm
  rw[ha] at q1;cases q1
  refine hF c.A n (d.filter λp=>p.1 !=55) y R E vs ok.hand (la 0x4a3840810a088110e102042862044860 [_,_,_] rfl hk b.1) (la 0x4a05dc030420e062204405dc030420e1622204860 [_,_,_] rfl hk b.2) (M.base.sub λp i=>?_) (λp i=>by simpa using(jq.mp i).2) (G.aq hf) w λh_ fV v L g B A l rv=>?_
  ·refine bN i ?_ λi=>?_
   ·exact q2
   ·exact(jq.mp i).1
  ·exact(K.trans (z.trans g) D).now (b:=r) (aH.tab M hm ha g B A l) (rv.aq hr) hq
end
section
variable {c:Cx} {U:Sc} {h:ao} {q:St}
theorem agi(ok:aW c)(A:bA U c)(b:c.fr[0]?=Y 55)(D:pG U (.aT w<|.own bB f a n xs) e=true)(ma:kT bB n f)
  (aU:W c.w c.d a q λu l=>mJ u=Y bB/\WXs c.w c.d xs l λus d=>(u::us).all AV.aq=true/\d.μ[0]?=Y (Y .tab)/\∃r k,k<=c.d/\D5 c.w k (.ref f) (u::us) r/\r.aq=true/\asgAll w r (d.fR 0 .fX) λt=>Q .nx t):bq c U.N h e q Q:=by
 have x:=b2<|b2 D
 have r:=b2<|b2<|b2 x
 refine sW (b1 D) (by decide)<|bq.aT (yv ok A<|b1<|b2 x) (Dp ok A<|b1<|b2<|b2 x) (Q:=Q)<|aN.aO (Q:=λr d=>asgAll w r d λt=>Q .nx t) ?_ λu l q'=>w.pD ok A (b1 x) (λz=>?_) q'
 ·exact az (mE<|b1 r)<|
   aG.agh ok b ma (b1<|b2 r) (mS<|b1 r) (b1<|b2<|b2 r) (mL<|b1 r) (aN.aO (a.ok ok A (b1<|b2<|b2<|b2 r) aU) λu l x=>⟨x.1,xs.ok ok A (b2<|b2<|b2<|b2 r) x.2⟩)
 ·have:=bn (b1<|b2 D)
  rw[z] at this;exact nomatch this
theorem agj(ok:aW c)(A:bA U c)(b:ir c [])(D:pG U (.aT w<|.own bB f a n xs) e=true)(ma:kT bB n f)
  (aU:W c.w c.d a q λu l=>mJ u=Y bB/\WXs c.w c.d xs l λus d=>(u::us).all AV.aq=true/\∃r k,k<=c.d/\rS c.w 1 k (.ref f) (u::us) r/\r.aq=true/\asgAll w r d λt=>Q .nx t):bq c U.N h e q Q:=by
 have x:=b2<|b2 D
 have r:=b2<|b2<|b2 x
 refine sW (b1 D) (by decide)<|bq.aT (yv ok A<|b1<|b2 x) (Dp ok A<|b1<|b2<|b2 x) (Q:=Q)<|aN.aO (Q:=λr d=>asgAll w r d λt=>Q .nx t) ?_ λu l q'=>w.pD ok A (b1 x) (λz=>?_) q'
 ·exact az (mE<|b1 r)<|
   aG.abN ok b ma (b1<|b2 r) (mS<|b1 r) (b1<|b2<|b2 r) (mL<|b1 r) (aN.aO (a.ok ok A (b1<|b2<|b2<|b2 r) aU) λu l x=>⟨x.1,dD.aO (xs.ok ok A (b2<|b2<|b2<|b2 r) x.2) λus d zz=>Ea zz λq1 zz=>GA zz λr k q2 g j m=>⟨q1,r,k,λi o=>absurd o<|Nat.not_lt_zero _,q2,g,j,m⟩⟩)
 ·have:=bn (b1<|b2 D)
  rw[z] at this;exact nomatch this
def RE(w:lH)(g:Nat)(a:X)(n:H)(xs:Xs)(U:Sc)(e:bu):Bool:=jv e 1&&(!(sv e).l.isEmpty&&(w.aA U (sv e).l&&(HP U (sv e).l (sv e).e0&&(HQ U (sv e).l (sv e).e0&&(cB (sv e).e0&&(gB U g (ev (sv e).e0).e0&&((ev (sv e).e0).l.length==1&&Oq n a xs U (hd (ev (sv e).e0).l))))))))
theorem agk(ok:aW c)(A:bA U c)(D:RE w g a n xs U e=true)(ma:kT bB n f)(hg:∃p,G0[g]?=Y p/\p.2= .ty "list")
  (aU:W c.w c.d a q λu l=>mJ u=Y bB/\u.aq=true/\WXs c.w c.d xs l λus d=>∃C k,k<=c.d/\us.all AV.aq=true/\yU c.w k (.ref f) (u::us) C/\asgAll w (.l C) d Q)
  (I:aH c U.N h q J as s)(tk:0<s.toks)
  (K:∀M aJ s' G,FM.le J M->bU as aJ->aH (c.lR<|c.g.push .finished) U.N h G M aJ s'->Q G->R .next s'):aF c.M c.A (l9 e c.aj) R E s:=by
 have x:=b2<|b2 D
 have t1:=b1 x
 have r:=b2<|b2<|b2 x
 have hn:(sv e).l≠[]:=λz=>by
  have:=bn<|b1<|b2 D
  rw[z] at this;exact nomatch this
 have o:=b2<|b2<|b2 r
 have qF:=ok.lR<|c.g.push .finished
 have fC:=A.lR<|c.g.push .finished
 refine az (sE (b1 D)<|by decide) ?_
 refine LO ?_ (yv ok A<|b1<|b2 x)<|Dp ok A<|b1<|b2<|b2 x
 refine aD hg λp q1 q2=>?_;clear hg
 refine az (yq<|b1 r)<|V (l1<|b1<|b2<|b2 r)<|az (eE (e:=(ev (sv e).e0).e0) (b1<|b1<|b2 r)<|by decide)<|az (mE<|b1 o)<|
  Cg (aN.bw (HE (h:=h) (Q:=λu G=>u= .ty "list"/\G=q) ok A (b1<|b2 r) q1 ⟨q2,rfl⟩) I tk λjl iU L v u l j3 gr jK gR jL N=>?_)
 refine Ea N λe' iB=>?_;clear N;subst e';clear I;subst iB
 obtain rfl:v= .type "list":=jL
 have j:∀(ps:aV) (e1:ay) (R:aa->au->Prop),dB e1=true->aF c.M c.A (eval e1 c.aj) (λg i=>aF c.M c.A (f_ (.type "list") [g]) R E i) E L->aF c.M c.A (callWith ps (.type "list") [] (iG ps<|gi [e1] c.aj) []) R E L:=by
  intro ps e1 R h1 hw
  refine LH (s7 λy hy=>by refine q9 hy ?_;exact h1) ?_
  have k2:aF c.M c.A (sA<|iG ps<|gi [e1] c.aj) (λvs s'=>aF c.M c.A (f_ (.type "list")<|[]++vs) R E s') E L:=
   zA (cQ hw (λg s hz=>Lo<|by simpa using hz) λ_ _ e=>e) (n_ h1 _ _)
  rw[n_ h1] at k2 ⊢
  exact FG k2
 refine j _ _ _ rfl ?_
 refine C8 (Q:=λus d=>∃u cP C k,us=u::cP/\u.aq=true/\cP.all AV.aq=true/\k<=c.d/\yU c.w k (.ref f) us C/\asgAll w (.l C) d Q) ma (b1<|b2 o) (mS<|b1 o) (b1<|b2<|b2 o) (mL<|b1 o)
  (aN.aO (a.ok ok A (b1<|b2<|b2<|b2 o) aU) λu l x=>⟨x.1,dD.aO (xs.ok ok A (b2<|b2<|b2<|b2 o) x.2.2) λus d zz=>GA zz λC k e1 e2 e3 e4=>⟨u,us,C,k,rfl,x.2.1,e2,e1,e3,e4⟩⟩) jK gR λM aJ s' vs us G k' p' I' fW rs TQ=>?_
 refine q8 TQ λu cP C k eu f1 f2 hk q'=>?_;clear TQ;refine Ea q' λhG hq=>?_;clear q'
 subst eu
 refine cC I' λjO m eX=>?_;clear I'
 have b:=ok.iK
 refine cQ (hG c.A M jO s' _ E vs ok.hand (la 0x4a3840810a088110e102042862044860 [_,_,_] rfl hk b.1) (la 0x4a05dc030420e062204405dc030420e1622204860 [_,_,_] rfl hk b.2) eX.base (rs.aq<|V TU<|V f1<|V f2 rfl) fW λfB i v cZ B hg ho rv=>?_) (λgv i hz=>hz) λ_ _ e=>e
 have J':=eX.agg (g:=c.g.push .finished) cZ B (V hg<|V eX.gens rfl) ho
 exact w.pD (c:=c.lR<|c.g.push .finished) (h:=h) qF fC t1 hn hq fB aJ i _ E v (dU jO m J') (rv.aq rfl) λh_ iz fV _ _ t c_ eV gq _ E9=>K h_ iz fV t (j3.trans<|k'.trans<|cZ.trans c_) (gr.trans<|p'.trans eV) gq E9
end
def kD:List bu:=cF<|aM 289
def RG:S:=(.aT (.k (.t<|.k (.n 1)<|.k (.n 2)<|.k (.n 3)<|.k (.n 4) .z) .z)<|.call 21<|.k (.v 0) .z)
def RH:S:=(.lK false [5,6,7,8]<|.k (.aI .Add (.c<|.int 1)<|.aI .Mod (.v 3)<|.c<|.int 5)<|.k (.aI .Add (.c<|.int 1)<|.aI .Mod (.aI .FloorDiv (.v 3)<|.c<|.int 5)<|.c<|.int 6)<|.k (.aI .Mod (.aI .FloorDiv (.v 3)<|.c<|.int 30)<|.c<|.int 2)<|.k (.sub (.ai<|.k (.c<|.str "\n")<|.k (.c<|.str "\r\n") .z)<|.aI .Mod (.aI .FloorDiv (.v 4)<|.c<|.int 20)<|.c<|.int 2) .z)
def RJ:S:=(.lK false [9,10]<|.k (.call 22<|.k (.v 5)<|.k (.v 6) .z)<|.k (.aI .Add (.v 4)<|.c<|.int 1) .z)
def RK:S:=(.pA 11 (.dg .join (.c<|.str "")<|.k (.comp (.v 0) (.t<|.k (.n 0)<|.k (.n 1) .z) (.ai<|.v 0) .gP aba [Z,Z]) .z) (.n 0) (.ai<|.ai<|.k (.v 1)<|.k (.v 2) .z) .gP abb [Z])
def agl:S:=(.aT (.k (.n 12) .z)<|.own 111 58 (.v 9) "_tab_newline_replace"<|.k (.ai<|.k (.aI .Add (.sub (.v 11)<|.c<|.int 0)<|.c<|.str "\n") .z)<|.k (.ai<|.k (.sub (.v 11)<|.c<|.int 1) .z) .z)
def JD:S:=(.aT (.k (.n 13) .z)<|.lF .z)
def JE:S:=(.aT (.k (.n 16) .z)<|.call 23<|.k (.v 14)<|.k (.v 5) .z)
def JG:S:=(.ck (.yr<|.k (.bx .NotEq (.v 16)<|.comp (.call 24<|.k (.nD (.v 1) .kU<|.x<|.v 0)<|.k (.v 2) .z) (.n 0) (.uY<|.call 4<|.k (.aI .Add (.call 0<|.k (.v 14) .z)<|.c<|.int 1) .z) .gP abc [Z,Y 14,Y 5])<|.k (.bx .NotEq (.call 0<|.k (.v 15) .z)<|.sub (.v 16)<|.neg<|.c<|.int 1) .z) (.k (.ret<|.c<|.bool false) .z) .z)
def JH:S:=(.pA 17 (.bZ<|.k (.jD (.v 1) (.x<|.sub (.v 2)<|.v 0)<|.x<|.sub (.v 2)<|.aI .Add (.v 0)<|.c<|.int 1)<|.k (.sub (.sub (.v 3)<|.v 0)<|.c<|.int 0)<|.k (.sub (.sub (.v 3)<|.v 0)<|.c<|.int 1) .z) (.n 0) (.uY<|.call 4<|.k (.call 0<|.k (.v 14) .z) .z) .gP abd [Z,Y 15,Y 16,Y 14])
def JJ:S:=(.ck (.bx .NotEq (.comp (.v 0) (.t<|.k (.n 0)<|.k (.n 1)<|.k (.n 2) .z) (.ai<|.v 17) (.t<|.bx .NotEq (.v 0)<|.ite (.bx .NotEq (.v 1)<|.c<|.str "\t") (.v 1)<|.aI .Mult (.c<|.str "\t")<|.call 0<|.k (.v 0) .z) abe [Z,Z,Z])<|.ai .z) (.k (.ret<|.c<|.bool false) .z) .z)
def JK:S:=(.ex<|.dg .append (.v 13)<|.k (.Dg (.bZ<|.k (.v 3)<|.k (.v 2) .z) (.t<|.k (.n 0)<|.k (.n 1)<|.k (.n 2) .z) (.ai<|.v 17) (.n 3) (.bO<|.v 0) abf [Z,Z,Z,Z]) .z)
def RL:Ss:=(.k JE<|.k JG<|.k JH<|.k JJ<|.k JK .z)
def JL:S:=(.kR (.t<|.k (.n 14)<|.k (.n 15) .z) (.zp (.g 6) (.ai<|.k (.v 1)<|.k (.v 2) .z)<|.ai<|.k (.sub (.sub (.v 12)<|.c<|.int 0)<|.c<|.int 0)<|.k (.sub (.sub (.v 12)<|.c<|.int 1)<|.c<|.int 0) .z) RL)
def JM:S:=(.pA 18 (.sub (.sub (.call 25<|.k (.v 0)<|.k (.aI .Add (.call 0<|.k (.v 0) .z)<|.c<|.int 1)<|.k (.v 1) .z)<|.c<|.int 0)<|.c<|.int 1) (.n 0) (.ai<|.v 13) .gP abg [Z,Y 10])
def JN:S:=(.aT (.k (.n 19) .z)<|.call 16<|.k (.aI .Add (.aI .Add (.aI .Add (.sub (.v 18)<|.c<|.int 0)<|.c<|.str "\n")<|.sub (.v 18)<|.c<|.int 1)<|.c<|.str "\n")<|.k (.aI .Add (.c<|.int 4)<|.aI .Mod (.v 4)<|.c<|.int 20)<|.k (.v 8) .z)
def JO:S:=(.ck (.yr<|.k (.bx .NotEq (.call 17<|.k (.v 19) .z)<|.aI .Add (.aI .Add (.aI .Add (.sub (.v 18)<|.c<|.int 0)<|.c<|.str "\n")<|.sub (.v 18)<|.c<|.int 1)<|.c<|.str "\n")<|.k (.bx .Gt (.call 1<|.k (.comp (.call 0<|.k (.v 0) .z) (.n 0) (.ai<|.dg .split (.v 19)<|.k (.v 8) .z) .gP abh [Z]) .z)<|.aI .Add (.c<|.int 4)<|.aI .Mod (.v 4)<|.c<|.int 20) .z) (.k (.ret<|.c<|.bool false) .z) .z)
def JP:S:=(.aT (.k (.t<|.k (.n 20)<|.k (.n 21) .z) .z)<|.nD (.dg .split (.call 17<|.k (.v 19) .z)<|.k (.c<|.str "\n") .z) .kU<|.x<|.c<|.int 2)
def JQ:S:=(.aT (.k (.n 22) .z)<|.sub (.ai<|.k (.bZ<|.k (.bZ<|.k (.c<|.str "")<|.k (.aI .Add (.v 20)<|.c<|.str "\n") .z)<|.k (.bZ<|.k (.aI .Add (.v 10)<|.c<|.int 1)<|.k (.v 21) .z)<|.k (.c<|.bool true) .z)<|.k (.bZ<|.k (.bZ<|.k (.v 10)<|.k (.v 20) .z)<|.k (.bZ<|.k (.c<|.str "")<|.k (.aI .Add (.v 21)<|.c<|.str "\n") .z)<|.k (.c<|.bool true) .z) .z)<|.v 7)
def JR:S:=(.aT (.k (.n 24) .z)<|.ai<|.k (.call 25<|.k (.sub (.v 13)<|.c<|.int 0)<|.k (.v 6)<|.k (.v 10) .z)<|.k (.call 25<|.k (.sub (.v 13)<|.c<|.int 1)<|.k (.v 6)<|.k (.aI .Add (.v 10)<|.c<|.int 1) .z) .z)
def JS:S:=(.lK false [25,26]<|.k (.ai<|.k (.bZ<|.k (.c<|.str "")<|.k (.aI .Add (.sub (.v 18)<|.v 7)<|.c<|.str "\n") .z) .z)<|.k (.lF .z) .z)
def RM:S:=(.eF 26<|.ite (.val<|.v 26) (.ai<|.k (.bZ<|.k (.bZ<|.k (.c .none)<|.k (.c .none) .z)<|.k (.c .none) .z) .z)<|.ai .z)
def JT:S:=(.aT (.k (.n 30) .z)<|.call 1<|.k (.call 0<|.k (.v 27) .z)<|.k (.call 0<|.k (.v 28) .z) .z)
def JU:S:=(.eF 26<|.comp (.bZ<|.k (.v 0)<|.k (.v 1) .z) (.n 0) (.Ov (.g 6) (.nD (.aI .Add (.v 27)<|.aI .Mult (.ai<|.k (.bZ<|.k (.c<|.str "")<|.k (.c<|.str " ") .z) .z)<|.v 30) .kU<|.x<|.v 30)<|.nD (.aI .Add (.v 28)<|.aI .Mult (.ai<|.k (.bZ<|.k (.c<|.str "")<|.k (.c<|.str " ") .z) .z)<|.v 30) .kU<|.x<|.v 30) .gP abi [Z,Y 29])
def JV:Ss:=(.k RM<|.k JT<|.k JU .z)
def JW:S:=(.kR (.t<|.k (.n 27)<|.k (.n 28)<|.k (.n 29) .z) (.ai<|.ai<|.k (.bZ<|.k (.sub (.v 24)<|.c<|.int 0)<|.k (.sub (.v 24)<|.c<|.int 1)<|.k (.bx .NotEq (.v 1)<|.v 2) .z)<|.k (.sub (.ai<|.k (.bZ<|.k (.v 25)<|.k (.sub (.v 24)<|.c<|.int 1)<|.k (.c<|.bool true) .z)<|.k (.bZ<|.k (.sub (.v 24)<|.c<|.int 0)<|.k (.v 25)<|.k (.c<|.bool true) .z) .z)<|.v 7) .z) JV)
def JX:S:=(.ck (.bx .NotEq (.v 23)<|.comp (.bZ<|.k (.sub (.v 0)<|.c<|.int 0)<|.k (.sub (.v 0)<|.c<|.int 1)<|.k (.v 1) .z) (.t<|.k (.n 0)<|.k (.n 1) .z) (.ai<|.v 26) .gP abj [Z,Z]) (.k (.ret<|.c<|.bool false) .z) .z)
def agm:S:=(.aT (.k (.t<|.k (.n 31)<|.k (.n 32)<|.k (.n 33) .z) .z)<|.own 111 79 (.v 9) "_collect_lines"<|.k (.v 23) .z)
def JY:S:=(.pA 34 (.comp (.ite (.bx .Is (.v 1)<|.c .none) (.c .none)<|.call 26<|.k (.v 2)<|.k (.sub (.sub (.v 0)<|.v 3)<|.c<|.int 0)<|.k (.sub (.sub (.v 0)<|.v 3)<|.c<|.int 1) .z) (.t<|.k (.n 0)<|.k (.n 1) .z) (.ai<|.v 2) .gP Ih [Z,Z,Y 1,Y 0]) (.t<|.k (.n 0)<|.k (.n 1) .z) (.en (.g 5)<|.ai<|.k (.c<|.str "old_")<|.k (.c<|.str "new_") .z) .gP OY [Z,Z,Y 26])
def JZ:S:=(.ret<|.an (.bx .Eq (.ai<|.k (.v 31)<|.k (.v 32) .z)<|.v 34)<|.bx .Eq (.v 33)<|.comp (.v 1) (.t<|.k (.n 0)<|.k (.n 1) .z) (.ai<|.v 26) .gP abk [Z,Z])
def J0:Ss:=(.k RG<|.k RH<|.k RJ<|.k RK .z)
def J1:Ss:=(.k JD<|.k JL<|.gk 13<|.k JM<|.k JN<|.k JO<|.k JP<|.k JQ .z)
def J3:Ss:=(.k JR<|.k JS<|.k JW<|.gk 26<|.k JX .z)
def J4:Ss:=(.k JY<|.k JZ .z)
theorem agn:gQ kX J0 (kD.take 4)=true:=by kernel_rfl
theorem ago:pG kX agl ((kD.drop 4).headD<|.Pass default)=true:=by kernel_rfl
theorem agp:gQ kX J1 ((kD.drop 5).take 7)=true:=by kernel_rfl
def J5:Xs:=(.k (.ai<|.k (.bZ<|.k (.bZ<|.k (.v 10)<|.k (.v 20) .z)<|.k (.bZ<|.k (.aI .Add (.v 10)<|.c<|.int 1)<|.k (.v 21) .z)<|.k (.bx .NotEq (.v 1)<|.v 2) .z)<|.k (.bZ<|.k (.c .none)<|.k (.c .none)<|.k (.c .none) .z)<|.k (.v 22) .z) .z)
theorem agq:RE (.k (.n 23) .z) 7 (.v 9) "_line_wrapper" J5 kX ((kD.drop 12).headD<|.Pass default)=true:=by kernel_rfl
theorem agr:gQ kX J3 ((kD.drop 13).take 4)=true:=by kernel_rfl
theorem ags:pG kX agm ((kD.drop 17).headD<|.Pass default)=true:=by kernel_rfl
theorem agt:gQ kX J4 (kD.drop 18)=true:=by kernel_rfl
theorem agu:kD=kD.take 4++((kD.drop 4).headD (.Pass default)::((kD.drop 5).take 7++((kD.drop 12).headD (.Pass default)::((kD.drop 13).take 4++((kD.drop 17).headD (.Pass default)::(kD.drop 18++[])))))):=by kernel_rfl
theorem J6(a k:Nat)(g:0<k):((a:Int).fdiv (k:Int))=((a/k:Nat):Int):=by
 refine V (Ve _<|by(clear g;lia)) ?_;rfl
theorem yV(a k:Nat)(g:0<k):((a:Int).fmod (k:Int))=((a%k:Nat):Int):=by
 refine V (Gu _<|by(clear g;lia)) ?_;rfl
noncomputable def EB(a:Nat):List Nat:=if a/20%2=0 then[10] else[13,10]
structure Lw where
 xs:List Int
 old:List Sg
 new:List Sg
 first:Nat
 mZ:Nat
noncomputable def Lw.size(l:Lw):Nat:=1+l.first%5
noncomputable def Lw.gE(l:Lw):Nat:=1+l.first/5%6
noncomputable def Lw.eK(l:Lw):Nat:=l.first/30%2
noncomputable def Lw.num(l:Lw):Nat:=l.mZ+1
noncomputable def Lw.M(l:Lw):Nat:=4+l.mZ%20
def Lw.oK(l:Lw):List Nat:=EB l.mZ
structure Lw.ok(w:aC)(l:Lw):Prop where
 o1:∀p∈l.old,jf p
 o2:∀p∈l.new,jf p
 o3:l.old.length<=6
 o4:l.new.length<=6
 o5:l.first<=100000000
 o6:l.mZ<=100000000
 o7:iN w 1 (.ref 253) [.iJ l.xs] (.t [.list (l.old.map bP),.list (l.new.map bP),.int l.first,.int l.mZ])
def Lw.st(l:Lw)(t:List (Option AV))(μ:List (Option AO)):St:=
 ⟨Y (.iJ l.xs)::Y (fy l.old)::Y (fy l.new)::Y (.i l.first)::Y (.i l.mZ)::Y (.i l.size)::Y (.i l.gE)::Y (.i l.eK)::Y (.s<|sL l.oK)::Y (.bF l.size l.gE)::Y (.i l.num)::
  Y (.l [.str (sL<|bX l.old),.str (sL<|bX l.new)])::t,μ⟩
noncomputable def RN(y:af):Nat:=match y with| .tuple (.str z::_)=>z.cps.toList.headD 0|_=>0
def EC(x:af):af:=match x with| .list a=> .str (sL<|a.map RN)|_=> .none
theorem agv(L:List Sg):(L.map bP).map RN=bX L:=by
 induction L with
 |nil=>rfl
 |cons p L a=>exact congrArg (p.1::·) a
theorem RO(L:List Sg):EC (.list<|L.map bP)= .str (sL<|bX L):=by unfold EC;simp only[agv]
theorem Lw.p1{w:aC}{d:Nat}{l:Lw}(ok:l.ok w)(s:10<=d){μ:List (Option AO)}{Q:FQ}(u:Q .nx (l.st (bV 23 Z) μ)):
  WSs w d J0 ⟨Y (.iJ l.xs)::bV 34 Z,μ⟩ Q:=by
 have j:=bI
 have m:2<=aL:=by refine V j ?_;decide
 have z:4<=aL:=by refine V j ?_;decide
 refine WSs.c ?_
 simp only[RG];walk_at "w"
 refine cJ _ rfl rfl _ rfl<|WL.kW (by exact la 0x4a81104481a [_] rfl s) ok.o7 rfl rfl ?_
 refine(show asgAll (.k (.t<|.k (.n 1)<|.k (.n 2)<|.k (.n 3)<|.k (.n 4) .z) .z) (.t [.list (l.old.map bP),.list (l.new.map bP),.int l.first,.int l.mZ]) _ _ from⟨rfl,?_⟩)
 walk_at "w"
 simp only[RH];walk_at "w"
 have A:(1+((l.first:Int)).fmod 5)=((l.size:Nat):Int):=by
  refine V (show(5:Int)=((5:Nat):Int) from rfl) (V (yV _ _<|by decide) ?_);unfold Lw.size;exact lA (li 0x4a8028510470a1460 [_,_] rfl<|Li.ca _ _)<|li 0x4a0a14600460a1460 [_,_] rfl<|Li.ca _ _
 have C:(1+(((l.first:Int)).fdiv 5).fmod 6)=((l.gE:Nat):Int):=by
  refine V (show(5:Int)=((5:Nat):Int) from rfl) (V (J6 _ _<|by decide)<|V (show(6:Int)=((6:Nat):Int) from rfl)<|V (yV _ _<|by decide) ?_);unfold Lw.gE;exact lA (li 0x4a8028510470a1460 [_,_] rfl<|Li.ca _ _)<|li 0x4a0a14600460a1460 [_,_] rfl<|Li.ca _ _
 have D:(((l.first:Int)).fdiv 30).fmod 2=((l.eK:Nat):Int):=by
  refine V (show(30:Int)=((30:Nat):Int) from rfl) (V (J6 _ _<|by decide)<|V (show(2:Int)=((2:Nat):Int) from rfl)<|V (yV _ _<|by decide) ?_);rfl
 have E:(((l.mZ:Int)).fdiv 20).fmod 2=((l.mZ/20%2:Nat):Int):=by
  exact V (show(20:Int)=((20:Nat):Int) from rfl)<|V (J6 _ _<|by decide)<|V (show(2:Int)=((2:Nat):Int) from rfl)<|V (yV _ _<|by decide) rfl
 refine ah _ rfl<|WL.ou (by decide)<|WL.fK<|ah _ rfl<|WL.yw (by decide) (zX<|by decide)<|WL.ou (by decide)<|WL.fK<|ah _ rfl<|WL.yw (by decide) (zX<|by decide)<|WL.ou (by decide)<|cJ [.str "\n",.str "\r\n"] rfl m _ rfl<|WL.yw (by decide) (zX<|by decide)<|WL.ou (by decide) ?_
 refine V A<|V C<|V D<|V E ?_
 refine WL.jd m (x:= .str<|sL l.oK) (k:=l.mZ/20%2) ?_<|bJ z rfl<|WSs.c ?_
 ·unfold Lw.oK EB
  have n:l.mZ/20%2=0\/l.mZ/20%2=1:=by lia
  rcases n with n|n<;>refine V n ?_
  ·refine V (if_pos rfl) (az tG ?_);rfl
  ·refine V (if_neg<|by decide) (az ID ?_);rfl
 simp only[RJ];walk_at "w"
 refine mh _ rfl rfl _ rfl _ rfl<|WL.kW (by exact la 0x4a81304481a [_] rfl s) (aeV w l.size l.gE) rfl rfl<|ah _ rfl<|WL.fK<|bJ m rfl<|WSs.c ?_
 have G:((l.mZ:Int)+1)=((l.num:Nat):Int):=by unfold Lw.num;lia
 refine V G ?_
 simp only[RK];walk_at "w"
 refine qZ _ rfl _ rfl [.list (l.old.map bP),.list (l.new.map bP)] rfl m<|bk _ rfl ?_ ?_
 ·exact i_ rfl
 have I:∀x∈[j8 (l.old.map bP),.list (l.new.map bP)],∃L:List Sg,x= .list (L.map bP)/\L.length<=6:=λx f=>by
  refine ni f ?_ ?_
  ·exact ah l.old rfl ok.o3
  ·exact ah l.new rfl ok.o4
 refine nK (d:=d) (λv=>∃a,v=[a]) EC _ _ ⟨Z,rfl⟩ (by refine V j ?_;simp) (λx f v μ N h g=>?_) ?_
 ·refine Ex h λa e=>?_;clear h;subst e
  refine aD (I x f) λL e J=>?_;clear f;subst e
  have o:(L.map bP).length=L.length:=bC ..
  rw[RO] at g
  walk_at "w"
  refine bR rfl _ rfl<|bk _ rfl ?_ ?_
  ·exact i_ rfl
  refine nK (d:=d) (λv=>∃a b,v=[a,b]) (λx=>match x with| .tuple (y::_)=>y|_=> .none) _ _ (dU Z Z rfl) (by refine V j (V o ?_);exact aK) (λx f v μ R h q=>?_) ?_
  ·refine cC h λa b e=>?_;clear h;subst e
   refine aD (bg.mp f) λp U e=>?_;clear f;subst e
   refine bR rfl _ rfl ?_
   exact q [Y (.s<|sL [p.1]),Y (.s<|dz p.2)]<|dU _ _ rfl
  ·refine(WL.join<|bk ((bX L).map λc=>sL [c]) ?_ ?_ ?_)
   ·skip
    congr 1
    refine V bY (V bY<|V bY ?_);rfl
   ·have t:=Bc (B:=1) (((bX L).map λc=>sL [c]).map (λx:H=>x.length)) λa r=>by
     rw[bY] at r
     refine aD (bg.mp r) λx _ e=>?_;clear r;subst e
     refine(?_:(sL [x]).length<=1)
     refine V (aQ ..) ?_;simp
    rw[bC,bC,bC] at t
    refine V (bC ..)<|V (bC ..) ?_
    have K:("":H).length=0:=by decide+kernel
    refine V K ?_;exact la 0x4a0400000050420d08210440d18210445a0 [_,_] rfl J t
   ·refine V qm (V (Qn ..) ?_)
    exact g [Y (.d<|.list<|L.map bP)] ⟨_,rfl⟩
 have i:p_ EC [j8 (l.old.map bP),.list (l.new.map bP)]=[.str (sL<|bX l.old),.str (sL<|bX l.new)]:=by simp only[ee,j_,RO]
 refine V i ?_
 exact WSs.n u
theorem agw:kT 111 "_tab_newline_replace" 58:=yk λP=>by kernel_rfl
theorem Lw.yW(l:Lw):0<l.size/\l.size<=5:=by unfold Lw.size;exact⟨qJ.mp<|li 0x4b8100448500470a1460 [_,_] rfl (Li.ca _ _)<|Li.cp _,gV.mp<|li 0x4a5600455610460a1460 [_,_] rfl (Li.ca _ _)<|Li.ct<|lD _<|by decide⟩
theorem Lw.ED(l:Lw):0<l.gE/\l.gE<=6:=by unfold Lw.gE;exact⟨qJ.mp<|li 0x4b8100448500470a1460 [_,_] rfl (Li.ca _ _)<|Li.cp _,gV.mp<|li 0x4a5a00455a10460a1460 [_,_] rfl (Li.ca _ _)<|Li.ct<|lD _<|by decide⟩
theorem RP(e:jf p):p.1≠0/\p.1≠1/\p.1≠10/\p.1≠13/\p.1<256:=
 of_decide_eq_true (l6.mp (show qw.all (λk=>decide<|k≠0/\k≠1/\k≠10/\k≠13/\k<256)=true by decide) _ e.1)
def Lw.iw(l:Lw)(L:List Sg):af:= .str<|sL<|iu l.size 0<|bX L
def Lw.qz(l:Lw):AV:= .t [.list [l.iw l.old],.list [l.iw l.new]]
theorem Lw.pF{c:Cx}{h:ao}{l:Lw}(ok:aW c)(v:bA kX c)(w:c.fr[0]?=Y 55)(b:l.ok c.w)(s:10<=c.d){t:List (Option AV)}{Q:FQ}
  (e:Q .nx (l.st (Y l.qz::t) [Y .fX])):bq c kX.N h ((kD.drop 4).headD<|.Pass default) (l.st (Z::t) [Y .tab]) Q:=by
 have m:=bI
 have g:1<=aL:=by refine V m ?_;decide
 have i:2<=aL:=by refine V m ?_;decide
 refine Ea l.yW λo B=>?_
 have f:∀L:List Sg,(bX L).length=L.length:=λL=>bC ..
 have a:∀L:List Sg,(∀p∈L,jf p)->∀k∈bX L,k≠0/\k≠10/\k≠13:=λL u k r=>by
  refine aD (bg.mp r) λp y q=>?_;clear r;subst q
  have:=RP<|u p y
  exact bJ this.1 this.2.2.1 this.2.2.2.1
 have C:=b.o3
 have D:=b.o4
 have j:=adR c.w l.size l.gE [bX l.old++[10]] [bX l.new] o aK (λx hx=>by
   refine V (bH.mp hx) ?_;exact Qk o aK<|by refine V bQ (V (f ..)<|V vO ?_);exact gI (by assumption)<|by rfl)
  (λx hx=>by refine V (bH.mp hx) ?_;exact Qk o aK<|by refine V (f ..) ?_;exact aK) (by simp) (by simp)
 have z:=(Qj (n:=l.size)<|a _ b.o1).2
 have A:=(Qj (n:=l.size)<|a _ b.o2).1
 simp only[ee,j_,z,A] at j
 refine agi ok v w ago agw ?_
 walk_at "w"
 refine cJ _ rfl rfl _ rfl<|WL.jd (k:=0) i rfl ?_
 refine WL.iP (by refine V tG (V (aQ ..)<|V (aQ ..)<|V m<|V (f ..) ?_);simp;exact aK)<|cJ [.str (sL (bX l.old)++"\n")] rfl g _ rfl<|WL.jd (k:=1) i rfl<|fG [.str (sL<|bX l.new)] rfl g rfl ⟨rfl,?_⟩
 refine V tG<|V (d9 ..) ?_
 exact oZ _ 2 (by exact la 0x4a81204481a [_] rfl s) j rfl e
theorem EF(g:Nat)(l:List Nat):(kB g l).length=l.length+1:=by unfold kB;simp
theorem agx(hs:0<g)(l:List Nat):cz g 0 l<=l.length*g:=by
 have b:=A_ g l 0
 have c:=I0 hs l 0
 exact la 0x4a8a10448a0047842420 [_,_,_] rfl b c
theorem agy(hs:0<g)(a:g<=1000)(e:l.length<=100):(j8<|kB g l).layable0=true:=by
 refine(cg.list (W:=64) (D:=0) λx hx=>?_).ok ?_<|by decide
 ·unfold kB at hx
  refine aD (bg.mp hx) λk r q=>?_;clear hx;subst q
  refine cg.int ?_
  have b:=agx hs<|l.take k
  have c:(l.take k).length*g<=100*1000:=ju (by refine V qV ?_;exact la 0x4a064081841120841101902060 [_,_] rfl e<|Gi _ _) a
  refine V (Vf ..) ?_;lia
 ·refine V (EF ..) ?_;lia
theorem WL.J7{w:aC}{d:Nat}{xs:List af}{q:St}{Q:PQ}(e:(j8 xs).layable0=true)(a:Q (.b false) q):i9 w d .NotEq (.l xs) (.l xs) q Q:=by
 have b:(j8 xs).canLay0=true:=by
  have e:=e
  unfold Vl at e
  simp only[jQ] at e
  exact e.1.1
 refine(WL.OP<|bJ e e ?_)
 refine V (Jf _ b) ?_;exact a
theorem WL.RQ{w:aC}{d:Nat}{xs:List af}{q:St}{Q:PQ}(e:(j8 xs).layable0=true)(a:Q (.b true) q):i9 w d .Eq (.l xs) (.l xs) q Q:=by
 have b:(j8 xs).canLay0=true:=by
  have e:=e
  unfold Vl at e
  simp only[jQ] at e
  exact e.1.1
 refine(WL.eqD<|bJ e e ?_)
 refine V (Jf _ b) ?_;exact a
section
variable {w:aC} {d:Nat} {l:Lw}
theorem Lw.p6a(s:10<=d){h g b:Option AV}{t:List (Option AV)}{μ:List (Option AO)}{L:List Sg}(u:L.length<=6){C:Ss}{Q:FQ}
  (e:WSs w d C (l.st (h::Y (.m 1)::Y (fy L)::Y (.d<|l.iw L)::Y (.l<|kB l.size<|bX L)::b::t) μ) Q):
  WSs w d (.k JE<|.k JG C) (l.st (h::Y (.m 1)::Y (fy L)::Y (.d<|l.iw L)::g::b::t) μ) Q:=by
 have m:=bI
 refine Ea l.yW λo B=>?_
 have f:(bX L).length=L.length:=bC ..
 have c:(L.map bP).length=L.length:=bC ..
 refine WSs.c ?_
 simp only[JE];walk_at "w"
 refine mh _ rfl rfl _ rfl _ rfl<|WL.kW (by exact la 0x4a81304481a [_] rfl s) (aet w L l.size o aK aK) rfl rfl<|WSs.c ?_
 simp only[JG];walk_at "w"
 refine eS _ rfl _ rfl rfl<|cJ _ rfl rfl _ rfl<|WL.rQ rfl (by refine V c (V m ?_);exact aK)<|WL.fK<|WL.Dy ?_
 refine V c ?_
 have E:((L.length:Int)+1)=((L.length+1:Nat):Int):=by lia
 refine V E ?_
 refine n6 _ _ _ (L.length+1) rfl (Ec<|by exact gI (by assumption)<|by rfl) (Ba _) ?_ ?_
 ·exact i_ rfl
 refine V (Eb ..) ?_
 refine nK (d:=d) (λv=>∃a,v=[a,Y (fy L),Y (.i l.size)]) (λx=>match x with| .int k=> .int (cz l.size 0 ((bX L).take k.toNat):Nat)|_=> .none) _ _ ⟨Z,rfl⟩ (by refine V m ?_;simp;exact aK) (λx hx v μ I D r=>?_) ?_
 ·refine Ex D λa q=>?_;clear D;subst q
  refine aD (bg.mp hx) λk p q=>?_;clear hx;subst q
  have G:k<L.length+1:=zZ.mp p
  walk_at "w"
  refine mh _ rfl rfl _ rfl _ rfl<|fH _ Z (Y (k:Int)) rfl (by refine V c (V m ?_);exact aK) rfl rfl<|ah _ rfl ?_
  refine V (yM _ _<|by refine V c ?_;exact Vk<|by assumption)<|az vP ?_
  have y:bX (L.take k)=(bX L).take k:=vP ..
  refine WL.kW (by exact la 0x4a81104481a [_] rfl s) (aeq w (L.take k) l.size o) rfl rfl ?_
  refine V y ?_
  have:=r [Y (.d<|.int (k:Int)),Y (fy L),Y (.i l.size)] ⟨_,rfl⟩
  simp only[gY] at this
  exact this
 have z:p_ (λx=>match x with|jr k=>jr (cz l.size 0 ((bX L).take k.toNat):Nat)|_=> .none) ((l_<|L.length+1).map λi:Nat=>jr (i:Int))=kB l.size (bX L):=by
  refine V bY ?_
  unfold kB
  refine V f ?_
  refine sP λk r=>?_
  simp only[CC,gY]
 refine V z ?_
 refine WL.J7 (agy o aK<|by refine V f ?_;exact aK)<|WL.tB<|WL.bK (by decide) ?_
 have j:=A_ l.size (bX L) 0
 have n:=I0 o (bX L) 0
 rw[f] at n
 have A:L.length*l.size<=6*5:=ju u B
 refine cJ _ rfl rfl _ rfl<|WL.wF (by refine V (aQ ..) (V m ?_);exact la 0x4a0400000050600440d55a1044860 [_,_] rfl n A)<|bG _ rfl 1 rfl ?_
 refine V (aQ ..) ?_
 refine(WL.u7 ⟨by refine V (EF ..) (V m<|V f ?_);exact gI (by assumption)<|by rfl,.inr<|bR rfl (.int (cz l.size 0 (bX L):Nat)) ?_ ?_⟩)
 ·refine V (EF ..) (V (Nat.add_sub_cancel ..) ?_)
  unfold kB
  refine V iW<|V (Mt<|by exact bM _) ?_
  show Y (jr _)=_
  exact V Gj rfl
 refine WL.O0<|WL.tB<|WL.bK ?_ ?_
 ·rw[oW] at j
  refine V j ?_;simp
 ·exact WL.bK (by decide)<|WSs.n e
end
noncomputable def iS{C:Type}(g:Nat)(G:Nat->Sg->C):Nat->List Sg->List C
 |_,[]=>[]
 |a,p::r=>G a p::iS g G (a+(cV g a p.1).length) r
theorem aml:iS g G a []=[]:=rfl
theorem agA:iS g G a (p::r)=G a p::iS g G (a+(cV g a p.1).length) r:=rfl
theorem agB{C:Type}(g:Nat)(G:Nat->Sg->C)(b:List Sg)(a:Nat):(l_ b.length).map (λk=>G (cz g a<|(bX b).take k)<|b.getD k (0,Z))=iS g G a b:=by
 induction b generalizing a with
 |nil=>
  exact rfl
 |cons p L c=>
  refine V cX<|V List.range_succ_eq_map<|V ee<|V bY ?_
  have c:=c<|a+(cV g a p.1).length
  refine V agA ?_
  refine az c ?_
  congr 1
  refine sP λk q=>?_
  refine(?_:G (cz g a<|(p.1::bX L).take<|k+1) _=_)
  refine V Cy (V (wO ..) ?_);rfl
def kE(g:Nat)(a:Nat)(p:Sg):af:= .tuple [.str (sL<|cV g a p.1),.str (sL [p.1]),.str (dz p.2)]
theorem RS{C:Type}{g:Nat}{G:Nat->Sg->C}:∀(L:List Sg) (a:Nat),∀x∈iS g G a L,∃c p,p∈L/\x=G c p
 |[],_,x,j=>by cases j
 |p::L,a,x,j=>by
  refine bN j ?_ λj=>?_
  ·exact iI a p aZ rfl
  ·refine sU (RS L _ x j) λc q b e=>?_
   exact iI c q (a_ _ b) e
theorem agC{C:Type}{g:Nat}{G:Nat->Sg->C}(b:List Sg)(a:Nat):(iS g G a b).length=b.length:=by
 induction b generalizing a with
 |nil=>
  exact rfl
 |cons p L c=>
  skip;exact V cX<|V cX<|V (c ..) rfl
theorem agD(g:Nat)(l:List Nat)(k:Nat):cz g 0 (l.take k)<=(iu g 0 l).length:=by
 have b:=A_ g l 0
 have e:cz g 0 l=cz g (cz g 0<|l.take k) (l.drop k):=by exact az (Qd ..)<|V (Gr ..) rfl
 have a:=A_ g (l.drop k)<|cz g 0<|l.take k
 exact la 0x4a8240468829230478a1047842420 [_,_,_,_,_] rfl b e a
theorem RT{g:Nat}{l:List Nat}{k:Nat}(j:k<=l.length):(kB g l)[k]?=Y (.int (cz g 0 (l.take k):Nat)):=by
 refine V iW (V (Mt<|by exact Vq<|by assumption) ?_);rfl
section
variable {w:aC} {d:Nat} {l:Lw}
theorem Lw.p6b{h b:Option AV}{t:List (Option AV)}{μ:List (Option AO)}{L:List Sg}(C:L.length<=6){A:Ss}{Q:FQ}
  (j:WSs w d A (l.st (h::Y (.m 1)::Y (fy L)::Y (.d<|l.iw L)::Y (.l<|kB l.size<|bX L)::Y (.l<|iS l.size (kE l.size) 0 L)::t) μ) Q):
  WSs w d (.k JH A) (l.st (h::Y (.m 1)::Y (fy L)::Y (.d<|l.iw L)::Y (.l<|kB l.size<|bX L)::b::t) μ) Q:=by
 have c:=bI
 refine Ea l.yW λD E=>?_
 have e:(bX L).length=L.length:=bC ..
 have f:(L.map bP).length=L.length:=bC ..
 have m:=EF l.size<|bX L
 rw[e] at m
 have n:=I0 D (bX L) 0
 rw[e] at n
 have r:L.length*l.size<=6*5:=ju C E
 refine WSs.c ?_
 simp only[JH];walk_at "w"
 refine cJ _ rfl rfl _ rfl<|bR rfl _ rfl<|WL.rQ rfl (by refine V f (V c ?_);exact aK)<|WL.Dy ?_
 refine V f ?_
 refine n6 _ _ _ L.length rfl (Ec aK) (Ba _) ?_ ?_
 ·exact i_ rfl
 refine V (Eb ..) ?_
 refine nK (d:=d) (λv=>∃a,v=[a,Y (.d<|l.iw L),Y (.l<|kB l.size<|bX L),Y (fy L)]) (λx=>match x with| .int k=>kE l.size (cz l.size 0<|(bX L).take k.toNat) (L.getD k.toNat (0,Z))|_=> .none) _ _ ⟨Z,rfl⟩ (by refine V c ?_;simp;exact aK) (λx G v μ U B q=>?_) ?_
 ·refine Ex B λa s=>?_;clear B;subst s
  refine aD (bg.mp G) λk u s=>?_;subst s
  have y:k<L.length:=zZ.mp u
  obtain⟨p,hp⟩:∃p,L[k]?=Y p:=⟨_,fM y⟩
  have z:(bX L)[k]?=Y p.1:=by refine V iW (V hp ?_);rfl
  have o:(L.map bP)[k]?=Y (bP p):=by refine V iW (V hp ?_);rfl
  refine Ea (adU (g:=l.size) z) λI J=>?_
  have K:=agD l.size (bX L)<|k+1
  have N:((k:Int)+1)=((k+1:Nat):Int):=by lia
  walk_at "w"
  refine nh _ rfl _ rfl _ rfl<|WL.jd (by refine V m (V c ?_);exact gI (by assumption)<|by rfl) (RT<|by refine V e ?_;exact j7<|by assumption)<|bG _ rfl _ rfl<|WL.fK ?_
  refine V N ?_
  refine WL.jd (by refine V m (V c ?_);exact gI (by assumption)<|by rfl) (RT<|by refine V e ?_;assumption)<|fH _ _ _ rfl (by refine V (aQ ..) (V c ?_);exact la 0x4a0400000050600440d55a1044860 [_,_] rfl n r) rfl rfl ?_
  refine V (A0 _ _ _ (by exact la 0x4a8210470a2860 [_,_,_] rfl I) K)<|V J ?_
  refine bG _ rfl _ rfl<|WL.jd (by refine V f (V c ?_);exact aK) o ?_
  refine(WL.ow<|mj (by refine V c ?_;refine(?_:2<=_);decide) (by decide) (.str<|sL [p.1]) rfl<|bG _ rfl _ rfl<|WL.jd (by refine V f (V c ?_);exact aK) o ?_)
  refine(WL.ow<|mj (by refine V c ?_;refine(?_:2<=_);decide) (by decide) (.str<|dz p.2) rfl<|bk _ rfl (by refine V c ?_;refine(?_:3<=_);decide) ?_)
  have:=q [Y (.d<|.int (k:Int)),Y (.d<|l.iw L),Y (.l<|kB l.size<|bX L),Y (fy L)] ⟨_,rfl⟩
  simp only[gY,zV,hp,F7] at this
  exact this
 have R:p_ (λx=>match x with|jr k=>kE l.size (cz l.size 0<|(bX L).take k.toNat) (L.getD k.toNat (0,Z))|_=> .none) ((l_ L.length).map λi:Nat=>jr (i:Int))=iS l.size (kE l.size) 0 L:=by
  refine V bY<|az (agB ..) ?_
  refine sP λk q=>?_
  simp only[CC,gY]
 refine V R ?_
 exact j
end
theorem agF:∀n:Fin 6,Lq "\t" (n.1:Int)/\Lr "\t" (n.1:Int)=sL (bV n.1 9):=by
 unfold Lq
 decide+kernel
theorem agG(hs:0<g)(e:g<=5)(f c:Nat):(c≠9->cV g f c=[c])/\(c=9->cV g f c=bV (cV g f c).length 9/\(cV g f c).length<6):=by
 have h:=D_ hs f c
 refine⟨λn=>by unfold cV;exact V (if_neg n) rfl,λn=>⟨?_,by exact la 0x4b5a1044821044560 [_,_] rfl e h⟩⟩
 unfold cV
 exact V (if_pos n)<|V sQ rfl
section
variable {w:aC} {d:Nat} {l:Lw}
theorem Lw.p6c(m:L.length<=6)
  (n:WSs w d U (l.st (h::Y (.m 1)::Y (fy L)::Y (.d<|l.iw L)::g::Y (.l<|iS l.size (kE l.size) 0 L)::t) μ) Q):
  WSs w d (.k JJ U) (l.st (h::Y (.m 1)::Y (fy L)::Y (.d<|l.iw L)::g::Y (.l<|iS l.size (kE l.size) 0 L)::t) μ) Q:=by
 have r:=bI
 refine Ea l.yW λz A=>?_
 have C:(iS l.size (kE l.size) 0 L).length=L.length:=agC L 0
 refine WSs.c ?_
 simp only[JJ];walk_at "w"
 refine eS _ rfl _ rfl ?_ ?_
 ·exact i_ rfl
 refine I1 (λv=>∃a b c,v=[a,b,c]) (λ_=>[]) _ _ [] (mq Z Z Z rfl) (λ_ _=>eL _) (by refine V l7 (V C<|V r ?_);exact la 0x4a0400000050428100445a0 [_] rfl m) (λx I v i J K ha N=>?_) ?_
 ·refine xJ K λa b e D=>?_;clear K;refine V D ?_
  refine sU (RS L 0 x I) λf p hp D=>?_;clear I;refine V D ?_
  refine Ea (agG z A f p.1) λq1 q2=>?_
  rw[iH] at N
  have o:=D_ z f p.1
  refine⟨rfl,?_⟩
  walk_at "w"
  refine bG _ rfl _ rfl<|WL.rP<|WL.tB ?_
  have e9:(sL [p.1] !=("\t":H))= !decide (p.1=9):=by(refine V AQ ?_;rewrite[bne];exact V (iO ..)<|V (lP ..) rfl)
  refine V e9 ?_
  have q:∀E:H,E=sL (cV l.size f p.1)->i9 w d .NotEq (.s<|sL<|cV l.size f p.1) (.s E) ⟨[Y (.s<|sL<|cV l.size f p.1),Y (.s<|sL [p.1]),Y (.s<|dz p.2)],[Y (.ai i)]⟩ λx j=>nC w d x j λb k=>
    if b=true then W w d (.v 0) k λu j=>∃y,u= .d y/\j.μ=[Y (.ai i)]/\i.length<=aL/\J j.v (i++[y]) else k.μ=[Y (.ai i)]/\J k.v i:=λE hZ=>by
   refine V hZ (
    WL.rP (WL.tB ?_))
   (rewrite[bne];refine V (beq_self_eq_true ..) ?_)
   exact WL.bK (by decide) ⟨rfl,N _<|mq _ _ _ rfl⟩
  by_cases B:p.1=9
  ·refine WL.bK (by refine V (decide_eq_true B) ?_;decide) (cJ _ rfl rfl _ rfl<|WL.wF (by refine V (aQ ..) (V r ?_);exact la 0x4a040000005061044821044560 [_,_] rfl A o) ?_)
   refine V (aQ ..)<|
    Ea (q2 B) λr1 r2=>
    Ea (agF ⟨(cV l.size f p.1).length,r2⟩) λm1 m2=>?_
   exact WL.aan m1<|q (Lr "\t" ((cV l.size f p.1).length:Int))<|by refine V m2 ?_;congr 1;exact r1.symm
  ·exact WL.cy (V (decide_eq_false B) rfl)<|ah _ rfl<|q (sL [p.1])<|V (q1 B) rfl
 ·have G:(iS l.size (kE l.size) 0 L).flatMap (λ_=>([]:List af))=[]:=by
   generalize iS l.size (kE l.size) 0 L=R
   induction R with
   |nil=>rfl
   |cons x R s=>refine V fQ (V s ?_);rfl
  exact V (jt ..)<|V G<|
   bk [] rfl (eL _) (WL.J7 (by decide+kernel)<|WL.tB<|WL.bK (by decide)<|WSs.n n)
theorem agI(e:g=asg (.n 3))(c:f=λq K=>W w d (.bZ<|.k (.v 3)<|.k (.v 2) .z) q K)(a:List Nat)(U:Option AV)(a1:Option AV)(a3:Option AV)(i:List af)(K:List (Option AV)->List af->Prop)(h:i.length+a.length<=10000)(n:(∀b,K [U,a1,Y (.s<|dz m),b]<|i++(a.map λk=>((k,m):Sg)).map bP)):wz g f (a.map λk=> .str<|sL [k]) [U,a1,Y (.s<|dz m),a3] i K:=by
 induction a generalizing U a1 a3 i K with
 |nil=>
  have:=n a3
  rw[j_,j_,iH] at this
  exact this
 |cons k l s=>
  have r:=bI
  rw[cX] at h
  subst e c
  (refine V ee ?_;simp only[ZV,ZW])
  walk_at "w"
  refine qZ _ rfl _ rfl [.str (sL [k]),.str (dz m)] rfl (by refine V r ?_;refine(?_:2<=_);decide)<|fG _ rfl rfl (by refine V r ?_;exact la 0x4a04000000506004409c403042091860 [_,_] rfl h) ?_
  have j:=s U a1 (Y<|.s<|sL [k]) (i++[bP (k,m)]) K (V bQ<|V vO<|la 0x4a09c40304284246004409c403042091860 [_,_] rfl h) λb=>by
   have:=n b
   rw[ee,ee] at this
   exact V (eO ..)
    this
  exact j
theorem agJ{g:Nat}(hs:0<g)(e:g<=5){K:List af->Prop}(a:List Sg)(f:Nat)(U:Option AV)(a1:Option AV)(a2:Option AV)(a3:Option AV)(i:List af)(h:i.length+5*a.length<=9000)(n:K (i++(pK g f a).map bP)):Az (asg<|.t<|.k (.n 0)<|.k (.n 1)<|.k (.n 2) .z) (λq K=>WI w d (.bO<|.v 0) q K) (asg<|.n 3) (λq K=>W w d (.bZ<|.k (.v 3)<|.k (.v 2) .z) q K) (iS g (kE g) f a) [U,a1,a2,a3] i K:=by
 induction a generalizing f U a1 a2 a3 i with
 |nil=>
  have n:=n
  rw[D8] at n
  rw[j_,iH] at n
  exact n
 |cons l L s=>
  obtain⟨c,m⟩:=l
  rw[cX] at h
  have o:=D_ hs f c
  refine⟨rfl,?_⟩
  walk_at "w"
  refine eS _ rfl _ rfl rfl<|
   V (IE ..) (
   agI (w:=w) (d:=d) rfl (by funext q K;walk_at "w") (cV g f c) (Y<|.s<|sL<|cV g f c) (Y<|.s<|sL [c]) a3 i _ (by exact la 0x4a09c4030428e104482304408ca030420c2462561044560 [_,_,_,_] rfl e h o) λb=>?_)
  have p:iS g (kE g) f ((c,m)::L)=kE g f (c,m)::iS g (kE g) (f+(cV g f c).length) L:=rfl
  have j:=s (f+(cV g f c).length) (Y<|.s<|sL<|cV g f c) (Y<|.s<|sL [c]) (Y<|.s<|dz m) b (i++((cV g f c).map λk=>((k,m):Sg)).map bP) (V bQ<|V (bC ..)<|V (bC ..)<|la 0x4a08ca030420e25428e104482304408ca030420c2462561044560 [_,_,_,_] rfl e h o)<|by
   rw[D9] at n
   rw[gZ] at n
   refine V (eO ..) ?_;exact n
  exact j
theorem Lw.p6d(m:L.length<=6)(c:P.length<=1000)
  (n:Q .nx (l.st (h::Y (.m 1)::a::b::g::Y (.l<|iS l.size (kE l.size) 0 L)::t) [Y .fX,Y (.ai<|P++[.list ((pK l.size 0 L).map bP)])])):
  WSs w d (.k JK .z) (l.st (h::Y (.m 1)::a::b::g::Y (.l<|iS l.size (kE l.size) 0 L)::t) [Y .fX,Y (.ai P)]) Q:=by
 have r:=bI
 refine Ea l.yW λz A=>
  WSs.c ?_
 simp only[JK];walk_at "s"
 refine V w_mth<|V w_v<|
  bk _ rfl rfl (
  V w_xc (V w_comp2<|V w_il<|V w_v ?_))
 refine eS _ rfl _ rfl ?_ ?_
 ·exact i_ rfl
 refine agJ z A L 0 Z Z Z Z [] (by simp;exact la 0x4a08ca030438151445a0 [_] rfl m) ?_
 refine V (jt ..)<|V w_xn ?_
 refine(WL.append<|bk P rfl (by refine V r ?_;exact aK)<|WSs.n n)
theorem Lw.p6(a:10<=d)(m:L.length<=6)(c:P.length<=1000)
  (n:Q .nx (l.st (h::Y (.m 1)::Y (fy L)::Y (.d<|l.iw L)::Y (.l<|kB l.size<|bX L)::Y (.l<|iS l.size (kE l.size) 0 L)::t) [Y .fX,Y (.ai<|P++[.list ((pK l.size 0 L).map bP)])])):
  WSs w d RL (l.st (h::Y (.m 1)::Y (fy L)::Y (.d<|l.iw L)::g::b::t) [Y .fX,Y (.ai P)]) Q:=
 Lw.p6a a m (Lw.p6b m<|Lw.p6c m<|Lw.p6d m c n)
end
def tQ:Tk->Prop
 | .s c=>c∈qw
 | .o k=>k=45\/k=43\/k=94
 | .e=>True
def vz(m:Option Nat):Prop:=m=Z\/m=Y 45\/m=Y 43\/m=Y 94
theorem agL{m:Option Nat}(h:vz m):∀t∈dF m,tQ t:=λt a=>by
 cases m with
 |none=>cases a
 |some k=>
  rewrite[bH.mp a]
  unfold vz at h
  simp only[reduceCtorEq,LU,false_or] at h
  exact h
theorem RU(m:Option Nat):∀t∈eU m,tQ t:=λt a=>by
 cases m with
 |none=>cases a
 |some k=>rewrite[bH.mp a];trivial
theorem J8:∀(b:List Sg) (j:Option Nat),(∀p∈b,jf p)->∀t∈dW j b,tQ t
 |[],j,_,t,a=>RU j t a
 |(c,m)::r,j,h,t,a=>by
  have d:=h (c,m) aZ
  rcases cj.mp a with a|a
  ·split at a
   ·cases a
   ·rcases cj.mp a with a|a
    ·exact RU j t a
    ·exact agL d.2 t a
  ·refine bN a ?_ λa=>?_
   ·exact d.1
   ·exact J8 r m (λp d=>h p<|a_ _ d) t a
theorem RX{t:Tk}(h:tQ t):t.ok/\∀k∈t.cps,vh k/\tL k:=by
 have l:∀c∈qw,c≠0/\c≠1/\c<256/\c≠10/\c≠13/\(uE c=true->c=9\/c=10\/c=160\/c=32):=by decide+kernel
 have n:∀k,(k=45\/k=43\/k=94\/k=0\/k=1)->k<256/\k≠10/\k≠13/\(uE k=true->k=9\/k=10\/k=160\/k=32):=by
  intro k d
  rcases d with rfl|rfl|rfl|rfl|rfl<;>decide+kernel
 cases t with
 |s c=>
  refine GB (l c h) λa b e f o=>?_;refine Ea o λg i=>?_;clear o
  refine⟨⟨a,b⟩,λk d=>?_⟩
  rewrite[bH.mp d]
  exact bJ (bJ e f g) aK i
 |o k=>
  have d:k=45\/k=43\/k=94:=h
  refine⟨⟨by lia,by lia⟩,λj m=>?_⟩
  simp only[Tk.cps,iX,lW,or_false] at m
  refine uF (n j<|by lia) λe f g i=>?_
  exact bJ (bJ e f g) aK i
 |e=>
  refine⟨trivial,λj m=>?_⟩
  rewrite[bH.mp m]
  refine uF (n 1<|by lia) λe f g i=>?_
  exact bJ (bJ e f g) (by exact uB _ _) i
theorem RY{G:List Tk}(h:∀t∈G,tQ t):∀k∈aq G,vh k/\tL k:=λk d=>by
 refine aD (xA.mp d) λt a b=>?_
 exact(RX<|h t a).2 k b
theorem RZ(b:List Sg)(j:Option Nat):(aq<|dW j b).length<=4*b.length+1:=by
 refine V (QF ..)<|V (jZ ..)<|V bQ ?_
 have a:=QL j b
 have c:=Bh<|iQ j b
 exact la 0x4a0910e15028a00444620440e1520 [_,_,_] rfl a c
def Lw.sh(l:Lw)(L:List Sg):List Sg:=pK l.size 0 L
def Lw.tk(l:Lw)(L:List Sg):List Tk:=dW Z<|l.sh L
def Lw.dR(l:Lw)(L:List Sg):List Nat:=aq<|l.tk L
theorem Lw.yX{l:Lw}{L:List Sg}(b:L.length<=6):(l.sh L).length<=30:=by
 refine Ea l.yW λd e=>?_
 have a:=IZ d L 0
 have c:L.length*l.size<=6*5:=ju b e
 unfold Lw.sh;exact la 0x4a7810600440d55a1044860 [_,_] rfl a c
theorem Lw.R0{l:Lw}{L:List Sg}(h:∀p∈L,jf p):∀p∈l.sh L,jf p:=λp d=>h p<|Ql L 0 p d
theorem Lw.R1{l:Lw}{L:List Sg}(h:∀p∈L,jf p):∀t∈l.tk L,tQ t:=J8 _ _<|Lw.R0 h
theorem Lw.Bp{l:Lw}{L:List Sg}(h:∀p∈L,jf p):∀k∈l.dR L,vh k/\tL k:=RY<|Lw.R1 h
theorem Lw.pL{l:Lw}{L:List Sg}(b:L.length<=6):(l.dR L).length<=121:=by
 have a:=RZ (l.sh L) Z
 have c:=Lw.yX (l:=l) b
 skip;exact la 0x1281e420601047810610440910e1520 [_,_] rfl a c
def Lw.pM(l:Lw):List Nat:=nL l.M l.oK [l.dR l.old,l.dR l.new]
theorem Lw.J9{w:aC}{l:Lw}(a:l.ok w):Qy w l.M l.oK [l.dR l.old,l.dR l.new]:=by
 refine aeo w l.M l.oK _ ?_ (by exact pZ _ _) (by exact la 0x1281902042814045501060 [_] rfl<|lD _<|by decide) (by simp) (by simp) λm b=>?_
 ·unfold Lw.oK EB
  split
  ·exact .inl rfl
  ·exact .inr rfl
 ·refine ni b ?_ ?_
  ·exact⟨λk d=>(Lw.Bp a.o1 k d).1,ic (Lw.pL a.o3)<|by decide⟩
  ·exact⟨λk d=>(Lw.Bp a.o2 k d).1,ic (Lw.pL a.o4)<|by decide⟩
def dm(l:Lw)(L:List Sg):af:= .str<|sL<|l.dR L
def lS(l:Lw)(L:List Sg):af:= .list<|(l.sh L).map bP
def Lw.yY(l:Lw):af:=if l.eK=0 then .tuple [.tuple [.str "",.str (sL<|l.dR l.old++[10])],.tuple [.int (l.num+1:Nat),dm l l.new],.bool true]
 else .tuple [.tuple [.int l.num,dm l l.old],.tuple [.str "",.str (sL<|l.dR l.new++[10])],.bool true]
def Lw.t2(l:Lw)(t:List (Option AV)):List (Option AV):=
 Y l.qz::Y (.l [lS l l.old,lS l l.new])::Y (fy l.new)::Y (.d<|l.iw l.new)::Y (.l<|kB l.size<|bX l.new)::Y (.l<|iS l.size (kE l.size) 0 l.new)::
 Y (.l [dm l l.old,dm l l.new])::Y (.s<|sL l.pM)::Y (.d<|dm l l.old)::Y (.d<|dm l l.new)::Y (.d l.yY)::t
section
variable {w:aC} {d:Nat} {l:Lw}
theorem Lw.R3{q:St}{Q:PQ}{i:Nat}{L:List Sg}(f:(i=0/\L=l.old)\/(i=1/\L=l.new))(b:Q (.d<|l.iw L) q):jB w d l.qz (.i (i:Int)) q λu a=>jB w d u (.i 0) a Q:=by
 have e:=bI
 have c:2<=aL:=by refine V e ?_;decide
 have g:1<=aL:=by refine V e ?_;decide
 rcases f with⟨rfl,rfl⟩|⟨rfl,rfl⟩
 ·exact WL.ow<|mj c (by decide) _ rfl<|WL.u7 ⟨g,.inl<|bR (by decide) _ rfl b⟩
 ·exact WL.ow<|mj c (by decide) _ rfl<|WL.u7 ⟨g,.inl<|bR (by decide) _ rfl b⟩
theorem Lw.p2a(i:10<=d)(j:l.ok w){t:List (Option AV)}{k:Ss}{Q:FQ}
  (f:WSs w d k ((l.st (Y l.qz::Y (.m 1)::Y (fy l.new)::Y (.d<|l.iw l.new)::Y (.l<|kB l.size<|bX l.new)::Y (.l<|iS l.size (kE l.size) 0 l.new)::bV 17 Z) [Y .fX,Y (.ai [lS l l.old,lS l l.new])]).gk 1 [lS l l.old,lS l l.new]) Q):
  WSs w d (.k JD<|.k JL<|.gk 13 k) (l.st (Y l.qz::bV 22 Z) [Y .fX]) Q:=by
 have e:=bI
 have c:2<=aL:=by refine V e ?_;decide
 refine WSs.c ?_
 simp only[JD];walk_at "w"
 refine bk [] rfl (eL _)<|WSs.c ?_
 simp only[JL];walk_at "w"
 refine mh _ rfl rfl _ rfl _ rfl<|mh [.list (l.old.map bP),.list (l.new.map bP)] rfl c _ rfl _ rfl ?_
 refine(show jB w d l.qz (.i ((0:Nat):Int)) _ _ from Lw.R3 (.inl ⟨rfl,rfl⟩) (ah _ rfl ?_))
 refine(show jB w d l.qz (.i ((1:Nat):Int)) _ _ from Lw.R3 (.inr ⟨rfl,rfl⟩) (cJ [l.iw l.old,l.iw l.new] rfl c _ rfl ?_))
 have a:qi [.list (l.old.map bP),.list (l.new.map bP)] [l.iw l.old,l.iw l.new]=[.tuple [.list (l.old.map bP),l.iw l.old],.tuple [.list (l.new.map bP),l.iw l.new]]:=rfl
 refine V a ?_
 refine(show asg (.t<|.k (.n 14)<|.k (.n 15) .z) (.t [.list (l.old.map bP),l.iw l.old]) _ _ from⟨rfl,?_⟩)
 refine Lw.p6 (w:=w) (d:=d) (l:=l) (h:=Y l.qz) (g:=Z) (b:=Z) (t:=bV 17 Z) (P:=[]) (L:=l.old) i j.o3 (by simp) ?_
 refine(show asg (.t<|.k (.n 14)<|.k (.n 15) .z) (.t [.list (l.new.map bP),l.iw l.new]) _ _ from⟨rfl,?_⟩)
 refine Lw.p6 (w:=w) (d:=d) (l:=l) (h:=Y l.qz) (t:=bV 17 Z) (P:=[.list ((pK l.size 0 l.old).map bP)]) (L:=l.new) i j.o4 (by simp) ?_
 exact WSs.fz<|gx 1 _ rfl rfl f
theorem R4(a b:List Nat):aR [10] [a,b]=a++[10]++b++[10]:=by simp[aR]
theorem Lw.p8(p:10<=d)(e:l.ok w)
  (j:WSs w d s (l.st (h::Y (.l [lS l l.old,lS l l.new])::f::i::g::b::Y (.l [dm l l.old,dm l l.new])::t) μ) Q):
  WSs w d (.k JM s) (l.st (h::Y (.l [lS l l.old,lS l l.new])::f::i::g::b::q::t) μ) Q:=by
 have c:=bI
 have n:2<=aL:=by refine V c ?_;decide
 refine WSs.c ?_
 simp only[JM];walk_at "w"
 refine eS _ rfl _ rfl ?_ ?_
 ·exact i_ rfl
 have A:∀x∈[lS l l.old,lS l l.new],∃L:List Sg,x=lS l L/\L.length<=6:=λx C=>by
  refine ni C ?_ ?_
  ·exact ah l.old rfl e.o3
  ·exact ah l.new rfl e.o4
 let F:af->af:=λx=>if x.eqv (lS l l.old)=true then dm l l.old else dm l l.new
 have o:∀(L:List Sg),L.length<=6->∀(a:Option AV) (μ:List (Option AO)) (D:PQ),D (.d<|dm l L) ⟨[Y (.d<|lS l L),Y (.i l.num)],μ⟩->
   W w d (.sub (.sub (.call 25<|.k (.v 0)<|.k (.aI .Add (.call 0<|.k (.v 0) .z)<|.c<|.int 1)<|.k (.v 1) .z)<|.c<|.int 0)<|.c<|.int 1) ⟨[Y (.d<|lS l L),Y (.i l.num)],μ⟩ D:=λL r a μ D E=>by
  have v:=Lw.yX (l:=l) r
  have m:((l.sh L).map bP).length=(l.sh L).length:=bC ..
  walk_at "w"
  refine mh _ rfl rfl _ rfl _ rfl<|bR rfl _ rfl<|WL.rQ (xs:=(l.sh L).map bP) rfl (by refine V m (V c ?_);exact aK)<|WL.fK<|ah _ rfl ?_
  refine V m ?_
  have u:(((l.sh L).length:Int)+1)=(((l.sh L).length+1:Nat):Int):=by lia
  refine V u<|
   WL.kW (by exact la 0x4a81104481a [_] rfl p) (QN w (l.sh L) ((l.sh L).length+1) ((l.sh L).length+1) (.int l.num) (by exact oY _) (by exact gI (by assumption)<|by rfl) aK (by exact sH _) rfl) rfl rfl ?_
  have y:mV ((l.sh L).length+1) ((l.sh L).length+1) (.int l.num) Z (l.sh L)=[(.int l.num,dW Z<|l.sh L)]:=by
   (simp only[DZ,wM];refine V (if_pos<|sH _) ?_);rfl
  refine V y ?_
  refine WL.jd (k:=0) (by refine V c ?_;refine(?_:1<=16777216);decide) rfl ?_
  exact(WL.ow<|mj n (by decide) (.str<|sL<|l.dR L) rfl E)
 simp only[Hy,Dk]
 walk_at "w";skip
 have k1:=o l.old e.o3 Z [Y (.ai [])]
 have z:=o l.new e.o4 Z [Y (.ai<|[]++[dm l l.old])]
 refine k1 _<|fG _ rfl rfl (eL _) ?_
 simp only[Hy,Dk]
 refine z _<|fG _ rfl rfl (by refine V c ?_;refine(?_:1<=16777216);decide) ?_
 exact j
theorem Lw.R5(e:l.ok w){q:St}{Q:PQ}(z:q.v[18]?=Y (Y<|.l [dm l l.old,dm l l.new]))(j:Q (.s<|sL<|aR [10] [l.dR l.old,l.dR l.new]) q):
  W w d (.aI .Add (.aI .Add (.aI .Add (.sub (.v 18)<|.c<|.int 0)<|.c<|.str "\n")<|.sub (.v 18)<|.c<|.int 1)<|.c<|.str "\n") q Q:=by
 have c:=bI
 have n:2<=aL:=by refine V c ?_;decide
 have f:=Lw.pL (l:=l) e.o3
 have g:=Lw.pL (l:=l) e.o4
 have h:("\n":H).length=1:=by decide+kernel
 walk_at "w"
 refine ah _ z<|WL.jd (k:=0) n rfl ?_
 refine WL.iP (a:=sL<|l.dR l.old) (by refine V (aQ ..) (V h<|V c ?_);exact gI (by assumption)<|by rfl)<|ah _ z<|WL.jd (k:=1) n rfl ?_
 refine V tG<|V (d9 ..) ?_
 refine WL.iP (b:=sL<|l.dR l.new) (by refine V (aQ ..) (V (aQ ..)<|V c<|V bQ ?_);simp;exact la 0x4a040000005042842460044079081841101e42060 [_,_] rfl f g) ?_
 refine V (d9 ..) ?_
 refine WL.iP (by refine V (aQ ..) (V (aQ ..)<|V c<|V bQ<|V bQ ?_);simp;exact la 0x12bfffffc4042842460044079081841101e42060 [_,_] rfl f g) ?_
 exact V (d9 ..)<|az (R4 ..)
  j
theorem Lw.p9(p:10<=d)(e:l.ok w)
  (j:WSs w d s (l.st (h::n::f::i::g::b::Y (.l [dm l l.old,dm l l.new])::Y (.s<|sL l.pM)::t) μ) Q):
  WSs w d (.k JN s) (l.st (h::n::f::i::g::b::Y (.l [dm l l.old,dm l l.new])::a::t) μ) Q:=by
 refine WSs.c ?_
 simp only[JN];walk_at "s"
 refine V w_call ?_
 refine bk _ rfl rfl ?_
 refine V w_xc ?_
 refine Lw.R5 e rfl ?_
 walk_at "w"
 refine ah _ rfl<|WL.ou (by decide)<|WL.fK<|ah _ rfl ?_
 have u:((4:Int)+(l.mZ:Int).fmod 20)=((l.M:Nat):Int):=by
  refine V (show(20:Int)=((20:Nat):Int) from rfl) (V (yV _ _<|by decide) ?_);unfold Lw.M;exact lA (li 0x4a8028540470a1520 [_,_] rfl<|Li.ca _ _)<|li 0x4a0a15200460a1520 [_,_] rfl<|Li.ca _ _
 exact V u<|
  WL.kW (by exact la 0x4a81204481a [_] rfl p) (Lw.J9 e).enc rfl rfl j
theorem Lw.GP(p:10<=d)(e:l.ok w)
  (j:WSs w d s (l.st (h::n::f::i::g::b::Y (.l [dm l l.old,dm l l.new])::Y (.s<|sL l.pM)::t) μ) Q):
  WSs w d (.k JO s) (l.st (h::n::f::i::g::b::Y (.l [dm l l.old,dm l l.new])::Y (.s<|sL l.pM)::t) μ) Q:=by
 have c:=bI
 have G:=Lw.J9 e
 refine xH G.qv λo r1 R r3 r4=>?_
 have U:l.pM.length<=1000000:=G.len
 refine WSs.c ?_
 simp only[JO];walk_at "s"
 refine V IR.w_or<|V w_orc<|V w_tc<|V w_call ?_
 refine bk _ rfl rfl ?_
 refine V w_xc<|V w_v ?_
 refine ah _ rfl ?_
 refine V w_xn ?_
 refine WL.kW (by exact la 0x4a81204481a [_] rfl p) G.dh rfl rfl ?_
 refine Lw.R5 e rfl (WL.rP<|WL.tB ?_)
 (rewrite[bne];refine V (beq_self_eq_true ..) ?_)
 refine WL.bK (by decide) ?_
 walk_at "w"
 have I:(sL l.oK).length=0->False:=λq=>by
  rw[aQ] at q
  unfold Lw.oK EB at q
  split at q<;>simp at q
 refine cJ _ rfl rfl _ rfl<|bR rfl _ rfl ?_
 refine(WL.split<|g5 ?_ (by refine V (aQ ..) (V c ?_);exact aK) ?_<|bk _ rfl ?_ ?_)
 ·cases q:((sL l.oK).length==0) with
  |false=>rfl
  |true=>exact absurd (by simpa using q) λq=>I q
 ·refine V c ?_
  have:(uy (sL l.pM) (nW (sL l.pM) (sL l.oK) 0 (sL l.pM).length<|(sL l.pM).length+1) (sL l.oK).length).length=o.length+1:=r3
  exact la 0x1281000000141841182460841103d09004060 [_,_] rfl r4 this
 ·exact i_ rfl
 have J:xr (sL l.pM) (sL l.oK)=o.map sL++[sL []]:=r1
 refine V J ?_
 have K:(o.map sL++[sL []]).map oU=(o++[[]]).map jc:=by refine az alV (az gZ<|V bY ?_);rfl
 refine V K ?_
 refine nK (d:=d) (λv=>∃a,v=[a]) (λx=>match x with| .str y=> .int y.length|_=> .none) _ _ ⟨Z,rfl⟩ (by refine V (bC ..) (V bQ<|V c ?_);simp;exact aK) (λx C v μ D z E=>?_) ?_
 ·refine Ex z λa A=>?_;clear z;subst A
  refine aD (bg.mp C) λk L A=>?_;clear C;subst A
  have K7:k.length<=1000000:=by
   rcases cj.mp L with q|q
   ·have:=R k q
    unfold Lw.M at this;exact la 0x1283d090040600455010610440a1520 [_,_] rfl this<|lD _<|by decide
   ·rewrite[bH.mp q];simp
  refine cJ _ rfl rfl _ rfl<|WL.wF (by refine V (aQ ..) (V c ?_);exact aK) ?_
  exact E [Y (.s<|sL k)] ⟨_,rfl⟩
 have N:((o++[[]]).map jc).map (λx:af=>match x with| .str y=>jr y.length|_=> .none)=((o++[[]]).map λr:List Nat=>(r.length:Int)).map jr:=by
  refine V bY<|V bY<|
   sP λk E=>?_
  simp only[CC,jc,aQ]
 refine V N<|
  WL.OT rfl (by simp) λm hm B=>(ah _ rfl<|WL.ou (by decide)<|WL.fK ?_)
 have u:((4:Int)+(l.mZ:Int).fmod 20)=((l.M:Nat):Int):=by
  refine V (show(20:Int)=((20:Nat):Int) from rfl) (V (yV _ _<|by decide) ?_);unfold Lw.M;exact lA (li 0x4a8028540470a1520 [_,_] rfl<|Li.ca _ _)<|li 0x4a0a15200460a1520 [_,_] rfl<|Li.ca _ _
 refine V u ?_
 refine WL.gt<|WL.tB<|WL.bK ?_<|WL.bK (by decide)<|WSs.n j
 refine aD (bg.mp hm) λr hr A=>?_;clear hm B;subst A
 have:r.length<=l.M:=by
  rcases cj.mp hr with q|q
  ·exact R r q
  ·rewrite[bH.mp q];exact eL _
 simp;assumption
theorem Lw.GQ(j:10<=d)(a:l.ok w)
  (q:WSs w d s (l.st (h::m::n::o::g::b::p::Y (.s<|sL l.pM)::Y (.d<|dm l l.old)::Y (.d<|dm l l.new)::t) μ) Q):
  WSs w d (.k JP s) (l.st (h::m::n::o::g::b::p::Y (.s<|sL l.pM)::A::B::t) μ) Q:=by
 have i:=bI
 have C:=Lw.J9 a
 have u:=Lw.pL (l:=l) a.o3
 have v:=Lw.pL (l:=l) a.o4
 have e:∀r∈[l.dR l.old,l.dR l.new],(10:Nat)∉r:=λr x y=>by
  simp only[iX,lW,or_false] at x
  rcases x with rfl|rfl
  ·exact(Lw.Bp a.o1 _ y).1.2.1 rfl
  ·exact(Lw.Bp a.o2 _ y).1.2.1 rfl
 have D:=Ir (f:=[10]) (c:=10) rfl (by simp) (by decide+kernel) [l.dR l.old,l.dR l.new] e
 have E:=Iu (f:=[10]) (c:=10) rfl (by simp) [l.dR l.old,l.dR l.new] e
 have z:(aR [10] [l.dR l.old,l.dR l.new]).length<=1000:=by refine V (R4 ..) ?_;simp;exact la 0x128fa02042091091860044079081841101e42060 [_,_] rfl u v
 refine WSs.c ?_
 simp only[JP];walk_at "w"
 refine cJ _ rfl rfl _ rfl<|WL.kW (by exact la 0x4a81204481a [_] rfl j) C.dh rfl rfl ⟨rfl,(
  V tG ?_)⟩
 refine(WL.split<|g5 (by decide+kernel) (by refine V (aQ ..) (V i ?_);exact aK) ?_ ?_)
 ·refine V E (V i ?_);refine(?_:3<=16777216);decide
 refine V D ?_
 refine fH _ Z (Y 2) rfl (by refine V i ?_;refine(?_:3<=16777216);decide) rfl rfl ?_
 have G:=yM (p_ oU<|[l.dR l.old,l.dR l.new].map sL++[sL []]) 2<|by refine(?_:2<=3);decide
 have k:kQ (p_ oU<|[l.dR l.old,l.dR l.new].map sL++[sL []]) Z (Y 2)=[dm l l.old,dm l l.new]:=G
 exact V k
  (show asgAll (.k (.t<|.k (.n 20)<|.k (.n 21) .z) .z) (.l [dm l l.old,dm l l.new]) _ _ from⟨rfl,q⟩)
theorem Lw.p12(a:l.ok w)
  (q:WSs w d s (l.st (h::m::n::o::g::b::p::f::Y (.d<|dm l l.old)::Y (.d<|dm l l.new)::Y (.d l.yY)::t) μ) Q):
  WSs w d (.k JQ s) (l.st (h::m::n::o::g::b::p::f::Y (.d<|dm l l.old)::Y (.d<|dm l l.new)::r::t) μ) Q:=by
 have i:=bI
 have c:2<=aL:=by refine V i ?_;decide
 have j:3<=aL:=by refine V i ?_;decide
 have u:=Lw.pL (l:=l) a.o3
 have v:=Lw.pL (l:=l) a.o4
 have y:("\n":H).length=1:=by decide+kernel
 refine WSs.c ?_
 simp only[JQ];walk_at "w"
 refine ah _ rfl ?_
 refine WL.iP (V (aQ ..)<|V y<|V i<|gI (by assumption)<|by rfl) ?_
 refine V tG<|V (d9 ..)<|
  cJ [.str "",.str (sL<|l.dR l.old++[10])] rfl c _ rfl (WL.fK<|ah _ rfl ?_)
 have z:((l.num:Int)+1)=((l.num+1:Nat):Int):=by lia
 refine V z<|
  cJ [.int (l.num+1:Nat),dm l l.new] rfl c [.tuple [.str "",.str (sL<|l.dR l.old++[10])],.tuple [.int (l.num+1:Nat),dm l l.new],.bool true] rfl (bR j _ rfl<|eS _ rfl [.int l.num,dm l l.old] rfl c<|ah _ rfl ?_)
 refine WL.iP (by refine V (aQ ..) (V (aQ ..)<|V i ?_);simp;exact aK) ?_
 refine V (d9 ..)<|
  cJ [.str "",.str (sL<|l.dR l.new++[10])] rfl c [.tuple [.int l.num,dm l l.old],.tuple [.str "",.str (sL<|l.dR l.new++[10])],.bool true] rfl (bR j _ rfl<|bR c _ rfl ?_)
 have e:l.eK=0\/l.eK=1:=by unfold Lw.eK;lia
 refine WL.jd (k:=l.eK) (x:=l.yY) c ?_ q
 unfold Lw.yY
 rcases e with e|e
 ·refine V e (V (if_pos rfl) ?_);rfl
 ·refine V e (V (if_neg<|by decide) ?_);rfl
theorem Lw.p2(j:10<=d)(a:l.ok w)(q:Q .nx (l.st (l.t2<|bV 12 Z) [Y .fX,Z])):
  WSs w d J1 (l.st (Y l.qz::bV 22 Z) [Y .fX]) Q:=by
 exact Lw.p2a (w:=w) (d:=d) (t:=[]) j a<|
  Lw.p8 j a (Lw.p9 j a<|Lw.GP j a<|Lw.GQ j a<|Lw.p12 a<|WSs.n q)
end
abbrev Pc:=af×List Nat
def aP(p:Pc):af:= .tuple [p.1,.str (sL p.2)]
noncomputable def r9:Pc:=(.str "",[32])
theorem agO:g_=aP r9:=by exact V AR rfl
noncomputable def qA:Nat->List Pc->List Pc->List (Pc×Pc)
 |0,_,_=>[]
 |n+1,as,b=>(as.headD r9,b.headD r9)::qA n as.tail b.tail
theorem amm:qA 0 a b=[]:=rfl
theorem agP:qA (n+1) as b=(as.headD r9,b.headD r9)::qA n as.tail b.tail:=rfl
theorem EG(as:List Pc):(as.map aP).headD g_=aP (as.headD r9):=by
 cases as with
 |nil=>exact agO
 |cons a as=>rfl
theorem EH(as:List Pc):(as.map aP).tail=as.tail.map aP:=by cases as<;>rfl
theorem agQ(c:af)(a:Nat)(as:List Pc)(b:List Pc):oq c a (as.map aP) (b.map aP)=(qA a as b).map λq=> .tuple [aP q.1,aP q.2,c]:=by
 induction a generalizing as b with
 |zero=>
  exact rfl
 |succ n f=>
  refine V af0<|V agP ?_
  exact V (EG ..)<|V (EG ..)<|V (EH ..)<|V (EH ..)<|V (f ..)<|V ee rfl
theorem J_(a:Nat)(as:List Pc)(b:List Pc):(qA a as b).length=a:=by
 induction a generalizing as b with
 |zero=>
  exact rfl
 |succ n f=>
  skip;exact V cX<|V (f ..) rfl
def yZ(n:Nat)(as:List af):List af:=(as++bV n g_).take n
theorem agR(m n:Nat)(as:List af)(h:n<=m):(as++bV (m+1) g_).take n=(as++bV m g_).take n:=by
 (refine V List.replicate_succ' (az (eO ..) ?_);rw[alM])
 refine V bQ (V sQ ?_);exact la 0x4a0a18a0044860 [_,_,_] rfl h
theorem R6(n:Nat)(as:List af):yZ (n+1) as=as.headD g_::yZ n as.tail:=by
 unfold yZ
 cases as with
 |nil=>
  refine V (jt ..) (V nX<|V Cy ?_);rfl
 |cons a as=>
  refine V zS (V Cy<|V (agR n n as<|bM _) ?_);rfl
theorem agS(a:Nat)(as:List Pc)(b:List Pc):qi (yZ a<|as.map aP) (yZ a<|b.map aP)=(qA a as b).map λq=> .tuple [aP q.1,aP q.2]:=by
 induction a generalizing as b with
 |zero=>
  skip;rfl
 |succ n f=>
  have f:=f as.tail b.tail
  refine V (R6 ..)<|V (R6 ..)<|V (EG ..)<|V (EG ..)<|V (EH ..)<|V (EH ..) ?_
  refine V ee<|az f ?_
  rfl
structure cA where
 as:List Pc
 bs:List Pc
 fl:af
noncomputable def cA.n(b:cA):Nat:=max b.as.length b.bs.length
def cA.zp(b:cA):List (Pc×Pc):=qA b.n b.as b.bs
def cA.dI(b:cA):List af:=b.zp.map λq=> .tuple [.tuple [aP q.1,aP q.2],b.fl]
def cA.qv(b:cA):List af:=b.zp.map λq=> .tuple [aP q.1,aP q.2,b.fl]
def cA.jG(b:cA):List eH:=b.zp.map λq=> .pr q.1.1 (sL q.1.2) q.2.1 (sL q.2.2) b.fl
noncomputable def wY:af:= .tuple [.tuple [.none,.none],.none]
noncomputable def agT:af:= .tuple [.none,.none,.none]
theorem cA.Bq(b:cA):b.jG.map eH.data=b.qv:=by
 refine V bY ?_
 refine sP λq a=>?_
 rfl
def lT(p:Pc):Prop:=Js p.1/\p.2.length<=200/\∀c∈p.2,tL c
theorem agU:lT r9:=(bJ (.inr<|.inl rfl) (by decide) λc a=>by
 rewrite[bH.mp a]
 exact⟨by decide,λ_=> .inr<|.inr<|.inr rfl⟩)
theorem R7{P:Pc->Prop}(c:P r9){as:List Pc}(h:∀p∈as,P p):P (as.headD r9):=by
 cases as with
 |nil=>exact c
 |cons a as=>exact h a aZ
theorem R8{P:Pc->Prop}(c:P r9):∀(n:Nat) (as b:List Pc),(∀p∈as,P p)->(∀p∈b,P p)->∀q∈qA n as b,P q.1/\P q.2
 |0,_,_,_,_,q,h=>by cases h
 |n+1,as,b,a,g,q,h=>by
  refine bN h ?_ λh=>?_
  ·exact⟨R7 c a,R7 c g⟩
  ·exact R8 c n as.tail b.tail (λp k=>a p<|amb k) (λp k=>g p<|amb k) q h
theorem y9{l:List Nat}(h:∀c∈l,c<1114112):qX (sL l)=true:=by
 unfold qX
 rw[amc]
 intro c a
 have:c∈l:=by
  have:=amd.mpr a
  rwa[fq] at this
 simpa using h c this
theorem R9{x:H}:qX x=true↔∀c∈x.cps.toList,c<1114112:=by
 constructor
 ·intro h c a
  unfold qX at h
  rw[amc] at h
  simpa using h c (amd.mp a)
 ·intro h
  refine az (Dq x) ?_;exact y9 h
theorem qB{x y:H}(d:qX x=true)(i:qX y=true):qX (x++y)=true:=by
 rw[R9] at*
 intro c a
 rw[OH] at a
 rcases cj.mp a with a|a
 ·exact d c a
 ·exact i c a
theorem R_(n:Int):qX (dh n)=true:=by
 rw[R9]
 intro c a
 by_cases h:c<1114112
 ·exact h
 ·exact absurd a<|int_text_free' c ⟨by exact λq=>li 0x3011ad041801120110000101 [_] rfl (Li.cl<|jn.mp h)<|Li.ce q,by omega⟩ n
theorem agV:∀l:List Nat,∃M,Bk l M:=λl=>by
 have h:∀(n:Nat) (l:List Nat),l.length=n->∃M,Bk l M:=λn=>by
  induction n with
  |zero=>
   intro l e
   refine V (Vj e) ?_
   exact⟨0,.inl rfl,λk c h _=>by simp at h⟩
  |succ n f=>
   intro l e
   rcases CA l with rfl|⟨a,c,rfl⟩
   ·cases e
   ·rw[Gp] at e ⊢
    have j:a.length=n:=by simpa using e
    by_cases g:c=9\/c=10\/c=160
    ·obtain⟨M,d,i⟩:=f a j
     refine⟨M,?_,λk x b m=>?_⟩
     ·rcases d with d|⟨k,x,r,q,s⟩
      ·exact .inl d
      ·exact .inr<|gx k x r (by refine V (pT (fF.mp q).1) ?_;exact q) s
     ·by_cases o:k<a.length
      ·rw[pT o] at b
       exact i k x b m
      ·rw[kJ (by exact TZ<|by assumption)] at b
       have p:=(fF.mp b).1
       simp at p
       have:k-a.length=0:=by assumption
       rw[this] at b
       cases b
       exact absurd g m
    ·refine⟨a.length+1,.inr<|gx a.length c rfl (by refine V (kJ<|bM _) (V (Fx ..) ?_);rfl) g,λk x b m=>?_⟩
     have:=(fF.mp b).1
     simp at this
     assumption
 exact h _ l rfl
theorem agW{c:Nat}(h:c<1114112):∀k∈gp c,k<1114112:=by
 have f:∀k∈yQ,k<1114112:=by decide
 have a:∀k∈vq,k<1114112:=by decide
 have e:∀k∈vv,k<1114112:=by decide
 have d:∀k∈vt,k<1114112:=by decide
 intro k b
 unfold gp fj at b
 split at b
 ·exact f k b
 ·split at b
  ·exact a k b
  ·split at b
   ·exact e k b
   ·split at b
    ·exact d k b
    ·rewrite[bH.mp b];exact h
theorem agX{l:List Nat}(e:l.length<=200)(h:∀c∈l,tL c):qX (qo<|sL l)=true/\(qo<|sL l).length<=1200:=by
 refine Ex (agV l) λM f=>?_
 refine V (Rd h f) ?_
 refine⟨y9 λc a=>?_,?_⟩
 ·refine aD (xA.mp a) λk b a=>?_
  exact agW (h k<|F0 b).1 c a
 ·refine V (aQ ..) ?_
  have d:=Jr Jq<|l.take M
  have i:(l.take M).length*6<=200*6:=ju (by refine V qV ?_;exact la 0x4a0c8081841120841103202060 [_,_] rfl e<|Gi _ _)<|bM _
  exact la 0x4a4b00818011035832020435a10440d6860 [_,_] rfl d i
theorem Sa{g:Int}{p:Pc}(hs:g=0\/g=1)(h:lT p):cg 2000 0 (.str<|kj g p.1<|sL p.2):=by
 refine gy h λf e a=>?_;clear h
 refine Ea (agX e a) λo q=>?_
 have l1:("<td class=\"diff_header\"":H).length=23:=by decide+kernel
 have l2:("</td><td nowrap=\"nowrap\">":H).length=25:=by decide+kernel
 have l3:("</td>":H).length=5:=by decide+kernel
 have l4:(">":H).length=1:=by decide+kernel
 have l0:(⟨#[]⟩:H).length=0:=rfl
 have j:∀b ln:H,qX b=true->qX ln=true->b.length<=100->ln.length<=100->cg 2000 0 (.str<|wI b ln<|sL p.2):=λb ln d i r s=>by
  refine cg.str ?_ ?_
  ·skip
   exact qB (qB (qB (qB (qB (qB (qB (by decide+kernel)<|by decide+kernel) d)<|by decide+kernel) i)<|by decide+kernel) o)<|by decide+kernel
  ·unfold wI
   simp only[wJ,l0,l1,l2,l3,l4];exact la 0x4a7d00810950a00990410a20910a1097041401101902062044064081841112c02060 [_,_,_] rfl q r s
 rcases f with⟨n,f,c,d⟩|f|f
 ·refine V f ?_
  have t:=AM c d
  have k:(gm g).length=4:=by unfold gm;split<;>decide+kernel
  have l:(" id=\"":H).length=5:=by decide+kernel
  have m:("\"":H).length=1:=by decide+kernel
  refine j (idOf g<|dh n) (dh n) ?_ (R_ n) ?_ aK
  ·skip
   refine qB (qB (qB (qB (by decide+kernel)<|by decide+kernel) ?_)<|R_ n)<|by decide+kernel
   unfold gm
   split<;>decide+kernel
  ·unfold idOf;simp only[wJ,l0,l,m];exact la 0x12819020424428028425500465210446a0 [_,_] rfl t k
 ·refine V f ?_;exact j "" "" (by decide+kernel) (by decide+kernel) (by decide+kernel)<|by decide+kernel
 ·refine V f ?_;exact j "" ">" (by decide+kernel) (by decide+kernel) (by decide+kernel)<|by decide+kernel
theorem agY:kT 111 "_line_wrapper" 72:=yk λP=>by kernel_rfl
theorem agZ:kT 111 "_collect_lines" 79:=yk λP=>by kernel_rfl
def Lw.sd(l:Lw)(L:List Sg)(n:Nat):List Pc:=(mV l.gE 100 (.int n) Z<|l.sh L).map λp=>(p.1,aq p.2)
theorem Lw.Sb(l:Lw)(L:List Sg)(n:Nat):(mV l.gE 100 (.int n) Z<|l.sh L).map eG=(l.sd L n).map aP:=by
 refine V bY ?_;rfl
def Lw.tR(l:Lw):List Sg:=if l.eK=0 then l.old else l.new
def Lw.bare(l:Lw):List Pc:=[(.str "",l.dR l.tR++[10])]
def Lw.tT(l:Lw):Bool:= !(j8<|l.old.map bP).eqv (.list<|l.new.map bP)
def Lw.b1(l:Lw):cA:=⟨l.sd l.old l.num,l.sd l.new<|l.num+1,.bool l.tT⟩
def Lw.b2(l:Lw):cA:=if l.eK=0 then⟨l.bare,l.sd l.new<|l.num+1,.bool true⟩ else⟨l.sd l.old l.num,l.bare,.bool true⟩
def Lw.items(l:Lw):List af:=l.b1.qv++([agT]++l.b2.qv)
def Lw.dI(l:Lw):List af:=l.b1.dI++([wY]++l.b2.dI)
theorem ag0(a:Nat)(b:Nat)(num:af)(c:Option Nat)(d:List Sg):(mV a b num c d).length<=b+1:=by
 induction b generalizing num c d with
 |zero=>
  exact bM _
 |succ f e=>
  refine V wM ?_
  split
  ·simp
  ·refine V cX ?_;have:=e (.str ">") (iQ Z<|d.take a) (d.drop a);exact Vq<|by assumption
theorem Lw.EI(l:Lw)(L:List Sg)(n:Nat):(l.sd L n).length<=101:=by refine V (bC ..) ?_;exact ag0 _ _ _ _ _
theorem EJ(l:Lw)(L:List Sg)(n:Nat)(b:n≠0):(di l.gE 100 (.int n)<|l.tk L).map eG=(l.sd L n).map aP:=by
 refine az (Lw.Sb ..) ?_
 delta di
 have:vf (.int (n:Int))=true:=by delta vf;simpa using b
 refine V (if_pos this) ?_
 have:=adC (l.ED.1) 100 (.int n) Z<|l.sh L
 have hp:fU Z (l.sh L)=[]:=by rfl
 rw[hp,jt] at this
 exact V this rfl
theorem Sd(l:Lw)(L:List Sg):(di l.gE 100 (.str "")<|l.tk L++[.s 10]).map eG=[aP (.str "",l.dR L++[10])]:=by
 delta di
 have:vf (.str "")=false:=by decide+kernel
 refine V this<|V (if_neg<|by decide) ?_
 refine(?_:[eG (.str "",l.tk L++[.s 10])]=_)
 delta eG aP Lw.dR
 refine V (jZ ..) ?_;rfl
def Lw.g2(l:Lw):dQ:=if l.eK=0 then .pr (.str "") (l.tk l.old++[.s 10]) (.int (l.num+1:Nat)) (l.tk l.new) true else .pr (.int l.num) (l.tk l.old) (.str "") (l.tk l.new++[.s 10]) true
def Lw.gs(l:Lw):List dQ:=[.pr (.int l.num) (l.tk l.old) (.int (l.num+1:Nat)) (l.tk l.new) l.tT,.eK,l.g2]
theorem ag1(l:Lw):l.g2.data=l.yY:=by
 delta Lw.g2 Lw.yY dm
 split
 ·refine(?_:CE [.tuple [.str "",.str (sL<|aq<|l.tk l.old++[.s 10])],_,_]=_)
  refine V (jZ ..) ?_;rfl
 ·refine(?_:CE [_,.tuple [.str "",.str (sL<|aq<|l.tk l.new++[.s 10])],_]=_)
  refine V (jZ ..) ?_;rfl
theorem Ka(a:Nat)(e f:af)(g h:List Tk)(b:Bool){as i:List Pc}(d:(di a 100 e g).map eG=as.map aP)(c:(di a 100 f h).map eG=i.map aP):dQ.out a 100 (.pr e g f h b)=(cA.mk as i<|.bool b).qv:=by
 refine(?_:oq (.bool b) (max (di a 100 e g).length (di a 100 f h).length) ((di a 100 e g).map eG) ((di a 100 f h).map eG)=_)
 have j:=congrArg xw d
 have k:=congrArg xw c
 rw[bC,bC] at j k
 refine V d (V c<|V j<|V k<|V (agQ ..) ?_);rfl
theorem Se(l:Lw):(l.gs.map<|dQ.out l.gE 100).flatten=l.items:=by
 have b:l.num≠0:=by delta Lw.num;lia
 refine V ee<|V ee<|V ee<|V j_<|V nc<|V nc<|V nc<|V alR<|V (iH ..) ?_
 have d:dQ.out l.gE 100 (.pr (.int l.num) (l.tk l.old) (.int (l.num+1:Nat)) (l.tk l.new) l.tT)=l.b1.qv:=Ka _ _ _ _ _ _ (EJ l _ _ b)<|EJ l _ _<|by lia
 have c:dQ.out l.gE 100 l.g2=l.b2.qv:=by
  delta Lw.g2 Lw.b2 Lw.bare Lw.tR
  by_cases a:l.eK=0
  ·refine V (if_pos a) (V (if_pos a)<|V (if_pos a) ?_)
   exact Ka _ _ _ _ _ _ (Sd l _)<|EJ l _ _<|by lia
  ·refine V (if_neg a) (V (if_neg a)<|V (if_neg a) ?_)
   exact Ka _ _ _ _ _ _ (EJ l _ _ b)<|Sd l _
 refine V d (V c ?_);rfl
theorem Br:∀(m:Option Nat) (G:List Tk) (c:Nat),jF m G->jF m (G++[.s c])
 |none,[],c,h=>rfl
 |some k,[],c,h=>by cases h
 |none,.o k::G,c,h=>Br (Y k) G c h
 |some k,.o _::G,c,h=>h.elim
 |some k,.e::G,c,h=>Br Z G c h
 |none,.e::G,c,h=>h.elim
 |none,.s _::G,c,h=>Br Z G c h
 |some k,.s _::G,c,h=>Br (Y k) G c h
theorem y_{l:Lw}{L:List Sg}(g:L.length<=6)(hs:∀p∈L,jf p){n:af}(b:ko n):wX l.gE 100 n (l.tk L)/\wX l.gE 100 n (l.tk L++[.s 10]):=by
 have e:=l.ED
 have d:=Lw.pL (l:=l) g
 have c:=Lw.yX (l:=l) g
 have i:dj (l.tk L)=(l.sh L).length:=P5 Z<|l.sh L
 have a:∀t∈l.tk L,t.ok:=λt a=>(RX<|Lw.R1 hs t a).1
 have j:jF Z (l.tk L):=P6 Z<|l.sh L
 have f:(100+1)*1<=(100+1)*l.gE:=ju (bM _) e.1
 refine⟨(sS b j a ?_ ?_),(sS b (Br Z _ 10 j) (λt h=>?_) ?_ ?_)⟩
 ·exact aK
 ·refine V i ?_;exact la 0x12a18011210d1091064081044781060 [_,_] rfl c f
 ·rcases cj.mp h with h|h
  ·exact a t h
  ·rewrite[bH.mp h];exact⟨by decide,by decide⟩
 ·refine V (jZ ..) (V bQ ?_)
  have:(aq [Tk.s 10]).length=1:=rfl
  have k:(aq<|l.tk L).length<=121:=d
  exact gI (by assumption)<|by rfl
 ·refine V (wN ..) (V i ?_)
  have:dj [Tk.s 10]=1:=rfl
  exact la 0x12a10a28011918811210d1091064081044781060 [_,_,_] rfl c f this
theorem cA.Sf(b:cA):b.qv.length=b.n:=by exact V (bC ..)<|V (J_ ..) rfl
theorem cA.tU(b:cA):b.dI.length=b.n:=by exact V (bC ..)<|V (J_ ..) rfl
theorem Lw.Kc(l:Lw):l.b1.n<=101/\l.b2.n<=101:=by
 have d:=l.EI l.old l.num
 have c:=l.EI l.new<|l.num+1
 refine⟨by exact(sR _ _).elim (λa=>la 0x4a0650818411a0841101942060 [_,_] rfl d<|uD a) λa=>la 0x4a0650818411a0841101942060 [_,_] rfl c<|xB a,?_⟩
 delta Lw.b2
 have:l.bare.length=1:=rfl
 split
 ·exact(sR _ _).elim (λa=>la 0x1281942061046821046460 [_,_] rfl this<|uD a) λa=>la 0x4a0650818411a0841101942060 [_,_] rfl c<|xB a
 ·exact(sR _ _).elim (λa=>la 0x4a0650818411a0841101942060 [_,_] rfl d<|uD a) λa=>la 0x1281942061046821046460 [_,_] rfl this<|xB a
theorem Lw.Kd(l:Lw):l.items.length<=203:=by
 have:=l.Kc
 refine V bQ (V bQ<|V (cA.Sf ..)<|V (cA.Sf ..)<|V vO ?_);exact la 0x12832c20420a1460044065081841101942060 [_,_] rfl this.1 this.2
theorem Sh(L:List Sg)(g:L.length<=6)(hs:∀p∈L,jf p):cg 100 2 (.list<|L.map bP):=by
 have d:∀p∈L,cg 4 1 (bP p):=λp hp=>by
  have a:=RP<|hs p hp
  have f:∀k,p.2=Y k->k<1114112:=λk h=>by
   rcases(hs p hp).2 with q|q|q|q<;>rw[q] at h<;>cases h<;>decide
  refine(cg.tuple (W:=1) (D:=0) (xs:=[.str (sL [p.1]),.str (dz p.2)]) λx b=>?_).aO (by refine(?_:2*2<=4);decide)<|bM _
  refine ni b ?_ ?_
  ·exact cg.str (y9 λc e=>by rewrite[bH.mp e];exact la 0x4b110000101801144002060 [_] rfl a.2.2.2.2)<|by refine V (aQ ..) ?_;simp
  ·refine cg.str ?_ (Eo _)
   cases q:p.2 with
   |none=>exact y9 λc e=>nomatch e
   |some k=>exact y9 λc e=>by rewrite[bH.mp e];exact f k q
 refine(cg.list (W:=4) (D:=1) λx b=>?_).aO ?_<|bM _
 ·refine aD (bg.mp b) λp hp i=>?_;subst i
  exact d p hp
 ·refine V (bC ..) ?_;lia
section
variable {w:aC} {d:Nat} {l:Lw}
theorem Lw.Si(a:l.ok w){q:St}{Q:PQ}(b:q.v[1]?=Y (Y<|fy l.old))(c:q.v[2]?=Y (Y<|fy l.new))(i:Q (.b l.tT) q):W w d (.bx .NotEq (.v 1)<|.v 2) q Q:=by
 walk_at "w"
 exact bG _ b _ c
  (WL.OP<|bJ ((Sh _ a.o3 a.o1).ok (by decide)<|by decide) ((Sh _ a.o4 a.o2).ok (by decide)<|by decide) i)
theorem Lw.ag2(a:l.ok w):yU w 104 (.ref 72) [.bF l.size l.gE,.d (.list<|l.gs.map dQ.data)] l.items:=by
 have g:=l.ED
 have b:ko (.int (l.num:Nat)):=by
  have:=a.o6
  delta ko Lw.num;lia
 have c:ko (.int (l.num+1:Nat)):=by
  have:=a.o6
  delta ko Lw.num;lia
 have e:ko (.str ""):=by delta ko;decide+kernel
 have:=agf w l.size l.gE 100 g.1 (by decide) l.gs (λr f=>?_)<|by refine V (Se ..) ?_;have:=l.Kd;exact aK
 ·rw[Se] at this
  exact this
 ·unfold Lw.gs at f
  refine GF f ?_ ?_ ?_
  ·exact⟨(y_ a.o3 a.o1 b).1,(y_ a.o4 a.o2 c).1⟩
  ·trivial
  ·delta Lw.g2
   split
   ·exact⟨(y_ a.o3 a.o1 e).2,(y_ a.o4 a.o2 c).1⟩
   ·exact⟨(y_ a.o3 a.o1 b).1,(y_ a.o4 a.o2 e).2⟩
theorem Lw.pR(p:200<=d)(a:l.ok w)(i:Q (l.st (l.t2 (Y (.l l.items)::t)) μ)):
  W w d (.v 9) (l.st (l.t2 (e::t)) μ) λu b=>mJ u=Y 111/\u.aq=true/\WXs w d J5 b λus h=>∃C k,k<=d/\us.all AV.aq=true/\yU w k (.ref 72) (u::us) C/\asgAll (.k (.n 23) .z) (.l C) h Q:=by
 have n:=bI
 have o:2<=aL:=by refine V n ?_;decide
 have j:3<=aL:=by refine V n ?_;decide
 refine fG _ rfl rfl rfl ?_
 delta J5
 walk_at "w"
 refine qZ _ rfl _ rfl [.int l.num,dm l l.old] rfl o<|ah _ rfl<|WL.fK<|ah _ rfl ?_
 have r:((l.num:Int)+1)=((l.num+1:Nat):Int):=by lia
 refine V r ?_
 refine bk [.int (l.num+1:Nat),dm l l.new] rfl o ?_
 have s:=Lw.Si (w:=w) (d:=d) (l:=l) a (q:=l.st (l.t2 (e::t)) μ) (Q:=λu b=>∃m,gM [.t [.int l.num,dm l l.old],.t [.int (l.num+1:Nat),dm l l.new],u]=Y m/\m.length<=aL/\∃f,gM [AV.n,.n,.n]=Y f/\f.length<=aL/\∃g,b.v[22]?=Y (Y g)/\∃c,gM [.t m,.t f,g]=Y c/\c.length<=aL/\∃C k,k<=d/\[AV.l c].all AV.aq=true/\yU w k (.ref 72) [.bF l.size l.gE,.l c] C/\asgAll (.k (.n 23) .z) (.l C) b Q) rfl rfl<|by
  refine cJ [.tuple [.int l.num,dm l l.old],.tuple [.int (l.num+1:Nat),dm l l.new],.bool l.tT] rfl j [.none,.none,.none] rfl (bR j _ rfl<|g8 (l.gs.map dQ.data) ?_ (by refine V (bC ..) ?_;exact j) l.items<|fG 104 (la 0x4a801a020411200c8081 [_] rfl p) rfl (Lw.ag2 a) i)
  delta Lw.gs
  refine V ee<|V ee<|V ee<|V j_<|V (ag1 ..) ?_
  rfl
 exact s
theorem Sj{q:St}{Q:PQ}{i:Nat}{as:List Pc}{n:Nat}(e:q.v[i]?=Y (Y<|.l<|as.map aP))(a:q.v[30]?=Y (Y<|.i n))(o:as.length<=1000)(k:n<=1000)(p:Q (.l<|yZ n<|as.map aP) q):
  W w d (.nD (.aI .Add (.v i)<|.aI .Mult (.ai<|.k (.bZ<|.k (.c<|.str "")<|.k (.c<|.str " ") .z) .z)<|.v 30) .kU<|.x<|.v 30) q Q:=by
 have c:=bI
 have r:2<=aL:=by refine V c ?_;decide
 have u:1<=aL:=by refine V c ?_;decide
 have h:(as.map aP).length=as.length:=bC ..
 walk_at "w"
 refine eS _ e [.str "",.str " "] rfl r<|cJ [g_] rfl u _ a ?_
 refine(WL.mulL<|g5 (by lia) (by lia) (by refine V (gY ..) ?_;simp;exact aK) ?_)
 have f:(bV (n:Int).toNat [g_]).flatten=bV n g_:=by
  refine V (gY ..) ?_
  induction n with
  |zero=>rfl
  |succ m b=>
   refine V nX<|V nc<|V nX ?_
   have:∀m:Nat,(bV m [g_]).flatten=bV m g_:=λm=>by
    induction m with
    |zero=>rfl
    |succ m b=>refine V nX (V nc<|V b<|V nX ?_);rfl
   refine V (this ..) ?_;rfl
 refine V f ?_
 refine WL.OQ (by refine V h (V sQ<|V c ?_);exact la 0x4a0400000050428600443e808184110fa02060 [_,_] rfl o k)<|ah _ a<|fH _ Z (Y (n:Int)) rfl (by refine V bQ (V h<|V sQ<|V c ?_);exact la 0x4a0400000050428600443e808184110fa02060 [_,_] rfl o k) rfl rfl ?_
 refine V (yM _ _<|by refine V bQ (V sQ ?_);exact uB _ _) ?_
 exact p
def Lw.tV(l:Lw)(e f g:Option AV)(a b c i:Option AV)(t:List (Option AV))(T:List af):St:=
 l.st (l.t2 (e::f::g::Y (.m 2)::a::b::c::i::t)) [Y .fX,Z,Y (.ai T)]
theorem Lw.Sk{e f g i:Option AV}{t:List (Option AV)}{T:List af}{b:cA}{Q:FQ}(o:b.as.length<=1000)(B:b.bs.length<=1000)(E:T.length<=10000)(G:(AV.d b.fl).aq=true)
  (p:Q .nx (l.tV e f g (Y<|.l<|b.as.map aP) (Y<|.l<|b.bs.map aP) (Y<|.d b.fl) (Y<|.i b.n) t<|(if T=[] then[] else T++[wY])++b.dI)):
  WSs w d JV (l.tV e f g (Y<|.l<|b.as.map aP) (Y<|.l<|b.bs.map aP) (Y<|.d b.fl) i t T) Q:=by
 have c:=bI
 have r:2<=aL:=by refine V c ?_;decide
 have u:1<=aL:=by refine V c ?_;decide
 have h:(b.as.map aP).length=b.as.length:=bC ..
 have m:(b.bs.map aP).length=b.bs.length:=bC ..
 have D:∀q:List af,q.length<=10001->Q .nx (l.tV e f g (Y<|.l<|b.as.map aP) (Y<|.l<|b.bs.map aP) (Y<|.d b.fl) (Y<|.i b.n) t<|q++b.dI)->
   WSs w d (.k JT<|.k JU .z) (l.tV e f g (Y<|.l<|b.as.map aP) (Y<|.l<|b.bs.map aP) (Y<|.d b.fl) i t q) Q:=λq y I=>by
  refine WSs.c ?_
  simp only[JT];walk_at "w"
  refine cJ _ rfl rfl _ rfl<|bR rfl _ rfl<|WL.rQ (xs:=b.as.map aP) rfl (by refine V h (V c ?_);exact aK)<|cJ _ rfl rfl _ rfl<|WL.rQ (xs:=b.bs.map aP) rfl (by refine V m (V c ?_);exact aK)<|WL.OS ?_
  have J:(if ((b.bs.map aP).length:Int)>((b.as.map aP).length:Int) then((b.bs.map aP).length:Int) else((b.as.map aP).length:Int))=((b.n:Nat):Int):=by
   refine V h<|V m ?_
   unfold cA.n
   split<;>lia
  refine V J ?_
  have k:b.n<=1000:=by exact(sR _ _).elim (λz=>la 0x4a3e80818411a084110fa02060 [_,_] rfl o<|uD z) λz=>la 0x4a3e80818411a084110fa02060 [_,_] rfl B<|xB z
  refine WSs.c ?_
  simp only[JU];walk_at "s"
  refine ah _ rfl ?_
  refine V w_comp<|V w_iy<|V w_g ?_
  refine bk _ rfl rfl ?_
  refine Sj (as:=b.as) (n:=b.n) rfl rfl o k<|ah _ rfl ?_
  refine Sj (as:=b.bs) (n:=b.n) rfl rfl B k<|bk _ rfl ?_ ?_
  ·exact i_ rfl
  refine V (agS ..) ?_
  have A:((qA b.n b.as b.bs).map λs:Pc×Pc=>CE [aP s.1,aP s.2]).length=b.n:=by exact V (bC ..)<|V (J_ ..) rfl
  refine nK (d:=d) (λv=>∃a,v=[a,Y (.d b.fl)]) (λx=> .tuple [x,b.fl]) _ _ ⟨Z,rfl⟩ (by refine V A (V c ?_);exact aK) (λx R v μ U C K=>?_) ?_
  ·refine Ex C λa L=>?_;clear C;subst L
   walk_at "w"
   exact qZ _ rfl _ rfl [x,b.fl] rfl r<|K [Y (.d x),Y (.d b.fl)] ⟨_,rfl⟩
  have N:p_ (λx=>CE [x,b.fl]) ((qA b.n b.as b.bs).map λs:Pc×Pc=>CE [aP s.1,aP s.2])=b.dI:=by refine V bY ?_;rfl
  refine V N ?_
  refine(WL.HW<|bk q rfl (by refine V (cA.tU ..) (V c ?_);exact la 0x12810000001410a180110fa0206104409c443060 [_,_] rfl y k)<|WSs.n I)
 refine WSs.c ?_
 simp only[RM];walk_at "w"
 refine bG _ rfl _ rfl ?_
 refine(WL.tM<|bk T rfl (by refine V c ?_;exact aK) ?_)
 by_cases j:T=[]
 ·clear E;subst j
  refine WL.bK (by decide)<|bk [] rfl (eL _) ?_
  refine(WL.HW<|bk [] rfl (eL _) ?_)
  exact D [] (by simp) p
 ·rw[if_neg j] at p
  refine WL.cy (by simpa using j)<|cJ [.none,.none] rfl r [.tuple [.none,.none],.none] rfl<|bR r [wY] rfl ⟨u,?_⟩
  refine(WL.HW<|bk T rfl (by refine V c ?_;simp;exact aK) ?_)
  exact D (T++[wY]) (by refine V bQ (V vO ?_);exact gI (by assumption)<|by rfl) p
end
theorem ag3(b:List Sg)(m:Option Nat)(h:vz m)(hs:(∀p∈b,jf p)):vz (iQ m b):=by
 induction b generalizing m with
 |nil=>
  exact h
 |cons a r o=>
  obtain⟨c,e⟩:=a
  exact o e (hs (c,e) aZ).2 λp hp=>hs p<|a_ _ hp
theorem ag4{a:Option Nat}(h:vz a)(b:List Sg):∀t∈fU a b,tQ t:=λt g=>by
 unfold fU at g
 split at g
 ·rename_i k _ m _
  split at g
  ·cases g
  ·refine ni g ?_ ?_
   ·unfold vz at h
    simp only[reduceCtorEq,LU,false_or] at h
    exact h
   ·trivial
 ·cases g
theorem ag5(e:Nat):∀(f:Nat) (num:af) (a:Option Nat) (b:List Sg),vz a->(∀p∈b,jf p)->b.length<=30->
  ∀q∈mV e f num a b,(q.1=num\/q.1= .str ">")/\(∀t∈q.2,tQ t)/\(aq q.2).length<=200:=λf=>by
 have h:∀(num:af) (a:Option Nat) (b c:List Sg),vz a->(∀p∈c,jf p)->c.length<=30->(∀t∈fU a b++dW Z c,tQ t)/\(aq<|fU a b++dW Z c).length<=200:=λnum a b c l hs k=>by
  refine⟨λt g=>?_,?_⟩
  ·rcases cj.mp g with g|g
   ·exact ag4 l b t g
   ·exact J8 c Z hs t g
  ·refine V (jZ ..) (V bQ ?_)
   have j:=QK a b
   have m:=RZ c Z
   exact la 0x12832020428a10440910e05220444e1104781060 [_,_,_] rfl k j m
 induction f with
 |zero=>
  intro num a b l hs k q i
  rewrite[bH.mp i]
  exact⟨.inl rfl,h num a b b l hs k⟩
 |succ f o=>
  intro num a b l hs k q i
  rw[wM] at i
  split at i
  ·rewrite[bH.mp i]
   exact⟨.inl rfl,h num a b b l hs k⟩
  ·have n:∀p∈b.take e,jf p:=λp hp=>hs p (F0 hp)
   refine bN i ?_ λi=>?_
   ·exact⟨.inl rfl,h num a b _ l n<|by refine V qV ?_;exact la 0x4a781061044821044781060 [_,_] rfl k<|Gi _ _⟩
   ·have:=o (.str ">") (iQ Z<|b.take e) (b.drop e) (ag3 _ _ (.inl rfl) n) (λp hp=>hs p<|List.mem_of_mem_drop hp) (by refine V kM ?_;exact la 0x4a781061044821044781060 [_,_] rfl k<|qW _ _) q i
    exact⟨.inr<|this.1.elim id id,this.2⟩
section
variable {w:aC} {d:Nat} {l:Lw}
theorem Lw.Sl{L:List Sg}(f:L.length<=6)(hs:∀p∈L,jf p){n:Nat}(b:n<10^10):∀p∈l.sd L n,lT p:=λp hp=>by
 refine aD (bg.mp hp) λq i g=>?_;clear hp;subst g
 refine gy (ag5 l.gE 100 (.int n) Z (l.sh L) (.inl rfl) (Lw.R0 hs) (Lw.yX f) q i) λj m a=>?_
 refine bJ ?_ a λc e=>(RY m c e).2
 rcases j with j|j
 ·exact .inl<|bk n j (by lia)<|by lia
 ·exact .inr<|.inr j
theorem Lw.Sm(a:l.ok w):∀p∈l.bare,lT p:=λp hp=>by
 have j:∀L:List Sg,L.length<=6->(∀p∈L,jf p)->lT ((.str "",l.dR L++[10]):Pc):=λL f hs=>by
  refine bJ (.inr<|.inl rfl) ?_ λc e=>?_
  ·have:=Lw.pL (l:=l) f
   refine V bQ (V vO ?_);exact gI (by assumption)<|by rfl
  ·have e:c∈l.dR L++[10]:=e
   rcases cj.mp e with e|e
   ·exact(Lw.Bp hs c e).2
   ·rewrite[bH.mp e]
    exact⟨by decide,λ_=> .inr<|.inl rfl⟩
 unfold Lw.bare Lw.tR at hp
 rewrite[bH.mp hp]
 split
 ·exact j _ a.o3 a.o1
 ·exact j _ a.o4 a.o2
structure cA.ok(k:cA):Prop where
 a:∀p∈k.as,lT p
 b:∀p∈k.bs,lT p
 f:∃x,k.fl= .bool x
theorem Lw.Bs(a:l.ok w):l.b1.ok/\l.b2.ok:=by
 have b:l.num<10^10/\l.num+1<10^10:=by
  have:=a.o6
  unfold Lw.num;lia
 have c:=Lw.Sl (l:=l) a.o3 a.o1 b.1
 have e:=Lw.Sl (l:=l) a.o4 a.o2 b.2
 refine⟨⟨c,e,_,rfl⟩,?_⟩
 unfold Lw.b2
 split
 ·exact⟨Lw.Sm a,e,_,rfl⟩
 ·exact⟨c,Lw.Sm a,_,rfl⟩
theorem Sn{p:Pc}(h:lT p):cg 500 1 (aP p):=by
 refine gy h λb k e=>?_;clear h
 refine(cg.tuple (W:=200) (D:=0) (xs:=[p.1,.str (sL p.2)]) λx hx=>?_).aO (by refine(?_:2*201<=500);decide)<|bM _
 refine ni hx ?_ ?_
 ·rcases b with⟨n,b,a,j⟩|b|b
  ·refine V b ?_;exact(cg.int<|by lia).aO (by decide)<|bM _
  ·refine V b ?_;exact cg.str (by decide+kernel)<|by decide+kernel
  ·refine V b ?_;exact cg.str (by decide+kernel)<|by decide+kernel
 ·exact cg.str (y9 λc h=>(e c h).1)<|by refine V (aQ ..) ?_;exact k
theorem cA.Ke{b:cA}(h:b.ok):∀q∈b.zp,lT q.1/\lT q.2:=R8 agU b.n b.as b.bs h.a h.b
theorem cA.So{b:cA}(h:b.ok):∀x∈b.qv,cg 2000 2 x:=λx hx=>by
 refine aD (bg.mp hx) λq i g=>?_;clear hx;subst g
 refine Ea (cA.Ke h q i) λj m=>?_
 refine Ex h.f λf a=>?_
 refine(cg.tuple (W:=500) (D:=1) (xs:=[aP q.1,aP q.2,b.fl]) λx hx=>?_).aO (by refine(?_:3*501<=2000);decide)<|bM _
 refine GF hx ?_ ?_ ?_
 ·exact Sn j
 ·exact Sn m
 ·refine V a ?_;exact(cg.bool f).aO (eL _)<|eL _
theorem Lw.ag6(a:l.ok w):(j8 l.items).layable0=true:=by
 refine Ea (Lw.Bs a) λk1 b=>?_
 refine(cg.list (W:=2000) (D:=2) λx hx=>?_).ok ?_<|by decide
 ·skip
  rcases cj.mp hx with hx|hx
  ·exact cA.So k1 x hx
  ·rcases cj.mp hx with hx|hx
   ·rewrite[bH.mp hx]
    refine(cg.tuple (W:=0) (D:=0) (xs:=[.none,.none,.none]) λx hx=>?_).aO (by decide)<|by decide
    simp only[iX,lW,or_false] at hx
    rcases hx with rfl|rfl|rfl<;>exact cg.none
   ·exact cA.So b x hx
 ·have:=l.Kd
  have m:l.items.length*(2000+1)<=203*2001:=ju this<|bM _
  exact aK
noncomputable def Kf(x:af):af:=match x with
 | .tuple [.tuple [a,b],f]=> .tuple [a,b,f]
 |_=> .none
theorem Lw.ag7(l:Lw):l.dI.map Kf=l.items:=by
 have h:∀b:cA,b.dI.map Kf=b.qv:=λb=>by
  refine V bY ?_;rfl
 refine V gZ (V gZ<|V (h ..)<|V (h ..) ?_);rfl
theorem Lw.Sp(l:Lw):∀x∈l.dI,∃a b f,x= .tuple [.tuple [a,b],f]:=λx hx=>by
 have h:∀b:cA,∀x∈b.dI,∃a b f,x= .tuple [.tuple [a,b],f]:=λb x hx=>by
  refine aD (bg.mp hx) λq _ g=>?_;clear hx;subst g
  exact mq _ _ _ rfl
 rcases cj.mp hx with hx|hx
 ·exact h _ x hx
 ·rcases cj.mp hx with hx|hx
  ·rewrite[bH.mp hx];exact mq _ _ _ rfl
  ·exact h _ x hx
theorem Lw.tU(l:Lw):l.dI.length<=203:=by
 have:=l.Kc
 refine V bQ (V bQ<|V (cA.tU ..)<|V (cA.tU ..)<|V vO ?_);exact la 0x12832c20420a1460044065081841101942060 [_,_] rfl this.1 this.2
end
def Lw.s3(l:Lw)(t:List (Option AV)):St:=
 l.st (l.t2 (Y (.l l.items)::Y (.l [.list ((l.sd l.old l.num).map aP),.list ((l.sd l.new<|l.num+1).map aP)])::Y (.l<|l.bare.map aP)::Y (.l l.dI)::Y (.l<|l.b2.as.map aP)::Y (.l<|l.b2.bs.map aP)::Y (.d l.b2.fl)::Y (.i l.b2.n)::t)) [Y .fX,Z,Z]
section
variable {w:aC} {d:Nat} {l:Lw}
theorem Lw.p14(r:10<=d)(g:l.ok w)
  (i:WSs w d j (l.st (l.t2 (e::Y (.l [.list ((l.sd l.old l.num).map aP),.list ((l.sd l.new<|l.num+1).map aP)])::t)) μ) Q):
  WSs w d (.k JR j) (l.st (l.t2 (e::b::t)) μ) Q:=by
 have h:=bI
 have c:2<=aL:=by refine V h ?_;decide
 refine Ea l.ED λo s=>?_
 have p:=λ(L:List Sg) (a:L.length<=6) (n:Nat)=>QN w (l.sh L) l.gE 100 (.int n) o aK (by have:=Lw.yX (l:=l) a;exact aK) (by have:=Lw.yX (l:=l) a;exact aK) rfl
 have f:=p l.old g.o3 l.num
 have m:=p l.new g.o4<|l.num+1
 rw[Lw.Sb] at f m
 refine WSs.c ?_
 simp only[JR];walk_at "w"
 refine cJ _ rfl rfl _ rfl<|WL.jd (k:=0) c rfl<|bG _ rfl _ rfl<|WL.kW (by exact la 0x4a81104481a [_] rfl r) f rfl rfl<|cJ _ rfl rfl _ rfl<|WL.jd (k:=1) c rfl<|bG _ rfl _ rfl<|WL.fK ?_
 have q:((l.num:Int)+1)=((l.num+1:Nat):Int):=by lia
 refine V q ?_
 exact WL.kW (by exact la 0x4a81104481a [_] rfl r) m rfl rfl<|bk [.list ((l.sd l.old l.num).map aP),.list ((l.sd l.new<|l.num+1).map aP)] rfl c i
theorem Lw.p15(g:l.ok w)
  (i:WSs w d j (l.st (l.t2 (e::b::Y (.l<|l.bare.map aP)::Y (.m 2)::t)) [Y .fX,Z,Y (.ai [])]) Q):
  WSs w d (.k JS j) (l.st (l.t2 (e::b::f::m::t)) [Y .fX,Z]) Q:=by
 have h:=bI
 have c:2<=aL:=by refine V h ?_;decide
 have n:1<=aL:=by refine V h ?_;decide
 have o:=Lw.pL (l:=l) g.o3
 have p:=Lw.pL (l:=l) g.o4
 have a:l.eK=0\/l.eK=1:=by delta Lw.eK;lia
 have q:(l.dR l.tR).length<=121:=by delta Lw.tR;split<;>assumption
 have ln:("\n":H).length=1:=by decide+kernel
 refine WSs.c ?_
 simp only[JS];walk_at "w"
 refine bG _ rfl _ rfl<|WL.jd (k:=l.eK) (x:= .str<|sL<|l.dR l.tR) c ?_ ?_
 ·delta Lw.tR dm
  rcases a with a|a
  ·refine V a (V (if_pos rfl) ?_);rfl
  ·refine V a (V (if_neg<|by decide) ?_);rfl
 refine WL.iP (by refine V (aQ ..) (V ln<|V h ?_);exact gI (by assumption)<|by rfl) ?_
 refine V tG<|V (d9 ..) ?_
 exact cJ [.str "",.str (sL<|l.dR l.tR++[10])] rfl c [aP (.str "",l.dR l.tR++[10])] rfl<|bR n [] rfl<|g5 (eL _) c rfl i
theorem Lw.aha(r:10<=d)(g:l.ok w)
  (i:WSs w d j ((l.tV e (Y<|.l [.list ((l.sd l.old l.num).map aP),.list ((l.sd l.new<|l.num+1).map aP)]) (Y<|.l<|l.bare.map aP) (Y<|.l<|l.b2.as.map aP) (Y<|.l<|l.b2.bs.map aP) (Y<|.d l.b2.fl) (Y<|.i l.b2.n) t l.dI).gk 2 l.dI) Q):
  WSs w d (.k JW<|.gk 26 j) (l.tV e (Y<|.l [.list ((l.sd l.old l.num).map aP),.list ((l.sd l.new<|l.num+1).map aP)]) (Y<|.l<|l.bare.map aP) Z Z Z Z t []) Q:=by
 have h:=bI
 have c:2<=aL:=by refine V h ?_;decide
 have s:3<=aL:=by refine V h ?_;decide
 have v:=l.Kc
 have L:=l.EI l.old l.num
 have N:=l.EI l.new<|l.num+1
 have R:l.bare.length=1:=rfl
 have a:l.eK=0\/l.eK=1:=by delta Lw.eK;lia
 have y:(CE [.list (l.b2.as.map aP),.list (l.b2.bs.map aP),l.b2.fl])=if l.eK=0 then .tuple [.list (l.bare.map aP),.list ((l.sd l.new<|l.num+1).map aP),.bool true] else .tuple [.list ((l.sd l.old l.num).map aP),.list (l.bare.map aP),.bool true]:=by
  delta Lw.b2;split<;>rfl
 have o:mT (asg<|.t<|.k (.n 27)<|.k (.n 28)<|.k (.n 29) .z) (λq K=>WSs w d JV q K)
   [.tuple [.list ((l.sd l.old l.num).map aP),.list ((l.sd l.new<|l.num+1).map aP),.bool l.tT],.tuple [.list (l.b2.as.map aP),.list (l.b2.bs.map aP),l.b2.fl]]
   (l.tV e (Y<|.l [.list ((l.sd l.old l.num).map aP),.list ((l.sd l.new<|l.num+1).map aP)]) (Y<|.l<|l.bare.map aP) Z Z Z Z t []) (rO Q λp=>WSs w d (.gk 26 j) p Q):=by
  refine(show asg (.t<|.k (.n 27)<|.k (.n 28)<|.k (.n 29) .z) (.t [.list ((l.sd l.old l.num).map aP),.list ((l.sd l.new<|l.num+1).map aP),.bool l.tT]) _ _ from⟨rfl,?_⟩)
  refine Lw.Sk (w:=w) (d:=d) (l:=l) (b:=l.b1) (t:=t) (T:=[]) (e:=e) aK aK (by simp) rfl ?_
  refine(show asg (.t<|.k (.n 27)<|.k (.n 28)<|.k (.n 29) .z) (.t [.list (l.b2.as.map aP),.list (l.b2.bs.map aP),l.b2.fl]) _ _ from⟨rfl,?_⟩)
  have m:l.b2.as.length<=1000/\l.b2.bs.length<=1000:=by
   delta Lw.b2
   split
   ·exact⟨by exact oY _,by exact aK⟩
   ·exact⟨by exact aK,by exact oY _⟩
  have E:((if ([]:List af)=[] then[] else[]++[wY])++l.b1.dI)=l.b1.dI:=by exact V (if_pos rfl)<|V (jt ..) rfl
  refine V E ?_
  have z:l.b1.dI≠[]:=by
   intro G
   have:=congrArg xw G
   rw[cA.tU] at this
   have u:0<(l.sd l.old l.num).length:=by
    refine V (bC ..) ?_
    have:∀(f:Nat) (num:af) (n:Option Nat) (D:List Sg),0<(mV l.gE f num n D).length:=λf num n D=>by
     cases f with
     |zero=>simp[DZ,wM]
     |succ f=>refine V wM ?_;split<;>simp
    exact this _ _ _ _
   have I:l.b1.n=max (l.sd l.old l.num).length (l.sd l.new<|l.num+1).length:=rfl
   rw[I,l7] at this
   exact la 0xc044821045850046420 [_,_] rfl this u<|Gq _ _
  refine Lw.Sk (w:=w) (d:=d) (l:=l) (b:=l.b2) (t:=t) (T:=l.b1.dI) (e:=e) m.1 m.2 (by refine V (cA.tU ..) ?_;exact la 0x12827100c1801101942060 [_] rfl v.1) (by refine Ex ((Lw.Bs g).2.f) λf A=>?_;refine V A ?_;rfl) ?_
  have B:((if l.b1.dI=[] then[] else l.b1.dI++[wY])++l.b2.dI)=l.dI:=by
   refine V (if_neg z) (V (eO ..) ?_);rfl
  refine V B ?_
  exact WSs.fz<|gx 2 _ rfl rfl i
 refine WSs.c ?_
 simp only[JW];walk_at "w"
 refine ah _ rfl<|WL.jd (k:=0) c rfl<|ah _ rfl<|WL.jd (k:=1) c rfl ?_
 have A:∀C:PQ,C (.b l.tT) (l.tV e (Y<|.l [.list ((l.sd l.old l.num).map aP),.list ((l.sd l.new<|l.num+1).map aP)]) (Y<|.l<|l.bare.map aP) Z Z Z Z t [])->W w d (.bx .NotEq (.v 1)<|.v 2) (l.tV e (Y<|.l [.list ((l.sd l.old l.num).map aP),.list ((l.sd l.new<|l.num+1).map aP)]) (Y<|.l<|l.bare.map aP) Z Z Z Z t []) C:=λC J=>Lw.Si g rfl rfl J
 refine A _ ?_
 refine mh [.list ((l.sd l.old l.num).map aP),.list ((l.sd l.new<|l.num+1).map aP),.bool l.tT] rfl s _ rfl _ rfl<|WL.jd (k:=1) c rfl<|cJ [.list (l.bare.map aP),.list ((l.sd l.new<|l.num+1).map aP),.bool true] rfl s _ rfl<|WL.jd (k:=0) c rfl<|eS _ rfl [.list ((l.sd l.old l.num).map aP),.list (l.bare.map aP),.bool true] rfl s<|cJ
  [.tuple [.list (l.bare.map aP),.list ((l.sd l.new<|l.num+1).map aP),.bool true],.tuple [.list ((l.sd l.old l.num).map aP),.list (l.bare.map aP),.bool true]] rfl c _ rfl ?_
 refine WL.jd (k:=l.eK) (x:= .tuple [.list (l.b2.as.map aP),.list (l.b2.bs.map aP),l.b2.fl]) c ?_<|cJ _ rfl c _ rfl o
 refine V y ?_
 rcases a with a|a
 ·refine V a (V (if_pos rfl) ?_);rfl
 ·refine V a (V (if_neg<|by decide) ?_);rfl
theorem Lw.p18(g:l.ok w)(i:WSs w d j (l.s3 t) Q):WSs w d (.k JX j) (l.s3 t) Q:=by
 have h:=bI
 have c:2<=aL:=by refine V h ?_;decide
 have s:3<=aL:=by refine V h ?_;decide
 have n:=l.tU
 refine WSs.c ?_
 simp only[JX];walk_at "w"
 refine qZ _ rfl _ rfl _ rfl ?_ ?_
 ·exact i_ rfl
 refine nK (d:=d) (λv=>∃a b,v=[a,b]) Kf _ _ (dU Z Z rfl) (by refine V h ?_;exact aK) (λx k v μ p m o=>?_) ?_
 ·refine cC m λU q e=>?_;clear m;subst e
  refine xJ (l.Sp x k) λa b f e=>?_;clear k;subst e
  refine(show asg (.t<|.k (.n 0)<|.k (.n 1) .z) (.t [.tuple [a,b],f]) _ _ from⟨rfl,?_⟩)
  refine ah _ rfl ?_
  refine(WL.ow<|mj c (by decide) a rfl<|ah _ rfl ?_)
  refine(WL.ow<|mj c (by decide) b rfl<|eS _ rfl [a,b,f] rfl s ?_)
  exact o [Y (.t [a,b]),Y (.d f)]<|dU _ _ rfl
 refine V l.ag7 ?_
 exact WL.J7 (Lw.ag6 g)<|WL.tB<|WL.bK (by decide)<|WSs.n i
theorem Lw.p3(r:10<=d)(g:l.ok w)(i:Q .nx (l.s3<|bV 4 Z)):
  WSs w d J3 (l.st (l.t2 (Y (.l l.items)::bV 11 Z)) [Y .fX,Z]) Q:=by
 refine Lw.p14 (t:=bV 10 Z) r g<|Lw.p15 (t:=bV 8 Z) g ?_
 refine Lw.aha (t:=bV 4 Z) r g ?_
 exact Lw.p18 (t:=bV 4 Z) g<|WSs.n i
end
def Lw.jG(l:Lw):List eH:=l.b1.jG++([.eK]++l.b2.jG)
def Lw.jH(l:Lw):List af:=l.jG.map eH.c0
def Lw.jI(l:Lw):List af:=l.jG.map eH.c1
def Lw.oM(l:Lw):List af:=l.jG.map eH.fl
theorem Lw.Bq(l:Lw):l.jG.map eH.data=l.items:=by
 delta Lw.jG Lw.items
 refine V gZ (V gZ<|V (cA.Bq ..)<|V (cA.Bq ..) ?_);rfl
theorem Lw.ahc(l:Lw):l.jG.length<=203:=by
 have:=l.Kd
 rw[<-l.Bq,bC] at this;exact this
theorem Sq{n:af}(m:Js n):ko n:=by
 rcases m with⟨i,rfl,b,a⟩|rfl|rfl
 ·exact⟨b,a⟩
 ·delta ko;decide+kernel
 ·delta ko;decide+kernel
theorem cA.EL{k:cA}(m:k.ok):∀r∈k.jG,r.ok:=λr a=>by
 delta cA.jG at a
 refine aD (bg.mp a) λe s z=>?_;clear a;subst z
 refine uF (cA.Ke m e s) λc b f g=>?_;refine gy c λa1 a2 a3=>?_;clear c
 exact g5 (Sq a1) (by refine V (aQ ..) ?_;exact aK) (Sq b)<|by refine V (aQ ..) ?_;exact aK
section
variable {w:aC} {d:Nat} {l:Lw}
theorem Lw.EL(o:l.ok w):∀r∈l.jG,r.ok:=λr a=>by
 refine Ea (Lw.Bs o) λk1 c=>?_
 delta Lw.jG at a
 rcases cj.mp a with a|a
 ·exact cA.EL k1 r a
 ·rcases cj.mp a with a|a
  ·rewrite[bH.mp a];trivial
  ·exact cA.EL c r a
theorem Lw.pC(G:10<=d)(o:l.ok w){e f g:Option AV}{t:List (Option AV)}{Q:FQ}(m:Q .nx (l.s3 (Y (.l l.jH)::Y (.l l.jI)::Y (.l l.oM)::t))):
  W w d (.v 9) (l.s3 (e::f::g::t)) λu c=>mJ u=Y 111/\WXs w d (.k (.v 23) .z) c λus a=>(u::us).all AV.aq=true/\∃r k,k<=d/\rS w 1 k (.ref 79) (u::us) r/\r.aq=true/\asgAll (.k (.t<|.k (.n 31)<|.k (.n 32)<|.k (.n 33) .z) .z) r a λb=>Q .nx b:=by
 have j:=afp w l.size l.gE l.jG (Lw.EL o)<|by have:=l.ahc;exact aK
 rw[l.Bq] at j
 walk_at "w"
 exact⟨_,rfl,rfl,_,rfl,rfl,_,2,by exact la 0x4a81204481a [_] rfl G,j,rfl,rfl,m⟩
def vA(g:Int)(x:af):af:=match x with
 | .tuple [.tuple [_,_],.none]=> .none
 | .tuple [.tuple [.tuple [n,.str x],.tuple [m,.str y]],_]=> .str (if g=0 then kj 0 n x else kj 1 m y)
 |_=> .none
noncomputable def Kg(x:af):af:=match x with
 | .tuple [_,f]=>f
 |_=> .none
theorem cA.Bt{k:cA}(m:k.ok):k.dI.map (vA 0)=k.jG.map eH.c0/\k.dI.map (vA 1)=k.jG.map eH.c1/\k.dI.map Kg=k.jG.map eH.fl:=by
 refine Ex m.f λf g=>?_
 delta cA.dI cA.jG
 refine V g<|V bY<|V bY<|V bY<|V bY<|V bY<|V bY ?_
 exact bJ rfl rfl rfl
theorem Lw.Bt(o:l.ok w):l.dI.map (vA 0)=l.jH/\l.dI.map (vA 1)=l.jI/\l.dI.map Kg=l.oM:=by
 refine Ea (Lw.Bs o) λk1 c=>?_
 refine gy (cA.Bt k1) λa1 a2 a3=>?_
 refine gy (cA.Bt c) λb f g=>?_
 delta Lw.dI Lw.jH Lw.jI Lw.oM Lw.jG
 simp only[gZ]
 refine V a1<|V a2<|V a3<|V b<|V f<|V g ?_
 exact bJ rfl rfl rfl
theorem Lw.Kh(o:l.ok w):∀x∈l.dI,x=wY\/∃p e f,lT p/\lT e/\x= .tuple [.tuple [aP p,aP e],.bool f]:=λx hx=>by
 refine Ea (Lw.Bs o) λk1 c=>?_
 have m:∀b:cA,b.ok->∀x∈b.dI,∃p e f,lT p/\lT e/\x= .tuple [.tuple [aP p,aP e],.bool f]:=λb h x hx=>by
  delta cA.dI at hx
  refine aD (bg.mp hx) λe s z=>?_;clear hx;subst z
  refine Ea (cA.Ke h e s) λa i=>?_
  refine Ex h.f λf g=>?_
  exact z3 e.1 e.2 f a i (by exact V g rfl)
 delta Lw.dI at hx
 rcases cj.mp hx with hx|hx
 ·exact .inr<|m _ k1 x hx
 ·rcases cj.mp hx with hx|hx
  ·exact .inl<|bH.mp hx
  ·exact .inr<|m _ c x hx
theorem Su(o:l.ok w){g:Int}(hs:g=0\/g=1):∀x∈l.dI.map (vA g),cg 2000 0 x:=λx hx=>by
 refine aD (bg.mp hx) λy a z=>?_;clear hx;subst z
 rcases Lw.Kh o y a with rfl|⟨p,e,f,D,s,rfl⟩
 ·exact cg.none.aO (eL _)<|bM _
 ·show cg 2000 0 (.str (if g=0 then kj 0 p.1 (sL p.2) else kj 1 e.1 (sL e.2)))
  split
  ·exact Sa (.inl rfl) D
  ·exact Sa (.inr rfl) s
theorem Lw.Sv(G:10<=d)(o:l.ok w){g:Int}(hs:g=0\/g=1){μ:List (Option AO)}{Q:PQ}(m:Q (.l<|l.dI.map<|vA g) ⟨[Y (.i g),Y (.s<|gm g),Y (.l l.dI)],μ⟩):
  W w d (.comp (.ite (.bx .Is (.v 1)<|.c .none) (.c .none)<|.call 26<|.k (.v 2)<|.k (.sub (.sub (.v 0)<|.v 3)<|.c<|.int 0)<|.k (.sub (.sub (.v 0)<|.v 3)<|.c<|.int 1) .z) (.t<|.k (.n 0)<|.k (.n 1) .z) (.ai<|.v 2) .gP Ih [Z,Z,Y 1,Y 0])
   ⟨[Y (.i g),Y (.s<|gm g),Y (.l l.dI)],μ⟩ Q:=by
 have L:=bI
 have E:2<=aL:=by refine V L ?_;decide
 have htl:=l.tU
 walk_at "w"
 refine eS _ rfl _ rfl ?_ ?_
 ·exact i_ rfl
 refine nK (d:=d) (λv=>∃a b,v=[a,b,Y (.s<|gm g),Y (.i g)]) (vA g) _ _ (dU Z Z rfl) (by refine V L ?_;exact aK) (λx hx v μ K1 N I=>?_) m
 refine cC N λU b0 z=>?_;clear N;subst z
 rcases Lw.Kh o x hx with rfl|⟨p,e,f,D,s,rfl⟩
 ·refine(show asg (.t<|.k (.n 0)<|.k (.n 1) .z) (.t [.tuple [.none,.none],.none]) _ _ from⟨rfl,?_⟩)
  refine ah _ rfl<|WL.HT<|WL.tB<|WL.cy rfl ?_
  exact I [Y (.t [.none,.none]),Y .n,Y (.s<|gm g),Y (.i g)]<|dU _ _ rfl
 ·refine(show asg (.t<|.k (.n 0)<|.k (.n 1) .z) (.t [.tuple [aP p,aP e],.bool f]) _ _ from⟨rfl,?_⟩)
  refine ah _ rfl<|WL.HT<|WL.tB<|WL.bK (λe=>nomatch e)<|cJ _ rfl rfl _ rfl ?_
  have y:∀(i:Pc),lT i->(g=0/\i=p\/g=1/\i=e)->∀(J:AV->St->Prop) (q:St),J (.d<|aP i) q->jB w d (.t [aP p,aP e]) (.i g) q J:=λi _ h J q R=>by
   clear m I D s hs hx;rcases h with⟨rfl,rfl⟩|⟨rfl,rfl⟩
   ·exact WL.ow<|mj E (by decide) _ rfl R
   ·exact WL.ow<|mj E (by decide) _ rfl R
  have A:∀(i:Pc),lT i->(g=0/\i=p\/g=1/\i=e)->vA g (.tuple [.tuple [aP p,aP e],.bool f])= .str (kj g i.1<|sL i.2)->
    ∃u,([Y (AV.t [aP p,aP e]),Y (.b f),Y (.s<|gm g),Y (.i g)]:List (Option AV))[0]?=Y (Y u)/\∃k,([Y (AV.t [aP p,aP e]),Y (.b f),Y (.s<|gm g),Y (.i g)]:List (Option AV))[3]?=Y (Y k)/\jB w d u k ⟨[Y (.t [aP p,aP e]),Y (.b f),Y (.s<|gm g),Y (.i g)],μ⟩ λu c=>jB w d u (.i 0) c λu c=>
     ∃r,c.v[0]?=Y (Y r)/\∃t,c.v[3]?=Y (Y t)/\jB w d r t c λB c=>jB w d B (.i 1) c λC c=>jC w d (.k 284) [.s (gm g),u,C] c K1:=λi j h hc=>by
   refine bG _ rfl _ rfl<|y i j h _ _ ?_
   refine(WL.ow<|mj E (by decide) i.1 rfl<|bG _ rfl _ rfl<|y i j h _ _ ?_)
   refine(WL.ow<|mj E (by decide) (.str<|sL i.2) rfl ?_)
   refine WL.kW (by exact la 0x4a81204481a [_] rfl G) (afE w g i.1 i.2 j.1 (by have:=j.2.1;exact aK) j.2.2) ?_ rfl ?_
   ·rcases j.1 with⟨n,K,_⟩|K|K<;>refine V K ?_<;>rfl
   ·have:=I [Y (.t [aP p,aP e]),Y (.b f),Y (.s<|gm g),Y (.i g)] (dU _ _ rfl)
    rw[hc] at this
    exact this
  rcases hs with rfl|rfl
  ·exact A p D (.inl ⟨rfl,rfl⟩) rfl
  ·exact A e s (.inr ⟨rfl,rfl⟩) rfl
theorem ahd:gm 0="old_":=by unfold gm;exact V (if_pos rfl) rfl
theorem ahe:gm 1="new_":=by unfold gm;exact V (if_neg<|by decide) rfl
def ahf:X:=(.comp (.ite (.bx .Is (.v 1)<|.c .none) (.c .none)<|.call 26<|.k (.v 2)<|.k (.sub (.sub (.v 0)<|.v 3)<|.c<|.int 0)<|.k (.sub (.sub (.v 0)<|.v 3)<|.c<|.int 1) .z) (.t<|.k (.n 0)<|.k (.n 1) .z) (.ai<|.v 2) .gP Ih [Z,Z,Y 1,Y 0])
theorem ahg:JY= .pA 34 ahf (.t<|.k (.n 0)<|.k (.n 1) .z) (.en (.g 5)<|.ai<|.k (.c<|.str "old_")<|.k (.c<|.str "new_") .z) .gP OY [Z,Z,Y 26]:=rfl
theorem Lw.p20(a:10<=d)(c:l.ok w)(h:WSs w d k (l.s3 (b::e::f::Y (.l [.list l.jH,.list l.jI])::t)) Q):
  WSs w d (.k JY k) (l.s3 (b::e::f::m::t)) Q:=by
 have j:=bI
 have r:2<=aL:=by refine V j ?_;decide
 refine gy (Lw.Bt c) λn o q=>
  WSs.c (
  V ahg ?_)
 walk_at "i"
 refine V w_g<|
  bk _ rfl rfl (
  V w_lst (V w_xc<|V w_str<|V w_xc<|V w_str<|V w_xn ?_))
 refine cJ [.str "old_",.str "new_"] rfl r _ rfl ⟨?_,?_⟩
 ·exact i_ rfl
 refine(?_:mR _ _ _ [.tuple [.int (0:Nat),.str "old_"],.tuple [.int (1:Nat),.str "new_"]] [Z,Z,Y (.l l.dI)] [] _)
 have i:=λ(μ:List (Option AO)) (Q:PQ) (h)=>Lw.Sv (w:=w) (d:=d) (l:=l) a c (g:=0) (.inl rfl) (μ:=μ) (Q:=Q) h
 have k1:=λ(μ:List (Option AO)) (Q:PQ) (h)=>Lw.Sv (w:=w) (d:=d) (l:=l) a c (g:=1) (.inr rfl) (μ:=μ) (Q:=Q) h
 rw[ahd,n] at i
 rw[ahe,o] at k1
 refine V Dk
  (show asg (.t<|.k (.n 0)<|.k (.n 1) .z) (.t [.int (0:Nat),.str "old_"]) _ _ from⟨rfl,?_⟩)
 walk_at "w";skip
 refine i _ _<|
  fG _ rfl rfl (eL _) (
  V Dk
  (show asg (.t<|.k (.n 0)<|.k (.n 1) .z) (.t [.int (1:Nat),.str "new_"]) _ _ from⟨rfl,?_⟩))
 walk_at "w";skip
 refine k1 _ _ ?_
 refine fG _ rfl rfl (by refine V j ?_;refine(?_:1<=16777216);decide) ?_
 simp only[Hy]
 exact h
theorem Lw.p21(c:l.ok w)(h:Q (.rt<|.b true) (l.s3 (Y (.l l.jH)::Y (.l l.jI)::Y (.l l.oM)::Y (.l [.list l.jH,.list l.jI])::t))):
  WSs w d (.k JZ .z) (l.s3 (Y (.l l.jH)::Y (.l l.jI)::Y (.l l.oM)::Y (.l [.list l.jH,.list l.jI])::t)) Q:=by
 have j:=bI
 have r:2<=aL:=by refine V j ?_;decide
 refine gy (Lw.Bt c) λn o q=>?_
 have i:=l.tU
 have u:=Su c (g:=0)<|.inl rfl
 have z:=Su c (g:=1)<|.inr rfl
 rw[n] at u
 rw[o] at z
 have B:l.jH.length<=203:=by refine az n (V (bC ..) ?_);exact i
 have C:l.jI.length<=203:=by refine az o (V (bC ..) ?_);exact i
 have I:l.oM.length<=203:=by refine az q (V (bC ..) ?_);exact i
 have s:(j8 [.list l.jH,.list l.jI]).layable0=true:=by
  refine(cg.list (W:=203*2001) (D:=1) λx e=>?_).ok (by refine(?_:2*(203*2001+1)<=2^20);decide)<|by decide
  refine ni e ?_ ?_
  ·exact(cg.list u).aO (ju B<|bM _)<|bM _
  ·exact(cg.list z).aO (ju C<|bM _)<|bM _
 have k:(j8 l.oM).layable0=true:=by
  refine(cg.list (W:=0) (D:=0) λx e=>?_).ok (by lia)<|by decide
  rw[<-q] at e
  refine aD (bg.mp e) λy E m=>?_;clear e;subst m
  rcases Lw.Kh c y E with rfl|⟨p,J,f,_,_,rfl⟩
  ·exact cg.none
  ·exact cg.bool f
 refine WSs.c ?_
 simp only[JZ];walk_at "w"
 refine qZ _ rfl _ rfl [.list l.jH,.list l.jI] rfl r<|ah _ rfl<|WL.RQ s<|WL.tB<|WL.cy rfl<|qZ _ rfl _ rfl _ rfl ?_ ?_
 ·exact i_ rfl
 refine nK (d:=d) (λv=>∃a b,v=[a,b]) Kg _ _ (dU Z Z rfl) (by refine V j ?_;exact aK) (λx e v μ K A G=>?_) ?_
 ·refine cC A λU L m=>?_;clear A;subst m
  refine xJ (l.Sp x e) λa b f m=>?_;clear e;subst m
  exact(show asg (.t<|.k (.n 0)<|.k (.n 1) .z) (.t [.tuple [a,b],f]) _ _ from⟨rfl,(
   ah _ rfl (G [Y (.t [a,b]),Y (.d f)]<|dU _ _ rfl))⟩)
 exact V q<|
  WL.RQ k h
theorem Lw.p4(a:10<=d)(c:l.ok w)(h:Q (.rt<|.b true) (l.s3 [Y (.l l.jH),Y (.l l.jI),Y (.l l.oM),Y (.l [.list l.jH,.list l.jI])])):WSs w d J4 (l.s3 [Y (.l l.jH),Y (.l l.jI),Y (.l l.oM),Z]) Q:=by
 exact Lw.p20 a c<|Lw.p21 c h
end
theorem Lw.body{c:Cx}{l:Lw}(ok:aW c)(so:bA kX c)(fo:ir c [])(h0:c.fr[0]?=Y 55)(hd:200<=c.d)(U:l.ok c.w){J:FM}{as:List ak}{s:au}{R:pW->au->Prop}{E:aa->au->Prop}
  (I:aH c kX.N [] ⟨Y (.iJ l.xs)::bV 34 Z,[Y .tab]⟩ J as s)(tk:0<s.toks)
  (K:∀cN aJ s' v q,FM.le J cN->aH (c.lR<|c.g.push .finished) kX.N [] q cN aJ s'->RV cN aJ v (.b true)->q.μ[0]?=Y (Y .fX)->R (.ret v) s'):aF c.M c.A (kc kD c.aj) R E s:=by
 have a:10<=c.d:=by exact la 0x12a06811200c8081 [_] rfl hd
 refine V agu ?_
 refine J0.nF (Q:=(λf q=>f= .nx/\q=l.st (bV 23 Z) [Y .tab])) ok so agn (Lw.p1 U a ⟨rfl,rfl⟩) _ J as s R E I tk (λjl iU jJ nU r gr u gR b=>?_) λjl iU jJ f wf nU r gr u jL hn b=>absurd b.1 hn
 refine Ea b λ_ j=>?_;clear b;subst j
 refine Cm<|aN.bw (Lw.pF (t:=bV 22 Z) ok so h0 U a (Q:=λf q=>f= .nx/\q=l.st (Y l.qz::bV 22 Z) [Y .fX]) ⟨rfl,rfl⟩) u gR λfB iA dJ f wf ajq cZ ji cI dY cG x=>?_
 refine Ea x λj k=>?_;clear x;subst j;subst k
 obtain rfl:f= .next:=cG
 refine J1.nF (Q:=(λf q=>f= .nx/\q=l.st (l.t2<|bV 12 Z) [Y .fX,Z])) ok so agp (Lw.p2 a U ⟨rfl,rfl⟩) _ fB iA dJ R E cI dY (λh_ iz fV t6 y eV z m g=>?_) λh_ iz fV f wf t6 y eV z m5 hn g=>absurd g.1 hn
 refine Ea g λ_ j=>?_;clear g;subst j
 refine Cm<|kK (n:=1) m<|agk ok so (Q:=λq=>q=l.st (l.t2 (Y (.l l.items)::bV 11 Z)) [Y .fX,Z]) agq agY (ah _ rfl rfl) (Lw.pR (t:=bV 11 Z) (e:=Z) hd U rfl) z m λj6 m6 kG j4 fL j5 iV pP qD=>?_
 subst pP
 have qF:=ok.lR<|c.g.push .finished
 have fC:=so.lR<|c.g.push .finished
 have fo':ir (c.lR<|c.g.push .finished) []:=⟨fo.frames,fo.frame,fo.yf,fo.wH⟩
 refine J3.nF (c:=c.lR<|c.g.push .finished) (Q:=(λf q=>f= .nx/\q=l.s3 (bV 4 Z))) qF fC agr (Lw.p3 (w:=c.w) (d:=c.d) a U (Q:=λf q=>f= .nx/\q=l.s3 (bV 4 Z)) ⟨rfl,rfl⟩) _ j6 m6 kG R E iV qD (λkZ oN nQ r_ A tW B ER h=>?_) λkZ oN nQ f wf r_ A tW B zb hn h=>absurd h.1 hn
 refine Ea h λ_ j=>?_;clear h;subst j
 have hC:pG kX (.aT (.k (.t<|.k (.n 31)<|.k (.n 32)<|.k (.n 33) .z) .z)<|.own 111 79 (.v 9) "_collect_lines"<|.k (.v 23) .z) ((kD.drop 17).headD<|.Pass default)=true:=ags
 refine Cm<|aN.bw (agj (c:=c.lR<|c.g.push .finished) qF fC fo' hC agZ (Q:=λf q=>f= .nx/\q=l.s3 [Y (.l l.jH),Y (.l l.jI),Y (.l l.oM),Z])<|Lw.pC (w:=c.w) (d:=c.d) (t:=[Z]) a U (Q:=λf q=>f= .nx/\q=l.s3 [Y (.l l.jH),Y (.l l.jI),Y (.l l.oM),Z]) ⟨rfl,rfl⟩) B ER λtY w5 oO f wf Bv m7 zc tX BC ajE C=>?_
 refine Ea C λj k=>?_;clear C;subst j;subst k
 obtain rfl:f= .next:=ajE
 refine J4.nF (c:=c.lR<|c.g.push .finished) (Q:=(λf q=>f= .rt (.b true)/\q=l.s3 [Y (.l l.jH),Y (.l l.jI),Y (.l l.oM),Y (.l [.list l.jH,.list l.jI])])) qF fC agt (Lw.p4 (w:=c.w) (d:=c.d) a U (Q:=λf q=>f= .rt (.b true)/\q=l.s3 [Y (.l l.jH),Y (.l l.jI),Y (.l l.oM),Y (.l [.list l.jH,.list l.jI])]) ⟨rfl,rfl⟩) _ tY w5 oO R E tX BC (λo p D ajD G ajF L amP i=>nomatch i.1) λo p D f wf ajD G ajF L N hn i=>?_
 refine Ea i λj k=>?_;clear i;clear hn;subst j;subst k
 refine aD N λv j rv=>?_;clear N;subst j
 exact K o p D v _ (r.trans<|cZ.trans<|y.trans<|fL.trans<|A.trans<|m7.trans G) L rv rfl
end
theorem ahj{M:k9}{A:cR}{E:aa->au->Prop}{s:au}{a:jo}{g:ak}{x:H}{v:aa}{i:H}{j:Option ak}{gU:aa}{f:ak}{Q:dw->au->Prop}
  (z:a.kind= .function)(B:a.names.lookup x=Y .local)
  (C:∀d,d=FZ a s.heap.objs.size g (jS (s.heap.objs.size+1) a.names []) i j gU Z f->
   ∀s',UP s d.locals (zI d.kindOf [(x,v)] λU=>Z) d.cells (uw d.kindOf [(x,v)] λU=>Z) s'->0<s'.toks->Q d s'):
  aF M A (UK a g [] [(x,v)] i j gU Z f) Q E s:=by
 simp only[UK,Option.isSome_none,ly,if_false]
 refine aB<|aku ?_
 refine aB<|akv _ (λname m t=>by cases u:m==jR<;>simp[u]) _ _ _ _ ?_
 have h:=akw a.names (s.heap.push {cls:= .type "frame",data:= .dict #[]}) (s.heap.objs.size+1) [] ⟨λU U p=>(nomatch p),akx⟩<|by refine V (sO ..) ?_;exact bM _
 rw[sO] at h
 refine V (show({s with heap:=s.heap.push {cls:= .type "frame",data:= .dict #[]}}:au).heap.objs.size=s.heap.objs.size+1 from sO ..) ?_
 let d:=FZ a s.heap.objs.size g (jS (s.heap.objs.size+1) a.names []) i j gU Z f
 have q:UP s d.locals (λU=>Z) d.cells (λU=>Z) {s with heap:=_}:=
  ⟨⟨(dU _ s.toks rfl),(aky s.heap<|.type "frame").keeps<|LR a.names _,λb o e=>LR a.names _ b o<|ie _ e,bM _⟩,
   λn c r=>(h.empty n c<|UM r).1,h.apart,λn c p=>(h.empty n c p).2⟩
 have l:d.kindOf x=Y .local:=B
 refine V (Co ..) ?_
 refine aB<|aB<|aB<|ajZ (env:=d) l q.toInCall.ns (λD w bW=>bf ?_) (by have y:d.scope.kind= .function:=z;refine V y ?_;rfl)
 refine(?_:aF M A (forIn ([]:List (H×aa)) _ _) _ E _)
 refine V List.forIn_nil ?_
 refine bf<|bf<|C d rfl _ ⟨⟨(dU D _ rfl),?_,λb o e=>?_,bM _⟩,λk c r=>?_,h.apart,λn c p=>(h.empty n c p).2⟩<|oY _
 ·unfold zI zI
  refine V (if_pos l) ?_
  exact w
 ·exact bW.extBut b o (gu<|iC e)<|q.toInCall.keep b o e
 ·have G:uw d.kindOf [(x,v)] (λU=>Z)=λU=>Z:=by
   unfold uw uw
   exact V (if_pos l) rfl
  refine V G ?_
  exact(q.cell k c r).sameBut bW<|vJ<|q.above k c<|UM r
section
open IR
theorem ahk:wj (aM 289) kX:=⟨by decide+kernel,by decide+kernel,by decide+kernel⟩
theorem ahl:(aM 289).scope.isGenerator=false:=by kernel_rfl
theorem ahm:(aM 289).closure=[]:=by kernel_rfl
theorem ahn(w:aC)(xs:List Int)(hx:xs.length<=2000000){J:FM}{s:au}{v:aa}(B:bz w J [(55,iE #[])] s.heap)(rv:RV J [] v (.iJ xs)){R:aa->au->Prop}{E:aa->au->Prop}
  (K:∀j s' v' L,FM.le J j->bz w j [(55,iE L)] s'.heap->s'.gens=s.gens.push .finished->s'.os=s.os->RV j [] v' (.b true)->R v' s'):aF (aX pw w) Gy (f_ (.ref 289) [v]) R E s:=by
 have F:=acg
 have M:=ahm
 have hb:i7 w (aM 289) kX.N [.iJ xs] [.iJ xs]:=ach rfl
 refine q8 (aeJ w xs hx) λN Q first k o1 o2 o3 o4 q'=>?_;refine gy q' λo5 o6 o7=>?_;clear q'
 let l:Lw:=⟨xs,N,Q,first,k⟩
 have lo:l.ok w:=⟨o1,o2,o3,o4,o5,o6,o7⟩
 refine aD (F.at w.params) λo ho n=>?_
 have X:=B.e7
 refine sM<|LV (by decide+kernel) (X _ _ ho) n F.co ahl F.body (LX X<|F.code _) ?_
 refine hb.2 Gy.in1 J [(55,iE #[])] s _ _ [v] B ⟨rv,trivial⟩ λU t r=>?_
 refine V M ?_
 obtain⟨v0⟩:=rT r.length
 refine ahj (x:="script") (v:=v0) F.kind (by refine V F.names ?_;decide+kernel) λa b s' IC fW=>?_
 refine Ea (NS (s:={s with toks:=t}) (A:=Gy.deeper a) (d:=500) (G:=[(55,iE #[])]) (h:=[]) (μ:=[Y .tab]) (C:=[55]) (us:=[.iJ xs]) F ahk B (lu.mpr ⟨lW,uf⟩) (λ_ u=>nomatch u) rfl (λi z av e u=>by
  cases i with
  |zero=>cases e;cases u;rfl
  |succ i=>exact nS e) (λ_ _ e=>e) (alG<|eL _) (g:=[v0]) ⟨r.1,trivial⟩ b IC) λso I=>?_
 refine⟨wh I.e7,zJ ?_⟩
 let c:Cx:=⟨w,Gy.deeper a,a,a.cells,s.gens,s.os,500,[55]⟩
 have ok:aW c:=⟨rfl,by refine(?_:302<=900);decide,by refine(?_:7<=6000);decide,⟨by refine(?_:302+500<=900);decide,by refine(?_:7+8*500<=6000);decide⟩,by refine(?_:a.scope.kind=_);refine V b ?_;exact F.kind,by refine(?_:a.globals=_);refine V b ?_;exact F.kg,by refine(?_:a.builtins=_);refine V b ?_;exact F.blt⟩
 have fo:ir c []:=⟨rfl,by refine(?_:a.frame=Y a.locals);refine V b ?_;rfl,(λ_ u=>nomatch u),⟨[55],rfl⟩⟩
 have:=Lw.body (c:=c) (l:=l) ok so fo rfl (by refine(?_:200<=500);decide) lo (R:=λf s'=>∃v,(match f with| .ret v=>v|_=>ux)=v/\R v s') (E:=λe s'=>aF (aX pw w) (Gy.deeper a) (xq a e) (λ_ m=>E e m) (λe' m=>E e' m) s') I fW λj aJ s' v q k' I' rv' hm=>?_
 ·exact cQ this (λf s' zz=>aD zz λv e hv=>by subst e;exact hv) λ_ _ e=>e
 ·refine cC I' λD m' y=>?_;clear I'
  obtain⟨a',oT,q1,q2,L,rfl⟩:=y.ff 0 _ hm
  have ha:aJ[0]?=Y 55:=y.gj.2 0 55 rfl
  rw[ha] at q1;cases q1
  exact ah v rfl<|K j s' v L k' (y.base.sub λp hp=>by rewrite[bH.mp hp];exact q2) y.gens y.os<|rv'.aq rfl
end
theorem aho{K:Frag}{h:fk}{N:ak}{b:H->Option aa}{n:H}{v:aa}(X:K.In h)(G:h.Ns N b)(e:ig K N n=Y (Y v)):b n=Y v:=by
 refine Vy G λo g p i k _ l=>?_;clear G
 unfold ig at e
 cases q:K.lookup N with
 |none=>rw[q] at e;cases e
 |some r=>
  rw[q] at e
  have:=X _ _ q
  rw[i] at this
  cases this
  obtain⟨c,d,m,s⟩:=o
  cases k
  dsimp only at e
  cases a:g.toList.find? (·.key.isStr n) with
  |some x=>
   rw[a] at e
   refine az (l ..) ?_
   unfold nsFind findBy
   refine az Array.find?_toList<|V a ?_
   cases e
   rfl
  |none=>
   rw[a] at e
   dsimp only at e
   by_cases hb:g.toList.any (·.refKey)=true
   ·rw[if_pos hb] at e;cases e
   ·rw[if_neg hb] at e;cases e
theorem ahp(P:cH):ig (K0 P) gW "law"=Y (Y<|.ref 289):=by kernel_rfl
theorem k55(P:cH):(K0 P).lookup 55=Z:=by kernel_rfl
theorem ahr(P:cH):codeHdIn (K0 P) 57 55=true:=by kernel_rfl
theorem Sw:∀xs:List xE,xs.length<=ame xs
 |[]=>eL _
 |x::xs=>by
  have:=Sw xs
  simp only[ame,cX];exact la 0x4a0a1091882460044860 [_,_,_] rfl this
inductive Sx(R:CF)(f:H->Option ak)(h:fk):aa->List xE->Prop
 |mk {a o vs n xs as}:h.get? a=Y o->o.cls= .type "list"->o.data= .seq vs n->Gz R f h vs.toList xs as->Sx R f h (.ref a) xs
def rwI(R:CF)(f:H->Option ak)(h:fk)(v:aa):xE->Prop
 | .list xs=>Sx R f h v xs
 | .int i=>∃t,v= .int i t
 |_=>True
def raI(R:CF)(f:H->Option ak)(h:fk)(vs:List aa):List xE->Prop
 |[]=>vs=[]
 |x::xs=>∃v c as i,vs=v::c/\ReadsW R f h v x as/\Gz R f h c xs i
section
variable {R:CF} {f:H->Option ak} {h:fk} {v:aa} {vs:List aa} {d:xE} {j:List xE} {as:List ak}
theorem Sy(r:ReadsW R f h v d as):rwI R f h v d:=by cases r<;>first|exact trivial|exact .mk ‹_› ‹_› ‹_› ‹_›|exact⟨_,rfl⟩
theorem EM(r:Gz R f h vs j as):raI R f h vs j:=by
 cases r with
 |nil=>exact rfl
 |cons a b=>exact mq _ _ _<|bk _ rfl a b
end
theorem ahu{R:CF}{f:H->Option ak}{h:fk}{J:FM}{vs:List aa}{o:List Int}{as:List ak}(r:Gz R f h vs (o.map .int) as):bD J vs (o.map .int):=by
 induction o generalizing vs as with
 |nil=>exact EM r▸ .nil
 |cons n o g=>
  refine GD (EM r) λv c as i e a b=>?_;refine V e ?_
  refine Ex (Sy a) λt e=>?_;refine V e ?_
  exact .cons (RD.int _ _)<|g b
theorem ints_of(h:amf R a .int=true):∃o:List Int,a=o.map .int:=by
 induction a with
 |nil=>
  exact⟨[],rfl⟩
 |cons x xs g=>
  simp only[amf,jQ] at h
  refine Ex (hasW_int h.1) λi e=>?_;refine V e ?_
  refine Ex (g h.2) λo e=>?_;refine V e ?_
  exact⟨i::o,rfl⟩
noncomputable def za(h:fk):FM:=λb=>if b=55 then Z else h.get? b
theorem ahv{w:aC}{h:fk}(X:InK K0 w h)(d:h.get? 55=Y (iE #[])):bz w (za h) [(55,iE #[])] h:=by
 refine⟨λa o e=>?_,λp hp=>?_,λp hp=>?_,λa o e=>?_⟩
 ·unfold za at e
  split at e
  ·cases e
  ·exact e
 ·rewrite[bH.mp hp];exact d
 ·rewrite[bH.mp hp];unfold za;exact if_pos rfl
 ·unfold za
  split
  ·rename_i q
   subst q
   rw[k55] at e;cases e
  ·exact X _ _ e
inductive Sz(h:fk):List xE->List aa->Prop
 |mk (xs:List Int) (v:aa):xs.length<=2000000->RV (za h) [] v (.iJ xs)->Sz h [.list (xs.map .int)] [v]
theorem ahw{R C h args g as}(a:Vu R args [.list .int]=true)(c:WData.layableAll args=true)(i:Gz R C h g args as)(d:h.get? 55=Y (iE #[])):Sz h args g:=by
 cases args with
 |nil=>cases a
 |cons x args=>
  simp only[Vu,jQ] at a
  cases args with
  |cons y args=>exact absurd a.2<|by simp[Vu]
  |nil=>
   refine aD (hasW_list a.1) λt e k=>?_;subst e
   refine Ex (ints_of k) λo e=>?_;subst e
   clear a k
   have p:o.length<=2^20:=by
    have b:=(layW_cons c).1
    unfold WData.layable at b
    simp only[jQ,decide_eq_true_eq] at b
    have f:=b.2
    simp only[WData.weight] at f
    have l:=Sw<|o.map .int
    rw[bC] at l
    exact ic l f
   clear c
   refine GD (EM i) λv s as u e r m=>?_;subst e
   cases EM m
   clear i m
   obtain⟨j,n,b,f⟩:=Sy r
   refine .mk _ _ (ic p<|by decide)<|n6 _ _ _ _ rfl ((if_neg λq=>?_).trans j) n b<|ahu f
   clear r;subst q
   rw[d] at j
   clear b;cases j;cases n
theorem amn:WalkO q0 xO (XL q0 []) qb.says GS d0 [] λf vs=>f_ f vs:=by
 intro w K j L mb G M a o pm cd A dV kV ha hd q t u hg args g as l c i r x
 refine Ea M λX N=>?_;clear M
 have d:j.heap.get? 55=Y (iE #[]):=N 55 aZ
 have m:L "law"=Y (.ref 289):=aho X G.T.g<|ahp w.params
 obtain rfl:a=289:=by injection (show Y (akU a)=Y (.ref 289) from u.symm.trans m) with e;injection e
 clear ha hd q t u m r x G N o pm cd A dV kV L mb
 obtain⟨xs,v,y,C⟩:=ahw (b1 l) c i d
 clear l c i
 have B:=ahv X d
 refine ahn w xs y B C λD s' v' Q k R E I J=>?_
 cases(show RD D v' (.bool true) from J)
 have n:s'.heap.get? 55=Y (iE Q):=R.get aZ
 have U:∀b p,b≠55->j.heap.get? b=Y p->s'.heap.get? b=Y p:=λb p s e=>R.keep _ _<|k _ _<|by unfold za;refine V (if_neg s) ?_;exact e
 refine g5 (.inl<|fH (.bool true) (.bool true) [] rfl (λcls=>rfl) (.bool true) ?_ λ_=>⟨uf,λ_ h=>nomatch h⟩) ⟨λb p e=>?_,λb p e=>?_⟩ I ?_
 ·kernel_rfl
 ·by_cases s:b=55
  ·subst s
   rw[d] at e
   cases e
   refine xJ (codeHd_of_K X<|ahr w.params) λoc vs _ q'=>?_;refine xJ q' λ_ _ _ z=>?_;clear q';refine uG z λ_ _ _ e1 e2 e3 e4 _=>?_;clear z
   exact .inr<|.inl<|bJ (xG 57 oc vs e1 e2 e3 e4) rfl<|iI (#[]) Q rfl<|by refine V Array.empty_append ?_;exact n
  ·exact .inl<|U b p s e
 ·by_cases s:b=55
  ·clear e;subst s;exact⟨_,n⟩
  ·exact⟨p,U b p s e⟩
 ·refine V E (V hg ?_)
  exact AllBare.empty.push rfl
theorem Kl{l:Look}{b:List bu}(n:Nat)(h:qY l (b.take n)=true)(a:qY l (b.drop n)=true):qY l b=true:=by
 induction b generalizing n with
 |nil=>cases n<;>exact a
 |cons s b c=>
  cases n with
  |zero=>exact a
  |succ n=>exact Ea (k8.mp (show(noRoadLS l s&&qY l (b.take n))=true from h)) λd e=>show(noRoadLS l s&&qY l b)=true from k8.mpr ⟨d,c n e a⟩
noncomputable abbrev EN:=B8.row.prog.main.body
noncomputable abbrev pN:Look:={strict:=false,foot:=Z,bare:=[]}
theorem cS{n x:H}{p q r:aV}{k:Nat}(h:(pN.name n&&(Vv x||pN.word x)&& !(x.cps.toList.any λc=>c==123||c==125)&& !(x.cps.toList.any (·==46)&& !x.cps.toList.any (·<=32)))=true):
  qY pN [.Assign [.Name n p] (.Constant (.str x) k q) r]=true:=by
 show((true&&(pN.name n&&true)&&((Vv x||pN.word x)&&(!((x.cps.any λc=>c==123||c==125)||(x.cps.any (·==46)&& !x.cps.any (·<=32)))||_)))&&true)=true
 refine az F3<|az F3<|az F3 ?_
 revert h
 cases pN.name n<;>cases Vv x||pN.word x<;>cases x.cps.toList.any λc=>c==123||c==125<;>cases x.cps.toList.any (·==46)&& !x.cps.toList.any (·<=32)<;>intro h<;>first|rfl|cases h
theorem ahy:qY pN ((EN.drop 3).take 1)=true:=cS<|by kernel_rfl
theorem ahT:qY pN (((EN.drop 3).drop 1).take 1)=true:=by kernel_rfl
theorem ahU:qY pN ((((EN.drop 3).drop 1).drop 1).take 1)=true:=cS<|by kernel_rfl
theorem ahV:qY pN (((((EN.drop 3).drop 1).drop 1).drop 1).take 1)=true:=cS<|by kernel_rfl
theorem l4:qY pN EN=true:=Kl 3 (by kernel_rfl)<|Kl 1 ahy<|Kl 1 ahT<|Kl 1 ahU<|Kl 1 ahV<|by kernel_rfl
theorem lb{a b:Bool}(x:a=true)(y:b=true):(a&&b)=true:=by refine V x (V y ?_);rfl
theorem lkq{l a:Look}{b:List bu}(e:l=a)(h:qY a b=true):qY l b=true:=e▸h
theorem amo:B8.wellSaid=true:=by
 iterate 34 refine lb ?_<|by kernel_rfl
 refine lb ?_ (lkq (a:=pN) (by kernel_rfl) l4)
 iterate 3 refine lb ?_<|by kernel_rfl
 exact lb (by kernel_rfl)<|by kernel_rfl
end
end Mine
theorem PySem.Challenge.cw_wu0111_01_holds : PySem.Challenge.rw_wu0111_01.Holds := by
  exact holds_law Mine.amo fun h => Mine.ami h Mine.amn
